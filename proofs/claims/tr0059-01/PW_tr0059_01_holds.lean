import PyProof.Rows.All
import Wide.All
import OpenK.AllK
import Wide.FinOn
import Open.Tops
import PySem.Challenge.RW_tr0059_01
set_option Elab.async false
section
open PySem PySem.W PyProof.Rows PySem.Calls
namespace Mine
set_option maxRecDepth 100000
set_option linter.unusedVariables false
theorem segGo_trans {tb : String → Option Builtin} {p : Program} {w : World} {n₀ : Nat} {ann : Option Value} {b : Nat} : ∀ {n m : Nat} {s s' s'' : Shared} {t t' t'' : Thread},
    segGo tb p w n₀ ann b n s t = some (s', t') → segGo tb p w n₀ ann b m s' t' = some (s'', t'') → segGo tb p w n₀ ann b (n + m) s t = some (s'', t'')
  | 0, m, s, s', s'', t, t', t'', h, k => by
    obtain ⟨rfl, rfl⟩ : s = s' ∧ t = t' := by simpa [segGo] using h
    rw [Nat.zero_add]; exact k
  | n + 1, m, s, s', s'', t, t', t'', h, k => by
    rw [show n + 1 + m = n + m + 1 by omega]
    unfold segGo at h ⊢
    cases he : endAt b t with
    | some f => rw [he] at h; cases h
    | none =>
      rw [he] at h
      cases hk : stepOk n₀ ann t with
      | false => rw [hk] at h; cases h
      | true =>
        rw [hk] at h
        cases hs : step (denote tb) p w s t with
        | halt o s₂ => rw [hs] at h; cases h
        | go s₂ t₂ => rw [hs] at h; exact segGo_trans h k
/-- in at most B steps from here to there -/
noncomputable def Go (p : Program) (w : World) (n₀ : Nat) (ann : Option Value) (B : Nat) (s : Shared) (t : Thread) (s' : Shared) (t' : Thread) : Prop :=
  ∃ n, n ≤ B ∧ segGo treeTable p w n₀ ann 1 n s t = some (s', t')
section
variable {p : Program} {w : World} {n₀ : Nat} {ann : Option Value}
theorem Go.refl {s : Shared} {t : Thread} : Go p w n₀ ann 0 s t s t := ⟨0, Nat.le_refl _, rfl⟩
theorem Go.trans {A B : Nat} {s s' s'' : Shared} {t t' t'' : Thread} (x : Go p w n₀ ann A s t s' t') (y : Go p w n₀ ann B s' t' s'' t'') : Go p w n₀ ann (A + B) s t s'' t'' := by
  obtain ⟨n, hn, x⟩ := x
  obtain ⟨m, hm, y⟩ := y
  exact ⟨n + m, by omega, segGo_trans x y⟩
theorem Go.mono {A B : Nat} {s s' : Shared} {t t' : Thread} (x : Go p w n₀ ann A s t s' t') (h : A ≤ B) : Go p w n₀ ann B s t s' t' := by
  obtain ⟨n, hn, x⟩ := x
  exact ⟨n, by omega, x⟩
theorem Go.one {s s' : Shared} {t t' : Thread} (he : endAt 1 t = none) (hk : stepOk n₀ ann t = true) (hs : step (denote treeTable) p w s t = .go s' t') : Go p w n₀ ann 1 s t s' t' :=
  ⟨1, Nat.le_refl _, by unfold segGo; rw [he, hk, hs]; rfl⟩
theorem endAt_long {t : Thread} (h : 2 ≤ t.stack.length) : endAt 1 t = none := by
  unfold endAt
  have : (t.stack.length == 1) = false := beq_eq_false_iff_ne.mpr (by omega)
  rw [this]
/-- the tree x, run on, hands a on in at most B steps -/
noncomputable def Run (p : Program) (w : World) (n₀ : Nat) (ann : Option Value) {α : Type} (B : Nat) (x : Sem α) (s : Shared) (q : Pos) (a : α) (s' : Shared) (q' : Pos) : Prop :=
  ∀ (K : α → Sem Fin) (H : Value → Sem Fin) (gd : Bool → Bool) (lv : List Value → List Value) (code : Code) (stack : List Frame), 1 ≤ stack.length →
    Go p w n₀ ann B s ⟨x.wrap K H gd lv, code, q, stack⟩ s' ⟨K a, code, q', stack⟩
variable {α β : Type} {s s' s'' : Shared} {q q' q'' : Pos}
theorem Run.mono {A B : Nat} {x : Sem α} {a : α} (h : Run p w n₀ ann A x s q a s' q') (hab : A ≤ B) : Run p w n₀ ann B x s q a s' q' :=
  fun K H gd lv code stack hs => (h K H gd lv code stack hs).mono hab
theorem Run.pure {a : α} : Run p w n₀ ann 0 (Pure.pure a) s q a s q := fun _ _ _ _ _ _ _ => Go.refl
theorem Run.bind {A B : Nat} {x : Sem α} {f : α → Sem β} {a : α} {b : β} (h : Run p w n₀ ann A x s q a s' q') (k : Run p w n₀ ann B (f a) s' q' b s'' q'') : Run p w n₀ ann (A + B) (x >>= f) s q b s'' q'' := by
  intro K H gd lv code stack hs
  rw [Sem.bind_eq_wrap', Sem.wrap_wrap]
  exact (h _ _ _ _ code stack hs).trans (k K H gd lv code stack hs)
theorem Run.keep {A : Nat} {x : Sem α} {a : α} {vs : List Value} (h : Run p w n₀ ann A x s q a s' q') : Run p w n₀ ann A (x.keep vs) s q a s' q' := by
  intro K H gd lv code stack hs
  rw [Sem.keep_eq_wrap, Sem.wrap_wrap]
  exact h _ _ _ _ code stack hs
theorem Run.holding {A : Nat} {x : Sem α} {a : α} {vs : List Value} (h : Run p w n₀ ann A x s q a s' q') : Run p w n₀ ann A (holding vs x) s q a s' q' := by
  unfold PySem.holding
  split
  · exact h
  · exact h.keep
theorem Run.onRaise {A : Nat} {x : Sem α} {a : α} {k : Value → Sem Unit} (h : Run p w n₀ ann A x s q a s' q') : Run p w n₀ ann A (x.onRaise k) s q a s' q' := by
  intro K H gd lv code stack hs
  rw [Sem.onRaise_eq_wrap, Sem.wrap_wrap]
  exact h _ _ _ _ code stack hs
theorem Run.tryCatch {A : Nat} {x : Sem α} {a : α} {k : Value → Sem α} (h : Run p w n₀ ann A x s q a s' q') : Run p w n₀ ann A (x.tryCatch k) s q a s' q' := by
  intro K H gd lv code stack hs
  rw [Sem.tryCatch_eq_wrap, Sem.wrap_wrap]
  exact h _ _ _ _ code stack hs
theorem Run.node {x : Sem α} {a : α} (he : ∀ (K : α → Sem Fin) (H : Value → Sem Fin) (gd : Bool → Bool) (lv : List Value → List Value) code (stack : List Frame), endAt 1 ⟨x.wrap K H gd lv, code, q, stack⟩ = none)
    (hk : ∀ (K : α → Sem Fin) (H : Value → Sem Fin) (gd : Bool → Bool) (lv : List Value → List Value) code (stack : List Frame), stepOk n₀ ann ⟨x.wrap K H gd lv, code, q, stack⟩ = true)
    (hs : ∀ (K : α → Sem Fin) (H : Value → Sem Fin) (gd : Bool → Bool) (lv : List Value → List Value) code (stack : List Frame), step (denote treeTable) p w s ⟨x.wrap K H gd lv, code, q, stack⟩ = .go s' ⟨K a, code, q', stack⟩) :
    Run p w n₀ ann 1 x s q a s' q' := fun K H gd lv code stack _ => Go.one (he ..) (hk ..) (hs ..)
theorem endAt_node {t : Thread} (h : ∀ f, t.cur ≠ .pure (.done f)) : endAt 1 t = none := by
  unfold endAt
  obtain ⟨cur, code, pos, stack⟩ := t
  dsimp only at h ⊢
  cases stack.length == 1
  · rfl
  · cases cur <;> first | rfl | (rename_i f; cases f <;> first | rfl | exact absurd rfl (h _))
theorem Run.loadPart {a : Addr} {o : Obj} {part : Option Value} (h : s.heap.get? a = some o) : Run p w n₀ ann 1 (loadPart a part) s q o s q := by
  refine .node (fun K H gd lv code stack => endAt_node (fun _ e => by cases e)) (fun _ _ _ _ _ _ => rfl) (fun K H gd lv code stack => ?_)
  obtain ⟨heap, gens, drawn, toks, os⟩ := s
  show step (denote treeTable) p w _ ⟨.load a part _, _, _, _⟩ = _
  simp only [step]
  rw [h]
  rfl
theorem Run.load {a : Addr} {o : Obj} (h : s.heap.get? a = some o) : Run p w n₀ ann 1 (load a) s q o s q := Run.loadPart h
theorem Run.updatePart {a : Addr} {o : Obj} {part : Option Value} {f : Obj → Obj} (h : s.heap.get? a = some o) (ha : (Nat.ble n₀ a || a == mainNs) = true) :
    Run p w n₀ ann 1 (updatePart a part f) s q () { s with heap := s.heap.update a f } q := by
  refine .node (fun K H gd lv code stack => endAt_node (fun _ e => by cases e)) (fun _ _ _ _ _ _ => ?_) (fun K H gd lv code stack => ?_)
  · show (Thread.calm _ && (Nat.ble n₀ a || a == mainNs || a == cStatics || ann == some (.ref a))) = true
    rw [ha]; rfl
  · obtain ⟨heap, gens, drawn, toks, os⟩ := s
    show step (denote treeTable) p w _ ⟨.update a part f _, _, _, _⟩ = _
    simp only [step]
    rw [show (heap.get? a).isSome = true by rw [h]; rfl]
    rfl
theorem Run.alloc {o : Obj} : Run p w n₀ ann 1 (alloc o) s q s.heap.objs.size { s with heap := s.heap.push o } q :=
  .node (fun K H gd lv code stack => endAt_node (fun _ e => by cases e)) (fun _ _ _ _ _ _ => rfl) (fun K H gd lv code stack => rfl)
theorem Run.fresh : Run p w n₀ ann 1 fresh s q s.toks { s with toks := s.toks + 1 } q :=
  .node (fun K H gd lv code stack => endAt_node (fun _ e => by cases e)) (fun _ _ _ _ _ _ => rfl) (fun K H gd lv code stack => rfl)
theorem Run.ask : Run p w n₀ ann 1 ask s q ⟨p, w.params⟩ s q :=
  .node (fun K H gd lv code stack => endAt_node (fun _ e => by cases e)) (fun _ _ _ _ _ _ => rfl) (fun K H gd lv code stack => rfl)
theorem Run.rule {tag : String} : Run p w n₀ ann 1 (rule tag) s q () s q :=
  .node (fun K H gd lv code stack => endAt_node (fun _ e => by cases e)) (fun _ _ _ _ _ _ => rfl) (fun K H gd lv code stack => rfl)
theorem Run.point : Run p w n₀ ann 1 point s q () s q :=
  .node (fun K H gd lv code stack => endAt_node (fun _ e => by cases e)) (fun _ _ _ _ _ _ => rfl) (fun K H gd lv code stack => rfl)
theorem Run.standAt {r : Pos} : Run p w n₀ ann 1 (standAt r) s q () s r :=
  .node (fun K H gd lv code stack => endAt_node (fun _ e => by cases e)) (fun _ _ _ _ _ _ => rfl) (fun K H gd lv code stack => rfl)
theorem Run.mkInt {i : Int} : Run p w n₀ ann 1 (mkInt i) s q (.int i s.toks) { s with toks := s.toks + 1 } q := Run.bind (f := fun t => Pure.pure (Value.int i t)) Run.fresh Run.pure
theorem Run.mkText {x : Str} : Run p w n₀ ann 1 (mkText x) s q (.str x s.toks) { s with toks := s.toks + 1 } q := Run.bind (f := fun t => Pure.pure (Value.str x t)) Run.fresh Run.pure
theorem Run.ite {c : Prop} [Decidable c] {A : Nat} {x y : Sem α} {a : α} (h : Run p w n₀ ann A (if c then x else y) s q a s' q') : Run p w n₀ ann A (if c then x else y) s q a s' q' := h
theorem wrap_same (x : Sem Fin) : x.wrap .pure .raise id id = x := by
  rw [← Sem.bind_eq_wrap]
  exact bind_pure x
/-- a built-in's call, asked through its table -/
theorem Run.runBuiltin {A : Nat} {id : String} {args : Args} {b : Builtin} {f : Flow} (hc : callAny (.builtin id) args = again (.builtin id args)) (hb : entryFor treeTable id = some b) (hid : id.startsWith "lifetime." = false)
    (body : Run p w n₀ ann A (b args) s q (.done f) s' q') : Run p w n₀ ann (1 + (1 + (A + 1))) (PySem.run (.call (.builtin id) args)) s q f s' q := by
  intro K H gd lv code stack hs
  have h1 : Go p w n₀ ann 1 s ⟨(PySem.run (.call (.builtin id) args)).wrap K H gd lv, code, q, stack⟩ s
      ⟨.pure (.again (.builtin id args)), .call (.builtin id) args, q, .ret (fun r => ((match r with | .ok f => .pure f | .error e => .raise e) : Sem Flow).wrap K H gd lv) none (gd false) (lv []) code q
        (match code with | .builtin .. => unmarked (if (lv []).contains borrowed then args.refs else .builtin id :: args.refs) | .call .. => unmarked (if (lv []).contains borrowed then args.refs else .builtin id :: args.refs) | _ => []) :: stack⟩ := by
    refine Go.one (endAt_node (fun _ e => by cases e)) rfl ?_
    obtain ⟨heap, gens, drawn, toks, os⟩ := s
    have e : (Sem.pure (.again (.builtin id args)) : Sem Fin) = denote treeTable (.call (.builtin id) args) := hc.symm
    rw [e]
    cases code <;> rfl
  generalize (match code with | .builtin .. => unmarked (if (lv []).contains borrowed then args.refs else .builtin id :: args.refs) | .call .. => unmarked (if (lv []).contains borrowed then args.refs else .builtin id :: args.refs) | _ => []) = kept at h1
  refine h1.trans ?_
  have hd : denote treeTable (.builtin id args) = b args := by
    show (match entryFor treeTable id with | some b => b args | none => _) = _
    rw [hb]
  have h3 : Go p w n₀ ann 1 s ⟨.pure (.again (.builtin id args)), .call (.builtin id) args, q, .ret (fun r => ((match r with | .ok f => .pure f | .error e => .raise e) : Sem Flow).wrap K H gd lv) none (gd false) (lv []) code q kept :: stack⟩ s
      ⟨denote treeTable (.builtin id args), .builtin id args, q, .ret (fun r => ((match r with | .ok f => .pure f | .error e => .raise e) : Sem Flow).wrap K H gd lv) none (gd false) (lv []) code q (keptBy (.call (.builtin id) args) (.builtin id args) (lv []) kept) :: stack⟩ := by
    refine Go.one (endAt_node (fun _ e => by cases e)) ?_ ?_
    · show ((!(id.startsWith "lifetime.") || _) && _ && _ && _) = true
      rw [hid]
      rfl
    · exact step_again (heap := s.heap) (gens := s.gens) (drawn := s.drawn) (toks := s.toks) (os := s.os)
  refine h3.trans ?_
  rw [hd]
  have h2 := body .pure .raise (fun g => g) (fun l => l) (.builtin id args)
  rw [show (b args).wrap .pure .raise (fun g => g) (fun l => l) = b args from wrap_same _] at h2
  refine (h2 _ (by simp)).trans ?_
  refine Go.one (endAt_long (by simp; omega)) rfl ?_
  rfl
theorem Run.callBuiltin {A : Nat} {id : String} {args : Args} {b : Builtin} {v : Value} (hc : callAny (.builtin id) args = again (.builtin id args)) (hb : entryFor treeTable id = some b) (hid : id.startsWith "lifetime." = false)
    (body : Run p w n₀ ann A (b args) s q (.done (.ret v)) s' q') : Run p w n₀ ann (A + 3) (runValue (.call (.builtin id) args)) s q v s' q :=
  ((Run.runBuiltin hc hb hid body).bind (f := fun r => match r with | .ret v => Pure.pure v | _ => unsupported "internal:call-without-return-value") Run.pure).mono (by omega)
end
end Mine
end
section
open PySem PySem.W PyProof.Rows PySem.Calls
namespace Mine
set_option maxRecDepth 100000
set_option linter.unusedVariables false
section
variable {p : Program} {w : World} {n₀ : Nat} {ann : Option Value} {α β : Type} {s s' s'' : Shared} {q q' q'' : Pos}
theorem Run.ofPure {x : Sem α} {a : α} (h : x = Pure.pure a) : Run p w n₀ ann 0 x s q a s q := h ▸ Run.pure
theorem Run.bindPure {A : Nat} {x : Sem α} {a : α} {f : α → Sem β} {b : β} (h : x = Pure.pure a) (k : Run p w n₀ ann A (f a) s q b s' q') : Run p w n₀ ann A (x >>= f) s q b s' q' := by
  rw [h]; exact k
theorem special_int_hash (i : Int) (t : Tok) : specialOf (.int i t) "__hash__" = Pure.pure (some (.builtin "int.__hash__")) := by
  show typeLookup (.type "int") "__hash__" = _
  exact slot_int_hash.lookup
theorem check_int_hash (i : Int) (t : Tok) : callAny (.builtin "int.__hash__") ⟨[.int i t], []⟩ = again (.builtin "int.__hash__" ⟨[.int i t], []⟩) := by
  kernel_rfl
theorem tree_int_hash : entryFor treeTable "int.__hash__" = some Builtin.«int.__hash__» := by rw [← table_eq_tree]; exact entry_int_hash
theorem body_int_hash (i : Int) (t : Tok) : Builtin.«int.__hash__» ⟨[.int i t], []⟩ = (do ret (← mkInt (rawHash i))) := by
  rfl
theorem run_hash (i : Int) (t : Tok) : Run p w n₀ ann 8 (pyHash (.int i t)) s q (hashInt i) { s with toks := s.toks + 1 } q := by
  have hr := rawHash_range i
  have hcall : Run p w n₀ ann 5 (runValue (.call (.builtin "int.__hash__") ⟨[.int i t], []⟩)) s q (.int (rawHash i) s.toks) { s with toks := s.toks + 1 } q := by
    refine (Run.callBuiltin (A := 1) (q' := q) (check_int_hash i t) tree_int_hash (by decide +kernel) ?_).mono (by omega)
    rw [body_int_hash]
    exact Run.bind (f := fun v => ret v) Run.mkInt Run.pure
  show Run p w n₀ ann 8 (pyHashByItsType (.int i t)) s q _ _ q
  unfold pyHashByItsType
  have hv : [Value.int i t].any Value.onHeap = false := rfl
  refine Run.bindPure (a := ()) (by rw [cRoomFor, if_neg (by rw [hv]; exact Bool.false_ne_true)]) ?_
  refine Run.bindPure (special_int_hash i t) ?_
  show Run _ _ _ _ _ (if (some (Value.builtin "int.__hash__") == some Value.none) = true then _ else _) s q _ _ q
  rw [if_neg (by rw [beq_builtin_none]; exact Bool.false_ne_true)]
  refine Run.bindPure (special_int_hash i t) ?_
  show Run _ _ _ _ _ (callSpecialIfBoundUnlessNone? (.int i t) "__hash__" _ >>= _) s q _ _ q
  refine (Run.bind (A := 7) (B := 0) (a := some (Value.int (rawHash i) s.toks)) (q' := q) (s' := { s with toks := s.toks + 1 }) ?_ ?_).mono (by omega)
  · simp only [callSpecialIfBoundUnlessNone?, bindSpecialIfBound?]
    refine Run.holding ?_
    refine (Run.bind (A := 1) (B := 6) (a := some (Value.builtin "int.__hash__", [Value.int i t])) (s' := s) (q' := q) ?_ ?_).mono (by omega)
    · refine Run.bindPure (special_int_hash i t) ?_
      simp only [slot_int_hash.bind]
      refine (Run.bind (A := 1) (B := 0) Run.ask ?_).mono (by omega)
      split
      · exact Run.pure
      · exact Run.tryCatch Run.pure
    · simp only [builtin_beq_none, Bool.false_eq_true, if_false]
      exact Run.mono (A := 5 + 0) (Run.bind (f := fun v => Pure.pure (some v)) hcall Run.pure) (by omega)
  · show Run _ _ _ _ _ (if (decide (-(2 : Int) ^ 63 ≤ rawHash i) && decide (rawHash i < 2 ^ 63)) = true then _ else _) _ _ _ _ _
    rw [if_pos (by rw [decide_eq_true hr.1, decide_eq_true hr.2]; rfl)]
    exact Run.pure
end
end Mine
end
section
open PySem PySem.W PyProof.Rows PySem.Calls
namespace Mine
set_option maxRecDepth 100000
set_option linter.unusedVariables false
/-- a heap with some objects behind it -/
noncomputable def pushes (H : Heap) (os : List Obj) : Heap := ⟨H.objs ++ os.toArray, H.life⟩
theorem pushes_nil (H : Heap) : pushes H [] = H := by cases H; simp [pushes]
theorem pushes_size (H : Heap) (os : List Obj) : (pushes H os).objs.size = H.objs.size + os.length := by simp [pushes]
theorem pushes_push (H : Heap) (os : List Obj) (o : Obj) : (pushes H os).push o = pushes H (os ++ [o]) := by
  show Heap.mk ((H.objs ++ os.toArray).push o) H.life = Heap.mk (H.objs ++ (os ++ [o]).toArray) H.life
  congr 1
  apply Array.ext'
  simp
theorem pushes_get {H : Heap} {os : List Obj} {i : Nat} {o : Obj} (h : os[i]? = some o) (hf : o.isFreed = false) : (pushes H os).get? (H.objs.size + i) = some o := by
  refine Heap.get?_some_iff.mpr ⟨?_, hf⟩
  show (H.objs ++ os.toArray)[H.objs.size + i]? = some o
  rw [Array.getElem?_append_right (by omega)]
  simp [h]
theorem pushes_update (H : Heap) (os : List Obj) (i : Nat) (f : Obj → Obj) : (pushes H os).update (H.objs.size + i) f = pushes H (os.modify i f) := by
  show Heap.mk ((H.objs ++ os.toArray).modify (H.objs.size + i) f) H.life = _
  unfold pushes
  congr 1
  apply Array.ext_getElem?
  intro j
  rw [Array.getElem?_modify]
  by_cases hj : j < H.objs.size
  · rw [Array.getElem?_append_left hj, Array.getElem?_append_left hj]
    have : ¬ H.objs.size + i = j := by omega
    simp [this]
  · rw [Array.getElem?_append_right (by omega), Array.getElem?_append_right (by omega)]
    simp only [List.getElem?_toArray, List.getElem?_modify]
    by_cases hi : H.objs.size + i = j
    · have : i = j - H.objs.size := by omega
      rw [if_pos hi]; simp only [this, if_true]; rfl
    · have : ¬ i = j - H.objs.size := by omega
      rw [if_neg hi]; simp only [this, if_false]; simp
theorem mapKeys_dict (es : List DictEntry) (n : Nat) (e : DictEntry) : Obj.mapDictKeys (·.push e) (dictOf es n) = dictOf (es ++ [e]) (n + 1) := by
  simp [Obj.mapDictKeys, dictOf]
section
variable {p : Program} {w : World} {n₀ : Nat} {ann : Option Value} {α β : Type} {s s' s'' : Shared} {q q' q'' : Pos}
theorem places_none {es : List DictEntry} {h : Int} (hn : ∀ e ∈ es, e.hash ≠ h) : placesWithHash es.toArray.size (fun i => es.toArray[i]?.map (·.hash)) h = [] := by
  unfold placesWithHash
  rw [List.filter_eq_nil_iff]
  intro i hi
  have hlt : i < es.length := by simpa using hi
  simp only [List.getElem?_toArray, List.getElem?_eq_getElem hlt, Option.map_some, beq_iff_eq, Option.some.injEq]
  exact hn _ (List.getElem_mem hlt)
theorem run_find {d : Addr} {es : List DictEntry} {n : Nat} {k : Int} {t : Tok} {h : Int} (hd : s.heap.get? d = some (dictOf es n)) (hn : ∀ e ∈ es, e.hash ≠ h) :
    Run p w n₀ ann 1 (dictFind d (.int k t) h) s q none s q := by
  unfold dictFind
  refine Run.holding ?_
  refine Run.mono (A := 1 + 0) (Run.bind (a := es.toArray) (Run.mono (A := 1 + 0) (Run.bind (Run.loadPart hd) Run.pure) (by omega)) ?_) (by omega)
  dsimp only
  rw [places_none hn]
  exact Run.pure
theorem run_pushKeys {d : Addr} {es : List DictEntry} {n : Nat} {e : DictEntry} {part : Option Value} (hd : s.heap.get? d = some (dictOf es n)) (ha : (Nat.ble n₀ d) = true) (hz : es.length < 1000) :
    Run p w n₀ ann 3 (updateDictKeys d (·.push e) part) s q () { s with heap := s.heap.update d (Obj.mapDictKeys (·.push e)) } q := by
  unfold updateDictKeys
  refine Run.mono (A := 1 + 2) (Run.bind (Run.loadPart hd) ?_) (by omega)
  show Run p w n₀ ann 2 (updatePart d part (Obj.mapDictKeys (·.push e)) >>= fun _ => lookBehind d part) s q () _ q
  refine Run.mono (A := 1 + 1) (Run.bind (Run.updatePart hd (by rw [ha]; rfl)) ?_) (by omega)
  unfold lookBehind
  have h2 : (s.heap.update d (Obj.mapDictKeys (·.push e))).get? d = some (dictOf (es ++ [e]) (n + 1)) := by
    rw [Heap.get?_update_self _ hd (by rw [mapKeys_dict]; rfl), mapKeys_dict]
  refine Run.mono (A := 1 + 0) (Run.bind (Run.loadPart h2) ?_) (by omega)
  have h3 : (dictOf (es ++ [e]) (n + 1)).data.pastItsLine = none := by
    show (if (es ++ [e]).toArray.size > sizeLine + 1 then some "dict:memory" else none) = none
    rw [if_neg]
    simp [sizeLine]
    omega
  rw [h3]
  exact Run.pure
/-- a new int key put into a dict -/
theorem run_put {d : Addr} {es : List DictEntry} {n : Nat} {k : Int} {t : Tok} {h : Int} {v : Value} (hd : s.heap.get? d = some (dictOf es n)) (ha : (Nat.ble n₀ d) = true) (hz : es.length < 1000) (hn : ∀ e ∈ es, e.hash ≠ h) :
    Run p w n₀ ann 4 (dictPut d h (.int k t) v) s q () { s with heap := s.heap.update d (Obj.mapDictKeys (·.push ⟨h, .int k t, v⟩)) } q := by
  unfold dictPut
  refine Run.mono (A := 1 + 3) (Run.bind (run_find hd hn) ?_) (by omega)
  exact run_pushKeys hd ha hz
theorem run_set {d : Addr} {es : List DictEntry} {n : Nat} {k : Int} {t : Tok} {v : Value} (hd : s.heap.get? d = some (dictOf es n)) (ha : (Nat.ble n₀ d) = true) (hz : es.length < 1000) (hn : ∀ e ∈ es, e.hash ≠ hashInt k) :
    Run p w n₀ ann 13 (dictSet d (.int k t) v) s q () { s with heap := s.heap.update d (Obj.mapDictKeys (·.push ⟨hashInt k, .int k t, v⟩)), toks := s.toks + 1 } q := by
  unfold dictSet
  refine Run.holding ?_
  refine Run.mono (A := 8 + 5) (Run.bind (run_hash k t) ?_) (by omega)
  unfold dictSetHashed
  refine Run.holding ?_
  refine Run.mono (A := 1 + 4) (Run.bind (run_find (s := { s with toks := s.toks + 1 }) hd hn) ?_) (by omega)
  refine Run.mono (A := 1 + 3) (Run.bind Run.rule ?_) (by omega)
  exact run_pushKeys (s := { s with toks := s.toks + 1 }) hd ha hz
end
end Mine
end
section
open PySem PySem.W PyProof.Rows PySem.Calls
namespace Mine
set_option maxRecDepth 100000
set_option linter.unusedVariables false
noncomputable def ents3 (t : Nat) : List (Int × Str) → List DictEntry
  | [] => []
  | (k, v) :: r => ⟨hashInt k, .int k t, .str v (t + 1)⟩ :: ents3 (t + 3) r
noncomputable def ents2 (t : Nat) : List (Int × Str) → List DictEntry
  | [] => []
  | (k, v) :: r => ⟨hashInt k, .int k t, .str v (t + 1)⟩ :: ents2 (t + 2) r
theorem ents3_length : ∀ (ps : List (Int × Str)) (t : Nat), (ents3 t ps).length = ps.length
  | [], _ => rfl
  | _ :: r, t => by simp [ents3, ents3_length r]
theorem ents3_hash : ∀ (ps : List (Int × Str)) (t : Nat), (ents3 t ps).map (·.hash) = ps.map fun x => hashInt x.1
  | [], _ => rfl
  | _ :: r, t => by simp [ents3, ents3_hash r]
theorem ents2_length : ∀ (ps : List (Int × Str)) (t : Nat), (ents2 t ps).length = ps.length
  | [], _ => rfl
  | _ :: r, t => by simp [ents2, ents2_length r]
theorem ents2_hash : ∀ (ps : List (Int × Str)) (t : Nat), (ents2 t ps).map (·.hash) = ps.map fun x => hashInt x.1
  | [], _ => rfl
  | _ :: r, t => by simp [ents2, ents2_hash r]
noncomputable abbrev st (s : Shared) (H : Heap) (os : List Obj) (t : Nat) : Shared := { s with heap := pushes H os, toks := t }
noncomputable abbrev valT (q : Pos) (v : Str) : Sem Value := do let x ← PySem.mkText v; PySem.standAt q; Pure.pure x
noncomputable def trees (q : Pos) (ps : List (Int × Str)) : List (Sem Value × Sem Value) := ps.map fun x => (PySem.mkInt x.1, valT q x.2)
section
variable {p : Program} {w : World} {n₀ : Nat} {ann : Option Value} {α β : Type} {s s' s'' : Shared} {q q' q'' : Pos} {H : Heap} {pre : List Obj} {t : Nat}
theorem run_val {v : Str} : Run p w n₀ ann 2 (valT q v) s q (.str v s.toks) { s with toks := s.toks + 1 } q :=
  Run.mono (A := 1 + 1) (Run.bind Run.mkText (Run.mono (A := 1 + 0) (Run.bind (f := fun _ => Pure.pure (Value.str v s.toks)) Run.standAt Run.pure) (by omega))) (by omega)
theorem last_get {es : List DictEntry} {n : Nat} : (pushes H (pre ++ [dictOf es n])).get? (H.objs.size + pre.length) = some (dictOf es n) :=
  pushes_get (by simp) rfl
theorem modify_last {γ : Type} (f : γ → γ) (o : γ) : ∀ l : List γ, (l ++ [o]).modify l.length f = l ++ [f o]
  | [] => rfl
  | a :: l => by
    show (a :: (l ++ [o])).modify (l.length + 1) f = _
    rw [List.modify_succ_cons, modify_last f o l]
    rfl
theorem last_push {es : List DictEntry} {n : Nat} {e : DictEntry} : (pushes H (pre ++ [dictOf es n])).update (H.objs.size + pre.length) (Obj.mapDictKeys (·.push e)) = pushes H (pre ++ [dictOf (es ++ [e]) (n + 1)]) := by
  rw [pushes_update]
  rw [modify_last, mapKeys_dict]
theorem run_set_last {es : List DictEntry} {n : Nat} {k : Int} {tk : Tok} {v : Value} (ha : n₀ ≤ H.objs.size) (hz : es.length < 1000) (hn : ∀ e ∈ es, e.hash ≠ hashInt k) :
    Run p w n₀ ann 13 (dictSet (H.objs.size + pre.length) (.int k tk) v) (st s H (pre ++ [dictOf es n]) t) q () (st s H (pre ++ [dictOf (es ++ [⟨hashInt k, .int k tk, v⟩]) (n + 1)]) (t + 1)) q := by
  have := run_set (p := p) (w := w) (n₀ := n₀) (ann := ann) (s := st s H (pre ++ [dictOf es n]) t) (q := q) (d := H.objs.size + pre.length) (k := k) (t := tk) (v := v) last_get (Nat.ble_eq_true_of_le (by omega)) hz hn
  rw [last_push] at this
  exact this
theorem fresh_of {es : List DictEntry} {k : Int} {r : List Int} (h : (es.map (·.hash) ++ k :: r).Nodup) : ∀ e ∈ es, e.hash ≠ k := by
  intro e he hk
  have := (List.nodup_append.mp h).2.2 e.hash (List.mem_map.mpr ⟨e, he, rfl⟩) k (List.mem_cons_self ..)
  exact this hk
theorem run_fill (ha : n₀ ≤ H.objs.size) : ∀ (ps : List (Int × Str)) (es : List DictEntry) (n t : Nat), (es.map (·.hash) ++ ps.map fun x => hashInt x.1).Nodup → es.length + ps.length < 1000 →
    Run p w n₀ ann (20 * ps.length) (forIn (trees q ps) PUnit.unit (fun (x : Sem Value × Sem Value) (_ : PUnit) => do
        let kv ← x.1
        let vv ← holding [kv] x.2
        holding [kv, vv] (dictSet (H.objs.size + pre.length) kv vv)
        Pure.pure (ForInStep.yield PUnit.unit)))
      (st s H (pre ++ [dictOf es n]) t) q PUnit.unit (st s H (pre ++ [dictOf (es ++ ents3 t ps) (n + ps.length)]) (t + 3 * ps.length)) q
  | [], es, n, t, _, _ => by
    have : (st s H (pre ++ [dictOf (es ++ ents3 t []) (n + ([] : List (Int × Str)).length)]) (t + 3 * ([] : List (Int × Str)).length)) = st s H (pre ++ [dictOf es n]) t := by simp [ents3]
    rw [this]
    exact Run.pure
  | (k, v) :: ps, es, n, t, hn, hz => by
    have hf := fresh_of hn
    have ih := run_fill ha ps (es ++ [⟨hashInt k, .int k t, .str v (t + 1)⟩]) (n + 1) (t + 3) (by simpa using hn) (by simp at hz ⊢; omega)
    have e1 : es ++ ents3 t ((k, v) :: ps) = (es ++ [⟨hashInt k, .int k t, .str v (t + 1)⟩]) ++ ents3 (t + 3) ps := by simp [ents3]
    rw [e1, show n + ((k, v) :: ps).length = n + 1 + ps.length by simp; omega, show t + 3 * ((k, v) :: ps).length = t + 3 + 3 * ps.length by simp; omega]
    show Run p w n₀ ann _ (forIn ((PySem.mkInt k, valT q v) :: trees q ps) PUnit.unit _) _ _ _ _ _
    rw [List.forIn_cons]
    refine Run.mono (A := 16 + 20 * ps.length) (Run.bind (a := ForInStep.yield PUnit.unit) ?_ ih) (by simp; omega)
    refine Run.mono (A := 1 + (2 + (13 + 0))) ?_ (by omega)
    refine Run.bind Run.mkInt ?_
    refine Run.bind (Run.holding run_val) ?_
    refine Run.bind (Run.holding (run_set_last ha (by simp at hz; omega) hf)) ?_
    exact Run.pure
end
end Mine
end
section
open PySem PySem.W PyProof.Rows PySem.Calls
namespace Mine
set_option maxRecDepth 100000
set_option linter.unusedVariables false
section
variable {p : Program} {w : World} {n₀ : Nat} {ann : Option Value} {α β : Type} {s s' s'' : Shared} {q q' q'' : Pos} {H : Heap} {pre : List Obj} {t : Nat}
theorem trees_length (ps : List (Int × Str)) : (trees q ps).length = ps.length := by simp [trees]
theorem run_subLong (ha : n₀ ≤ H.objs.size) {ps : List (Int × Str)} (hn : (ps.map fun x => hashInt x.1).Nodup) (hz : ps.length < 1000) (hl : 15 < ps.length) :
    Run p w n₀ ann (20 * ps.length + 2) (subDict (trees q ps)) (st s H pre t) q (H.objs.size + pre.length) (st s H (pre ++ [dictOf (ents3 t ps) ps.length]) (t + 3 * ps.length)) q := by
  unfold subDict
  have h1 : Run p w n₀ ann 1 (PySem.alloc { cls := .type "dict", data := .dict #[] }) (st s H pre t) q (H.objs.size + pre.length) (st s H (pre ++ [dictOf [] 0]) t) q := by
    have := Run.alloc (p := p) (w := w) (n₀ := n₀) (ann := ann) (s := st s H pre t) (q := q) (o := dictOf [] 0)
    rw [show (st s H pre t).heap.objs.size = H.objs.size + pre.length from pushes_size _ _] at this
    rw [show (st s H pre t).heap.push (dictOf [] 0) = pushes H (pre ++ [dictOf [] 0]) from pushes_push _ _ _] at this
    exact this
  refine Run.mono (A := 1 + (20 * ps.length + 1)) (Run.bind h1 ?_) (by omega)
  refine Run.mono (A := (20 * ps.length + 1) + 0) (Run.bind (a := PUnit.unit) (Run.holding ?_) Run.pure) (by omega)
  rw [if_neg (by rw [trees_length]; omega)]
  refine Run.mono (A := 1 + 20 * ps.length) (Run.bind Run.rule ?_) (by omega)
  have := run_fill (p := p) (w := w) (n₀ := n₀) (ann := ann) (s := s) (q := q) (H := H) (pre := pre) ha ps [] 0 t (by simpa using hn) (by simpa using hz)
  rw [List.nil_append, Nat.zero_add] at this
  exact Run.mono (A := 20 * ps.length + 0) (Run.bind this Run.pure) (by omega)
/-- the values of a short run of pairs, all evaluated ahead -/
noncomputable def vals2 (t : Nat) : List (Int × Str) → List (Value × Value)
  | [] => []
  | (k, v) :: r => (.int k t, .str v (t + 1)) :: vals2 (t + 2) r
theorem run_evalPairs : ∀ (ps : List (Int × Str)) (t : Nat), Run p w n₀ ann (3 * ps.length) (evalPairs (trees q ps)) (st s H pre t) q (vals2 t ps) (st s H pre (t + 2 * ps.length)) q
  | [], t => Run.pure
  | (k, v) :: ps, t => by
    show Run p w n₀ ann _ (evalPairs ((PySem.mkInt k, valT q v) :: trees q ps)) _ _ _ _ _
    unfold evalPairs
    rw [show t + 2 * ((k, v) :: ps).length = t + 2 + 2 * ps.length by simp; omega]
    refine Run.mono (A := 1 + (2 + (3 * ps.length + 0))) ?_ (by simp; omega)
    refine Run.bind Run.mkInt ?_
    refine Run.bind (Run.holding run_val) ?_
    exact Run.bind (f := fun r => Pure.pure ((Value.int k t, Value.str v (t + 1)) :: r)) (Run.holding (run_evalPairs ps (t + 2))) Run.pure
theorem run_fill2 (ha : n₀ ≤ H.objs.size) : ∀ (ps : List (Int × Str)) (es : List DictEntry) (n t u : Nat), (es.map (·.hash) ++ ps.map fun x => hashInt x.1).Nodup → es.length + ps.length < 1000 →
    Run p w n₀ ann (13 * ps.length) (forIn (vals2 u ps) PUnit.unit (fun (x : Value × Value) (_ : PUnit) => do
        dictSet (H.objs.size + pre.length) x.1 x.2
        Pure.pure (ForInStep.yield PUnit.unit)))
      (st s H (pre ++ [dictOf es n]) t) q PUnit.unit (st s H (pre ++ [dictOf (es ++ ents2 u ps) (n + ps.length)]) (t + ps.length)) q
  | [], es, n, t, u, _, _ => by
    have : (st s H (pre ++ [dictOf (es ++ ents2 u []) (n + ([] : List (Int × Str)).length)]) (t + ([] : List (Int × Str)).length)) = st s H (pre ++ [dictOf es n]) t := by simp [ents2]
    rw [this]
    exact Run.pure
  | (k, v) :: ps, es, n, t, u, hn, hz => by
    have hf := fresh_of hn
    have ih := run_fill2 ha ps (es ++ [⟨hashInt k, .int k u, .str v (u + 1)⟩]) (n + 1) (t + 1) (u + 2) (by simpa using hn) (by simp at hz ⊢; omega)
    have e1 : es ++ ents2 u ((k, v) :: ps) = (es ++ [⟨hashInt k, .int k u, .str v (u + 1)⟩]) ++ ents2 (u + 2) ps := by simp [ents2]
    rw [e1, show n + ((k, v) :: ps).length = n + 1 + ps.length by simp; omega, show t + ((k, v) :: ps).length = t + 1 + ps.length by simp; omega]
    show Run p w n₀ ann _ (forIn ((Value.int k u, Value.str v (u + 1)) :: vals2 (u + 2) ps) PUnit.unit _) _ _ _ _ _
    rw [List.forIn_cons]
    refine Run.mono (A := 13 + 13 * ps.length) (Run.bind (a := ForInStep.yield PUnit.unit) ?_ ih) (by simp; omega)
    refine Run.mono (A := 13 + 0) ?_ (by omega)
    refine Run.bind (run_set_last ha (by simp at hz; omega) hf) ?_
    exact Run.pure
theorem run_alloc_dict : Run p w n₀ ann 1 (PySem.alloc { cls := .type "dict", data := .dict #[] }) (st s H pre t) q (H.objs.size + pre.length) (st s H (pre ++ [dictOf [] 0]) t) q := by
  have := Run.alloc (p := p) (w := w) (n₀ := n₀) (ann := ann) (s := st s H pre t) (q := q) (o := dictOf [] 0)
  rw [show (st s H pre t).heap.objs.size = H.objs.size + pre.length from pushes_size _ _] at this
  rw [show (st s H pre t).heap.push (dictOf [] 0) = pushes H (pre ++ [dictOf [] 0]) from pushes_push _ _ _] at this
  exact this
theorem run_subShort (ha : n₀ ≤ H.objs.size) {ps : List (Int × Str)} (hn : (ps.map fun x => hashInt x.1).Nodup) (hl : ps.length ≤ 15) :
    Run p w n₀ ann (20 * ps.length + 2) (subDict (trees q ps)) (st s H pre t) q (H.objs.size + pre.length) (st s H (pre ++ [dictOf (ents2 t ps) ps.length]) (t + 3 * ps.length)) q := by
  unfold subDict
  refine Run.mono (A := 1 + (16 * ps.length + 0)) (Run.bind run_alloc_dict ?_) (by omega)
  refine Run.bind (a := PUnit.unit) (Run.holding ?_) Run.pure
  rw [if_pos (by rw [trees_length]; omega)]
  refine Run.mono (A := 3 * ps.length + 13 * ps.length) (Run.bind (run_evalPairs ps t) (Run.holding ?_)) (by omega)
  have := run_fill2 (p := p) (w := w) (n₀ := n₀) (ann := ann) (s := s) (q := q) (H := H) (pre := pre) ha ps [] 0 (t + 2 * ps.length) t (by simpa using hn) (by simp; omega)
  rw [List.nil_append, Nat.zero_add, show t + 2 * ps.length + ps.length = t + 3 * ps.length by omega] at this
  exact Run.mono (A := 13 * ps.length + 0) (Run.bind this Run.pure) (by omega)
/-- a made sub-dict's entries into the first one -/
noncomputable def mainS (m : List DictEntry) (n : Nat) (subs : List Obj) (es : List DictEntry) (k : Nat) : List Obj := dictOf m n :: subs ++ [dictOf es k]
theorem main_get {m : List DictEntry} {n : Nat} {l : List Obj} : (pushes H (dictOf m n :: l)).get? H.objs.size = some (dictOf m n) := pushes_get (i := 0) rfl rfl
theorem sub_get {m : List DictEntry} {n : Nat} {subs : List Obj} {es : List DictEntry} {k : Nat} : (pushes H (dictOf m n :: (subs ++ [dictOf es k]))).get? (H.objs.size + (subs.length + 1)) = some (dictOf es k) := pushes_get (by simp) rfl
theorem main_push {m : List DictEntry} {n : Nat} {l : List Obj} {e : DictEntry} : (pushes H (dictOf m n :: l)).update H.objs.size (Obj.mapDictKeys (·.push e)) = pushes H (dictOf (m ++ [e]) (n + 1) :: l) := by
  rw [← mapKeys_dict]
  exact pushes_update H (dictOf m n :: l) 0 _
theorem run_merge_loop (ha : n₀ ≤ H.objs.size) {subs : List Obj} {es : List DictEntry} {k : Nat} (hk : ∀ e ∈ es, ∃ i tk, e.key = .int i tk) : ∀ (j i : Nat) (m : List DictEntry) (n : Nat), i + j = es.length → (m.map (·.hash) ++ (es.drop i).map (·.hash)).Nodup → m.length + j < 1000 →
    Run p w n₀ ann (10 * j) (forIn (List.range' i j) PUnit.unit (fun (i : Nat) (_ : PUnit) => do
        let __x ← dictEntries (H.objs.size + (subs.length + 1))
        match __x[i]? with
        | some e => do
          holding [e.key, e.val] (if false = true then (do
              let r ← dictFind H.objs.size e.key e.hash
              if r.isSome = true then (do
                rule "dict.merge.duplicate-key"
                let x ← newExc (.type "KeyError") [e.key]
                raiseNew x
                dictPut H.objs.size e.hash e.key e.val)
              else dictPut H.objs.size e.hash e.key e.val)
            else dictPut H.objs.size e.hash e.key e.val)
          let __do_lift ← dictEpoch (H.objs.size + (subs.length + 1))
          if (__do_lift != k) = true then do unsupported "dict.changed-during-merge"; Pure.pure (ForInStep.yield PUnit.unit) else Pure.pure (ForInStep.yield PUnit.unit)
        | _ => do unsupported "dict.changed-during-merge"; Pure.pure (ForInStep.yield PUnit.unit)))
      (st s H (dictOf m n :: (subs ++ [dictOf es k])) t) q PUnit.unit (st s H (dictOf (m ++ es.drop i) (n + j) :: (subs ++ [dictOf es k])) t) q
  | 0, i, m, n, hij, _, _ => by
    rw [List.drop_of_length_le (by omega), List.append_nil]
    exact Run.pure
  | j + 1, i, m, n, hij, hn, hz => by
    have hlt : i < es.length := by omega
    have hd : es.drop i = es[i] :: es.drop (i + 1) := List.drop_eq_getElem_cons hlt
    obtain ⟨ki, tk, hkey⟩ := hk es[i] (List.getElem_mem hlt)
    rw [hd] at hn ⊢
    rw [List.map_cons] at hn
    have hf := fresh_of (es := m) (k := es[i].hash) (r := (es.drop (i + 1)).map (·.hash)) hn
    have ih := run_merge_loop ha (subs := subs) (k := k) hk j (i + 1) (m ++ [es[i]]) (n + 1) (by omega) (by rw [List.map_append, List.append_assoc]; exact hn) (by rw [List.length_append]; simp only [List.length_cons, List.length_nil]; omega)
    rw [show m ++ es[i] :: es.drop (i + 1) = (m ++ [es[i]]) ++ es.drop (i + 1) by simp, show n + (j + 1) = n + 1 + j by omega]
    rw [List.range'_succ, List.forIn_cons]
    refine Run.mono (A := 10 + 10 * j) (Run.bind (a := ForInStep.yield PUnit.unit) ?_ ih) (by omega)
    refine Run.mono (A := 1 + (4 + (1 + 0))) (Run.bind (a := es.toArray) (Run.mono (A := 1 + 0) (Run.bind (Run.loadPart sub_get) Run.pure) (by omega)) ?_) (by omega)
    simp only [List.getElem?_toArray, List.getElem?_eq_getElem hlt]
    refine Run.bind (a := ()) (Run.holding (s' := st s H (dictOf (m ++ [es[i]]) (n + 1) :: (subs ++ [dictOf es k])) t) (q' := q) ?_) ?_
    · rw [if_neg Bool.false_ne_true]
      have := run_put (p := p) (w := w) (n₀ := n₀) (ann := ann) (s := st s H (dictOf m n :: (subs ++ [dictOf es k])) t) (q := q) (d := H.objs.size) (k := ki) (t := tk) (h := es[i].hash) (v := es[i].val) main_get (Nat.ble_eq_true_of_le (by omega)) (by omega) hf
      rw [main_push] at this
      rw [hkey]
      have e : (⟨es[i].hash, .int ki tk, es[i].val⟩ : DictEntry) = es[i] := by rw [← hkey]
      rw [e] at this
      exact this
    · refine Run.bind (a := k) (Run.mono (A := 1 + 0) (Run.bind (Run.loadPart sub_get) Run.pure) (by omega)) ?_
      simp only [bne_self_eq_false, Bool.false_eq_true, if_false]
      exact Run.pure
end
end Mine
end
section
open PySem PySem.W PyProof.Rows PySem.Calls
namespace Mine
set_option maxRecDepth 100000
set_option linter.unusedVariables false
section
variable {p : Program} {w : World} {n₀ : Nat} {ann : Option Value} {α β : Type} {s s' s'' : Shared} {q q' q'' : Pos} {H : Heap} {pre : List Obj} {t : Nat}
theorem run_isinst {a : Addr} {es : List DictEntry} {n : Nat} (h : s.heap.get? a = some (dictOf es n)) : Run p w n₀ ann 1 (isInstance (.ref a) (.type "dict")) s q true s q := by
  unfold isInstance
  refine Run.mono (A := 1 + 0) (Run.bind (a := Value.type "dict") (Run.mono (A := 1 + 0) (Run.bind (Run.loadPart h) Run.pure) (by omega)) ?_) (by omega)
  exact Run.ofPure isSubtype_dict_dict
theorem run_iterOf {a : Addr} {es : List DictEntry} {n : Nat} (h : s.heap.get? a = some (dictOf es n)) : Run p w n₀ ann 1 (specialOf (.ref a) "__iter__") s q (some (.builtin "dict.__iter__")) s q := by
  unfold specialOf
  refine Run.mono (A := 1 + 0) (Run.bind (a := Value.type "dict") (Run.mono (A := 1 + 0) (Run.bind (Run.loadPart h) Run.pure) (by omega)) ?_) (by omega)
  exact Run.ofPure F.slot_dict_iter.lookup
theorem run_entries {a : Addr} {es : List DictEntry} {n : Nat} {part : Option Value} (h : s.heap.get? a = some (dictOf es n)) : Run p w n₀ ann 1 (dictEntries a part) s q es.toArray s q := by
  unfold dictEntries
  exact Run.mono (A := 1 + 0) (Run.bind (Run.loadPart h) Run.pure) (by omega)
theorem run_epoch {a : Addr} {es : List DictEntry} {n : Nat} {part : Option Value} (h : s.heap.get? a = some (dictOf es n)) : Run p w n₀ ann 1 (dictEpoch a part) s q n s q := by
  unfold dictEpoch
  exact Run.mono (A := 1 + 0) (Run.bind (Run.loadPart h) Run.pure) (by omega)
theorem run_merge (ha : n₀ ≤ H.objs.size) (h2 : 2 ≤ H.objs.size) {subs : List Obj} {es m : List DictEntry} {k n : Nat} (hk : ∀ e ∈ es, ∃ i tk, e.key = .int i tk) (hn : (m.map (·.hash) ++ es.map (·.hash)).Nodup) (hz : m.length + es.length < 1000) (hm : m ≠ []) :
    Run p w n₀ ann (10 * es.length + 5) (mergeMapping H.objs.size (.ref (H.objs.size + (subs.length + 1))) false)
      (st s H (dictOf m n :: (subs ++ [dictOf es k])) t) q () (st s H (dictOf (m ++ es) (n + es.length) :: (subs ++ [dictOf es k])) t) q := by
  unfold mergeMapping
  have hsys : (H.objs.size + (subs.length + 1) == sysModules) = false := beq_eq_false_iff_ne.mpr (by unfold sysModules; omega)
  refine Run.mono (A := 1 + (1 + (0 + (10 * es.length + 3)))) (Run.bind (run_isinst sub_get) ?_) (by omega)
  dsimp only
  rw [if_pos rfl]
  refine Run.bind (run_iterOf sub_get) ?_
  refine Run.bind (a := true) (Run.ofPure (by rw [show (some (Value.builtin "dict.__iter__") == some (Value.builtin "dict.__iter__")) = true from by decide +kernel])) ?_
  dsimp only
  rw [if_neg (by rw [hsys]; exact Bool.false_ne_true)]
  refine Run.mono (A := 1 + (10 * es.length + 2)) (Run.bind (run_entries main_get) ?_) (by omega)
  rw [if_neg (by cases m with | nil => exact absurd rfl hm | cons => simp)]
  refine Run.mono (A := 1 + (10 * es.length + 1)) (Run.bind (run_entries sub_get) ?_) (by omega)
  refine Run.mono (A := 1 + (10 * es.length)) (Run.bind (run_epoch sub_get) ?_) (by omega)
  have := run_merge_loop (p := p) (w := w) (n₀ := n₀) (ann := ann) (s := s) (q := q) (H := H) (t := t) ha (subs := subs) (k := k) hk es.length 0 m n (by omega) (by simpa using hn) (by omega)
  rw [List.drop_zero] at this
  rw [List.range_eq_range', List.size_toArray]
  exact Run.mono (A := 10 * es.length + 0) (Run.bind this Run.pure) (by omega)
end
end Mine
end
section
open PySem PySem.W PyProof.Rows PySem.Calls
namespace Mine
set_option maxRecDepth 100000
set_option linter.unusedVariables false
noncomputable def flushT (run : List (Sem Value × Sem Value)) (main : Option Addr) : Sem (Option Addr) :=
  if run.isEmpty = true then Pure.pure main else
  match main with
  | none => do
    let r ← subDict run
    Pure.pure (some r)
  | some d => do
    let sub ← holding [.ref d] (subDict run)
    (holding [.ref d, .ref sub] (mergeMapping d (.ref sub) false)).onRaise fun x => do
      let _ ← holding [.ref d, x] (runValue (.builtin "proto.let_go" {}))
      Pure.pure ()
    Pure.pure (some d)
noncomputable def itemsOf (q : Pos) (ps : List (Int × Str)) : List (Option (Sem Value) × Sem Value) := ps.map fun x => (some (PySem.mkInt x.1), valT q x.2)
noncomputable abbrev DispBody := (Option (Sem Value) × Sem Value) → (Option Addr × List (Sem Value × Sem Value)) → Sem (ForInStep (Option Addr × List (Sem Value × Sem Value)))
noncomputable def Gathers (f : DispBody) : Prop := ∀ k v main run, f (some k, v) (main, run) =
  if ((run ++ [(k, v)]).length == 17) = true then (do let main' ← flushT (run ++ [(k, v)]) main; Pure.pure (ForInStep.yield (main', []))) else Pure.pure (ForInStep.yield (main, run ++ [(k, v)]))
/-- the sub-dicts that are left behind, 17 pairs each -/
noncomputable def subsOf : Nat → Nat → List (Int × Str) → List Obj
  | 0, _, _ => []
  | c + 1, t, ps => dictOf (ents3 t (ps.take 17)) 17 :: subsOf c (t + 51) (ps.drop 17)
theorem ents3_append : ∀ (a b : List (Int × Str)) (t : Nat), ents3 t (a ++ b) = ents3 t a ++ ents3 (t + 3 * a.length) b
  | [], b, t => by simp [ents3]
  | (k, v) :: a, b, t => by
    simp only [List.cons_append, ents3, List.length_cons]
    rw [ents3_append a b (t + 3), show t + 3 + 3 * a.length = t + 3 * (a.length + 1) by omega]
theorem ents3_keys : ∀ (ps : List (Int × Str)) (t : Nat), ∀ e ∈ ents3 t ps, ∃ i tk, e.key = .int i tk
  | [], _, e, h => nomatch h
  | (k, v) :: r, t, e, h => by
    rcases List.mem_cons.mp h with rfl | h
    · exact ⟨_, _, rfl⟩
    · exact ents3_keys r _ e h
theorem ents2_keys : ∀ (ps : List (Int × Str)) (t : Nat), ∀ e ∈ ents2 t ps, ∃ i tk, e.key = .int i tk
  | [], _, e, h => nomatch h
  | (k, v) :: r, t, e, h => by
    rcases List.mem_cons.mp h with rfl | h
    · exact ⟨_, _, rfl⟩
    · exact ents2_keys r _ e h
section
variable {p : Program} {w : World} {n₀ : Nat} {ann : Option Value} {α β : Type} {s s' s'' : Shared} {q q' q'' : Pos} {H : Heap} {pre : List Obj} {t : Nat}
theorem run_gather {f : DispBody} (hf : Gathers f) {main main' : Option Addr} {A B : Nat} {rest : List (Option (Sem Value) × Sem Value)} {r : Option Addr × List (Sem Value × Sem Value)} : ∀ (l : List (Int × Str)) (run : List (Sem Value × Sem Value)),
    run.length + l.length = 17 → l ≠ [] → Run p w n₀ ann A (flushT (run ++ trees q l) main) s q main' s' q → Run p w n₀ ann B (forIn rest (main', []) f) s' q r s'' q →
    Run p w n₀ ann (A + B) (forIn (itemsOf q l ++ rest) (main, run) f) s q r s'' q
  | [], _, _, h, _, _ => absurd rfl h
  | [x], run, hl, _, h1, h2 => by
    show Run p w n₀ ann (A + B) (forIn ((some (PySem.mkInt x.1), valT q x.2) :: rest) (main, run) f) s q r s'' q
    rw [List.forIn_cons, hf]
    rw [if_pos (by simp at hl ⊢; omega)]
    refine Run.mono (A := (A + 0) + B) (Run.bind (a := ForInStep.yield (main', [])) (Run.bind h1 Run.pure) h2) (by omega)
  | x :: y :: l, run, hl, _, h1, h2 => by
    show Run p w n₀ ann (A + B) (forIn ((some (PySem.mkInt x.1), valT q x.2) :: (itemsOf q (y :: l) ++ rest)) (main, run) f) s q r s'' q
    rw [List.forIn_cons, hf]
    rw [if_neg (by simp at hl ⊢; omega)]
    refine Run.mono (A := 0 + (A + B)) (Run.bind Run.pure ?_) (by omega)
    refine run_gather hf (y :: l) (run ++ [(PySem.mkInt x.1, valT q x.2)]) (by simp at hl ⊢; omega) (by simp) ?_ h2
    rw [List.append_assoc]
    exact h1
theorem run_left {f : DispBody} (hf : Gathers f) {main : Option Addr} : ∀ (l : List (Int × Str)) (run : List (Sem Value × Sem Value)), run.length + l.length < 17 →
    Run p w n₀ ann 0 (forIn (itemsOf q l) (main, run) f) s q (main, run ++ trees q l) s q
  | [], run, _ => by
    rw [show run ++ trees q [] = run by simp [trees]]
    exact Run.pure
  | x :: l, run, hl => by
    show Run p w n₀ ann 0 (forIn ((some (PySem.mkInt x.1), valT q x.2) :: itemsOf q l) (main, run) f) s q _ s q
    rw [List.forIn_cons, hf]
    rw [if_neg (by simp at hl ⊢; omega)]
    refine Run.mono (A := 0 + 0) (Run.bind Run.pure ?_) (by omega)
    have := run_left hf (main := main) l (run ++ [(PySem.mkInt x.1, valT q x.2)]) (by simp at hl ⊢; omega)
    rw [List.append_assoc] at this
    exact this
theorem run_flushFirst (ha : n₀ ≤ H.objs.size) {ps : List (Int × Str)} (hn : (ps.map fun x => hashInt x.1).Nodup) (hl : ps.length = 17) :
    Run p w n₀ ann 342 (flushT (trees q ps) none) (st s H [] t) q (some H.objs.size) (st s H [dictOf (ents3 t ps) 17] (t + 51)) q := by
  unfold flushT
  rw [if_neg (by rw [List.isEmpty_iff_length_eq_zero, trees_length, hl]; decide)]
  have := run_subLong (p := p) (w := w) (n₀ := n₀) (ann := ann) (s := s) (q := q) (t := t) (pre := []) ha hn (by omega) (by omega)
  rw [hl] at this
  exact Run.mono (A := 342 + 0) (Run.bind (f := fun r => Pure.pure (some r)) this Run.pure) (by omega)
theorem run_flushNext (ha : n₀ ≤ H.objs.size) (h2 : 2 ≤ H.objs.size) {ps : List (Int × Str)} {m : List DictEntry} {n : Nat} {subs : List Obj} (hn : (m.map (·.hash) ++ ps.map fun x => hashInt x.1).Nodup) (hl : ps.length = 17) (hz : m.length + 17 < 1000) (hm : m ≠ []) :
    Run p w n₀ ann 520 (flushT (trees q ps) (some H.objs.size)) (st s H (dictOf m n :: subs) t) q (some H.objs.size) (st s H (dictOf (m ++ ents3 t ps) (n + 17) :: (subs ++ [dictOf (ents3 t ps) 17])) (t + 51)) q := by
  unfold flushT
  rw [if_neg (by rw [List.isEmpty_iff_length_eq_zero, trees_length, hl]; decide)]
  have h1 := run_subLong (p := p) (w := w) (n₀ := n₀) (ann := ann) (s := s) (q := q) (t := t) (H := H) (pre := dictOf m n :: subs) ha (List.nodup_append.mp hn).2.1 (by omega) (by omega)
  rw [hl] at h1
  have h3 := run_merge (p := p) (w := w) (n₀ := n₀) (ann := ann) (s := s) (q := q) (t := t + 51) (H := H) (subs := subs) (k := 17) (n := n) (es := ents3 t ps) (m := m) ha h2 (ents3_keys _ _) (by rw [ents3_hash]; exact hn) (by rw [ents3_length]; omega) hm
  rw [ents3_length, hl] at h3
  refine Run.mono (A := 342 + (175 + 0)) (Run.bind (Run.holding h1) ?_) (by omega)
  exact Run.bind (f := fun _ => Pure.pure (some H.objs.size)) (Run.onRaise (Run.holding h3)) Run.pure
theorem run_flushLast (ha : n₀ ≤ H.objs.size) (h2 : 2 ≤ H.objs.size) {ps : List (Int × Str)} {m : List DictEntry} {n : Nat} {subs : List Obj} (hn : (m.map (·.hash) ++ ps.map fun x => hashInt x.1).Nodup) (hl : ps.length ≤ 15) (h0 : ps ≠ []) (hz : m.length + 17 < 1000) (hm : m ≠ []) :
    Run p w n₀ ann 520 (flushT (trees q ps) (some H.objs.size)) (st s H (dictOf m n :: subs) t) q (some H.objs.size) (st s H (dictOf (m ++ ents2 t ps) (n + ps.length) :: (subs ++ [dictOf (ents2 t ps) ps.length])) (t + 3 * ps.length)) q := by
  unfold flushT
  rw [if_neg (by rw [List.isEmpty_iff_length_eq_zero, trees_length]; intro h; exact h0 (List.eq_nil_of_length_eq_zero h))]
  have h1 := run_subShort (p := p) (w := w) (n₀ := n₀) (ann := ann) (s := s) (q := q) (t := t) (H := H) (pre := dictOf m n :: subs) ha (List.nodup_append.mp hn).2.1 hl
  have h3 := run_merge (p := p) (w := w) (n₀ := n₀) (ann := ann) (s := s) (q := q) (t := t + 3 * ps.length) (H := H) (subs := subs) (k := ps.length) (n := n) (es := ents2 t ps) (m := m) ha h2 (ents2_keys _ _) (by rw [ents2_hash]; exact hn) (by rw [ents2_length]; omega) hm
  rw [ents2_length] at h3
  refine Run.mono (A := 302 + (155 + 0)) (Run.bind (Run.holding (Run.mono h1 (by omega))) ?_) (by omega)
  exact Run.bind (f := fun _ => Pure.pure (some H.objs.size)) (Run.onRaise (Run.holding (Run.mono h3 (by omega)))) Run.pure
theorem run_chunks {f : DispBody} (hf : Gathers f) (ha : n₀ ≤ H.objs.size) (h2 : 2 ≤ H.objs.size) {tail : List (Int × Str)} (ht : tail.length < 17) : ∀ (c : Nat) (ps : List (Int × Str)) (m : List DictEntry) (n t : Nat) (subs : List Obj), ps.length = 17 * c → (m.map (·.hash) ++ ps.map fun x => hashInt x.1).Nodup → m.length + 17 * c < 1000 → m ≠ [] →
    Run p w n₀ ann (520 * c) (forIn (itemsOf q ps ++ itemsOf q tail) (some H.objs.size, []) f) (st s H (dictOf m n :: subs) t) q (some H.objs.size, trees q tail)
      (st s H (dictOf (m ++ ents3 t ps) (n + ps.length) :: (subs ++ subsOf c t ps)) (t + 3 * ps.length)) q
  | 0, ps, m, n, t, subs, hl, hn, hz, hm => by
    have : ps = [] := List.eq_nil_of_length_eq_zero (by omega)
    subst this
    rw [show m ++ ents3 t [] = m by simp [ents3], show subs ++ subsOf 0 t [] = subs by simp [subsOf]]
    have := run_left (p := p) (w := w) (n₀ := n₀) (ann := ann) (q := q) (s := st s H (dictOf m n :: subs) t) hf (main := some H.objs.size) tail [] (by simpa using ht)
    exact this
  | c + 1, ps, m, n, t, subs, hl, hn, hz, hm => by
    have hps : ps = ps.take 17 ++ ps.drop 17 := (List.take_append_drop 17 ps).symm
    have hl1 : (ps.take 17).length = 17 := by rw [List.length_take]; omega
    have hl2 : (ps.drop 17).length = 17 * c := by rw [List.length_drop]; omega
    have hn' : ((m.map (·.hash) ++ (ps.take 17).map fun x => hashInt x.1) ++ (ps.drop 17).map fun x => hashInt x.1).Nodup := by
      rw [List.append_assoc, ← List.map_append, ← hps]; exact hn
    have h1 := run_flushNext (p := p) (w := w) (n₀ := n₀) (ann := ann) (s := s) (q := q) (t := t) (H := H) (n := n) (subs := subs) ha h2 (List.nodup_append.mp hn').1 hl1 (by omega) hm
    have ih := run_chunks hf ha h2 ht c (ps.drop 17) (m ++ ents3 t (ps.take 17)) (n + 17) (t + 51) (subs ++ [dictOf (ents3 t (ps.take 17)) 17]) hl2 (by rw [List.map_append, ents3_hash]; exact hn') (by rw [List.length_append, ents3_length]; omega) (by simp [hm])
    have e1 : ents3 t ps = ents3 t (ps.take 17) ++ ents3 (t + 51) (ps.drop 17) := by
      have := ents3_append (ps.take 17) (ps.drop 17) t
      rw [← hps, hl1] at this
      exact this
    rw [List.append_assoc, ← e1, hl2, List.append_assoc, show n + 17 + 17 * c = n + ps.length by omega, show t + 51 + 3 * (17 * c) = t + 3 * ps.length by omega] at ih
    have e2 : itemsOf q ps ++ itemsOf q tail = itemsOf q (ps.take 17) ++ (itemsOf q (ps.drop 17) ++ itemsOf q tail) := by
      rw [← List.append_assoc]
      congr 1
      show List.map _ ps = List.map _ _ ++ List.map _ _
      rw [← List.map_append, ← hps]
    rw [e2]
    exact Run.mono (A := 520 + 520 * c) (run_gather hf (ps.take 17) [] (by simpa using hl1) (by intro h; rw [h] at hl1; simp at hl1) h1 ih) (by omega)
end
end Mine
end
section
open PySem PySem.W PyProof.Rows PySem.Calls
namespace Mine
set_option maxRecDepth 100000
set_option linter.unusedVariables false
noncomputable def constPairs : List (Option PySem.Expr) → List PySem.Expr → Option (List (Int × Str))
  | some (.Constant (.int k) _ _) :: ks, .Constant (.str v) _ _ :: vs => (constPairs ks vs).map ((k, v) :: ·)
  | [], [] => some []
  | _, _ => none
theorem items_of_const (env : Env) (q : Pos) : ∀ (ks : List (Option PySem.Expr)) (vs : List PySem.Expr) (ps : List (Int × Str)), constPairs ks vs = some ps →
    (evalEachOpt ks env).zip ((evalEach vs env).map fun v => do let x ← v; PySem.standAt q; Pure.pure x) = itemsOf q ps
  | ks, vs, ps, h => by
    unfold constPairs at h
    split at h
    · rename_i k u1 u2 ks v u3 u4 vs
      obtain ⟨r, hr, rfl⟩ := Option.map_eq_some_iff.mp h
      have ih := items_of_const env q ks vs r hr
      show (some (PySem.mkInt k), valT q v) :: (evalEachOpt ks env).zip ((evalEach vs env).map fun v => do let x ← v; PySem.standAt q; Pure.pure x) = _
      rw [ih]
      rfl
    · cases h
      rfl
    · cases h
section
variable {p : Program} {w : World} {n₀ : Nat} {ann : Option Value} {α β : Type} {s s' s'' : Shared} {q q' q'' : Pos} {H : Heap} {pre : List Obj} {t : Nat}
theorem run_fold {f : DispBody} (hf : Gathers f) (ha : n₀ ≤ H.objs.size) (h2 : 2 ≤ H.objs.size) {p1 p2 p3 : List (Int × Str)} {c : Nat} (h1 : p1.length = 17) (hc : p2.length = 17 * c) (h3 : p3.length ≤ 15) (hz : 17 * c < 900) (hn : ((p1 ++ p2 ++ p3).map fun x => hashInt x.1).Nodup) :
    Run p w n₀ ann (342 + 520 * c) (forIn (itemsOf q (p1 ++ p2 ++ p3)) (none, []) f) (st s H [] t) q (some H.objs.size, trees q p3)
      (st s H (dictOf (ents3 t (p1 ++ p2)) (p1 ++ p2).length :: subsOf c (t + 51) p2) (t + 3 * (p1 ++ p2).length)) q := by
  have hn1 : ((p1.map fun x => hashInt x.1) ++ (p2.map fun x => hashInt x.1) ++ (p3.map fun x => hashInt x.1)).Nodup := by simpa only [List.map_append] using hn
  have hn12 := (List.nodup_append.mp hn1).1
  have hp1 : (ents3 t p1) ≠ [] := by intro h; have := ents3_length p1 t; rw [h, h1] at this; simp at this
  rw [show itemsOf q (p1 ++ p2 ++ p3) = itemsOf q p1 ++ (itemsOf q p2 ++ itemsOf q p3) by simp [itemsOf]]
  have hc := run_chunks (p := p) (w := w) (n₀ := n₀) (ann := ann) (s := s) (q := q) (H := H) hf ha h2 (tail := p3) (by omega) c p2 (ents3 t p1) 17 (t + 51) [] hc (by rw [ents3_hash]; exact hn12) (by rw [ents3_length]; omega) hp1
  rw [List.nil_append, show 17 + p2.length = (p1 ++ p2).length by simp [h1], show t + 51 + 3 * p2.length = t + 3 * (p1 ++ p2).length by simp; omega] at hc
  have e := ents3_append p1 p2 t
  rw [show t + 3 * p1.length = t + 51 by omega] at e
  rw [← e] at hc
  exact run_gather hf p1 [] (by simpa using h1) (by intro h; rw [h] at h1; simp at h1) (run_flushFirst ha (List.nodup_append.mp hn12).1 h1) hc
theorem run_display (ha : n₀ ≤ H.objs.size) (h2 : 2 ≤ H.objs.size) {p1 p2 p3 : List (Int × Str)} {c : Nat} (h1 : p1.length = 17) (hc : p2.length = 17 * c) (h3 : p3.length ≤ 15) (h0 : p3 ≠ []) (hz : 17 * c < 900) (hn : ((p1 ++ p2 ++ p3).map fun x => hashInt x.1).Nodup) :
    Run p w n₀ ann (520 * c + 1000) (dictDisplay (itemsOf q (p1 ++ p2 ++ p3))) (st s H [] t) q (.ref H.objs.size)
      (st s H (dictOf (ents3 t (p1 ++ p2) ++ ents2 (t + 3 * (p1 ++ p2).length) p3) (p1 ++ p2 ++ p3).length :: (subsOf c (t + 51) p2 ++ [dictOf (ents2 (t + 3 * (p1 ++ p2).length) p3) p3.length])) (t + 3 * (p1 ++ p2 ++ p3).length)) q := by
  unfold dictDisplay
  dsimp only
  have hn1 : ((p1.map fun x => hashInt x.1) ++ (p2.map fun x => hashInt x.1) ++ (p3.map fun x => hashInt x.1)).Nodup := by simpa only [List.map_append] using hn
  have hn12 := (List.nodup_append.mp hn1).1
  have hp1 : (ents3 t p1) ≠ [] := by intro h; have := ents3_length p1 t; rw [h, h1] at this; simp at this
  refine Run.mono (A := (342 + 520 * c) + (520 + 0)) (Run.bind (a := (some H.objs.size, trees q p3)) (s' := st s H (dictOf (ents3 t (p1 ++ p2)) (p1 ++ p2).length :: subsOf c (t + 51) p2) (t + 3 * (p1 ++ p2).length)) (q' := q) ?_ ?_) (by omega)
  · exact run_fold (fun k v main run => rfl) ha h2 h1 hc h3 hz hn
  · refine Run.bind (a := some H.objs.size) ?_ Run.pure
    have := run_flushLast (p := p) (w := w) (n₀ := n₀) (ann := ann) (s := s) (q := q) (t := t + 3 * (p1 ++ p2).length) (H := H) (n := (p1 ++ p2).length) (subs := subsOf c (t + 51) p2) (m := ents3 t (p1 ++ p2)) ha h2 (ps := p3)
      (by rw [ents3_hash, List.map_append]; exact hn1) h3 h0 (by rw [ents3_length, List.length_append]; omega) (by rw [ents3_append]; simp [hp1])
    rw [show (p1 ++ p2).length + p3.length = (p1 ++ p2 ++ p3).length by simp; omega, show t + 3 * (p1 ++ p2).length + 3 * p3.length = t + 3 * (p1 ++ p2 ++ p3).length by simp; omega] at this
    exact this
theorem run_strHash {x : Str} (hx : x.cps.isEmpty = false) : Run p w n₀ ann 1 (strHash x) s q (reduceHash (w.params.strHash x.cps)) s q := by
  unfold strHash
  refine Run.mono (A := 1 + 0) (Run.bind Run.ask ?_) (by omega)
  rw [hx, if_neg Bool.false_ne_true]
  exact Run.pure
/-- the statement that lays the table -/
theorem run_stmt (ha : n₀ ≤ H.objs.size) (h2 : 2 ≤ H.objs.size) {p1 p2 p3 : List (Int × Str)} {c : Nat} (h1 : p1.length = 17) (hc : p2.length = 17 * c) (h3 : p3.length ≤ 15) (h0 : p3 ≠ []) (hz : 17 * c < 900) (hn : ((p1 ++ p2 ++ p3).map fun x => hashInt x.1).Nodup)
    {env : Env} {x : Str} {np dp sp : Pos} {ks : List (Option PySem.Expr)} {vs : List PySem.Expr} (hp : constPairs ks vs = some (p1 ++ p2 ++ p3)) {es : List DictEntry} {en : Nat}
    (hg : H.get? mainNs = some ⟨.type "dict", none, .dict es.toArray en, #[]⟩) (hr : aRefKeyMayBeTheName x es.toArray = false) (hs : ∀ v, storeName env x v = nsSet mainNs x v) (hx : x.cps.isEmpty = false) :
    Run p w n₀ ann (520 * c + 1100) (exec (.Assign [.Name x np] (.Dict ks vs dp) sp) env) (st s H [] t) q .next
      { (st s H (dictOf (ents3 t (p1 ++ p2) ++ ents2 (t + 3 * (p1 ++ p2).length) p3) (p1 ++ p2 ++ p3).length :: (subsOf c (t + 51) p2 ++ [dictOf (ents2 (t + 3 * (p1 ++ p2).length) p3) p3.length])) (t + 3 * (p1 ++ p2 ++ p3).length + 1)) with
        heap := (pushes H (dictOf (ents3 t (p1 ++ p2) ++ ents2 (t + 3 * (p1 ++ p2).length) p3) (p1 ++ p2 ++ p3).length :: (subsOf c (t + 51) p2 ++ [dictOf (ents2 (t + 3 * (p1 ++ p2).length) p3) p3.length]))).update mainNs
          (Obj.putName x (reduceHash (w.params.strHash x.cps)) (.str x (t + 3 * (p1 ++ p2 ++ p3).length)) (.ref H.objs.size)) } np := by
  show Run p w n₀ ann _ (PySem.standAt sp >>= fun _ => _) _ _ _ _ _
  refine Run.mono (A := 1 + (0 + ((520 * c + 1001) + (0 + (20 + 0))))) (Run.bind Run.standAt ?_) (by omega)
  refine Run.bind (a := false) (Run.ofPure rfl) ?_
  rw [if_neg Bool.false_ne_true]
  refine Run.bind (a := Value.ref H.objs.size) (q' := dp) (s' := st s H (dictOf (ents3 t (p1 ++ p2) ++ ents2 (t + 3 * (p1 ++ p2).length) p3) (p1 ++ p2 ++ p3).length :: (subsOf c (t + 51) p2 ++ [dictOf (ents2 (t + 3 * (p1 ++ p2).length) p3) p3.length])) (t + 3 * (p1 ++ p2 ++ p3).length)) ?_ ?_
  · show Run p w n₀ ann _ (PySem.standAt dp >>= fun _ => dictDisplay _) _ _ _ _ _
    refine Run.mono (A := 1 + (520 * c + 1000)) (Run.bind Run.standAt ?_) (by omega)
    rw [items_of_const env dp ks vs _ hp]
    exact run_display ha h2 h1 hc h3 h0 hz hn
  · refine Run.bind (a := none) (Run.ofPure rfl) ?_
    show Run p w n₀ ann _ (assign (.Name x np) env (.ref H.objs.size) >>= fun _ => Pure.pure Flow.next) _ _ _ _ _
    refine Run.bind (a := ()) ?_ Run.pure
    show Run p w n₀ ann _ (PySem.standAt np >>= fun _ => bindName env x (.ref H.objs.size)) _ _ _ _ _
    refine Run.mono (A := 1 + (1 + (6 + 1))) (Run.bind Run.standAt ?_) (by omega)
    unfold bindName
    refine Run.bind (Run.holding Run.point) ?_
    refine Run.bind (a := ()) ?_ Run.point
    rw [hs]
    unfold nsSet
    refine Run.mono (A := 1 + (1 + (1 + 1))) (Run.bind (run_strHash hx) ?_) (by omega)
    · refine Run.bind Run.mkText ?_
      have hg' : (pushes H (dictOf (ents3 t (p1 ++ p2) ++ ents2 (t + 3 * (p1 ++ p2).length) p3) (p1 ++ p2 ++ p3).length :: (subsOf c (t + 51) p2 ++ [dictOf (ents2 (t + 3 * (p1 ++ p2).length) p3) p3.length]))).get? mainNs = some ⟨.type "dict", none, .dict es.toArray en, #[]⟩ := by
        obtain ⟨g1, g2⟩ := Heap.get?_some_iff.mp hg
        refine Heap.get?_some_iff.mpr ⟨?_, g2⟩
        show (H.objs ++ _)[mainNs]? = _
        rw [Array.getElem?_append_left (Heap.lt_size hg)]
        exact g1
      refine Run.bind (Run.loadPart hg') ?_
      dsimp only
      rw [hr, if_neg Bool.false_ne_true]
      exact Run.updatePart hg' (by simp)
end
end Mine
end
section
open PySem PySem.W PyProof.Rows
namespace Mine
set_option maxRecDepth 100000
set_option maxHeartbeats 8000000
noncomputable def ps0 : Stmt := by
  refine' (fun (x : Stmt) (_ : x = x) => x) _ ?h
  case h =>
    refine Eq.trans (b := PySem.Challenge.pw_tr0059_01.main.body.getD 0 (.Pass ⟨0, 0, 0, 0⟩)) ?p ?q
    case p => conv => rhs; whnf
    case q => rfl
noncomputable def ps1 : Stmt := by
  refine' (fun (x : Stmt) (_ : x = x) => x) _ ?h
  case h =>
    refine Eq.trans (b := PySem.Challenge.pw_tr0059_01.main.body.getD 1 (.Pass ⟨0, 0, 0, 0⟩)) ?p ?q
    case p => conv => rhs; whnf
    case q => rfl
noncomputable def ps2 : Stmt := by
  refine' (fun (x : Stmt) (_ : x = x) => x) _ ?h
  case h =>
    refine Eq.trans (b := PySem.Challenge.pw_tr0059_01.main.body.getD 2 (.Pass ⟨0, 0, 0, 0⟩)) ?p ?q
    case p => conv => rhs; whnf
    case q => rfl
noncomputable def ps3 : Stmt := by
  refine' (fun (x : Stmt) (_ : x = x) => x) _ ?h
  case h =>
    refine Eq.trans (b := PySem.Challenge.pw_tr0059_01.main.body.getD 3 (.Pass ⟨0, 0, 0, 0⟩)) ?p ?q
    case p => conv => rhs; whnf
    case q => rfl
noncomputable def ps4 : Stmt := by
  refine' (fun (x : Stmt) (_ : x = x) => x) _ ?h
  case h =>
    refine Eq.trans (b := PySem.Challenge.pw_tr0059_01.main.body.getD 4 (.Pass ⟨0, 0, 0, 0⟩)) ?p ?q
    case p => conv => rhs; whnf
    case q => rfl
noncomputable def ps5 : Stmt := by
  refine' (fun (x : Stmt) (_ : x = x) => x) _ ?h
  case h =>
    refine Eq.trans (b := PySem.Challenge.pw_tr0059_01.main.body.getD 5 (.Pass ⟨0, 0, 0, 0⟩)) ?p ?q
    case p => conv => rhs; whnf
    case q => rfl
noncomputable def ps6 : Stmt := by
  refine' (fun (x : Stmt) (_ : x = x) => x) _ ?h
  case h =>
    refine Eq.trans (b := PySem.Challenge.pw_tr0059_01.main.body.getD 6 (.Pass ⟨0, 0, 0, 0⟩)) ?p ?q
    case p => conv => rhs; whnf
    case q => rfl
noncomputable def ps7 : Stmt := by
  refine' (fun (x : Stmt) (_ : x = x) => x) _ ?h
  case h =>
    refine Eq.trans (b := PySem.Challenge.pw_tr0059_01.main.body.getD 7 (.Pass ⟨0, 0, 0, 0⟩)) ?p ?q
    case p => conv => rhs; whnf
    case q => rfl
noncomputable def ps8 : Stmt := by
  refine' (fun (x : Stmt) (_ : x = x) => x) _ ?h
  case h =>
    refine Eq.trans (b := PySem.Challenge.pw_tr0059_01.main.body.getD 8 (.Pass ⟨0, 0, 0, 0⟩)) ?p ?q
    case p => conv => rhs; whnf
    case q => rfl
noncomputable def psScope : Scope := by
  refine' (fun (x : Scope) (_ : x = x) => x) _ ?h
  case h =>
    refine Eq.trans (b := PySem.Challenge.pw_tr0059_01.main.scope) ?p ?q
    case p => conv => rhs; whnf
    case q => rfl
noncomputable def psFA : Bool := by
  refine' (fun (x : Bool) (_ : x = x) => x) _ ?h
  case h =>
    refine Eq.trans (b := PySem.Challenge.pw_tr0059_01.main.futureAnnotations) ?p ?q
    case p => conv => rhs; whnf
    case q => rfl
noncomputable def psFile : Str := by
  refine' (fun (x : Str) (_ : x = x) => x) _ ?h
  case h =>
    refine Eq.trans (b := PySem.Challenge.pw_tr0059_01.main.file) ?p ?q
    case p => conv => rhs; whnf
    case q => rfl
noncomputable def psMore : List (Str × Const) := by
  refine' (fun (x : List (Str × Const)) (_ : x = x) => x) _ ?h
  case h =>
    refine Eq.trans (b := PySem.Challenge.pw_tr0059_01.main.more) ?p ?q
    case p => conv => rhs; whnf
    case q => rfl
noncomputable def psMods : List (Str × Bool × Module) := by
  refine' (fun (x : List (Str × Bool × Module)) (_ : x = x) => x) _ ?h
  case h =>
    refine Eq.trans (b := PySem.Challenge.pw_tr0059_01.modules) ?p ?q
    case p => conv => rhs; whnf
    case q => rfl
noncomputable def psParses : List Parse := by
  refine' (fun (x : List Parse) (_ : x = x) => x) _ ?h
  case h =>
    refine Eq.trans (b := PySem.Challenge.pw_tr0059_01.parses) ?p ?q
    case p => conv => rhs; whnf
    case q => rfl
noncomputable def psAbsent : List Str := by
  refine' (fun (x : List Str) (_ : x = x) => x) _ ?h
  case h =>
    refine Eq.trans (b := PySem.Challenge.pw_tr0059_01.absent) ?p ?q
    case p => conv => rhs; whnf
    case q => rfl
noncomputable def psHarv : List Parse := by
  refine' (fun (x : List Parse) (_ : x = x) => x) _ ?h
  case h =>
    refine Eq.trans (b := PySem.Challenge.pw_tr0059_01.harvested) ?p ?q
    case p => conv => rhs; whnf
    case q => rfl
noncomputable def psGiven : Given := by
  refine' (fun (x : Given) (_ : x = x) => x) _ ?h
  case h =>
    refine Eq.trans (b := PySem.Challenge.pw_tr0059_01.given) ?p ?q
    case p => conv => rhs; whnf
    case q => rfl
/-- the first nine statements of the text -/
noncomputable def PCut : Program := { main := { body := [ps0, ps1, ps2, ps3, ps4, ps5, ps6, ps7, ps8], scope := psScope, futureAnnotations := psFA, file := psFile, more := psMore }, modules := psMods, parses := psParses, absent := psAbsent, harvested := psHarv, given := psGiven }
open_shared pre for (by
  refine' (fun (x : Program) (_ : x = x) => x) _ ?h
  case h =>
    refine Eq.trans (b := PCut) ?p ?q
    case p => conv => rhs; delta PCut ps0 ps1 ps2 ps3 ps4 ps5 ps6 ps7 ps8 psScope psFA psFile psMore psMods psParses psAbsent psHarv psGiven; dsimp only
    case q => rfl) leaving 0
end Mine
end
section
open PySem PySem.W PyProof.Rows PySem.Calls
namespace Mine
set_option maxRecDepth 100000
set_option maxHeartbeats 8000000
set_option linter.unusedVariables false
noncomputable abbrev PW : Program := PySem.Challenge.pw_tr0059_01
@[irreducible] noncomputable def stAt (i : Nat) : Stmt := (PySem.Challenge.pw_tr0059_01.main.body).getD i (.Pass ⟨0, 0, 0, 0⟩)
noncomputable def keysOf : Stmt → List (Option PySem.Expr)
  | .Assign _ (.Dict ks _ _) _ => ks
  | _ => []
noncomputable def valsOf : Stmt → List PySem.Expr
  | .Assign _ (.Dict _ vs _) _ => vs
  | _ => []
theorem st9 : stAt 9 = .Assign [.Name "b3_exceptions" ⟨59, 0, 59, 13⟩] (.Dict (keysOf (stAt 9)) (valsOf (stAt 9)) ⟨59, 16, 59, 8704⟩) ⟨59, 0, 59, 8704⟩ := by kernel_rfl
@[irreducible] noncomputable def pairs : List (Int × Str) := (constPairs (keysOf (stAt 9)) (valsOf (stAt 9))).getD []
@[irreducible] noncomputable def pr1 : List (Int × Str) := pairs.take 17
@[irreducible] noncomputable def pr2 : List (Int × Str) := (pairs.drop 17).take 629
@[irreducible] noncomputable def pr3 : List (Int × Str) := pairs.drop 646
theorem pr1_len : pr1.length = 17 := by kernel_rfl
theorem pr2_len : pr2.length = 17 * 37 := by kernel_rfl
theorem pr3_len : pr3.length = 4 := by kernel_rfl
theorem prs_eq : constPairs (keysOf (stAt 9)) (valsOf (stAt 9)) = some (pr1 ++ pr2 ++ pr3) := by kernel_rfl
noncomputable def incr : List Int → Bool
  | [] => true
  | [_] => true
  | a :: b :: r => decide (a < b) && incr (b :: r)
theorem incr_lt : ∀ (l : List Int) (a : Int), incr (a :: l) = true → ∀ b ∈ l, a < b
  | [], _, _, _, h => nomatch h
  | c :: l, a, h, b, hb => by
    unfold incr at h
    obtain ⟨h1, h2⟩ := Bool.and_eq_true_iff.mp h
    have h1 := of_decide_eq_true h1
    rcases List.mem_cons.mp hb with rfl | hb
    · exact h1
    · exact Int.lt_trans h1 (incr_lt l c h2 b hb)
theorem incr_tail (l : List Int) (a : Int) (h : incr (a :: l) = true) : incr l = true := by
  cases l with
  | nil => rfl
  | cons b l => unfold incr at h; exact (Bool.and_eq_true_iff.mp h).2
theorem incr_nodup : ∀ (l : List Int), incr l = true → l.Nodup
  | [], _ => List.nodup_nil
  | a :: l, h => List.nodup_cons.mpr ⟨fun hm => Int.lt_irrefl a (incr_lt l a h a hm), incr_nodup l (incr_tail l a h)⟩
theorem prs_nodup : ((pr1 ++ pr2 ++ pr3).map fun x => hashInt x.1).Nodup := incr_nodup _ (by kernel_rfl)
noncomputable def insAll : BT → Nat → List Obj → BT
  | t, _, [] => t
  | t, n, o :: os => insAll (t.ins n o) (n + 1) os
noncomputable def insOk : BT → Nat → List Obj → Bool
  | _, _, [] => true
  | t, n, o :: os => ((t.ins n o).get n).isSome && insOk (t.ins n o) (n + 1) os
theorem pushes_abs (life : Life) : ∀ (os : List Obj) (t : BT) (n : Nat), insOk t n os = true → pushes (absHeap t n life) os = absHeap (insAll t n os) (n + os.length) life
  | [], t, n, _ => pushes_nil _
  | o :: os, t, n, h => by
    unfold insOk at h
    obtain ⟨h1, h2⟩ := Bool.and_eq_true_iff.mp h
    have ih := pushes_abs life os (t.ins n o) (n + 1) h2
    rw [absHeap_ins h1] at ih
    unfold insAll
    rw [List.length_cons, show n + (os.length + 1) = n + 1 + os.length by omega, ← ih]
    unfold pushes
    show Heap.mk (_ ++ (o :: os).toArray) _ = Heap.mk ((absHeap t n life).objs.push o ++ os.toArray) _
    congr 1
    apply Array.ext'
    simp
@[irreducible] noncomputable def dictEs : List DictEntry := ents3 237 (pr1 ++ pr2) ++ ents2 2175 pr3
@[irreducible] noncomputable def dictO : Obj := dictOf dictEs 650
@[irreducible] noncomputable def newObjs : List Obj := dictO :: (subsOf 37 288 pr2 ++ [dictOf (ents2 2175 pr3) 4])
@[irreducible] noncomputable def T2 (P : Params) : BT := (insAll (pre.tree_27 P) 36 newObjs).set 3 (Obj.putName "b3_exceptions" (reduceHash (P.strHash ("b3_exceptions" : Str).cps)) (.str "b3_exceptions" 2187) (.ref 36))
theorem newObjs_eq : newObjs = dictOf (ents3 237 (pr1 ++ pr2) ++ ents2 2175 pr3) 650 :: (subsOf 37 288 pr2 ++ [dictOf (ents2 2175 pr3) 4]) := by unfold newObjs dictO dictEs; rfl
theorem newObjs_len : newObjs.length = 39 := by kernel_rfl
theorem ins_ok (P : Params) : insOk (pre.tree_27 P) 36 newObjs = true := by kernel_rfl
end Mine
end
section
open PySem PySem.W PyProof.Rows PySem.Calls
namespace Mine
set_option maxRecDepth 100000
set_option maxHeartbeats 400000
set_option linter.unusedVariables false
theorem segRun_of_run {p : Program} {w : World} {n₀ : Nat} {ann : Option Value} {B : Nat} {st : Stmt} {env : Env} {s s' : Shared} {q q' r : Pos} {c : Code} (h : Run p w n₀ ann B (exec st env) s q .next s' q') :
    ∃ n, n ≤ B ∧ segRun treeTable p w n₀ ann 1 (n + 1) s (pieceOf st env c q [topFrame r]) = some (.next, s', c, q') := by
  obtain ⟨n, hn, g⟩ := h doneF deadEnd id id c [topFrame r] (by simp)
  exact ⟨n, hn, seg_go (N := 1) g rfl⟩
noncomputable abbrev posB : Pos := { line := 58, col := 0, endLine := 58, endCol := 8 }
noncomputable abbrev posQ : Pos := { line := 0, col := 0, endLine := 0, endCol := 0 }
noncomputable abbrev posD : Pos := ⟨59, 0, 59, 13⟩
noncomputable abbrev S1 (w : World) (os : OsState) : SharedT := { tree := pre.tree_27 w.params, n := 36, life := { }, gens := { toList := [] }, drawn := { }, toks := 237, os := os }
noncomputable abbrev S2 (w : World) (os : OsState) : SharedT := { tree := T2 w.params, n := 75, life := { }, gens := { toList := [] }, drawn := { }, toks := 2188, os := os }
theorem kind_b3 : ∀ v, storeName pre.env_1 "b3_exceptions" v = nsSet mainNs "b3_exceptions" v := fun v => by kernel_rfl
@[irreducible] noncomputable def mainEs (P : Params) : List DictEntry := match (pre.o_5 P).data with | .dict es _ => es.toList | _ => []
theorem main_at (w : World) : (absHeap (pre.tree_27 w.params) 36 { }).get? mainNs = some ⟨.type "dict", none, .dict (mainEs w.params).toArray 15, #[]⟩ := by
  rw [abs_get (o := pre.o_5 w.params) (by decide) rfl]
  kernel_rfl
theorem main_ref (P : Params) : aRefKeyMayBeTheName "b3_exceptions" (mainEs P).toArray = false := by kernel_rfl
theorem run_dict (w : World) (os : OsState) : Run PW w 11 (some (.ref 6)) 20340 (exec (stAt 9) pre.env_1) (S1 w os).abs posB .next (S2 w os).abs posD := by
  rw [st9]
  have h := run_stmt (p := PW) (w := w) (n₀ := 11) (ann := some (.ref 6)) (s := (S1 w os).abs) (q := posB) (H := absHeap (pre.tree_27 w.params) 36 { }) (t := 237) (by rw [absHeap_size]; decide) (by rw [absHeap_size]; decide) pr1_len pr2_len (by rw [pr3_len]; decide) (by intro h; have := pr3_len; rw [h] at this; cases this) (by decide) prs_nodup
    (env := pre.env_1) (x := "b3_exceptions") (np := posD) (dp := ⟨59, 16, 59, 8704⟩) (sp := ⟨59, 0, 59, 8704⟩) prs_eq (main_at w) (main_ref w.params) kind_b3 (by kernel_rfl)
  have e1 : st (S1 w os).abs (absHeap (pre.tree_27 w.params) 36 { }) [] 237 = (S1 w os).abs := by
    show Shared.mk (pushes _ []) _ _ _ _ = _
    rw [pushes_nil]
    rfl
  rw [e1] at h
  refine Run.mono ?_ (by decide : 520 * 37 + 1100 ≤ 20340)
  have hl : (pr1 ++ pr2).length = 646 := by rw [List.length_append, pr1_len, pr2_len]
  have hl3 : (pr1 ++ pr2 ++ pr3).length = 650 := by rw [List.length_append, hl, pr3_len]
  rw [hl, hl3, pr3_len, absHeap_size] at h
  have e2 : (pushes (absHeap (pre.tree_27 w.params) 36 { }) newObjs) = absHeap (insAll (pre.tree_27 w.params) 36 newObjs) 75 { } := by
    rw [pushes_abs _ _ _ _ (ins_ok w.params), newObjs_len]
  have e3 : (absHeap (insAll (pre.tree_27 w.params) 36 newObjs) 75 { }).update mainNs (Obj.putName "b3_exceptions" (reduceHash (w.params.strHash ("b3_exceptions" : Str).cps)) (.str "b3_exceptions" 2187) (.ref 36)) = absHeap (T2 w.params) 75 { } := by
    have hset := absHeap_set (t := insAll (pre.tree_27 w.params) 36 newObjs) (n := 75) (life := { }) (a := 3) (f := Obj.putName "b3_exceptions" (reduceHash (w.params.strHash ("b3_exceptions" : Str).cps)) (.str "b3_exceptions" 2187) (.ref 36)) (o := pre.o_5 w.params) (by kernel_rfl)
    unfold T2
    exact hset.symm
  rw [show (dictOf (ents3 237 (pr1 ++ pr2) ++ ents2 (237 + 3 * 646) pr3) 650 :: (subsOf 37 (237 + 51) pr2 ++ [dictOf (ents2 (237 + 3 * 646) pr3) 4])) = newObjs from newObjs_eq.symm, e2] at h
  rw [show (237 + 3 * 650) = 2187 from rfl, e3] at h
  exact h
end Mine
end
section
open PySem PySem.W PyProof.Rows PySem.Calls
namespace Mine
set_option maxRecDepth 100000
set_option maxHeartbeats 400000
set_option linter.unusedVariables false
/-- the function object of a def's statement -/
noncomputable def fnData (st : Stmt) (globals : Addr) (md : Value) (code : Value) : FuncData := match st with
  | .FunctionDef n a b _ _ _ sc _ _ _ => { name := n, qualname := n, params := a, body := .stmts b, scope := sc, globals := globals, closure := [], defaults := .none, kwdefaults := .none, pyModule := md, code := code }
  | _ => { name := "", qualname := "", params := { posonlyargs := [], args := [], vararg := none, kwonlyargs := [], kw_defaults := [], kwarg := none, defaults := [] }, body := .stmts [], scope := { kind := .function, names := [], isGenerator := false, isCoroutine := false }, globals := 0, closure := [], defaults := .none, kwdefaults := .none }
noncomputable def fnObj (st : Stmt) (globals : Addr) (md : Value) (code : Value) : Obj := { cls := .type "function", data := .func (fnData st globals md code) }
noncomputable def tmpl (st : Stmt) : Obj := { cls := .none, data := .func (fnData st 0 .none .none) }
noncomputable def stName : Stmt → Str
  | .FunctionDef n .. => n
  | _ => ""
noncomputable def stLine : Stmt → Int
  | .FunctionDef _ _ _ _ _ _ _ _ _ p => p.line
  | _ => 0
noncomputable def stArgs : Stmt → Int
  | .FunctionDef _ a _ _ _ _ _ _ _ _ => a.args.length
  | _ => 0
noncomputable def stLocals : Stmt → List Str
  | .FunctionDef _ _ _ _ _ _ sc _ _ _ => (sc.names.filter fun x => x.2 == .local).map (·.1)
  | _ => []
noncomputable def toks : Nat → List Str → List Value
  | _, [] => []
  | t, n :: r => .str n t :: toks (t + 1) r
noncomputable def tupO (vs : List Value) : Obj := { cls := .type "tuple", data := .seq vs.toArray }
noncomputable def flds : Obj := { cls := .none, data := .fields #[] }
noncomputable abbrev cutPy : Str := "/claim/cut.py"
/-- what a def's statement lays: without a comprehension in it, and with one -/
noncomputable def codeO (st : Stmt) (t : Nat) (l : Nat) (a b c d e : Value) : Obj := { cls := .type "code", data := .fields #[.str (stName st) t, .str (stName st) (t + 1), .str cutPy (t + 2), .int (stLine st) 0, .int (stArgs st) 0, .int 0 0, .int 0 0, .int 3 0, a, .bool true, .int 181 0, b, .none, c, d, e, .int ((t + 3 + l : Nat) : Int) 0, .int (stLine st) 0, .str cutPy (t + 4 + l)] }
noncomputable def objs7 (st : Stmt) (b t : Nat) (md : Value) : List Obj :=
  [tupO [], flds, tupO (toks (t + 3) (stLocals st)), tupO [], tmpl st, codeO st t (stLocals st).length (.ref b) (.ref (b + 1)) (.ref (b + 2)) (.ref (b + 3)) (.ref (b + 4)), fnObj st 3 md (.ref (b + 5))]
noncomputable def objs5 (st : Stmt) (b t : Nat) (md : Value) : List Obj :=
  [tupO [], flds, tmpl st, codeO st t 0 (.ref b) (.ref (b + 1)) .none .none (.ref (b + 2)), fnObj st 3 md (.ref (b + 3))]
noncomputable abbrev mdS : Value := .str "cpy313.stringprep" 235
noncomputable abbrev mdL : Value := .str "law_tr0059_01" 2196
@[irreducible] noncomputable def sufObjs : List Obj := objs7 (stAt 10) 75 2188 mdS ++ objs7 (stAt 12) 82 2198 mdL ++ objs7 (stAt 13) 89 2207 mdL ++ objs5 (stAt 14) 96 2219 mdL ++ objs7 (stAt 15) 101 2225 mdL ++
  objs5 (stAt 16) 108 2236 mdL ++ objs5 (stAt 17) 113 2242 mdL ++ objs5 (stAt 18) 118 2248 mdL
noncomputable def put (P : Params) (n : Str) (tok : Nat) (v : Value) (o : Obj) : Obj := Obj.putName n (reduceHash (P.strHash n.cps)) (.str n tok) v o
@[irreducible] noncomputable def main3 (P : Params) : Obj :=
  put P "law" 2253 (.ref 122) (put P "_law_squares" 2247 (.ref 117) (put P "_law_room" 2241 (.ref 112) (put P "_law_determinant" 2235 (.ref 107) (put P "_law_apart" 2224 (.ref 100) (put P "_law_spelling" 2218 (.ref 95)
    (put P "_law_word" 2206 (.ref 88) (put P "__name__" 2197 (.str "law_tr0059_01" 2196) (put P "map_table_b3" 2195 (.ref 81) (put P "b3_exceptions" 2187 (.ref 36) (pre.o_5 P))))))))))
noncomputable def tab12 : Obj := { cls := .none, data := .fields #[.int 5 0, .int 0 0, .ref 20, .int 11 0, .int 0 0, .ref 27, .int 50 0, .int 0 0, .ref 34, .int 60 0, .int 0 0, .ref 80, .int 66 0, .int 0 0, .ref 87, .int 71 0, .int 0 0, .ref 94, .int 80 0, .int 0 0, .ref 99, .int 90 0, .int 0 0, .ref 106, .int 94 0, .int 0 0, .ref 111, .int 100 0, .int 0 0, .ref 116, .int 110 0, .int 0 0, .ref 121] }
@[irreducible] noncomputable def T3 (P : Params) : BT := ((insAll (insAll (pre.tree_27 P) 36 newObjs) 75 sufObjs).set 3 (fun _ => main3 P)).set 12 (fun _ => tab12)
noncomputable abbrev S3 (w : World) (os : OsState) : SharedT := { tree := T3 w.params, n := 123, life := { }, gens := { toList := [] }, drawn := { }, toks := 2254, os := os }
noncomputable abbrev posE : Pos := { line := 110, col := 0, endLine := 115, endCol := 66 }
@[irreducible] noncomputable def suf : List Stmt := PW.main.body.drop 10
theorem run_suf (p : Program) (b : List Stmt) (w : World) (os : OsState) : segRunT treeTable p w 11 (some (.ref 6)) 1 242 (S2 w os) (piecesOf suf pre.env_1 (Code.body b pre.env_1) posD [topFrame posQ]) =
    some (.next, S3 w os, Code.body b pre.env_1, posE) := by kernel_rfl
end Mine
end
section
open PySem PySem.W PyProof.Rows PySem.Calls
namespace Mine
set_option maxRecDepth 100000
set_option maxHeartbeats 400000
set_option linter.unusedVariables false
noncomputable abbrev bodyL : List Stmt := behindTheImports PW
noncomputable abbrev cE : Code := Code.body bodyL pre.env_1
noncomputable abbrev B0 : List Frame := [topFrame posQ]
noncomputable abbrev S0 (w : World) (os : OsState) : Shared := ⟨boot_heap w.params, { toList := [] }, boot_drawn, boot_toks, os⟩
noncomputable abbrev Sb (w : World) (os : OsState) : SharedT := { tree := pre.tree_4 w.params, n := 15, life := { }, gens := { toList := [] }, drawn := { }, toks := 187, os := os }
theorem go_pre (w : World) (os : OsState) : topGo treeTable PW w 11 (some (.ref 6)) 12 (S0 w os) (topStub PW) = some ((Sb w os).abs, ⟨denote treeTable cE, cE, posQ, B0⟩) := by kernel_rfl
theorem go_block (w : World) (os : OsState) : segRun treeTable PW w 11 (some (.ref 6)) 1 1 (Sb w os).abs (blockOf bodyL pre.env_1 cE posQ B0) = some (.next, (Sb w os).abs, cE, posQ) := by kernel_rfl
theorem body_split : bodyL = pre.sts_4 ++ (stAt 9 :: (suf ++ [])) := by kernel_rfl
theorem go_fin (w : World) (os : OsState) : topRun treeTable PW w 11 (some (.ref 6)) 2 (S3 w os).abs (restOf [] pre.env_1 cE posE B0) = some (S3 w os).abs := by kernel_rfl
theorem run_top (w : World) (os : OsState) : topRun treeTable PW w 11 (some (.ref 6)) 21000 (S0 w os) (topStub PW) = some (S3 w os).abs := by
  have k1 := piece_app (q := posQ) (segRun_of (run_suf PW bodyL w os)) (go_fin w os)
  obtain ⟨n, hn, h2⟩ := segRun_of_run (r := posQ) (c := cE) (run_dict w os)
  have k2 := piece_cons (q := posQ) h2 k1
  have k3 := pre.chain PW bodyL w os _ _ _ k2
  rw [← body_split] at k3
  have k4 := piece_block (q := posQ) (go_block w os) k3
  have k5 := go_top (go_pre w os) k4
  have e : 21000 = (12 + (1 + (Nat.add 159 (n + 1 + (242 + 2))))) + (21000 - (12 + (1 + (159 + (n + 1 + (242 + 2)))))) := by
    show 21000 = (12 + (1 + (159 + (n + 1 + (242 + 2))))) + (21000 - (12 + (1 + (159 + (n + 1 + (242 + 2))))))
    omega
  rw [e]
  exact topRun_mono _ _ _ _ _ k5
end Mine
end
section
open PySem PySem.W PyProof.Rows PySem.Calls
namespace Mine
set_option maxRecDepth 100000
set_option maxHeartbeats 8000000
theorem ok_looks : looksOpen PySem.Challenge.rw_tr0059_01.row.prog = true := by
  with_reducible (delta looksOpen)
  (repeat' with_reducible refine look_both ?_ ?_)
  all_goals decide +kernel
theorem ok_part : PySem.Challenge.rw_tr0059_01.row.partSaid = true := by
  with_reducible (delta OpenRow.partSaid)
  (repeat' first | with_reducible exact ok_looks | with_reducible refine look_both ?_ ?_)
  all_goals decide +kernel
theorem ok_row : PySem.Challenge.rw_tr0059_01.row.wellSaid = true := by
  with_reducible (delta OpenRow.wellSaid)
  (repeat' first | with_reducible exact ok_part | with_reducible refine look_both ?_ ?_)
  all_goals decide +kernel
theorem ok_law : PySem.Challenge.rw_tr0059_01.wellSaid = true := by
  with_reducible (delta OpenLaw.wellSaid)
  (repeat' first | with_reducible exact ok_row | with_reducible refine look_both ?_ ?_)
  all_goals decide +kernel
theorem law_of_row (h : PySem.Challenge.rw_tr0059_01.row.wellSaid = true → PySem.Challenge.rw_tr0059_01.row.Holds) : PySem.Challenge.rw_tr0059_01.Holds := holds_law ok_law h
end Mine
end
section
open PySem PySem.W PyProof.Rows PySem.Calls
namespace Mine
set_option maxRecDepth 100000
set_option maxHeartbeats 8000000
set_option linter.unusedVariables false
noncomputable def VW : Program := { PW with main := { PW.main with body := [1, 2, 3, 4, 5, 7, 10, 12, 13, 14, 15, 16, 17, 18].filterMap fun i => PW.main.body[i]? } }
noncomputable abbrev looseL : List Str := ["b3_exceptions"]
abbrev rowL : OpenRow := PySem.Challenge.rw_tr0059_01.row
noncomputable def sl10 : Stmt := by
  refine' (fun (x : Stmt) (_ : x = PySem.Challenge.pw_tr0059_01.main.body.getD 10 (.Pass ⟨0, 0, 0, 0⟩)) => x) _ ?h
  case h => conv => rhs; whnf
noncomputable def fo81 : Obj := by
  refine' (fun (x : Obj) (_ : x = fnObj sl10 3 mdS (.ref 80)) => x) _ ?h
  case h =>
    dsimp only [fnObj, fnData, sl10]
    exact rfl
noncomputable def sl12 : Stmt := by
  refine' (fun (x : Stmt) (_ : x = PySem.Challenge.pw_tr0059_01.main.body.getD 12 (.Pass ⟨0, 0, 0, 0⟩)) => x) _ ?h
  case h => conv => rhs; whnf
noncomputable def fo88 : Obj := by
  refine' (fun (x : Obj) (_ : x = fnObj sl12 3 mdL (.ref 87)) => x) _ ?h
  case h =>
    dsimp only [fnObj, fnData, sl12]
    exact rfl
noncomputable def sl13 : Stmt := by
  refine' (fun (x : Stmt) (_ : x = PySem.Challenge.pw_tr0059_01.main.body.getD 13 (.Pass ⟨0, 0, 0, 0⟩)) => x) _ ?h
  case h => conv => rhs; whnf
noncomputable def fo95 : Obj := by
  refine' (fun (x : Obj) (_ : x = fnObj sl13 3 mdL (.ref 94)) => x) _ ?h
  case h =>
    dsimp only [fnObj, fnData, sl13]
    exact rfl
noncomputable def sl14 : Stmt := by
  refine' (fun (x : Stmt) (_ : x = PySem.Challenge.pw_tr0059_01.main.body.getD 14 (.Pass ⟨0, 0, 0, 0⟩)) => x) _ ?h
  case h => conv => rhs; whnf
noncomputable def fo100 : Obj := by
  refine' (fun (x : Obj) (_ : x = fnObj sl14 3 mdL (.ref 99)) => x) _ ?h
  case h =>
    dsimp only [fnObj, fnData, sl14]
    exact rfl
noncomputable def sl15 : Stmt := by
  refine' (fun (x : Stmt) (_ : x = PySem.Challenge.pw_tr0059_01.main.body.getD 15 (.Pass ⟨0, 0, 0, 0⟩)) => x) _ ?h
  case h => conv => rhs; whnf
noncomputable def fo107 : Obj := by
  refine' (fun (x : Obj) (_ : x = fnObj sl15 3 mdL (.ref 106)) => x) _ ?h
  case h =>
    dsimp only [fnObj, fnData, sl15]
    exact rfl
noncomputable def sl16 : Stmt := by
  refine' (fun (x : Stmt) (_ : x = PySem.Challenge.pw_tr0059_01.main.body.getD 16 (.Pass ⟨0, 0, 0, 0⟩)) => x) _ ?h
  case h => conv => rhs; whnf
noncomputable def fo112 : Obj := by
  refine' (fun (x : Obj) (_ : x = fnObj sl16 3 mdL (.ref 111)) => x) _ ?h
  case h =>
    dsimp only [fnObj, fnData, sl16]
    exact rfl
noncomputable def sl17 : Stmt := by
  refine' (fun (x : Stmt) (_ : x = PySem.Challenge.pw_tr0059_01.main.body.getD 17 (.Pass ⟨0, 0, 0, 0⟩)) => x) _ ?h
  case h => conv => rhs; whnf
noncomputable def fo117 : Obj := by
  refine' (fun (x : Obj) (_ : x = fnObj sl17 3 mdL (.ref 116)) => x) _ ?h
  case h =>
    dsimp only [fnObj, fnData, sl17]
    exact rfl
noncomputable def sl18 : Stmt := by
  refine' (fun (x : Stmt) (_ : x = PySem.Challenge.pw_tr0059_01.main.body.getD 18 (.Pass ⟨0, 0, 0, 0⟩)) => x) _ ?h
  case h => conv => rhs; whnf
noncomputable def fo122 : Obj := by
  refine' (fun (x : Obj) (_ : x = fnObj sl18 3 mdL (.ref 121)) => x) _ ?h
  case h =>
    dsimp only [fnObj, fnData, sl18]
    exact rfl
noncomputable def KL : Params → Frag := fun P => ((nat_lit 2), boot_o_2 P) :: ((nat_lit 3), main3 P) :: ((nat_lit 6), boot_o_6 P) :: ((nat_lit 15), pre.o_7 P) :: ((nat_lit 17), pre.o_9 P) :: ((nat_lit 18), pre.o_10 P) :: ((nat_lit 20), pre.o_12 P) :: ((nat_lit 21), pre.o_13 P) :: ((nat_lit 22), pre.o_14 P) :: ((nat_lit 24), pre.o_16 P) :: ((nat_lit 25), pre.o_17 P) :: ((nat_lit 27), pre.o_19 P) :: ((nat_lit 28), pre.o_20 P) :: ((nat_lit 29), pre.o_21 P) :: ((nat_lit 31), pre.o_23 P) :: ((nat_lit 32), pre.o_24 P) :: ((nat_lit 34), pre.o_26 P) :: ((nat_lit 35), pre.o_27 P) :: ((nat_lit 36), dictO) :: ((nat_lit 75), tupO []) :: ((nat_lit 77), tupO (toks 2191 (stLocals sl10))) :: ((nat_lit 78), tupO []) :: ((nat_lit 80), codeO sl10 2188 (stLocals sl10).length (.ref 75) (.ref 76) (.ref 77) (.ref 78) (.ref 79)) :: ((nat_lit 81), fo81) :: ((nat_lit 82), tupO []) :: ((nat_lit 84), tupO (toks 2201 (stLocals sl12))) :: ((nat_lit 85), tupO []) :: ((nat_lit 87), codeO sl12 2198 (stLocals sl12).length (.ref 82) (.ref 83) (.ref 84) (.ref 85) (.ref 86)) :: ((nat_lit 88), fo88) :: ((nat_lit 89), tupO []) :: ((nat_lit 91), tupO (toks 2210 (stLocals sl13))) :: ((nat_lit 92), tupO []) :: ((nat_lit 94), codeO sl13 2207 (stLocals sl13).length (.ref 89) (.ref 90) (.ref 91) (.ref 92) (.ref 93)) :: ((nat_lit 95), fo95) :: ((nat_lit 96), tupO []) :: ((nat_lit 99), codeO sl14 2219 0 (.ref 96) (.ref 97) .none .none (.ref 98)) :: ((nat_lit 100), fo100) :: ((nat_lit 101), tupO []) :: ((nat_lit 103), tupO (toks 2228 (stLocals sl15))) :: ((nat_lit 104), tupO []) :: ((nat_lit 106), codeO sl15 2225 (stLocals sl15).length (.ref 101) (.ref 102) (.ref 103) (.ref 104) (.ref 105)) :: ((nat_lit 107), fo107) :: ((nat_lit 108), tupO []) :: ((nat_lit 111), codeO sl16 2236 0 (.ref 108) (.ref 109) .none .none (.ref 110)) :: ((nat_lit 112), fo112) :: ((nat_lit 113), tupO []) :: ((nat_lit 116), codeO sl17 2242 0 (.ref 113) (.ref 114) .none .none (.ref 115)) :: ((nat_lit 117), fo117) :: ((nat_lit 118), tupO []) :: ((nat_lit 121), codeO sl18 2248 0 (.ref 118) (.ref 119) .none .none (.ref 120)) :: ((nat_lit 122), fo122) :: []
noncomputable abbrev asL : List Addr := [2, 3, 6, 15, 17, 18, 20, 21, 22, 24, 25, 27, 28, 29, 31, 32, 34, 35, 36, 75, 77, 78, 80, 81, 82, 84, 85, 87, 88, 89, 91, 92, 94, 95, 96, 99, 100, 101, 103, 104, 106, 107, 108, 111, 112, 113, 116, 117, 118, 121, 122]
theorem as_eq : ∀ P, asL = (KL P).map (·.1) := fun P => by kernel_rfl
noncomputable abbrev HL : Hook := kHook KL asL as_eq
noncomputable abbrev XtL : Shared → Bool := fun s => xlAt VW [] s && recOk (RowW.records rowL.toRowW) s
noncomputable abbrev H1 (P : Params) : Heap := absHeap (T3 P) 123 { }
theorem lk_obs (w : World) (os : OsState) : asL.map (H1 w.params).get? = (KL w.params).map fun p => some p.2 := by kernel_rfl
end Mine
end
section
open PySem PySem.W PyProof.Rows PySem.Calls
namespace Mine
set_option maxRecDepth 100000
set_option maxHeartbeats 8000000
set_option linter.unusedVariables false
noncomputable abbrev E3 (w : World) (os : OsState) : Shared := ⟨H1 w.params, { toList := [] }, { }, 2254, os⟩
theorem lk_mods : importedModules PW.main.body = [] := by kernel_rfl
theorem lk_size (w : World) : ((boot_heap w.params).isNs mainGlobals && (#[] : Array GenState).size == 0, (boot_heap w.params).objs.size, (boot_heap w.params).nsMap mainGlobals "__annotations__") = (true, 11, some (.ref 6)) := by kernel_rfl
theorem lk_stat (w : World) : staticsOk [] (boot_heap w.params) (H1 w.params) = true := by kernel_rfl
theorem lk_names (w : World) : namesBound PW (H1 w.params) = true := by kernel_rfl
theorem lk_gens (w : World) (os : OsState) : gensDone (E3 w os) = true := by kernel_rfl
theorem lk_laid (w : World) : laidKept (boot_heap w.params) (H1 w.params) = true := by kernel_rfl
theorem lk_1 (w : World) (os : OsState) : seen ((recsOf VW).map (·.name)) (ownsOf VW) [] { (E3 w os) with gens := #[] } = expectedOf VW := by kernel_rfl
theorem lk_2 (w : World) (os : OsState) : (H1 w.params).bltView = bltViewBooted := by kernel_rfl
theorem lk_3 (w : World) (os : OsState) : ((H1 w.params).keysOk (looseW VW looseL) ((recsOf VW).map (·.name)) ((litsOf VW).map (·.1)) ((clssOf VW (looseW VW looseL)).map (·.name)) && (H1 w.params).accountedOkI [] && (H1 w.params).isNs mainGlobals && (H1 w.params).isNs builtinsNs && tablesOk VW (H1 w.params) && XtL (E3 w os) && ((E3 w os).gens.size == 0)) = true := by kernel_rfl
theorem lk_4 (w : World) (os : OsState) : tabsOk VW (E3 w os) = true := by kernel_rfl
theorem lk_5 (w : World) (os : OsState) : pinSeenD VW (drecsOf VW) (E3 w os) = pinGoodD (drecsOf VW) := by kernel_rfl
theorem lk_6 (w : World) (os : OsState) : plainSeenE VW (looseW VW looseL) (E3 w os) = plainGoodE VW (looseW VW looseL) := by kernel_rfl
theorem lk_7 (w : World) (os : OsState) : plainSeenD VW looseL (E3 w os) = plainGoodD VW looseL := by kernel_rfl
theorem lk_8 (w : World) (os : OsState) : wideSeen VW (E3 w os) = wideGood VW := by kernel_rfl
theorem lk_9 (w : World) (os : OsState) : clsSeenW VW looseL (E3 w os) = clsGoodW VW looseL := by kernel_rfl
end Mine
end
section
open PySem PySem.W PyProof.Rows PySem.Calls
namespace Mine
set_option maxRecDepth 100000
set_option maxHeartbeats 8000000
set_option linter.unusedVariables false
theorem open_eq : opening PW = plainProg PW.main.scope.names := by kernel_rfl
theorem fence_eq : ∀ s, fenceModules? PW s = some s := fun s => by kernel_rfl
theorem left_o : LeftO rowL.toRowW.prog VW looseL XtL (Hook.obs HL) (Hook.val HL) 21000 := by
  refine LeftO.of_pieces (H₀ := boot_heap) (H₁ := H1) (gs₀ := Array.mk []) (gs₁ := { toList := [] }) (d₀ := boot_drawn) (d₁ := { }) (k₀ := boot_toks) (k₁ := 2254) (m₀ := 11) (ann := some (.ref 6)) (M := 21000)
    (boot_open open_eq (by decide) fence_eq) lk_size (fun w os => run_top w os) (by decide) (fun w => ?_)
  funext os
  show ((staticsOk (importedModules PW.main.body) (boot_heap w.params) (H1 w.params) && namesBound PW (H1 w.params) && gensDone (E3 w os) && laidKept (boot_heap w.params) (H1 w.params)),
        openSeen VW looseL (importedModules PW.main.body) XtL true (E3 w os), asL.map (H1 w.params).get?) = (true, openGood VW looseL, (KL w.params).map fun p => some p.2)
  unfold openSeen openGood
  rw [lk_mods, lk_stat, lk_names, lk_gens, lk_laid, lk_obs w os]
  refine congrArg (fun x => (true, x, (KL w.params).map fun p => some p.2)) ?_
  rw [lk_1 w os, lk_4 w os, lk_5 w os, lk_6 w os, lk_7 w os, lk_8 w os, lk_9 w os]
  exact Prod.ext rfl (Prod.ext (lk_2 w os) (Prod.ext (lk_3 w os) rfl))
end Mine
end
section
open PySem PySem.W PyProof.Rows PySem.Calls
namespace Mine
set_option maxRecDepth 100000
set_option maxHeartbeats 8000000
set_option linter.unusedVariables false
/-- what a call of the def at f hands back, whoever calls it; n is the room it wants below the lines of depth -/
noncomputable def Says (w : World) (f : Addr) (n : Nat) (vs : List Value) (news : List (Addr × Obj)) (R : Value → List (Addr × Obj) → Prop) : Prop :=
  ∀ (loose : List Str) (mean : ExcName → Option Value) (mg mb : Str → Option Value) (dp un : Nat) (gd : Option (List Code)) (cn : Str) (cs : Scope) (a : Addr) (ccd : Value) (cl : List (Str × Addr)) (outer : List Env) (A₀ : Around) (base h₀ : Heap) (L : Addr) (m : Str → Option Value) (s : Shared)
    (Q E : Value → Shared → Prop),
    Below A₀ base outer h₀ → Fr h₀ L s.heap m → (KL w.params).In h₀ → News h₀ L s.heap news → Top VW loose mean mg mb h₀ → cs.kind = .function → dp + n < recursionLimit → un + 10 * n < cLine →
    (∀ r tl h' tk', Fr h₀ L h' m → News h₀ L h' (tl ++ news) → (∀ q ∈ news, ∀ p ∈ tl, q.1 < p.1) → R r tl → Q r { s with heap := h', toks := tk' }) →
    wpAny (model PySem.Challenge.rw_tr0059_01.row.prog w) (ktrTop dp un gd cn cs L a ccd cl outer) (call (.ref f) vs) Q E s
theorem says_use {w : World} {f : Addr} {n : Nat} {vs : List Value} {news : List (Addr × Obj)} {R : Value → List (Addr × Obj) → Prop} {loose : List Str} {mean : ExcName → Option Value} {mg mb : Str → Option Value} {dp un : Nat} {gd : Option (List Code)} {cn : Str} {cs : Scope} {a : Addr} {ccd : Value} {cl : List (Str × Addr)} {outer : List Env} {A₀ : Around} {base h₀ : Heap} {L : Addr} {m : Str → Option Value} {s : Shared}
    {Q E : Value → Shared → Prop} (C : Says w f n vs news R)
    (B : Below A₀ base outer h₀) (F : Fr h₀ L s.heap m) (X : (KL w.params).In h₀) (N : News h₀ L s.heap news) (T : Top VW loose mean mg mb h₀) (hk : cs.kind = .function) (hd : dp + n < recursionLimit) (hu : un + 10 * n < cLine)
    (ret : ∀ r tl h' tk', Fr h₀ L h' m → News h₀ L h' (tl ++ news) → (∀ q ∈ news, ∀ p ∈ tl, q.1 < p.1) → R r tl → Q r { s with heap := h', toks := tk' }) :
    wpAny (model PySem.Challenge.rw_tr0059_01.row.prog w) (ktrTop dp un gd cn cs L a ccd cl outer) (call (.ref f) vs) Q E s :=
  C _ _ _ _ _ _ _ _ _ _ _ _ _ _ _ _ _ _ _ _ _ B F X N T hk hd hu ret
noncomputable def subC (x y : Str) : Int := if (x == y) = true then 0 else if (Txt.lower x == Txt.lower y) = true then 1 else 2
theorem says_sub (w : World) (x y : Str) (tx ty : Tok) (news : List (Addr × Obj)) (hx : x.length ≤ 1) (hy : y.length ≤ 1) : Says w 21 4 [.str x tx, .str y ty] news (fun r tl => tl = [] ∧ ∃ t, r = .int (subC x y) t) := by
  w_on
  w_top off
  intro loose mean mg mb dp un gd cn cs a ccd cl outer A₀ base h₀ L m s Q E B F X N T hk hd hu hret
  revert X; k_fill; intro X
  refine wpAny_call ?_
  k_dflt cell_enter
  k_steps
  all_goals refine hret _ [] _ _ (by k_asm) (by k_asm) (fun _ _ _ h => nomatch h) ⟨rfl, ?_⟩
  all_goals (unfold subC; simp only [*]; exact ⟨_, rfl⟩)
end Mine
end
section
open PySem PySem.W PyProof.Rows PySem.Calls
namespace Mine
set_option maxRecDepth 100000
set_option maxHeartbeats 8000000
set_option linter.unusedVariables false
noncomputable def orN (i : Int) (t : Tok) : Option (Int × Tok) := if i = 0 then none else some (i, t)
section
variable {prog : Program} {w : World} {A : Around} {E : Value → Shared → Prop} {s : Shared} {env : Env} {h₀ : Heap} {L : Addr} {m : Str → Option Value} {news : List (Addr × Obj)}
theorem or_none {y : Str} {np cp pos : Pos} {k : Nat} {i : Int} {t : Tok} {Q : Value → Shared → Prop}
    (hv : ∀ Q' : Value → Shared → Prop, Q' (.int i t) s → wpAny (model prog w) A (eval (.Name y np) env) Q' E s) (h : Q (partValue (orN i t)) s) :
    wpAny (model prog w) A (eval (.BoolOp .Or [.Name y np, .Constant .none k cp] pos) env) Q E s := by
  refine BoolOp_or (hv _ (truthy_int ?_))
  unfold orN at h
  by_cases h0 : i = 0
  · subst h0
    rw [if_pos rfl] at h
    exact BoolOp_one (fun _ _ _ => h)
  · rw [if_neg h0] at h
    have : (i != 0) = true := by simpa using h0
    rw [this]
    exact h
theorem slice_o {value slice : PySem.Expr} {x : Str} {t : Tok} {o : Option (Int × Tok)} {Q : Value → Shared → Prop} (hF : Fr h₀ L s.heap m) (hN : News h₀ L s.heap news)
    (h : ∀ h' t' k, Fr h₀ L h' m → News h₀ L h' news → (Txt.slice x none (o.map (·.1))).length ≤ x.length → Q (.str (Txt.slice x none (o.map (·.1))) t') { s with heap := h', toks := k })
    (hs : subscripted slice false (.str x t) (.ref s.heap.objs.size) = operate [.ref s.heap.objs.size, .str x t] (getItem (.str x t) (.ref s.heap.objs.size)) := by with_unfolding_all rfl)
    (ht : ∀ r, letTemporaryGo value (.str x t) r = pure () := by intro _; with_unfolding_all rfl) (hsz : x.length ≤ sizeLine := by size_fits) :
    wpAny (model prog w) A (subscriptTail value slice (.str x t) (.ref s.heap.objs.size)) Q E { s with heap := s.heap.push { cls := .type "slice", data := .fields #[.none, partValue o, .none] } } := by
  cases o with
  | none => exact slice_strN_nn_len hF hN h hs ht hsz
  | some p => obtain ⟨i, u⟩ := p; exact slice_strN_ns_len hF hN h hs ht hsz
noncomputable def takeS (x : Str) (n : Nat) : Str := ⟨(x.cps.toList.take n).toArray⟩
theorem takeS_len (x : Str) (k : Int) (h0 : k ≤ 0) (h1 : -(x.length : Int) ≤ k) : ((takeS x (x.length + k).toNat).length : Int) = x.length + k := by
  unfold takeS Str.length at *
  simp
  omega
theorem slice_orN (x : Str) (k : Int) (t : Tok) (h0 : k ≤ 0) (h1 : -(x.length : Int) ≤ k) : Txt.slice x none ((orN k t).map (·.1)) = takeS x (x.length + k).toNat := by
  unfold orN
  by_cases hk : k = 0
  · subst hk
    rw [if_pos rfl]
    show PySem.StrLaws.sliceText x none none = _
    unfold takeS
    rw [show ((x.length : Int) + 0).toNat = x.cps.toList.length by simp [Str.length], List.take_length]
    unfold PySem.StrLaws.sliceText
    have e := PySem.StrLaws.strSliceIndices_plain (a := 0) (b := x.length) (len := x.length) (Nat.zero_le _) (Nat.le_refl _)
    rw [if_pos (by rw [PySem.StrLaws.sliceIdx_none_hi, PySem.StrLaws.sliceIdx_none_lo, show (some (0 : Int)) = some ((0 : Nat) : Int) from rfl, e]; simp)]
  · rw [if_neg hk]
    show PySem.StrLaws.sliceText x none (some k) = _
    rw [PySem.StrLaws.sliceText_to_neg (by omega) h1]
    unfold takeS
    congr 3
    simp
    omega
noncomputable def dropS (x : Str) (n : Nat) : Str := ⟨(x.cps.toList.drop n).toArray⟩
theorem dropS_len (x : Str) (k : Int) (h0 : 0 ≤ k) (h1 : k ≤ x.length) : ((dropS x k.toNat).length : Int) = x.length - k := by
  unfold dropS Str.length at *
  simp
  omega
theorem slice_drop (x : Str) (k : Int) (h0 : 0 ≤ k) (h1 : k ≤ x.length) : Txt.slice x (some k) none = dropS x k.toNat := by
  show PySem.StrLaws.sliceText x (some k) none = _
  rw [PySem.StrLaws.sliceText_from ⟨h0, by simpa [Str.length] using h1⟩]
  unfold dropS
  congr 2
  apply List.take_of_length_le
  simp
  unfold Str.length at h1
  omega
theorem slice_pre {value slice : PySem.Expr} {x : Str} {t tk : Tok} {k : Int} {Q : Value → Shared → Prop} (hF : Fr h₀ L s.heap m) (hN : News h₀ L s.heap news) (h0 : 0 ≤ k) (h1 : k ≤ x.length)
    (h : ∀ h' t' c, Fr h₀ L h' m → News h₀ L h' news → ((dropS x k.toNat).length : Int) = x.length - k → Q (.str (dropS x k.toNat) t') { s with heap := h', toks := c })
    (hs : subscripted slice false (.str x t) (.ref s.heap.objs.size) = operate [.ref s.heap.objs.size, .str x t] (getItem (.str x t) (.ref s.heap.objs.size)) := by with_unfolding_all rfl)
    (ht : ∀ r, letTemporaryGo value (.str x t) r = pure () := by intro _; with_unfolding_all rfl) (hsz : x.length ≤ sizeLine := by size_fits) :
    wpAny (model prog w) A (subscriptTail value slice (.str x t) (.ref s.heap.objs.size)) Q E { s with heap := s.heap.push { cls := .type "slice", data := .fields #[.int k tk, .none, .none] } } := by
  refine slice_strN_sn_len hF hN (fun h' t' c a b _ => ?_) hs ht hsz
  rw [slice_drop x k h0 h1]
  exact h h' t' c a b (dropS_len x k h0 h1)
theorem slice_post {value slice : PySem.Expr} {x : Str} {t tk : Tok} {k : Int} {Q : Value → Shared → Prop} (hF : Fr h₀ L s.heap m) (hN : News h₀ L s.heap news) (h0 : k ≤ 0) (h1 : -(x.length : Int) ≤ k)
    (h : ∀ h' t' c, Fr h₀ L h' m → News h₀ L h' news → ((takeS x (x.length + k).toNat).length : Int) = x.length + k → Q (.str (takeS x (x.length + k).toNat) t') { s with heap := h', toks := c })
    (hs : subscripted slice false (.str x t) (.ref s.heap.objs.size) = operate [.ref s.heap.objs.size, .str x t] (getItem (.str x t) (.ref s.heap.objs.size)) := by with_unfolding_all rfl)
    (ht : ∀ r, letTemporaryGo value (.str x t) r = pure () := by intro _; with_unfolding_all rfl) (hsz : x.length ≤ sizeLine := by size_fits) :
    wpAny (model prog w) A (subscriptTail value slice (.str x t) (.ref s.heap.objs.size)) Q E { s with heap := s.heap.push { cls := .type "slice", data := .fields #[.none, partValue (orN k tk), .none] } } := by
  refine slice_o (o := orN k tk) hF hN (fun h' t' c a b _ => ?_) hs ht hsz
  rw [slice_orN x k tk h0 h1]
  exact h h' t' c a b (takeS_len x k h0 h1)
end
theorem ints_step : ∀ (vs : List Value) (a c : Int), (∀ (j : Nat) (v : Value), vs[j]? = some v → ∃ t, v = .int (a + j * c) t) → IntsAre vs (rangeInts a c vs.length)
  | [], a, c, _ => IntsAre.nil
  | v :: r, a, c, h => by
    obtain ⟨t, ht⟩ := h 0 v rfl
    have hv : v = .int a t := by rw [ht]; simp
    subst hv
    have e : rangeInts a c (Value.int a t :: r).length = a :: rangeInts (a + c) c r.length := by
      unfold rangeInts
      rw [List.length_cons, List.range_succ_eq_map, List.map_cons, List.map_map]
      congr 1
      · simp
      · apply List.map_congr_left
        intro i _
        simp only [Function.comp, Nat.succ_eq_add_one, Int.natCast_add, Int.natCast_one, Int.add_mul]
        omega
    rw [e]
    refine IntsAre.cons _ _ (ints_step r (a + c) c fun j v hj => ?_)
    obtain ⟨t', ht'⟩ := h (j + 1) v hj
    refine ⟨t', ht'.trans ?_⟩
    congr 1
    simp only [Int.natCast_add, Int.natCast_one, Int.add_mul]
    omega
theorem size2 (n : Nat) : Builtin.Range.rangeSize 2 (2 * ((n : Int) + 1)) 2 = (n : Int) := by
  unfold Builtin.Range.rangeSize
  rw [if_pos (by decide)]
  split <;> omega
theorem small2 (n : Nat) (h : n ≤ 1000) : Builtin.Range.small 2 (2 * ((n : Int) + 1)) 2 = true := by
  unfold Builtin.Range.small
  rw [size2]
  unfold Builtin.Range.rangeFitsLong
  generalize hn : (n : Int) = z
  have h0 : 0 ≤ z := by omega
  have h1 : z ≤ 1000 := by omega
  clear hn h
  simp only [show (2 : Int) > 0 by decide, if_true, Bool.and_eq_true, Bool.or_eq_true, decide_eq_true_eq, beq_iff_eq]
  omega
section
variable {prog : Program} {w : World} {A : Around} {E : Value → Shared → Prop} {s : Shared} {h₀ : Heap} {L : Addr} {m : Str → Option Value} {news : List (Addr × Obj)} {Q : Value → Shared → Prop}
theorem list_range2 {r : Addr} {b : Int} {n : Nat} {t₀ u₀ v₀ : Tok} (hh : A.handled = none) (F : Fr h₀ L s.heap m) (N : News h₀ L s.heap news) (hr : IsRange s.heap r 2 b 2 t₀ u₀ v₀) (hb : b = 2 * ((n : Int) + 1)) (hz : n ≤ 1000)
    (h : ∀ D us c h' tk, Fr h₀ L h' m → News h₀ L h' ((D, listOf (List.toArray us) c) :: news) → (∀ p ∈ news, p.1 < D) → IntsAre us (rangeInts 2 2 n) → Q (.ref D) { s with heap := h', toks := tk }) :
    wpAny (model prog w) A (call (.type "list") [.ref r]) Q E s := by
  subst hb
  refine call_list_range hh hr (small2 n hz) (size2 n) (by omega) fun h' tk acc c hk hD hI => ?_
  have hD' : h'.get? s.heap.objs.size = some (listOf (List.toArray acc.toList) c) := by
    rw [Array.toArray_toList]
    exact hD
  refine h _ acc.toList c h' tk (F.keeps hk) (news_pushed F N hk hD' rfl) (fun p hp => Heap.lt_size (N p hp).1) ?_
  have hl : acc.toList.length = n := by rw [Array.length_toList]; exact hI.1
  have := ints_step acc.toList 2 2 fun j v hj => hI.2 j v (by rw [← hj, Array.getElem?_toList])
  rw [hl] at this
  exact this
end
theorem fr_kstB {h₀ : Heap} {L : Addr} {h : Heap} {m m' : Str → Option Value} {ps : List (Str × Value)} (F : Fr h₀ L h m') (h1 : ∀ p ∈ ps, m' p.1 = some p.2) (h2 : ∀ z, (∀ p ∈ ps, z ≠ p.1) → m' z = m z) : Fr h₀ L h (kstB m ps) := by
  have em : kstB m ps = m' := by
    funext y
    exact kstB_eq h1 fun hn => (h2 y hn).symm
  rw [em]
  exact F
theorem fr_abs {h₀ : Heap} {L : Addr} {h : Heap} {m : Str → Option Value} (F : Fr h₀ L h m) (ps : List (Str × Value)) (h1 : ∀ p ∈ ps, m p.1 = some p.2) : ∃ u, Fr h₀ L h (kstB u ps) :=
  ⟨m, fr_kstB F h1 fun _ _ => rfl⟩
theorem ints_setB {x : Int} {t : Tok} : ∀ {vs : List Value} {ns : List Int} (_ : IntsAre vs ns) (k : Nat), IntsAre (vs.set k (.int x t)) (ns.set k x)
  | _, _, .nil, _ => .nil
  | _, _, .cons n u h, 0 => .cons x t h
  | _, _, .cons n u h, k + 1 => .cons n u (ints_setB h k)
section
variable {prog : Program} {w : World} {A : Around} {E : Value → Shared → Prop} {s : Shared} {h₀ : Heap} {L D : Addr} {m : Str → Option Value} {post : List (Addr × Obj)} {Q : Unit → Shared → Prop}
theorem ints_setItem {vs : List Value} {ns : List Int} {n : Nat} {k x : Int} {t u : Tok} (F : Fr h₀ L s.heap m) (N : News h₀ L s.heap ((D, listOf vs.toArray n) :: post)) (hb : ∀ p ∈ post, p.1 ≠ D) (hi : IntsAre vs ns) (h0 : 0 ≤ k) (h1 : k < ns.length) (hfit : k < 2 ^ 63)
    (h : ∀ h', Fr h₀ L h' m → News h₀ L h' ((D, listOf (vs.set k.toNat (.int x t)).toArray n) :: post) → IntsAre (vs.set k.toNat (.int x t)) (ns.set k.toNat x) → Q () { s with heap := h' }) :
    wpAny (model prog w) A (setItem (.ref D) (.int k u) (.int x t)) Q E s := by
  have z := N (D, listOf vs.toArray n) (.head _)
  have hl := hi.length
  refine ki_setAt z.1 h0 hfit (by rw [List.size_toArray]; omega) (h _ (F.change (Heap.SameBut.update ..) z.2.1 z.2.2) (ki_turn (pre := []) _ N (fun _ h => nomatch h) hb ?_ ?_) (ints_setB hi _))
  · show vs.toArray.setIfInBounds k.toNat (.int x t) = (vs.set k.toNat (.int x t)).toArray
    apply Array.toList_inj.mp
    simp
  · simp
end
end Mine
end
section
open PySem PySem.W PyProof.Rows PySem.Calls
namespace Mine
structure DP where
  row : List Int
  d : Int
  r : Int
  mi : Int
noncomputable def inner (b : Str) (a : Str) (s : DP) (k : Int) : DP :=
  let d' := s.row.getD k.toNat 0
  let ins := (if d' < s.r then d' else s.r) + 2
  let sub := s.d + subC b (Txt.item a k)
  let res := if sub < ins then sub else ins
  ⟨s.row.set k.toNat res, d', res, if res < s.mi then res else s.mi⟩
noncomputable def inRun (a b : Str) (row : List Int) (k : Int) : DP := (rangeKs 0 a.length).foldl (inner (Txt.item b k) a) ⟨row, k * 2, k * 2, 9223372036854775807⟩
noncomputable def outer (a b : Str) (s : List Int × Int) (k : Int) : List Int × Int := ((inRun a b s.1 k).row, (inRun a b s.1 k).r)
noncomputable def outRun (a b : Str) (n : Nat) : List Int × Int := (rangeKs 0 n).foldl (outer a b) (rangeInts 2 2 a.length, 0)
/-- what the two loops answer, and that no row's least is above 9 -/
noncomputable def CoreIs (a b : Str) (v : Int) : Prop := (outRun a b b.length).2 = v ∧ ∀ j, j < b.length → (inRun a b (outRun a b j).1 j).mi ≤ 9
noncomputable def PreP (x y : Str) (i : Int) : Prop := 0 ≤ i ∧ i ≤ x.length ∧ i ≤ y.length ∧ ∀ j, 0 ≤ j → j < i → Txt.item x j = Txt.item y j
noncomputable def PreD (x y : Str) (i : Int) : Prop := i = x.length ∨ i = y.length ∨ (i < x.length ∧ i < y.length ∧ Txt.item x i ≠ Txt.item y i)
noncomputable def PosP (x y : Str) (i : Int) : Prop := i ≤ 0 ∧ -(x.length : Int) ≤ i ∧ -(y.length : Int) ≤ i ∧ ∀ j, i ≤ j → j < 0 → Txt.item x j = Txt.item y j
noncomputable def PosD (x y : Str) (i : Int) : Prop := i = -(x.length : Int) ∨ i = -(y.length : Int) ∨ (-(x.length : Int) < i ∧ -(y.length : Int) < i ∧ Txt.item x (i - 1) ≠ Txt.item y (i - 1))
/-- what the function answers of the two texts that are left of x and y without what they share ahead and behind -/
noncomputable def LevIs (x2 y2 : Str) (v : Int) : Prop :=
  ((x2.length = 0 ∨ y2.length = 0) → 2 * ((x2.length : Int) + y2.length) = v) ∧
  (x2.length ≠ 0 → y2.length ≠ 0 → (x2.length ≤ y2.length → CoreIs x2 y2 v) ∧ (y2.length < x2.length → CoreIs y2 x2 v))
noncomputable def LevAll (x y : Str) (v : Int) : Prop :=
  ∀ i k, PreP x y i → PreD x y i → PosP (dropS x i.toNat) (dropS y i.toNat) k → PosD (dropS x i.toNat) (dropS y i.toNat) k →
    LevIs (takeS (dropS x i.toNat) ((dropS x i.toNat).length + k).toNat) (takeS (dropS y i.toNat) ((dropS y i.toNat).length + k).toNat) v
theorem rangeKs_succ (n : Nat) : rangeKs 0 (n + 1) = rangeKs 0 n ++ [(n : Int)] := by
  unfold rangeKs
  rw [List.range_succ, List.map_append]
  simp
theorem inner_len (b a : Str) (s : DP) (k : Int) : (inner b a s k).row.length = s.row.length := by
  unfold inner; simp
theorem inner_run_len (b a : Str) : ∀ (l : List Int) (s : DP), (l.foldl (inner b a) s).row.length = s.row.length
  | [], _ => rfl
  | k :: l, s => by rw [List.foldl_cons, inner_run_len b a l, inner_len]
theorem outer_run_len (a b : Str) : ∀ (l : List Int) (s : List Int × Int), (l.foldl (outer a b) s).1.length = s.1.length
  | [], _ => rfl
  | k :: l, s => by
    rw [List.foldl_cons, outer_run_len a b l]
    exact inner_run_len _ _ _ _
theorem outRun_len (a b : Str) (n : Nat) : (outRun a b n).1.length = a.length := by
  unfold outRun
  rw [outer_run_len]
  exact rangeInts_length _ _ _
theorem outRun_succ (a b : Str) (n : Nat) : outRun a b (n + 1) = outer a b (outRun a b n) n := by
  unfold outRun
  rw [rangeKs_succ, List.foldl_append]
  rfl
theorem sub_pos' {a : Nat} {x i : Int} (ea : (a : Int) = x - i) (na : (a : Int) ≠ 0) : i < x := by omega
theorem toNat_sub_lt {x : Nat} {i : Int} (h0 : 0 ≤ i) (h : i < x) : x - (i + 1).toNat < x - i.toNat := by
  obtain ⟨n, rfl⟩ := Int.eq_ofNat_of_zero_le h0
  show x - (n + 1) < x - n
  exact Nat.sub_lt_sub_left (Int.ofNat_lt.mp h) (Nat.lt_succ_self n)
theorem pre_next {x y : Str} {a b : Nat} {i : Int} (h : PreP x y i) (ea : (a : Int) = x.length - i) (na : (a : Int) ≠ 0) (eb : (b : Int) = y.length - i) (nb : (b : Int) ≠ 0) : i < x.length ∧ i < y.length ∧ x.length - (i + 1).toNat < x.length - i.toNat :=
  ⟨sub_pos' ea na, sub_pos' eb nb, toNat_sub_lt h.1 (sub_pos' ea na)⟩
theorem pre_step {x y : Str} {i : Int} (h : PreP x y i) (zx : i < x.length) (zy : i < y.length) (e : Txt.item x i = Txt.item y i) : PreP x y (i + 1) := by
  refine ⟨?_, ?_, ?_, fun j ha hb => ?_⟩
  · have := h.1; omega
  · omega
  · omega
  · by_cases hj : j < i
    · exact h.2.2.2 j ha hj
    · have : j = i := by omega
      subst this
      exact e
theorem add_pos' {a : Nat} {x k : Int} (ea : (a : Int) = x + k) (na : (a : Int) ≠ 0) : -x < k := by omega
theorem pos_next {x y : Str} {a b : Nat} {k : Int} (_h : PosP x y k) (ea : (a : Int) = x.length + k) (na : (a : Int) ≠ 0) (eb : (b : Int) = y.length + k) (nb : (b : Int) ≠ 0) : -(x.length : Int) < k ∧ -(y.length : Int) < k ∧ ((x.length : Int) + (k - 1)).toNat < ((x.length : Int) + k).toNat :=
  ⟨add_pos' ea na, add_pos' eb nb, by have := add_pos' ea na; clear ea eb na nb; omega⟩
theorem pos_step {x y : Str} {k : Int} (h : PosP x y k) (zx : -(x.length : Int) < k) (zy : -(y.length : Int) < k) (e : Txt.item x (k - 1) = Txt.item y (k - 1)) : PosP x y (k - 1) := by
  refine ⟨?_, ?_, ?_, fun j ha hb => ?_⟩
  · have := h.1; omega
  · omega
  · omega
  · by_cases hj : k ≤ j
    · exact h.2.2.2 j hj hb
    · have : j = k - 1 := by omega
      subst this
      exact e
theorem gone_pre {a y : Nat} {i : Int} (e : (a : Int) = y - i) (z : (a : Int) = 0) : i = y := by omega
theorem gone_pos {a y : Nat} {i : Int} (e : (a : Int) = y + i) (z : (a : Int) = 0) : i = -(y : Int) := by omega
theorem sw_f {x y x1 y1 a b : Nat} {i k : Int} (hx : x ≤ 8) (hy : y ≤ 8) (hl1 : x ≤ y + 1) (hl2 : y ≤ x + 1) (i0 : 0 ≤ i) (e1 : (x1 : Int) = x - i) (e2 : (y1 : Int) = y - i) (k0 : k ≤ 0) (e3 : (a : Int) = x1 + k) (n3 : (a : Int) ≠ 0) (e4 : (b : Int) = y1 + k) (n4 : (b : Int) ≠ 0) (h : a ≤ b) : a ≤ 8 ∧ b ≤ 8 ∧ a ≠ 0 ∧ b ≠ 0 ∧ b ≤ a + 1 ∧ a ≤ b :=
  ⟨by omega, by omega, fun z => n3 (congrArg Nat.cast z), fun z => n4 (congrArg Nat.cast z), by omega, h⟩
theorem idx_ok {j : Int} {p n r : Nat} (hj : j = 0 + (p : Int)) (hlt : p < ((n : Int) - 0).toNat) (hr : r = n) (hn : n ≤ 8) : 0 ≤ j ∧ j < r ∧ j < n ∧ j < 2 ^ 63 ∧ j < 9223372036854775808 := by
  have e : j = (p : Int) := hj.trans (Int.zero_add _)
  have l : p < n := by rwa [Int.sub_zero, Int.toNat_natCast] at hlt
  subst e hr
  have q : (p : Int) < 9223372036854775808 := Int.lt_of_lt_of_le (Int.ofNat_lt.mpr (Nat.lt_of_lt_of_le l hn)) (by decide)
  exact ⟨Int.natCast_nonneg _, Int.ofNat_lt.mpr l, Int.ofNat_lt.mpr l, q, q⟩
end Mine
end
section
open PySem PySem.W PyProof.Rows PySem.Calls
namespace Mine
set_option maxRecDepth 100000
set_option maxHeartbeats 8000000
set_option linter.unusedVariables false
noncomputable def WhEnd (h₀ : Heap) (L : Addr) (s : Shared) (mp : Str → Option Value) (news : List (Addr × Obj)) (D : Prop) (s₂ : Shared) : Prop :=
  D ∧ ∃ h' tk', s₂ = { s with heap := h', toks := tk' } ∧ Fr h₀ L h' mp ∧ News h₀ L h' news
section
variable {prog : Program} {w : World} {A : Around} {E : Value → Shared → Prop} {Q : Flow → Shared → Prop} {s : Shared} {env : Env} {h₀ : Heap} {L : Addr}
theorem while_cut {σ : Type} {test : PySem.Expr} {body : List Stmt} {pos : Pos} {m₀ : Str → Option Value} (Led : σ → List (Addr × Obj)) (ps : σ → List (Str × Value)) (stored : List Str) (P : σ → Prop) (μ : σ → Nat) (D : σ → Prop) (c₀ : σ)
    (F : Fr h₀ L s.heap m₀) (N : News h₀ L s.heap (Led c₀)) (hk : ∀ p ∈ ps c₀, m₀ p.1 = some p.2) (hp : P c₀)
    (turn : ∀ (c : σ) (u : Str → Option Value) h tk, P c → Fr h₀ L h (kstB (fun z => if stored.contains z then u z else m₀ z) (ps c)) → News h₀ L h (Led c) →
      wpAny (model prog w) A (isTrue test env (eval test env)) (fun b s₂ =>
        if b = true then wpAny (model prog w) A (execs body env) (KswPost h₀ L s Led ps (fun _ => True) stored m₀ P μ Q c) E s₂ else WhEnd h₀ L s (kstB (fun z => if stored.contains z then u z else m₀ z) (ps c)) (Led c) (D c) s₂) E { s with heap := h, toks := tk })
    (done : ∀ (c : σ) (u : Str → Option Value) h tk, P c → D c → Fr h₀ L h (kstB (fun z => if stored.contains z then u z else m₀ z) (ps c)) → News h₀ L h (Led c) → Q .next { s with heap := h, toks := tk })
    (hE : PassesOwn (model prog w) A env E := by passes_own) :
    wpAny (model prog w) A (exec (.While test body [] pos) env) Q E s := by
  refine ksw_while Led ps (fun _ => True) stored P μ c₀ F N trivial hk hp (fun c u h tk _ hP F₁ N₁ => ?_) hE
  refine wpAny_mono (turn c u h tk hP F₁ N₁) (fun b s₂ q => ?_) fun _ _ e => e
  cases b with
  | true => exact q
  | false =>
    rw [if_neg Bool.false_ne_true] at q ⊢
    obtain ⟨d, h', tk', rfl, F₂, N₂⟩ := q
    exact done c u h' tk' hP d F₂ N₂
end
/-- goals at which my walks stop (see mac.txt) -/
theorem at_while {M : Model} {A : Around} {E : Value → Shared → Prop} {Q : Flow → Shared → Prop} {s : Shared} {env : Env} {t : PySem.Expr} {b o : List Stmt} {p : Pos} (h : wpAny M A (exec (.While t b o p) env) Q E s) : wpAny M A (exec (.While t b o p) env) Q E s := h
theorem at_for {M : Model} {A : Around} {E : Value → Shared → Prop} {Q : Flow → Shared → Prop} {s : Shared} {env : Env} {t i : PySem.Expr} {b o : List Stmt} {p : Pos} (h : wpAny M A (exec (.For t i b o p) env) Q E s) : wpAny M A (exec (.For t i b o p) env) Q E s := h
theorem at_iter {M : Model} {A : Around} {E : Value → Shared → Prop} {Q : Value → Shared → Prop} {s : Shared} {a : Addr} (h : wpAny M A (pyIter (.ref a)) Q E s) : wpAny M A (pyIter (.ref a)) Q E s := h
theorem at_call {M : Model} {A : Around} {E : Value → Shared → Prop} {Q : Value → Shared → Prop} {s : Shared} {a : Addr} {vs : List Value} (h : wpAny M A (call (.ref a) vs) Q E s) : wpAny M A (call (.ref a) vs) Q E s := h
theorem at_type {M : Model} {A : Around} {E : Value → Shared → Prop} {Q : Value → Shared → Prop} {s : Shared} {a : String} {b : Addr} (h : wpAny M A (call (.type a) [.ref b]) Q E s) : wpAny M A (call (.type a) [.ref b]) Q E s := h
theorem at_sub {M : Model} {A : Around} {E : Value → Shared → Prop} {Q : Value → Shared → Prop} {s : Shared} {a : Addr} {k : Int} {u : Tok} {x y : PySem.Expr} (h : wpAny M A (subscriptTail x y (.ref a) (.int k u)) Q E s) : wpAny M A (subscriptTail x y (.ref a) (.int k u)) Q E s := h
theorem at_bool {M : Model} {A : Around} {E : Value → Shared → Prop} {Q : Value → Shared → Prop} {s : Shared} {env : Env} {o : PySem.BoolOp} {vs : List PySem.Expr} {p : Pos} (h : wpAny M A (eval (.BoolOp o vs p) env) Q E s) : wpAny M A (eval (.BoolOp o vs p) env) Q E s := h
theorem at_slice {M : Model} {A : Around} {E : Value → Shared → Prop} {Q : Value → Shared → Prop} {s : Shared} {a b : Addr} {x y : PySem.Expr} (h : wpAny M A (subscriptTail x y (.ref a) (.ref b)) Q E s) : wpAny M A (subscriptTail x y (.ref a) (.ref b)) Q E s := h
theorem at_acomp {M : Model} {A : Around} {E : Value → Shared → Prop} {Q : Flow → Shared → Prop} {s : Shared} {env : Env} {t : List PySem.Expr} {e : PySem.Expr} {g : List Comprehension} {sc : Scope} {p q : Pos} (h : wpAny M A (exec (.Assign t (.ListComp e g sc p) q) env) Q E s) : wpAny M A (exec (.Assign t (.ListComp e g sc p) q) env) Q E s := h
theorem at_ksw {h₀ : Heap} {L : Addr} {s : Shared} {σ : Type} {Led : σ → List (Addr × Obj)} {ps : σ → List (Str × Value)} {Facts : σ → Prop} {stored : List Str} {m₀ : Str → Option Value} {P : σ → Prop} {μ : σ → Nat} {c : σ} {s₂ : Shared} (h : KswEnd h₀ L s Led ps Facts stored m₀ P μ c s₂) : KswEnd h₀ L s Led ps Facts stored m₀ P μ c s₂ := h
theorem at_wh {h₀ : Heap} {L : Addr} {s : Shared} {mp : Str → Option Value} {news : List (Addr × Obj)} {D : Prop} {s₂ : Shared} (h : WhEnd h₀ L s mp news D s₂) : WhEnd h₀ L s mp news D s₂ := h
section
variable {prog : Program} {w : World} {A : Around} {h₀ : Heap} {L : Addr} {m : Str → Option Value} {env : Env}
theorem at_src {elt : PySem.Expr} {x : Str} {scope : Scope} {cl : List (Str × Addr)} {Fin : Shared → List Value → List (Addr × Obj) → Prop} {v : Value} {s₁ : Shared} (h : LCg.CompSrc prog w A h₀ L m env elt x scope cl Fin v s₁) : LCg.CompSrc prog w A h₀ L m env elt x scope cl Fin v s₁ := h
theorem at_end {I C D : Addr} {s₁ : Shared} {oI oC oD : Obj} {S : List (Addr × Obj) → Prop} {rest : Value → List (Addr × Obj) → Prop} {y : Value} {s₂ : Shared} (h : LCg.CompEnd h₀ L m s₁ I oI C oC D oD S rest y s₂) : LCg.CompEnd h₀ L m s₁ I oI C oC D oD S rest y s₂ := h
theorem at_srcT {ct elt : PySem.Expr} {x : Str} {scope : Scope} {cl : List (Str × Addr)} {Fin : Shared → List Value → List (Addr × Obj) → Prop} {v : Value} {s₁ : Shared} (h : LCt.CompSrcT prog w A h₀ L m env ct elt x scope cl Fin v s₁) : LCt.CompSrcT prog w A h₀ L m env ct elt x scope cl Fin v s₁ := h
theorem at_comp {M : Model} {E : Value → Shared → Prop} {Q : Value → Shared → Prop} {s : Shared} {e : PySem.Expr} {g : List Comprehension} {sc : Scope} {p : Pos} (h : wpAny M A (eval (.ListComp e g sc p) env) Q E s) : wpAny M A (eval (.ListComp e g sc p) env) Q E s := h
theorem at_rest {elt : PySem.Expr} {x : Str} {scope : Scope} {cl : List (Str × Addr)} {s : Shared} {S : List (Addr × Obj) → Prop} {P : Nat → Value → Prop} {Fin : List Value → List (Addr × Obj) → Prop} {n i : Nat} {ys : List Value} {news : List (Addr × Obj)} (h : LCg.CompRest prog w A h₀ L m env elt x scope cl s S P Fin n i ys news) : LCg.CompRest prog w A h₀ L m env elt x scope cl s S P Fin n i ys news := h
theorem at_finE {s : Shared} {Q : Value → Shared → Prop} {ys : List Value} {news : List (Addr × Obj)} (h : LCg.FinE h₀ L m s Q ys news) : LCg.FinE h₀ L m s Q ys news := h
theorem at_finA {s : Shared} {y : Str} {Q : Flow → Shared → Prop} {ys : List Value} {news : List (Addr × Obj)} (h : LCg.FinA h₀ L m s y Q ys news) : LCg.FinA h₀ L m s y Q ys news := h
theorem at_strs {M : Model} {E : Value → Shared → Prop} {Q : Value → Shared → Prop} {s : Shared} {a : Str} {t : Tok} {b : Addr} {x y : PySem.Expr} (h : wpAny M A (subscriptTail x y (.str a t) (.ref b)) Q E s) : wpAny M A (subscriptTail x y (.str a t) (.ref b)) Q E s := h
theorem at_bin {M : Model} {E : Value → Shared → Prop} {Q : Value → Shared → Prop} {s : Shared} {o : Operator} {a : Str} {t : Tok} {v : Value} (h : wpAny M A (binaryOp o (.str a t) v) Q E s) : wpAny M A (binaryOp o (.str a t) v) Q E s := h
theorem at_set {M : Model} {E : Value → Shared → Prop} {Q : Unit → Shared → Prop} {s : Shared} {a : Addr} {v u : Value} (h : wpAny M A (setItem (.ref a) v u) Q E s) : wpAny M A (setItem (.ref a) v u) Q E s := h
end
/-- what is behind a statement, put away under a letter (the proof's terms stay small) -/
noncomputable def Post {α : Type} (Q Q' : α → Shared → Prop) : Prop := ∀ v s, Q v s → Q' v s
theorem abs_any {α : Type} {M : Model} {A : Around} {E : Value → Shared → Prop} {x : Sem α} {Q : α → Shared → Prop} {s : Shared} (h : ∀ Q', Post Q Q' → wpAny M A x Q' E s) : wpAny M A x Q E s := h Q fun _ _ h => h
theorem abs_st {M : Model} {A : Around} {E : Value → Shared → Prop} {Q : Flow → Shared → Prop} {s : Shared} {env : Env} {st : Stmt} (h : ∀ Q', Post Q Q' → wpAny M A (exec st env) Q' E s) : wpAny M A (exec st env) Q E s := h Q fun _ _ h => h
theorem use_post {α : Type} {Q Q' : α → Shared → Prop} {v : α} {s : Shared} (h : Post Q Q') (g : Q v s) : Q' v s := h v s g
end Mine
end
section
open PySem PySem.W PyProof.Rows PySem.Calls
namespace Mine
set_option maxRecDepth 100000
set_option maxHeartbeats 8000000
set_option linter.unusedVariables false
inductive SwEnd (h₀ : Heap) (L : Addr) (s : Shared) (ps : List (Str × Value)) (news : List (Addr × Obj)) (x2 y2 : Str) : Flow → Shared → Prop
  | mk (A B : Str) (tA tB : Tok) (h' : Heap) (tk' : Nat) (hAB : A = x2 ∧ B = y2 ∧ x2.length ≤ y2.length ∨ A = y2 ∧ B = x2 ∧ y2.length < x2.length) (F : ∃ u, Fr h₀ L h' (kstB u (("a", .str A tA) :: ("b", .str B tB) :: ps))) (N : News h₀ L h' news) : SwEnd h₀ L s ps news x2 y2 .next { s with heap := h', toks := tk' }
theorem sw_cut {prog : Program} {w : World} {A : Around} {E : Value → Shared → Prop} {Q : Flow → Shared → Prop} {s : Shared} {env : Env} {h₀ : Heap} {L : Addr} {st : Stmt} {m₀ : Str → Option Value} {news : List (Addr × Obj)} (x2 y2 : Str) (ps : List (Str × Value)) (_F : Fr h₀ L s.heap m₀) (_N : News h₀ L s.heap news)
    (h1 : wpAny (model prog w) A (exec st env) (SwEnd h₀ L s ps news x2 y2) E s)
    (h2 : ∀ (a1 b1 : Str) (tA tB : Tok) (h' : Heap) (tk' : Nat), (a1 = x2 ∧ b1 = y2 ∧ x2.length ≤ y2.length ∨ a1 = y2 ∧ b1 = x2 ∧ y2.length < x2.length) → (∃ u, Fr h₀ L h' (kstB u (("a", .str a1 tA) :: ("b", .str b1 tB) :: ps))) → News h₀ L h' news → Q .next { s with heap := h', toks := tk' }) :
    wpAny (model prog w) A (exec st env) Q E s := by
  refine wpAny_mono h1 (fun f s₂ q => ?_) (fun _ _ e => e)
  obtain ⟨a1, b1, tA, tB, h', tk', hAB, F, N⟩ := q
  exact h2 a1 b1 tA tB h' tk' hAB F N
structure OSt where
  vs : List Value
  ns : List Int
  cap : Nat
  r : Int
  tr : Tok
structure ISt where
  vs : List Value
  cap : Nat
  td : Tok
  tr : Tok
  tm : Tok
  dp : DP
theorem hD_of {news own own1 : List (Addr × Obj)} {D : Addr} {o o1 : Obj} (h : ∀ p ∈ news, p.1 < D) (h1 : OwnOff own (((D, o) :: news).map (·.1))) (h2 : OwnOff own1 (((D, o1) :: (news ++ own)).map (·.1))) : ∀ p ∈ news ++ own ++ own1, p.1 ≠ D := by
  intro p hp
  rcases List.mem_append.mp hp with hp | hp
  · rcases List.mem_append.mp hp with hp | hp
    · exact Nat.ne_of_lt (h p hp)
    · exact h1 p hp D (.head _)
  · exact h2 p hp D (.head _)
theorem says_lev (w : World) (x y : Str) (v : Int) (tx ty tm : Tok) (news : List (Addr × Obj)) (hv : LevAll x y v) (hx : x.length ≤ 8) (hy : y.length ≤ 8) (hxy : (x == y) = false) (hlen : x.length ≤ y.length + 1 ∧ y.length ≤ x.length + 1) : Says w 28 8 [.str x tx, .str y ty, .int 9 tm] news (fun r tl => tl = [] ∧ ∃ t, r = .int v t) := by
  w_on
  w_top off
  intro loose mean mg mb dp un gd cn cs a ccd cl outer A₀ base h₀ L m s Q E B F X N T hk hd hu hret
  obtain ⟨hlen1, hlen2⟩ := hlen
  revert X; k_fill; intro X
  refine wpAny_call ?_
  k_dflt cell_enter
  (repeat' ((fail_if_success (with_reducible first | refine at_while ?_ | refine at_for ?_ | refine at_iter ?_ | refine at_ksw ?_ | refine at_wh ?_ | show SwEnd _ _ _ _ _ _ _ _ _ | show wpAny _ _ (exec (Stmt.If _ [Stmt.Assign [Expr.Tuple _ _ _] _ _] _ _) _) _ _ _ | show InvPostN _ _ _ _ _ _ _ _ _)); (first | (with_reducible first | fail "none") | ((with_reducible refine at_strs ?_); (with_reducible rename Fr _ _ _ _ => F'); (with_reducible rename News _ _ _ _ => N'); (first | ((refine slice_post (hsz := ?hsz) (s := ⟨_, _, _, _, _⟩) F' N' (by omega) (by omega) ?_); (case hsz => size_fits); intro _ _ _ _ _ _) | ((refine slice_pre (hsz := ?hsz) (s := ⟨_, _, _, _, _⟩) F' N' (by omega) (by omega) ?_); (case hsz => size_fits); intro _ _ _ _ _ _)); try dsimp only) | ((with_reducible refine at_type ?_); (with_reducible rename Fr _ _ _ _ => F'); (with_reducible rename News _ _ _ _ => N'); (with_reducible rename IsRange _ _ _ _ _ _ _ _ => rgX); (with_unfolding_all refine' list_range2 (n := ?n) ?k0 F' N' ?k3 ?k4 ?k5 ?_; (case k0 => rfl); (case k3 => exact rgX); (case k4 => rfl); (case k5 => omega)); clear F' N' rgX; intro D' vs' c' h' tk' F' N' l1 hI'; try dsimp only) | ((with_reducible show wpAny _ _ (call (Value.ref 21) [Value.str _ _, Value.str _ _]) _ _ _); (refine' says_use (says_sub _ _ _ _ _ _ ?h1 ?h2) ?k1 ?k2 ?k3 ?k4 ?k5 ?kK ?kd ?ku ?_; (case k1 => k_asm); (case k2 => k_asm); (case k3 => k_asm); (case k4 => k_asm); (case k5 => k_asm); (case kK => rfl); (case h1 => omega); (case h2 => omega); (case kd => (dsimp only [Around.deeper]; omega)); (case ku => (dsimp only [Around.deeper]; omega))); intro r9 tl9 h9 tk9 F9 N9 hl9 hR9; (obtain ⟨e9, t9, e8⟩ := hR9); subst e9; subst e8; clear hl9; (try simp only [List.nil_append] at N9); (try dsimp only); (try k_fold)) | ((with_reducible refine at_sub ?_); (with_unfolding_all refine' item_anyK ?k1 ?k2 ?k3 ?k4 ?k5 ?_ ?k6; (case k1 => is_list); (case k2 => with_reducible assumption); (case k3 => first | assumption | omega); (case k4 => first | assumption | omega); (case k5 => first | assumption | omega); (case k6 => with_unfolding_all rfl)); intro _; try dsimp only) | ((with_reducible refine at_set ?_); (with_reducible rename Fr _ _ _ _ => F'); (with_reducible rename News _ _ _ _ => N'); (refine' ints_setItem F' N' ?k2 ?k3 ?k4 ?k5 ?k6 ?_; (case k2 => assumption); (case k3 => assumption); (case k4 => first | assumption | omega); (case k5 => first | assumption | omega); (case k6 => first | assumption | omega)); clear F' N'; intro h' F' N' hIs'; try dsimp only) | ((with_reducible refine at_bool ?_); with_unfolding_all (refine or_none (fun Q' hq => ld (by assumption) (by rfl) hq) ?_); try dsimp only) | ((with_reducible refine abs_st ?_); intro _ _; walk1; try dsimp only) | ((with_reducible refine use_post (by assumption) ?_); try dsimp only) | (k_unfold; (try dsimp only)) | (k_end; wrow_close) | (walk1; try dsimp only) | (dsimp only; walk1) | (leave1; walk_say "STEP leave1"; try dsimp only) | fail "no step")))
  · rename Fr _ _ _ _ => lF
    rename News _ _ _ _ => lN
    obtain ⟨u0, lF⟩ := fr_abs lF [("pre", .int 0 _), ("a", .str x tx), ("b", .str y ty), ("max_cost", .int 9 tm)] (by kst_all)
    dsimp only [kstB] at lF
    refine' while_cut (σ := Int × Tok) (fun _ => news) (fun c => [("pre", Value.int c.1 c.2)]) [] (fun c => PreP x y c.1) (fun c => x.length - c.1.toNat) (fun c => PreD x y c.1) (0, _) lF lN ?kk ?kp ?turn ?done
    case kk => intro p hp; rcases List.mem_singleton.mp hp with rfl; rfl
    case kp => exact ⟨Int.le_refl 0, Int.natCast_nonneg _, Int.natCast_nonneg _, fun j a b => absurd b (by omega)⟩
    case turn =>
      clear lF lN
      rintro ⟨i, ti⟩ u h tk hP lF lN
      have h0 := hP.1
      have h1 := hP.2.1
      have h2 := hP.2.2.1
      dsimp only at h0 h1 h2 lF
      refine abs_any fun _ _ => ?_
      (repeat' ((fail_if_success (with_reducible first | refine at_while ?_ | refine at_for ?_ | refine at_iter ?_ | refine at_ksw ?_ | refine at_wh ?_ | show SwEnd _ _ _ _ _ _ _ _ _ | show wpAny _ _ (exec (Stmt.If _ [Stmt.Assign [Expr.Tuple _ _ _] _ _] _ _) _) _ _ _ | show InvPostN _ _ _ _ _ _ _ _ _)); (first | (with_reducible first | fail "none") | ((with_reducible refine at_strs ?_); (with_reducible rename Fr _ _ _ _ => F'); (with_reducible rename News _ _ _ _ => N'); (first | ((refine slice_post (hsz := ?hsz) (s := ⟨_, _, _, _, _⟩) F' N' (by omega) (by omega) ?_); (case hsz => size_fits); intro _ _ _ _ _ _) | ((refine slice_pre (hsz := ?hsz) (s := ⟨_, _, _, _, _⟩) F' N' (by omega) (by omega) ?_); (case hsz => size_fits); intro _ _ _ _ _ _)); try dsimp only) | ((with_reducible refine at_type ?_); (with_reducible rename Fr _ _ _ _ => F'); (with_reducible rename News _ _ _ _ => N'); (with_reducible rename IsRange _ _ _ _ _ _ _ _ => rgX); (with_unfolding_all refine' list_range2 (n := ?n) ?k0 F' N' ?k3 ?k4 ?k5 ?_; (case k0 => rfl); (case k3 => exact rgX); (case k4 => rfl); (case k5 => omega)); clear F' N' rgX; intro D' vs' c' h' tk' F' N' l1 hI'; try dsimp only) | ((with_reducible show wpAny _ _ (call (Value.ref 21) [Value.str _ _, Value.str _ _]) _ _ _); (refine' says_use (says_sub _ _ _ _ _ _ ?h1 ?h2) ?k1 ?k2 ?k3 ?k4 ?k5 ?kK ?kd ?ku ?_; (case k1 => k_asm); (case k2 => k_asm); (case k3 => k_asm); (case k4 => k_asm); (case k5 => k_asm); (case kK => rfl); (case h1 => omega); (case h2 => omega); (case kd => (dsimp only [Around.deeper]; omega)); (case ku => (dsimp only [Around.deeper]; omega))); intro r9 tl9 h9 tk9 F9 N9 hl9 hR9; (obtain ⟨e9, t9, e8⟩ := hR9); subst e9; subst e8; clear hl9; (try simp only [List.nil_append] at N9); (try dsimp only); (try k_fold)) | ((with_reducible refine at_sub ?_); (with_unfolding_all refine' item_anyK ?k1 ?k2 ?k3 ?k4 ?k5 ?_ ?k6; (case k1 => is_list); (case k2 => with_reducible assumption); (case k3 => first | assumption | omega); (case k4 => first | assumption | omega); (case k5 => first | assumption | omega); (case k6 => with_unfolding_all rfl)); intro _; try dsimp only) | ((with_reducible refine at_set ?_); (with_reducible rename Fr _ _ _ _ => F'); (with_reducible rename News _ _ _ _ => N'); (refine' ints_setItem F' N' ?k2 ?k3 ?k4 ?k5 ?k6 ?_; (case k2 => assumption); (case k3 => assumption); (case k4 => first | assumption | omega); (case k5 => first | assumption | omega); (case k6 => first | assumption | omega)); clear F' N'; intro h' F' N' hIs'; try dsimp only) | ((with_reducible refine at_bool ?_); with_unfolding_all (refine or_none (fun Q' hq => ld (by assumption) (by rfl) hq) ?_); try dsimp only) | ((with_reducible refine abs_st ?_); intro _ _; walk1; try dsimp only) | ((with_reducible refine use_post (by assumption) ?_); try dsimp only) | (k_unfold; (try dsimp only)) | (k_end; wrow_close) | (walk1; try dsimp only) | (dsimp only; walk1) | (leave1; walk_say "STEP leave1"; try dsimp only) | fail "no step")))
      · rename Fr _ _ _ _ => eF
        rename News _ _ _ _ => eN
        have z := pre_next hP (by assumption) (by assumption) (by assumption) (by assumption)
        refine' ksw_end (i + 1, _) eF eN (fun p hp => hp) trivial ?k1 ?k2 ?k3 ?k4
        case k1 => intro p hp; rcases List.mem_singleton.mp hp with rfl; rfl
        case k2 => (intro z h2' h3'; have hz := h2' _ (List.mem_singleton.mpr rfl); dsimp only at hz; rw [if_neg hz]; exact if_neg hz)
        case k3 => exact pre_step hP z.1 z.2.1 (eq_of_beq (by assumption))
        case k4 => exact z.2.2
      all_goals (refine ⟨?_, _, _, rfl, by assumption, by assumption⟩; unfold PreD; (try dsimp only))
      · have z := pre_next hP (by assumption) (by assumption) (by assumption) (by assumption)
        exact .inr (.inr ⟨z.1, z.2.1, beq_eq_false_iff_ne.mp (by assumption)⟩)
      · exact .inr (.inl (by first | exact gone_pre (by assumption) (by assumption) | omega))
      · exact .inl (by first | exact gone_pre (by assumption) (by assumption) | omega)
    case done =>
      clear lF lN
      rintro ⟨i, ti⟩ u h tk ⟨h0, h1, h2, h3⟩ hD lF lN
      dsimp only at h0 h1 h2 h3 lF hD
      dsimp only
      (repeat' ((fail_if_success (with_reducible first | refine at_while ?_ | refine at_for ?_ | refine at_iter ?_ | refine at_ksw ?_ | refine at_wh ?_ | show SwEnd _ _ _ _ _ _ _ _ _ | show wpAny _ _ (exec (Stmt.If _ [Stmt.Assign [Expr.Tuple _ _ _] _ _] _ _) _) _ _ _ | show InvPostN _ _ _ _ _ _ _ _ _)); (first | (with_reducible first | fail "none") | ((with_reducible refine at_strs ?_); (with_reducible rename Fr _ _ _ _ => F'); (with_reducible rename News _ _ _ _ => N'); (first | ((refine slice_post (hsz := ?hsz) (s := ⟨_, _, _, _, _⟩) F' N' (by omega) (by omega) ?_); (case hsz => size_fits); intro _ _ _ _ _ _) | ((refine slice_pre (hsz := ?hsz) (s := ⟨_, _, _, _, _⟩) F' N' (by omega) (by omega) ?_); (case hsz => size_fits); intro _ _ _ _ _ _)); try dsimp only) | ((with_reducible refine at_type ?_); (with_reducible rename Fr _ _ _ _ => F'); (with_reducible rename News _ _ _ _ => N'); (with_reducible rename IsRange _ _ _ _ _ _ _ _ => rgX); (with_unfolding_all refine' list_range2 (n := ?n) ?k0 F' N' ?k3 ?k4 ?k5 ?_; (case k0 => rfl); (case k3 => exact rgX); (case k4 => rfl); (case k5 => omega)); clear F' N' rgX; intro D' vs' c' h' tk' F' N' l1 hI'; try dsimp only) | ((with_reducible show wpAny _ _ (call (Value.ref 21) [Value.str _ _, Value.str _ _]) _ _ _); (refine' says_use (says_sub _ _ _ _ _ _ ?h1 ?h2) ?k1 ?k2 ?k3 ?k4 ?k5 ?kK ?kd ?ku ?_; (case k1 => k_asm); (case k2 => k_asm); (case k3 => k_asm); (case k4 => k_asm); (case k5 => k_asm); (case kK => rfl); (case h1 => omega); (case h2 => omega); (case kd => (dsimp only [Around.deeper]; omega)); (case ku => (dsimp only [Around.deeper]; omega))); intro r9 tl9 h9 tk9 F9 N9 hl9 hR9; (obtain ⟨e9, t9, e8⟩ := hR9); subst e9; subst e8; clear hl9; (try simp only [List.nil_append] at N9); (try dsimp only); (try k_fold)) | ((with_reducible refine at_sub ?_); (with_unfolding_all refine' item_anyK ?k1 ?k2 ?k3 ?k4 ?k5 ?_ ?k6; (case k1 => is_list); (case k2 => with_reducible assumption); (case k3 => first | assumption | omega); (case k4 => first | assumption | omega); (case k5 => first | assumption | omega); (case k6 => with_unfolding_all rfl)); intro _; try dsimp only) | ((with_reducible refine at_set ?_); (with_reducible rename Fr _ _ _ _ => F'); (with_reducible rename News _ _ _ _ => N'); (refine' ints_setItem F' N' ?k2 ?k3 ?k4 ?k5 ?k6 ?_; (case k2 => assumption); (case k3 => assumption); (case k4 => first | assumption | omega); (case k5 => first | assumption | omega); (case k6 => first | assumption | omega)); clear F' N'; intro h' F' N' hIs'; try dsimp only) | ((with_reducible refine at_bool ?_); with_unfolding_all (refine or_none (fun Q' hq => ld (by assumption) (by rfl) hq) ?_); try dsimp only) | ((with_reducible refine abs_st ?_); intro _ _; walk1; try dsimp only) | ((with_reducible refine use_post (by assumption) ?_); try dsimp only) | (k_unfold; (try dsimp only)) | (k_end; wrow_close) | (walk1; try dsimp only) | (dsimp only; walk1) | (leave1; walk_say "STEP leave1"; try dsimp only) | fail "no step")))
      rename Fr _ _ _ _ => lF
      rename News _ _ _ _ => lN
      generalize hx1 : dropS x i.toNat = x1 at *
      generalize hy1 : dropS y i.toNat = y1 at *
      obtain ⟨u0, lF⟩ := fr_abs lF [("post", .int 0 _), ("a", .str x1 _), ("b", .str y1 _), ("max_cost", .int 9 tm)] (by kst_all)
      dsimp only [kstB] at lF
      refine' while_cut (σ := Int × Tok) (fun _ => news) (fun c => [("post", Value.int c.1 c.2)]) [] (fun c => PosP x1 y1 c.1) (fun c => (x1.length + c.1).toNat) (fun c => PosD x1 y1 c.1) (0, _) lF lN ?kk ?kp ?turn ?done
      case kk => intro p hp; rcases List.mem_singleton.mp hp with rfl; rfl
      case kp => exact ⟨Int.le_refl 0, by omega, by omega, fun j a b => absurd b (by omega)⟩
      case turn =>
        clear lF lN
        rintro ⟨k, tk'⟩ u h tk hP lF lN
        have g0 := hP.1
        have g1 := hP.2.1
        have g2 := hP.2.2.1
        dsimp only at g0 g1 g2 lF
        refine abs_any fun _ _ => ?_
        (repeat' ((fail_if_success (with_reducible first | refine at_while ?_ | refine at_for ?_ | refine at_iter ?_ | refine at_ksw ?_ | refine at_wh ?_ | show SwEnd _ _ _ _ _ _ _ _ _ | show wpAny _ _ (exec (Stmt.If _ [Stmt.Assign [Expr.Tuple _ _ _] _ _] _ _) _) _ _ _ | show InvPostN _ _ _ _ _ _ _ _ _)); (first | (with_reducible first | fail "none") | ((with_reducible refine at_strs ?_); (with_reducible rename Fr _ _ _ _ => F'); (with_reducible rename News _ _ _ _ => N'); (first | ((refine slice_post (hsz := ?hsz) (s := ⟨_, _, _, _, _⟩) F' N' (by omega) (by omega) ?_); (case hsz => size_fits); intro _ _ _ _ _ _) | ((refine slice_pre (hsz := ?hsz) (s := ⟨_, _, _, _, _⟩) F' N' (by omega) (by omega) ?_); (case hsz => size_fits); intro _ _ _ _ _ _)); try dsimp only) | ((with_reducible refine at_type ?_); (with_reducible rename Fr _ _ _ _ => F'); (with_reducible rename News _ _ _ _ => N'); (with_reducible rename IsRange _ _ _ _ _ _ _ _ => rgX); (with_unfolding_all refine' list_range2 (n := ?n) ?k0 F' N' ?k3 ?k4 ?k5 ?_; (case k0 => rfl); (case k3 => exact rgX); (case k4 => rfl); (case k5 => omega)); clear F' N' rgX; intro D' vs' c' h' tk' F' N' l1 hI'; try dsimp only) | ((with_reducible show wpAny _ _ (call (Value.ref 21) [Value.str _ _, Value.str _ _]) _ _ _); (refine' says_use (says_sub _ _ _ _ _ _ ?h1 ?h2) ?k1 ?k2 ?k3 ?k4 ?k5 ?kK ?kd ?ku ?_; (case k1 => k_asm); (case k2 => k_asm); (case k3 => k_asm); (case k4 => k_asm); (case k5 => k_asm); (case kK => rfl); (case h1 => omega); (case h2 => omega); (case kd => (dsimp only [Around.deeper]; omega)); (case ku => (dsimp only [Around.deeper]; omega))); intro r9 tl9 h9 tk9 F9 N9 hl9 hR9; (obtain ⟨e9, t9, e8⟩ := hR9); subst e9; subst e8; clear hl9; (try simp only [List.nil_append] at N9); (try dsimp only); (try k_fold)) | ((with_reducible refine at_sub ?_); (with_unfolding_all refine' item_anyK ?k1 ?k2 ?k3 ?k4 ?k5 ?_ ?k6; (case k1 => is_list); (case k2 => with_reducible assumption); (case k3 => first | assumption | omega); (case k4 => first | assumption | omega); (case k5 => first | assumption | omega); (case k6 => with_unfolding_all rfl)); intro _; try dsimp only) | ((with_reducible refine at_set ?_); (with_reducible rename Fr _ _ _ _ => F'); (with_reducible rename News _ _ _ _ => N'); (refine' ints_setItem F' N' ?k2 ?k3 ?k4 ?k5 ?k6 ?_; (case k2 => assumption); (case k3 => assumption); (case k4 => first | assumption | omega); (case k5 => first | assumption | omega); (case k6 => first | assumption | omega)); clear F' N'; intro h' F' N' hIs'; try dsimp only) | ((with_reducible refine at_bool ?_); with_unfolding_all (refine or_none (fun Q' hq => ld (by assumption) (by rfl) hq) ?_); try dsimp only) | ((with_reducible refine abs_st ?_); intro _ _; walk1; try dsimp only) | ((with_reducible refine use_post (by assumption) ?_); try dsimp only) | (k_unfold; (try dsimp only)) | (k_end; wrow_close) | (walk1; try dsimp only) | (dsimp only; walk1) | (leave1; walk_say "STEP leave1"; try dsimp only) | fail "no step")))
        · rename Fr _ _ _ _ => eF
          rename News _ _ _ _ => eN
          have z := pos_next hP (by assumption) (by assumption) (by assumption) (by assumption)
          refine' ksw_end (k - 1, _) eF eN (fun p hp => hp) trivial ?k1 ?k2 ?k3 ?k4
          case k1 => intro p hp; rcases List.mem_singleton.mp hp with rfl; rfl
          case k2 => (intro z h2' h3'; have hz := h2' _ (List.mem_singleton.mpr rfl); dsimp only at hz; rw [if_neg hz]; exact if_neg hz)
          case k3 => exact pos_step hP z.1 z.2.1 (eq_of_beq (by assumption))
          case k4 => exact z.2.2
        all_goals (refine ⟨?_, _, _, rfl, by assumption, by assumption⟩; unfold PosD; (try dsimp only))
        · have z := pos_next hP (by assumption) (by assumption) (by assumption) (by assumption)
          exact .inr (.inr ⟨z.1, z.2.1, beq_eq_false_iff_ne.mp (by assumption)⟩)
        · exact .inr (.inl (by first | exact gone_pos (by assumption) (by assumption) | omega))
        · exact .inl (by first | exact gone_pos (by assumption) (by assumption) | omega)
      case done =>
        clear lF lN
        rintro ⟨k, tk'⟩ u h tk ⟨g0, g1, g2, g3⟩ gD lF lN
        dsimp only at g0 g1 g2 g3 lF gD
        dsimp only
        have hlev := hv i k
        rw [hx1, hy1] at hlev
        replace hlev := hlev ⟨h0, h1, h2, h3⟩ hD ⟨g0, g1, g2, g3⟩ gD
        (repeat' ((fail_if_success (with_reducible first | refine at_while ?_ | refine at_for ?_ | refine at_iter ?_ | refine at_ksw ?_ | refine at_wh ?_ | show SwEnd _ _ _ _ _ _ _ _ _ | show wpAny _ _ (exec (Stmt.If _ [Stmt.Assign [Expr.Tuple _ _ _] _ _] _ _) _) _ _ _ | show InvPostN _ _ _ _ _ _ _ _ _)); (first | (with_reducible first | fail "none") | ((with_reducible refine at_strs ?_); (with_reducible rename Fr _ _ _ _ => F'); (with_reducible rename News _ _ _ _ => N'); (first | ((refine slice_post (hsz := ?hsz) (s := ⟨_, _, _, _, _⟩) F' N' (by omega) (by omega) ?_); (case hsz => size_fits); intro _ _ _ _ _ _) | ((refine slice_pre (hsz := ?hsz) (s := ⟨_, _, _, _, _⟩) F' N' (by omega) (by omega) ?_); (case hsz => size_fits); intro _ _ _ _ _ _)); try dsimp only) | ((with_reducible refine at_type ?_); (with_reducible rename Fr _ _ _ _ => F'); (with_reducible rename News _ _ _ _ => N'); (with_reducible rename IsRange _ _ _ _ _ _ _ _ => rgX); (with_unfolding_all refine' list_range2 (n := ?n) ?k0 F' N' ?k3 ?k4 ?k5 ?_; (case k0 => rfl); (case k3 => exact rgX); (case k4 => rfl); (case k5 => omega)); clear F' N' rgX; intro D' vs' c' h' tk' F' N' l1 hI'; try dsimp only) | ((with_reducible show wpAny _ _ (call (Value.ref 21) [Value.str _ _, Value.str _ _]) _ _ _); (refine' says_use (says_sub _ _ _ _ _ _ ?h1 ?h2) ?k1 ?k2 ?k3 ?k4 ?k5 ?kK ?kd ?ku ?_; (case k1 => k_asm); (case k2 => k_asm); (case k3 => k_asm); (case k4 => k_asm); (case k5 => k_asm); (case kK => rfl); (case h1 => omega); (case h2 => omega); (case kd => (dsimp only [Around.deeper]; omega)); (case ku => (dsimp only [Around.deeper]; omega))); intro r9 tl9 h9 tk9 F9 N9 hl9 hR9; (obtain ⟨e9, t9, e8⟩ := hR9); subst e9; subst e8; clear hl9; (try simp only [List.nil_append] at N9); (try dsimp only); (try k_fold)) | ((with_reducible refine at_sub ?_); (with_unfolding_all refine' item_anyK ?k1 ?k2 ?k3 ?k4 ?k5 ?_ ?k6; (case k1 => is_list); (case k2 => with_reducible assumption); (case k3 => first | assumption | omega); (case k4 => first | assumption | omega); (case k5 => first | assumption | omega); (case k6 => with_unfolding_all rfl)); intro _; try dsimp only) | ((with_reducible refine at_set ?_); (with_reducible rename Fr _ _ _ _ => F'); (with_reducible rename News _ _ _ _ => N'); (refine' ints_setItem F' N' ?k2 ?k3 ?k4 ?k5 ?k6 ?_; (case k2 => assumption); (case k3 => assumption); (case k4 => first | assumption | omega); (case k5 => first | assumption | omega); (case k6 => first | assumption | omega)); clear F' N'; intro h' F' N' hIs'; try dsimp only) | ((with_reducible refine at_bool ?_); with_unfolding_all (refine or_none (fun Q' hq => ld (by assumption) (by rfl) hq) ?_); try dsimp only) | ((with_reducible refine abs_st ?_); intro _ _; walk1; try dsimp only) | ((with_reducible refine use_post (by assumption) ?_); try dsimp only) | (k_unfold; (try dsimp only)) | (k_end; wrow_close) | (walk1; try dsimp only) | (dsimp only; walk1) | (leave1; walk_say "STEP leave1"; try dsimp only) | fail "no step")))
        rotate_right 2
        iterate 2 (refine hret _ [] _ _ (by k_asm) (by k_asm) (fun _ _ _ h => nomatch h) ⟨rfl, _, congrArg (fun z => Value.int z _) (hlev.1 (by omega))⟩)
        rename Fr _ _ _ _ => lF
        rename News _ _ _ _ => lN
        generalize hx2 : takeS x1 (x1.length + k).toNat = x2 at *
        generalize hy2 : takeS y1 (y1.length + k).toNat = y2 at *
        refine sw_cut x2 y2 [("max_cost", .int 9 tm)] lF lN ?sw ?go
        case sw =>
          walk1
          (repeat' ((fail_if_success (with_reducible first | refine at_while ?_ | refine at_for ?_ | refine at_iter ?_ | refine at_ksw ?_ | refine at_wh ?_ | show SwEnd _ _ _ _ _ _ _ _ _ | show wpAny _ _ (exec (Stmt.If _ [Stmt.Assign [Expr.Tuple _ _ _] _ _] _ _) _) _ _ _ | show InvPostN _ _ _ _ _ _ _ _ _)); (first | (with_reducible first | fail "none") | ((with_reducible refine at_strs ?_); (with_reducible rename Fr _ _ _ _ => F'); (with_reducible rename News _ _ _ _ => N'); (first | ((refine slice_post (hsz := ?hsz) (s := ⟨_, _, _, _, _⟩) F' N' (by omega) (by omega) ?_); (case hsz => size_fits); intro _ _ _ _ _ _) | ((refine slice_pre (hsz := ?hsz) (s := ⟨_, _, _, _, _⟩) F' N' (by omega) (by omega) ?_); (case hsz => size_fits); intro _ _ _ _ _ _)); try dsimp only) | ((with_reducible refine at_type ?_); (with_reducible rename Fr _ _ _ _ => F'); (with_reducible rename News _ _ _ _ => N'); (with_reducible rename IsRange _ _ _ _ _ _ _ _ => rgX); (with_unfolding_all refine' list_range2 (n := ?n) ?k0 F' N' ?k3 ?k4 ?k5 ?_; (case k0 => rfl); (case k3 => exact rgX); (case k4 => rfl); (case k5 => omega)); clear F' N' rgX; intro D' vs' c' h' tk' F' N' l1 hI'; try dsimp only) | ((with_reducible show wpAny _ _ (call (Value.ref 21) [Value.str _ _, Value.str _ _]) _ _ _); (refine' says_use (says_sub _ _ _ _ _ _ ?h1 ?h2) ?k1 ?k2 ?k3 ?k4 ?k5 ?kK ?kd ?ku ?_; (case k1 => k_asm); (case k2 => k_asm); (case k3 => k_asm); (case k4 => k_asm); (case k5 => k_asm); (case kK => rfl); (case h1 => omega); (case h2 => omega); (case kd => (dsimp only [Around.deeper]; omega)); (case ku => (dsimp only [Around.deeper]; omega))); intro r9 tl9 h9 tk9 F9 N9 hl9 hR9; (obtain ⟨e9, t9, e8⟩ := hR9); subst e9; subst e8; clear hl9; (try simp only [List.nil_append] at N9); (try dsimp only); (try k_fold)) | ((with_reducible refine at_sub ?_); (with_unfolding_all refine' item_anyK ?k1 ?k2 ?k3 ?k4 ?k5 ?_ ?k6; (case k1 => is_list); (case k2 => with_reducible assumption); (case k3 => first | assumption | omega); (case k4 => first | assumption | omega); (case k5 => first | assumption | omega); (case k6 => with_unfolding_all rfl)); intro _; try dsimp only) | ((with_reducible refine at_set ?_); (with_reducible rename Fr _ _ _ _ => F'); (with_reducible rename News _ _ _ _ => N'); (refine' ints_setItem F' N' ?k2 ?k3 ?k4 ?k5 ?k6 ?_; (case k2 => assumption); (case k3 => assumption); (case k4 => first | assumption | omega); (case k5 => first | assumption | omega); (case k6 => first | assumption | omega)); clear F' N'; intro h' F' N' hIs'; try dsimp only) | ((with_reducible refine at_bool ?_); with_unfolding_all (refine or_none (fun Q' hq => ld (by assumption) (by rfl) hq) ?_); try dsimp only) | ((with_reducible refine abs_st ?_); intro _ _; walk1; try dsimp only) | ((with_reducible refine use_post (by assumption) ?_); try dsimp only) | (k_unfold; (try dsimp only)) | (k_end; wrow_close) | (walk1; try dsimp only) | (dsimp only; walk1) | (leave1; walk_say "STEP leave1"; try dsimp only) | fail "no step")))
          · rename Fr _ _ _ _ => lF'
            rename News _ _ _ _ => lN'
            exact ⟨_, _, _, _, _, _, .inr ⟨rfl, rfl, by omega⟩, fr_abs lF' _ (by kst_all), kst_newsOf lN' fun p hp => .tail _ hp⟩
          · rename Fr _ _ _ _ => lF'
            rename News _ _ _ _ => lN'
            exact ⟨_, _, _, _, _, _, .inl ⟨rfl, rfl, by omega⟩, fr_abs lF' _ (by kst_all), lN'⟩
        case go =>
          clear lF lN
          rintro a1 b1 tA tB h' tk' hAB ⟨_, lF⟩ lN
          dsimp only [kstB] at lF
          have hcore : CoreIs a1 b1 v := by
            rcases hAB with ⟨rfl, rfl, q⟩ | ⟨rfl, rfl, q⟩
            · exact (hlev.2 (by omega) (by omega)).1 q
            · exact (hlev.2 (by omega) (by omega)).2 q
          obtain ⟨z1, z2, z3, z4, z5, z6⟩ : a1.length ≤ 8 ∧ b1.length ≤ 8 ∧ a1.length ≠ 0 ∧ b1.length ≠ 0 ∧ b1.length ≤ a1.length + 1 ∧ a1.length ≤ b1.length := by
            rcases hAB with ⟨rfl, rfl, q⟩ | ⟨rfl, rfl, q⟩
            · exact sw_f hx hy hlen1 hlen2 h0 (by assumption) (by assumption) g0 (by assumption) (by assumption) (by assumption) (by assumption) q
            · exact sw_f hy hx hlen2 hlen1 h0 (by assumption) (by assumption) g0 (by assumption) (by assumption) (by assumption) (by assumption) (Nat.le_of_lt q)
          clear hlev hAB hx1 hy1 hx2 hy2 g3 h3 gD hD
          (repeat' ((fail_if_success (with_reducible first | refine at_while ?_ | refine at_for ?_ | refine at_iter ?_ | refine at_ksw ?_ | refine at_wh ?_ | show SwEnd _ _ _ _ _ _ _ _ _ | show wpAny _ _ (exec (Stmt.If _ [Stmt.Assign [Expr.Tuple _ _ _] _ _] _ _) _) _ _ _ | show InvPostN _ _ _ _ _ _ _ _ _)); (first | (with_reducible first | fail "none") | ((with_reducible refine at_strs ?_); (with_reducible rename Fr _ _ _ _ => F'); (with_reducible rename News _ _ _ _ => N'); (first | ((refine slice_post (hsz := ?hsz) (s := ⟨_, _, _, _, _⟩) F' N' (by omega) (by omega) ?_); (case hsz => size_fits); intro _ _ _ _ _ _) | ((refine slice_pre (hsz := ?hsz) (s := ⟨_, _, _, _, _⟩) F' N' (by omega) (by omega) ?_); (case hsz => size_fits); intro _ _ _ _ _ _)); try dsimp only) | ((with_reducible refine at_type ?_); (with_reducible rename Fr _ _ _ _ => F'); (with_reducible rename News _ _ _ _ => N'); (with_reducible rename IsRange _ _ _ _ _ _ _ _ => rgX); (with_unfolding_all refine' list_range2 (n := ?n) ?k0 F' N' ?k3 ?k4 ?k5 ?_; (case k0 => rfl); (case k3 => exact rgX); (case k4 => rfl); (case k5 => omega)); clear F' N' rgX; intro D' vs' c' h' tk' F' N' l1 hI'; try dsimp only) | ((with_reducible show wpAny _ _ (call (Value.ref 21) [Value.str _ _, Value.str _ _]) _ _ _); (refine' says_use (says_sub _ _ _ _ _ _ ?h1 ?h2) ?k1 ?k2 ?k3 ?k4 ?k5 ?kK ?kd ?ku ?_; (case k1 => k_asm); (case k2 => k_asm); (case k3 => k_asm); (case k4 => k_asm); (case k5 => k_asm); (case kK => rfl); (case h1 => omega); (case h2 => omega); (case kd => (dsimp only [Around.deeper]; omega)); (case ku => (dsimp only [Around.deeper]; omega))); intro r9 tl9 h9 tk9 F9 N9 hl9 hR9; (obtain ⟨e9, t9, e8⟩ := hR9); subst e9; subst e8; clear hl9; (try simp only [List.nil_append] at N9); (try dsimp only); (try k_fold)) | ((with_reducible refine at_sub ?_); (with_unfolding_all refine' item_anyK ?k1 ?k2 ?k3 ?k4 ?k5 ?_ ?k6; (case k1 => is_list); (case k2 => with_reducible assumption); (case k3 => first | assumption | omega); (case k4 => first | assumption | omega); (case k5 => first | assumption | omega); (case k6 => with_unfolding_all rfl)); intro _; try dsimp only) | ((with_reducible refine at_set ?_); (with_reducible rename Fr _ _ _ _ => F'); (with_reducible rename News _ _ _ _ => N'); (refine' ints_setItem F' N' ?k2 ?k3 ?k4 ?k5 ?k6 ?_; (case k2 => assumption); (case k3 => assumption); (case k4 => first | assumption | omega); (case k5 => first | assumption | omega); (case k6 => first | assumption | omega)); clear F' N'; intro h' F' N' hIs'; try dsimp only) | ((with_reducible refine at_bool ?_); with_unfolding_all (refine or_none (fun Q' hq => ld (by assumption) (by rfl) hq) ?_); try dsimp only) | ((with_reducible refine abs_st ?_); intro _ _; walk1; try dsimp only) | ((with_reducible refine use_post (by assumption) ?_); try dsimp only) | (k_unfold; (try dsimp only)) | (k_end; wrow_close) | (walk1; try dsimp only) | (dsimp only; walk1) | (leave1; walk_say "STEP leave1"; try dsimp only) | fail "no step")))
          rename Fr _ _ _ _ => lF
          rename News _ _ _ _ => lN
          rename IntsAre _ _ => hI
          obtain ⟨u0, lF⟩ := fr_abs lF [("result", .int 0 _), ("row", .ref _), ("a", .str a1 _), ("b", .str b1 _), ("max_cost", .int 9 tm)] (by kst_all)
          dsimp only [kstB] at lF
          walk1
          (repeat' ((fail_if_success (with_reducible first | refine at_while ?_ | refine at_for ?_ | refine at_iter ?_ | refine at_ksw ?_ | refine at_wh ?_ | show SwEnd _ _ _ _ _ _ _ _ _ | show wpAny _ _ (exec (Stmt.If _ [Stmt.Assign [Expr.Tuple _ _ _] _ _] _ _) _) _ _ _ | show InvPostN _ _ _ _ _ _ _ _ _)); (first | (with_reducible first | fail "none") | ((with_reducible refine at_strs ?_); (with_reducible rename Fr _ _ _ _ => F'); (with_reducible rename News _ _ _ _ => N'); (first | ((refine slice_post (hsz := ?hsz) (s := ⟨_, _, _, _, _⟩) F' N' (by omega) (by omega) ?_); (case hsz => size_fits); intro _ _ _ _ _ _) | ((refine slice_pre (hsz := ?hsz) (s := ⟨_, _, _, _, _⟩) F' N' (by omega) (by omega) ?_); (case hsz => size_fits); intro _ _ _ _ _ _)); try dsimp only) | ((with_reducible refine at_type ?_); (with_reducible rename Fr _ _ _ _ => F'); (with_reducible rename News _ _ _ _ => N'); (with_reducible rename IsRange _ _ _ _ _ _ _ _ => rgX); (with_unfolding_all refine' list_range2 (n := ?n) ?k0 F' N' ?k3 ?k4 ?k5 ?_; (case k0 => rfl); (case k3 => exact rgX); (case k4 => rfl); (case k5 => omega)); clear F' N' rgX; intro D' vs' c' h' tk' F' N' l1 hI'; try dsimp only) | ((with_reducible show wpAny _ _ (call (Value.ref 21) [Value.str _ _, Value.str _ _]) _ _ _); (refine' says_use (says_sub _ _ _ _ _ _ ?h1 ?h2) ?k1 ?k2 ?k3 ?k4 ?k5 ?kK ?kd ?ku ?_; (case k1 => k_asm); (case k2 => k_asm); (case k3 => k_asm); (case k4 => k_asm); (case k5 => k_asm); (case kK => rfl); (case h1 => omega); (case h2 => omega); (case kd => (dsimp only [Around.deeper]; omega)); (case ku => (dsimp only [Around.deeper]; omega))); intro r9 tl9 h9 tk9 F9 N9 hl9 hR9; (obtain ⟨e9, t9, e8⟩ := hR9); subst e9; subst e8; clear hl9; (try simp only [List.nil_append] at N9); (try dsimp only); (try k_fold)) | ((with_reducible refine at_sub ?_); (with_unfolding_all refine' item_anyK ?k1 ?k2 ?k3 ?k4 ?k5 ?_ ?k6; (case k1 => is_list); (case k2 => with_reducible assumption); (case k3 => first | assumption | omega); (case k4 => first | assumption | omega); (case k5 => first | assumption | omega); (case k6 => with_unfolding_all rfl)); intro _; try dsimp only) | ((with_reducible refine at_set ?_); (with_reducible rename Fr _ _ _ _ => F'); (with_reducible rename News _ _ _ _ => N'); (refine' ints_setItem F' N' ?k2 ?k3 ?k4 ?k5 ?k6 ?_; (case k2 => assumption); (case k3 => assumption); (case k4 => first | assumption | omega); (case k5 => first | assumption | omega); (case k6 => first | assumption | omega)); clear F' N'; intro h' F' N' hIs'; try dsimp only) | ((with_reducible refine at_bool ?_); with_unfolding_all (refine or_none (fun Q' hq => ld (by assumption) (by rfl) hq) ?_); try dsimp only) | ((with_reducible refine abs_st ?_); intro _ _; walk1; try dsimp only) | ((with_reducible refine use_post (by assumption) ?_); try dsimp only) | (k_unfold; (try dsimp only)) | (k_end; wrow_close) | (walk1; try dsimp only) | (dsimp only; walk1) | (leave1; walk_say "STEP leave1"; try dsimp only) | fail "no step")))
          rename Fr _ _ _ _ => lF
          rename News _ _ _ _ => lN
          rename IsRange _ _ _ _ _ _ _ _ => rg
          with_unfolding_all refine' kst_range (σ := OSt) (fun c => (_, listOf c.vs.toArray c.cap) :: news) (fun c => [("result", .int c.r c.tr)]) (fun c => IntsAre c.vs c.ns) ["bchar", "distance", "minimum", "index", "substitute", "insert_delete"] (fun pre c => pre = rangeKs 0 pre.length ∧ (c.ns, c.r) = pre.foldl (Mine.outer a1 b1) (rangeInts 2 2 a1.length, 0)) ⟨_, _, _, 0, _⟩ rfl rg (small_one (by omega) (by omega) (by omega) (by omega)) (rangeSize_nat _ _) lF lN hI ?hk ?hp ?turn ?done
          case hk => kst_all
          case hp => exact ⟨rfl, rfl⟩
          case turn =>
            clear lF lN rg hI
            rintro ⟨vs, ns, cap, r, tr⟩ pre i' t u h tk own hi hlt hoff hI ⟨hpre, hfold⟩ lF lN
            dsimp only [kstB] at lF hI hfold
            simp only [List.cons_append] at lN
            have hnl : ns.length = a1.length := by have := congrArg (fun z => z.1.length) hfold; dsimp only at this; rw [this, outer_run_len, rangeInts_length]
            (repeat' ((fail_if_success (with_reducible first | refine at_while ?_ | refine at_for ?_ | refine at_iter ?_ | refine at_ksw ?_ | refine at_wh ?_ | show SwEnd _ _ _ _ _ _ _ _ _ | show wpAny _ _ (exec (Stmt.If _ [Stmt.Assign [Expr.Tuple _ _ _] _ _] _ _) _) _ _ _ | show InvPostN _ _ _ _ _ _ _ _ _)); (first | (with_reducible first | fail "none") | ((with_reducible refine at_strs ?_); (with_reducible rename Fr _ _ _ _ => F'); (with_reducible rename News _ _ _ _ => N'); (first | ((refine slice_post (hsz := ?hsz) (s := ⟨_, _, _, _, _⟩) F' N' (by omega) (by omega) ?_); (case hsz => size_fits); intro _ _ _ _ _ _) | ((refine slice_pre (hsz := ?hsz) (s := ⟨_, _, _, _, _⟩) F' N' (by omega) (by omega) ?_); (case hsz => size_fits); intro _ _ _ _ _ _)); try dsimp only) | ((with_reducible refine at_type ?_); (with_reducible rename Fr _ _ _ _ => F'); (with_reducible rename News _ _ _ _ => N'); (with_reducible rename IsRange _ _ _ _ _ _ _ _ => rgX); (with_unfolding_all refine' list_range2 (n := ?n) ?k0 F' N' ?k3 ?k4 ?k5 ?_; (case k0 => rfl); (case k3 => exact rgX); (case k4 => rfl); (case k5 => omega)); clear F' N' rgX; intro D' vs' c' h' tk' F' N' l1 hI'; try dsimp only) | ((with_reducible show wpAny _ _ (call (Value.ref 21) [Value.str _ _, Value.str _ _]) _ _ _); (refine' says_use (says_sub _ _ _ _ _ _ ?h1 ?h2) ?k1 ?k2 ?k3 ?k4 ?k5 ?kK ?kd ?ku ?_; (case k1 => k_asm); (case k2 => k_asm); (case k3 => k_asm); (case k4 => k_asm); (case k5 => k_asm); (case kK => rfl); (case h1 => omega); (case h2 => omega); (case kd => (dsimp only [Around.deeper]; omega)); (case ku => (dsimp only [Around.deeper]; omega))); intro r9 tl9 h9 tk9 F9 N9 hl9 hR9; (obtain ⟨e9, t9, e8⟩ := hR9); subst e9; subst e8; clear hl9; (try simp only [List.nil_append] at N9); (try dsimp only); (try k_fold)) | ((with_reducible refine at_sub ?_); (with_unfolding_all refine' item_anyK ?k1 ?k2 ?k3 ?k4 ?k5 ?_ ?k6; (case k1 => is_list); (case k2 => with_reducible assumption); (case k3 => first | assumption | omega); (case k4 => first | assumption | omega); (case k5 => first | assumption | omega); (case k6 => with_unfolding_all rfl)); intro _; try dsimp only) | ((with_reducible refine at_set ?_); (with_reducible rename Fr _ _ _ _ => F'); (with_reducible rename News _ _ _ _ => N'); (refine' ints_setItem F' N' ?k2 ?k3 ?k4 ?k5 ?k6 ?_; (case k2 => assumption); (case k3 => assumption); (case k4 => first | assumption | omega); (case k5 => first | assumption | omega); (case k6 => first | assumption | omega)); clear F' N'; intro h' F' N' hIs'; try dsimp only) | ((with_reducible refine at_bool ?_); with_unfolding_all (refine or_none (fun Q' hq => ld (by assumption) (by rfl) hq) ?_); try dsimp only) | ((with_reducible refine abs_st ?_); intro _ _; walk1; try dsimp only) | ((with_reducible refine use_post (by assumption) ?_); try dsimp only) | (k_unfold; (try dsimp only)) | (k_end; wrow_close) | (walk1; try dsimp only) | (dsimp only; walk1) | (leave1; walk_say "STEP leave1"; try dsimp only) | fail "no step")))
            walk1
            (repeat' ((fail_if_success (with_reducible first | refine at_while ?_ | refine at_for ?_ | refine at_iter ?_ | refine at_ksw ?_ | refine at_wh ?_ | show SwEnd _ _ _ _ _ _ _ _ _ | show wpAny _ _ (exec (Stmt.If _ [Stmt.Assign [Expr.Tuple _ _ _] _ _] _ _) _) _ _ _ | show InvPostN _ _ _ _ _ _ _ _ _)); (first | (with_reducible first | fail "none") | ((with_reducible refine at_strs ?_); (with_reducible rename Fr _ _ _ _ => F'); (with_reducible rename News _ _ _ _ => N'); (first | ((refine slice_post (hsz := ?hsz) (s := ⟨_, _, _, _, _⟩) F' N' (by omega) (by omega) ?_); (case hsz => size_fits); intro _ _ _ _ _ _) | ((refine slice_pre (hsz := ?hsz) (s := ⟨_, _, _, _, _⟩) F' N' (by omega) (by omega) ?_); (case hsz => size_fits); intro _ _ _ _ _ _)); try dsimp only) | ((with_reducible refine at_type ?_); (with_reducible rename Fr _ _ _ _ => F'); (with_reducible rename News _ _ _ _ => N'); (with_reducible rename IsRange _ _ _ _ _ _ _ _ => rgX); (with_unfolding_all refine' list_range2 (n := ?n) ?k0 F' N' ?k3 ?k4 ?k5 ?_; (case k0 => rfl); (case k3 => exact rgX); (case k4 => rfl); (case k5 => omega)); clear F' N' rgX; intro D' vs' c' h' tk' F' N' l1 hI'; try dsimp only) | ((with_reducible show wpAny _ _ (call (Value.ref 21) [Value.str _ _, Value.str _ _]) _ _ _); (refine' says_use (says_sub _ _ _ _ _ _ ?h1 ?h2) ?k1 ?k2 ?k3 ?k4 ?k5 ?kK ?kd ?ku ?_; (case k1 => k_asm); (case k2 => k_asm); (case k3 => k_asm); (case k4 => k_asm); (case k5 => k_asm); (case kK => rfl); (case h1 => omega); (case h2 => omega); (case kd => (dsimp only [Around.deeper]; omega)); (case ku => (dsimp only [Around.deeper]; omega))); intro r9 tl9 h9 tk9 F9 N9 hl9 hR9; (obtain ⟨e9, t9, e8⟩ := hR9); subst e9; subst e8; clear hl9; (try simp only [List.nil_append] at N9); (try dsimp only); (try k_fold)) | ((with_reducible refine at_sub ?_); (with_unfolding_all refine' item_anyK ?k1 ?k2 ?k3 ?k4 ?k5 ?_ ?k6; (case k1 => is_list); (case k2 => with_reducible assumption); (case k3 => first | assumption | omega); (case k4 => first | assumption | omega); (case k5 => first | assumption | omega); (case k6 => with_unfolding_all rfl)); intro _; try dsimp only) | ((with_reducible refine at_set ?_); (with_reducible rename Fr _ _ _ _ => F'); (with_reducible rename News _ _ _ _ => N'); (refine' ints_setItem F' N' ?k2 ?k3 ?k4 ?k5 ?k6 ?_; (case k2 => assumption); (case k3 => assumption); (case k4 => first | assumption | omega); (case k5 => first | assumption | omega); (case k6 => first | assumption | omega)); clear F' N'; intro h' F' N' hIs'; try dsimp only) | ((with_reducible refine at_bool ?_); with_unfolding_all (refine or_none (fun Q' hq => ld (by assumption) (by rfl) hq) ?_); try dsimp only) | ((with_reducible refine abs_st ?_); intro _ _; walk1; try dsimp only) | ((with_reducible refine use_post (by assumption) ?_); try dsimp only) | (k_unfold; (try dsimp only)) | (k_end; wrow_close) | (walk1; try dsimp only) | (dsimp only; walk1) | (leave1; walk_say "STEP leave1"; try dsimp only) | fail "no step")))
            rename Fr _ _ _ _ => lF
            rename News _ _ _ _ => lN
            rename IsRange _ _ _ _ _ _ _ _ => rg
            with_unfolding_all refine' kst_range (σ := ISt) (fun c => (_, listOf c.vs.toArray c.cap) :: (news ++ own)) (fun c => [("result", .int c.dp.r c.tr), ("distance", .int c.dp.d c.td), ("minimum", .int c.dp.mi c.tm)]) (fun c => IntsAre c.vs c.dp.row) ["substitute", "insert_delete"] (fun pre c => pre = rangeKs 0 pre.length ∧ c.dp = pre.foldl (Mine.inner (Txt.item b1 i') a1) ⟨ns, i' * 2, i' * 2, 9223372036854775807⟩) ⟨_, _, _, _, _, ⟨ns, i' * 2, i' * 2, 9223372036854775807⟩⟩ rfl rg (small_one (by omega) (by omega) (by omega) (by omega)) (rangeSize_nat _ _) lF lN hI ?hk2 ?hp2 ?turn2 ?done2
            case hk2 => kst_all
            case hp2 => exact ⟨rfl, rfl⟩
            case turn2 =>
              clear lF lN rg hI
              rintro ⟨vs1, cap1, td1, tr1, tm1, ⟨row1, d1, r1, mi1⟩⟩ pre1 j' t1 u1 h1 tk1 own1 hi1 hlt1 hoff1 hI ⟨hpre1, hfold1⟩ lF lN
              dsimp only [kstB] at lF hI hfold1
              simp only [List.cons_append] at lN
              have hrl : row1.length = a1.length := by have := congrArg (fun z => z.row.length) hfold1; dsimp only at this; rw [this, inner_run_len]; exact hnl
              have hj := idx_ok hi1 hlt1 hrl z1
              have hj0 := hj.1
              have hj1 := hj.2.1
              have hj2 := hj.2.2.1
              have hj3 := hj.2.2.2.1
              clear hj
              have hpost : ∀ p ∈ news ++ own ++ own1, p.1 ≠ _ := hD_of ‹_› hoff hoff1
              (repeat' ((fail_if_success (with_reducible first | refine at_while ?_ | refine at_for ?_ | refine at_iter ?_ | refine at_ksw ?_ | refine at_wh ?_ | show SwEnd _ _ _ _ _ _ _ _ _ | show wpAny _ _ (exec (Stmt.If _ [Stmt.Assign [Expr.Tuple _ _ _] _ _] _ _) _) _ _ _ | show InvPostN _ _ _ _ _ _ _ _ _)); (first | (with_reducible first | fail "none") | ((with_reducible refine at_strs ?_); (with_reducible rename Fr _ _ _ _ => F'); (with_reducible rename News _ _ _ _ => N'); (first | ((refine slice_post (hsz := ?hsz) (s := ⟨_, _, _, _, _⟩) F' N' (by omega) (by omega) ?_); (case hsz => size_fits); intro _ _ _ _ _ _) | ((refine slice_pre (hsz := ?hsz) (s := ⟨_, _, _, _, _⟩) F' N' (by omega) (by omega) ?_); (case hsz => size_fits); intro _ _ _ _ _ _)); try dsimp only) | ((with_reducible refine at_type ?_); (with_reducible rename Fr _ _ _ _ => F'); (with_reducible rename News _ _ _ _ => N'); (with_reducible rename IsRange _ _ _ _ _ _ _ _ => rgX); (with_unfolding_all refine' list_range2 (n := ?n) ?k0 F' N' ?k3 ?k4 ?k5 ?_; (case k0 => rfl); (case k3 => exact rgX); (case k4 => rfl); (case k5 => omega)); clear F' N' rgX; intro D' vs' c' h' tk' F' N' l1 hI'; try dsimp only) | ((with_reducible show wpAny _ _ (call (Value.ref 21) [Value.str _ _, Value.str _ _]) _ _ _); (refine' says_use (says_sub _ _ _ _ _ _ ?h1 ?h2) ?k1 ?k2 ?k3 ?k4 ?k5 ?kK ?kd ?ku ?_; (case k1 => k_asm); (case k2 => k_asm); (case k3 => k_asm); (case k4 => k_asm); (case k5 => k_asm); (case kK => rfl); (case h1 => omega); (case h2 => omega); (case kd => (dsimp only [Around.deeper]; omega)); (case ku => (dsimp only [Around.deeper]; omega))); intro r9 tl9 h9 tk9 F9 N9 hl9 hR9; (obtain ⟨e9, t9, e8⟩ := hR9); subst e9; subst e8; clear hl9; (try simp only [List.nil_append] at N9); (try dsimp only); (try k_fold)) | ((with_reducible refine at_sub ?_); (with_unfolding_all refine' item_anyK ?k1 ?k2 ?k3 ?k4 ?k5 ?_ ?k6; (case k1 => is_list); (case k2 => with_reducible assumption); (case k3 => first | assumption | omega); (case k4 => first | assumption | omega); (case k5 => first | assumption | omega); (case k6 => with_unfolding_all rfl)); intro _; try dsimp only) | ((with_reducible refine at_set ?_); (with_reducible rename Fr _ _ _ _ => F'); (with_reducible rename News _ _ _ _ => N'); (refine' ints_setItem F' N' ?k2 ?k3 ?k4 ?k5 ?k6 ?_; (case k2 => assumption); (case k3 => assumption); (case k4 => first | assumption | omega); (case k5 => first | assumption | omega); (case k6 => first | assumption | omega)); clear F' N'; intro h' F' N' hIs'; try dsimp only) | ((with_reducible refine at_bool ?_); with_unfolding_all (refine or_none (fun Q' hq => ld (by assumption) (by rfl) hq) ?_); try dsimp only) | ((with_reducible refine abs_st ?_); intro _ _; walk1; try dsimp only) | ((with_reducible refine use_post (by assumption) ?_); try dsimp only) | (k_unfold; (try dsimp only)) | (k_end; wrow_close) | (walk1; try dsimp only) | (dsimp only; walk1) | (leave1; walk_say "STEP leave1"; try dsimp only) | fail "no step")))
              · rename News _ _ _ _ => nE'
                rename IntsAre _ _ => hIe
                refine kst_end ⟨_, _, _, _, _, ⟨_, _, _, _⟩⟩ (by assumption) nE' (by kst_inAny) (by kst_anyIn) (by rfl) hIe (by kst_all) (by kst_same) ⟨?_, ?_⟩
                · rw [List.length_append, List.length_singleton, rangeKs_succ, ← hpre1, hi1, Int.zero_add]
                · rw [List.foldl_append, ← hfold1]
                  show _ = inner (Txt.item b1 i') a1 ⟨row1, d1, r1, mi1⟩ j'
                  unfold inner
                  dsimp only
                  refine congrArg (DP.mk _ _ _) (if_pos ?_).symm
                  assumption
              · rename News _ _ _ _ => nE'
                rename IntsAre _ _ => hIe
                refine kst_end ⟨_, _, _, _, _, ⟨_, _, _, _⟩⟩ (by assumption) nE' (by kst_inAny) (by kst_anyIn) (by rfl) hIe (by kst_all) (by kst_same) ⟨?_, ?_⟩
                · rw [List.length_append, List.length_singleton, rangeKs_succ, ← hpre1, hi1, Int.zero_add]
                · rw [List.foldl_append, ← hfold1]
                  show _ = inner (Txt.item b1 i') a1 ⟨row1, d1, r1, mi1⟩ j'
                  unfold inner
                  dsimp only
                  refine congrArg (DP.mk _ _ _) (if_neg ?_).symm
                  assumption
            case done2 =>
              clear lF lN rg hI
              rintro ⟨vs1, cap1, td1, tr1, tm1, ⟨row1, d1, r1, mi1⟩⟩ u1 h1 tk1 hI ⟨hpre1, hfold1⟩ lF lN
              dsimp only [kstB] at lF hI hfold1
              simp only [List.cons_append] at lN
              have hrun : (⟨row1, d1, r1, mi1⟩ : DP) = inRun a1 b1 ns i' := by
                rw [hfold1]
                unfold inRun
                congr 2
              have hns : (ns, r) = outRun a1 b1 pre.length := by
                rw [hfold, hpre]
                unfold outRun
                rw [rangeKs_length]
              have hmi : mi1 ≤ 9 := by
                have q := hcore.2 pre.length (by omega)
                rw [← hns, show ((pre.length : Nat) : Int) = i' by omega, ← hrun] at q
                exact q
              (repeat' ((fail_if_success (with_reducible first | refine at_while ?_ | refine at_for ?_ | refine at_iter ?_ | refine at_ksw ?_ | refine at_wh ?_ | show SwEnd _ _ _ _ _ _ _ _ _ | show wpAny _ _ (exec (Stmt.If _ [Stmt.Assign [Expr.Tuple _ _ _] _ _] _ _) _) _ _ _ | show InvPostN _ _ _ _ _ _ _ _ _)); (first | (with_reducible first | fail "none") | ((with_reducible refine at_strs ?_); (with_reducible rename Fr _ _ _ _ => F'); (with_reducible rename News _ _ _ _ => N'); (first | ((refine slice_post (hsz := ?hsz) (s := ⟨_, _, _, _, _⟩) F' N' (by omega) (by omega) ?_); (case hsz => size_fits); intro _ _ _ _ _ _) | ((refine slice_pre (hsz := ?hsz) (s := ⟨_, _, _, _, _⟩) F' N' (by omega) (by omega) ?_); (case hsz => size_fits); intro _ _ _ _ _ _)); try dsimp only) | ((with_reducible refine at_type ?_); (with_reducible rename Fr _ _ _ _ => F'); (with_reducible rename News _ _ _ _ => N'); (with_reducible rename IsRange _ _ _ _ _ _ _ _ => rgX); (with_unfolding_all refine' list_range2 (n := ?n) ?k0 F' N' ?k3 ?k4 ?k5 ?_; (case k0 => rfl); (case k3 => exact rgX); (case k4 => rfl); (case k5 => omega)); clear F' N' rgX; intro D' vs' c' h' tk' F' N' l1 hI'; try dsimp only) | ((with_reducible show wpAny _ _ (call (Value.ref 21) [Value.str _ _, Value.str _ _]) _ _ _); (refine' says_use (says_sub _ _ _ _ _ _ ?h1 ?h2) ?k1 ?k2 ?k3 ?k4 ?k5 ?kK ?kd ?ku ?_; (case k1 => k_asm); (case k2 => k_asm); (case k3 => k_asm); (case k4 => k_asm); (case k5 => k_asm); (case kK => rfl); (case h1 => omega); (case h2 => omega); (case kd => (dsimp only [Around.deeper]; omega)); (case ku => (dsimp only [Around.deeper]; omega))); intro r9 tl9 h9 tk9 F9 N9 hl9 hR9; (obtain ⟨e9, t9, e8⟩ := hR9); subst e9; subst e8; clear hl9; (try simp only [List.nil_append] at N9); (try dsimp only); (try k_fold)) | ((with_reducible refine at_sub ?_); (with_unfolding_all refine' item_anyK ?k1 ?k2 ?k3 ?k4 ?k5 ?_ ?k6; (case k1 => is_list); (case k2 => with_reducible assumption); (case k3 => first | assumption | omega); (case k4 => first | assumption | omega); (case k5 => first | assumption | omega); (case k6 => with_unfolding_all rfl)); intro _; try dsimp only) | ((with_reducible refine at_set ?_); (with_reducible rename Fr _ _ _ _ => F'); (with_reducible rename News _ _ _ _ => N'); (refine' ints_setItem F' N' ?k2 ?k3 ?k4 ?k5 ?k6 ?_; (case k2 => assumption); (case k3 => assumption); (case k4 => first | assumption | omega); (case k5 => first | assumption | omega); (case k6 => first | assumption | omega)); clear F' N'; intro h' F' N' hIs'; try dsimp only) | ((with_reducible refine at_bool ?_); with_unfolding_all (refine or_none (fun Q' hq => ld (by assumption) (by rfl) hq) ?_); try dsimp only) | ((with_reducible refine abs_st ?_); intro _ _; walk1; try dsimp only) | ((with_reducible refine use_post (by assumption) ?_); try dsimp only) | (k_unfold; (try dsimp only)) | (k_end; wrow_close) | (walk1; try dsimp only) | (dsimp only; walk1) | (leave1; walk_say "STEP leave1"; try dsimp only) | fail "no step")))
              · rename News _ _ _ _ => nE'
                refine kst_end ⟨_, _, _, _, _⟩ (by assumption) nE' (by kst_inAny) (by kst_anyIn) (by rfl) hI (by kst_all) (by kst_same) ⟨?_, ?_⟩
                · rw [List.length_append, List.length_singleton, rangeKs_succ, ← hpre, hi, Int.zero_add]
                · rw [List.foldl_append, ← hfold]
                  show _ = Mine.outer a1 b1 (ns, r) i'
                  unfold Mine.outer
                  rw [← hrun]
          case done =>
            clear lF lN rg hI
            rintro ⟨vs, ns, cap, r, tr⟩ u h tk hI ⟨hpre, hfold⟩ lF lN
            dsimp only [kstB] at lF hI hfold
            simp only [List.cons_append] at lN
            (repeat' ((fail_if_success (with_reducible first | refine at_while ?_ | refine at_for ?_ | refine at_iter ?_ | refine at_ksw ?_ | refine at_wh ?_ | show SwEnd _ _ _ _ _ _ _ _ _ | show wpAny _ _ (exec (Stmt.If _ [Stmt.Assign [Expr.Tuple _ _ _] _ _] _ _) _) _ _ _ | show InvPostN _ _ _ _ _ _ _ _ _)); (first | (with_reducible first | fail "none") | ((with_reducible refine at_strs ?_); (with_reducible rename Fr _ _ _ _ => F'); (with_reducible rename News _ _ _ _ => N'); (first | ((refine slice_post (hsz := ?hsz) (s := ⟨_, _, _, _, _⟩) F' N' (by omega) (by omega) ?_); (case hsz => size_fits); intro _ _ _ _ _ _) | ((refine slice_pre (hsz := ?hsz) (s := ⟨_, _, _, _, _⟩) F' N' (by omega) (by omega) ?_); (case hsz => size_fits); intro _ _ _ _ _ _)); try dsimp only) | ((with_reducible refine at_type ?_); (with_reducible rename Fr _ _ _ _ => F'); (with_reducible rename News _ _ _ _ => N'); (with_reducible rename IsRange _ _ _ _ _ _ _ _ => rgX); (with_unfolding_all refine' list_range2 (n := ?n) ?k0 F' N' ?k3 ?k4 ?k5 ?_; (case k0 => rfl); (case k3 => exact rgX); (case k4 => rfl); (case k5 => omega)); clear F' N' rgX; intro D' vs' c' h' tk' F' N' l1 hI'; try dsimp only) | ((with_reducible show wpAny _ _ (call (Value.ref 21) [Value.str _ _, Value.str _ _]) _ _ _); (refine' says_use (says_sub _ _ _ _ _ _ ?h1 ?h2) ?k1 ?k2 ?k3 ?k4 ?k5 ?kK ?kd ?ku ?_; (case k1 => k_asm); (case k2 => k_asm); (case k3 => k_asm); (case k4 => k_asm); (case k5 => k_asm); (case kK => rfl); (case h1 => omega); (case h2 => omega); (case kd => (dsimp only [Around.deeper]; omega)); (case ku => (dsimp only [Around.deeper]; omega))); intro r9 tl9 h9 tk9 F9 N9 hl9 hR9; (obtain ⟨e9, t9, e8⟩ := hR9); subst e9; subst e8; clear hl9; (try simp only [List.nil_append] at N9); (try dsimp only); (try k_fold)) | ((with_reducible refine at_sub ?_); (with_unfolding_all refine' item_anyK ?k1 ?k2 ?k3 ?k4 ?k5 ?_ ?k6; (case k1 => is_list); (case k2 => with_reducible assumption); (case k3 => first | assumption | omega); (case k4 => first | assumption | omega); (case k5 => first | assumption | omega); (case k6 => with_unfolding_all rfl)); intro _; try dsimp only) | ((with_reducible refine at_set ?_); (with_reducible rename Fr _ _ _ _ => F'); (with_reducible rename News _ _ _ _ => N'); (refine' ints_setItem F' N' ?k2 ?k3 ?k4 ?k5 ?k6 ?_; (case k2 => assumption); (case k3 => assumption); (case k4 => first | assumption | omega); (case k5 => first | assumption | omega); (case k6 => first | assumption | omega)); clear F' N'; intro h' F' N' hIs'; try dsimp only) | ((with_reducible refine at_bool ?_); with_unfolding_all (refine or_none (fun Q' hq => ld (by assumption) (by rfl) hq) ?_); try dsimp only) | ((with_reducible refine abs_st ?_); intro _ _; walk1; try dsimp only) | ((with_reducible refine use_post (by assumption) ?_); try dsimp only) | (k_unfold; (try dsimp only)) | (k_end; wrow_close) | (walk1; try dsimp only) | (dsimp only; walk1) | (leave1; walk_say "STEP leave1"; try dsimp only) | fail "no step")))
            refine hret _ [] _ _ (by k_asm) (kst_newsOf (by k_asm) fun p hp => .tail _ hp) (fun _ _ _ h => nomatch h) ⟨rfl, _, congrArg (fun z => Value.int z _) ?_⟩
            rw [show ((b1.length : Int) - 0).toNat = b1.length by omega] at hfold
            exact (congrArg Prod.snd hfold).trans hcore.1
end Mine
end
section
open PySem PySem.W PyProof.Rows PySem.Calls
namespace Mine
set_option maxRecDepth 100000
set_option maxHeartbeats 8000000
set_option linter.unusedVariables false
noncomputable abbrev APb : Array UInt8 := #[65, 66, 67, 68, 69, 70, 71, 72, 73, 74, 75, 76, 77, 78, 79, 80]
theorem ap_tab : ∀ n : Fin 16, KBy.whole APb (some (n.val : Int)) (some ((n.val : Int) + 1)) = false ∧ KBy.picked APb (some (n.val : Int)) (some ((n.val : Int) + 1)) = #[UInt8.ofNat (65 + n.val)] := by decide +kernel
theorem ap_pick (m : Int) (h0 : 0 ≤ m) (h1 : m < 16) : KBy.whole APb (some m) (some (m + 1)) = false ∧ KBy.picked APb (some m) (some (m + 1)) = #[UInt8.ofNat (65 + m.toNat)] := by
  obtain ⟨n, rfl⟩ := Int.eq_ofNat_of_zero_le h0
  exact ap_tab ⟨n, Int.ofNat_lt.mp h1⟩
section
variable {prog : Program} {w : World} {A : Around} {E : Value → Shared → Prop} {s : Shared} {value slice : PySem.Expr} {t t1 t2 : Tok} {h₀ : Heap} {L : Addr} {m : PySem.Str → Option Value} {news : List (Addr × Obj)} {Q : Value → Shared → Prop}
theorem ap_slice {k : Int} (h0 : 0 ≤ k) (h1 : k < 16) (hF : Fr h₀ L s.heap m) (hN : News h₀ L s.heap news)
    (h : ∀ h' t' c, Fr h₀ L h' m → News h₀ L h' news → Q (.bytes #[UInt8.ofNat (65 + k.toNat)] t') { s with heap := h', toks := c })
    (hs : subscripted slice false (.bytes APb t) (.ref s.heap.objs.size) = operate [.ref s.heap.objs.size, .bytes APb t] (getItem (.bytes APb t) (.ref s.heap.objs.size)) := by with_unfolding_all rfl)
    (ht : ∀ r, letTemporaryGo value (.bytes APb t) r = pure () := by intro _; with_unfolding_all rfl) :
    wpAny (model prog w) A (subscriptTail value slice (.bytes APb t) (.ref s.heap.objs.size)) Q E { s with heap := s.heap.push { cls := .type "slice", data := .fields #[.int k t1, .int (k + 1) t2, .none] } } := by
  obtain ⟨e1, e2⟩ := ap_pick k h0 h1
  refine KBy.slice_N hF hN (by constructor) (by constructor) e1 (by rw [e2]; simp) (fun h' t' c F N => ?_) hs ht
  rw [e2]
  exact h h' t' c F N
end
structure ASt where
  num : Int
  tn : Tok
  bs : Array UInt8
  tb : Tok
  j : Nat
noncomputable def apD (N : Int) : Nat → List UInt8
  | 0 => []
  | j + 1 => UInt8.ofNat (65 + (N / 16 ^ j % 16).toNat) :: apD N j
theorem apD_len (N : Int) : ∀ j, (apD N j).length = j
  | 0 => rfl
  | j + 1 => by rw [apD, List.length_cons, apD_len N j]
theorem says_ap (w : World) (N : Int) (t : Tok) (h1' : 16 ^ 6 ≤ N) (h2' : N < 16 ^ 7) (news : List (Addr × Obj)) : Says w 35 8 [.int (-N) t] news (fun r tl => tl = [] ∧ ∃ t, r = .bytes (apD N 7).toArray t) := by
  w_on
  w_top off
  intro loose mean mg mb dp un gd cn cs a ccd cl outer A₀ base h₀ L m s Q E B F X Nw T hk hd hu hret
  revert X; k_fill; intro X
  refine wpAny_call ?_
  k_dflt cell_enter
  (repeat' ((fail_if_success (with_reducible first | refine at_while ?_ | refine at_for ?_ | refine at_iter ?_ | refine at_ksw ?_ | refine at_wh ?_ | show InvPostN _ _ _ _ _ _ _ _ _)); (first | (with_reducible first | fail "none") | ((with_reducible show wpAny _ _ (subscriptTail _ _ (Value.bytes _ _) (Value.ref _)) _ _ _); (with_reducible rename Fr _ _ _ _ => F'); (with_reducible rename News _ _ _ _ => N'); (refine ap_slice (s := ⟨_, _, _, _, _⟩) (by first | omega | exact fmod_lo _ (by decide)) (by first | omega | exact fmod_hi _ (by decide)) F' N' ?_); intro _ _ _ _ _; try dsimp only) | ((with_reducible show wpAny _ _ (binaryOp Operator.Add (Value.bytes _ _) (Value.bytes _ _)) _ _ _); (refine KBy.add_bytes ?hsz ?_); (case hsz => (simp only [List.size_toArray, List.length_cons, List.length_nil]; omega)); intro _ _; try dsimp only) | ((with_reducible refine abs_st ?_); intro _ _; walk1; try dsimp only) | ((with_reducible refine use_post (by assumption) ?_); try dsimp only) | (k_unfold; (try dsimp only)) | (k_end; wrow_close) | (walk1; try dsimp only) | (dsimp only; walk1) | (leave1; walk_say "STEP leave1"; try dsimp only) | fail "no step")))
  rename Fr _ _ _ _ => lF
  rename News _ _ _ _ => lN
  rw [show (if -N < 0 then - -N else -N) = N by rw [if_pos (by omega)]; omega] at lF
  obtain ⟨u0, lF⟩ := fr_abs lF [("num", .int N _), ("val", .bytes #[] _), ("AP", .bytes #[65, 66, 67, 68, 69, 70, 71, 72, 73, 74, 75, 76, 77, 78, 79, 80] _)] (by kst_all)
  dsimp only [kstB] at lF
  refine' while_cut (σ := ASt) (fun _ => news) (fun c => [("num", Value.int c.num c.tn), ("val", Value.bytes c.bs c.tb)]) ["mod"] (fun c => c.j ≤ 7 ∧ c.num = N / 16 ^ c.j ∧ c.bs = (apD N c.j).toArray) (fun c => c.num.toNat) (fun c => c.num = 0) ⟨N, _, #[], _, 0⟩ lF lN ?kk ?kp ?turn ?done
  case kk => kst_all
  case kp => exact ⟨Nat.zero_le _, by simp, rfl⟩
  case turn =>
    clear lF lN
    rintro ⟨num, tn, bs, tb, j⟩ u h tk ⟨h0, h1, h2⟩ lF lN
    dsimp only [kstB] at h0 h1 h2 lF
    have hbs : bs.size = j := by rw [h2, List.size_toArray, apD_len]
    (repeat' ((fail_if_success (with_reducible first | refine at_while ?_ | refine at_for ?_ | refine at_iter ?_ | refine at_ksw ?_ | refine at_wh ?_ | show InvPostN _ _ _ _ _ _ _ _ _)); (first | (with_reducible first | fail "none") | ((with_reducible show wpAny _ _ (subscriptTail _ _ (Value.bytes _ _) (Value.ref _)) _ _ _); (with_reducible rename Fr _ _ _ _ => F'); (with_reducible rename News _ _ _ _ => N'); (refine ap_slice (s := ⟨_, _, _, _, _⟩) (by first | omega | exact fmod_lo _ (by decide)) (by first | omega | exact fmod_hi _ (by decide)) F' N' ?_); intro _ _ _ _ _; try dsimp only) | ((with_reducible show wpAny _ _ (binaryOp Operator.Add (Value.bytes _ _) (Value.bytes _ _)) _ _ _); (refine KBy.add_bytes ?hsz ?_); (case hsz => (simp only [List.size_toArray, List.length_cons, List.length_nil]; omega)); intro _ _; try dsimp only) | ((with_reducible refine abs_st ?_); intro _ _; walk1; try dsimp only) | ((with_reducible refine use_post (by assumption) ?_); try dsimp only) | (k_unfold; (try dsimp only)) | (k_end; wrow_close) | (walk1; try dsimp only) | (dsimp only; walk1) | (leave1; walk_say "STEP leave1"; try dsimp only) | fail "no step")))
    · have hN : 0 ≤ N := by omega
      have hnum : 0 ≤ num := by rw [h1]; exact Int.ediv_nonneg hN (by exact Int.le_of_lt (Int.pow_pos (by decide)))
      have hj : j < 7 := by
        rcases Nat.lt_or_ge j 7 with h | h
        · exact h
        · have : j = 7 := by omega
          subst this
          have : N / 16 ^ 7 = 0 := Int.ediv_eq_zero_of_lt hN h2'
          omega
      rename Fr _ _ _ _ => eF
      rename News _ _ _ _ => eN
      refine' ksw_end ⟨num.fdiv 16, _, #[UInt8.ofNat (65 + (num.fmod 16).toNat)] ++ bs, _, j + 1⟩ eF eN (fun p hp => .tail _ hp) trivial ?k1 ?k2 ⟨?k3, ?k4, ?k5⟩ ?k6
      case k1 => kst_all
      case k2 => ksw_same
      case k3 => exact hj
      case k4 =>
        show num.fdiv 16 = N / 16 ^ (j + 1)
        rw [Int.fdiv_eq_ediv_of_nonneg _ (by decide)]
        rw [h1, Int.ediv_ediv_of_nonneg (Int.le_of_lt (Int.pow_pos (by decide))), Int.pow_succ]
      case k5 =>
        show _ = (apD N (j + 1)).toArray
        rw [h2, apD, ← h1, Int.fmod_eq_emod_of_nonneg _ (by decide)]
        simp
      case k6 => (show (num.fdiv 16).toNat < num.toNat; rw [Int.fdiv_eq_ediv_of_nonneg _ (by decide)]; omega)
    · refine ⟨by assumption, _, _, rfl, by assumption, by assumption⟩
  case done =>
    clear lF lN
    rintro ⟨num, tn, bs, tb, j⟩ u h tk ⟨h0, h1, h2⟩ hD lF lN
    dsimp only [kstB] at h0 h1 h2 lF hD
    dsimp only
    (repeat' ((fail_if_success (with_reducible first | refine at_while ?_ | refine at_for ?_ | refine at_iter ?_ | refine at_ksw ?_ | refine at_wh ?_ | show InvPostN _ _ _ _ _ _ _ _ _)); (first | (with_reducible first | fail "none") | ((with_reducible show wpAny _ _ (subscriptTail _ _ (Value.bytes _ _) (Value.ref _)) _ _ _); (with_reducible rename Fr _ _ _ _ => F'); (with_reducible rename News _ _ _ _ => N'); (refine ap_slice (s := ⟨_, _, _, _, _⟩) (by first | omega | exact fmod_lo _ (by decide)) (by first | omega | exact fmod_hi _ (by decide)) F' N' ?_); intro _ _ _ _ _; try dsimp only) | ((with_reducible show wpAny _ _ (binaryOp Operator.Add (Value.bytes _ _) (Value.bytes _ _)) _ _ _); (refine KBy.add_bytes ?hsz ?_); (case hsz => (simp only [List.size_toArray, List.length_cons, List.length_nil]; omega)); intro _ _; try dsimp only) | ((with_reducible refine abs_st ?_); intro _ _; walk1; try dsimp only) | ((with_reducible refine use_post (by assumption) ?_); try dsimp only) | (k_unfold; (try dsimp only)) | (k_end; wrow_close) | (walk1; try dsimp only) | (dsimp only; walk1) | (leave1; walk_say "STEP leave1"; try dsimp only) | fail "no step")))
    refine hret _ [] _ _ (by k_asm) (by k_asm) (fun _ _ _ h => nomatch h) ⟨rfl, tb, ?_⟩
    have hj : j = 7 := by
      rcases Nat.lt_or_ge j 7 with h | h
      · exfalso
        rw [hD] at h1
        have hc : j = 0 ∨ j = 1 ∨ j = 2 ∨ j = 3 ∨ j = 4 ∨ j = 5 ∨ j = 6 := by omega
        clear h2 lF lN
        rcases hc with rfl | rfl | rfl | rfl | rfl | rfl | rfl <;> omega
      · omega
    rw [h2, hj]
end Mine
end
section
open PySem PySem.W PyProof.Rows PySem.Calls
namespace Mine
set_option maxRecDepth 100000
set_option maxHeartbeats 8000000
set_option linter.unusedVariables false
noncomputable def kv3 (t : Nat) : List (Int × Str) → List (Int × Value)
  | [] => []
  | (k, v) :: r => (k, .str v (t + 1)) :: kv3 (t + 3) r
noncomputable def kv2 (t : Nat) : List (Int × Str) → List (Int × Value)
  | [] => []
  | (k, v) :: r => (k, .str v (t + 1)) :: kv2 (t + 2) r
section
variable {prog : Program} {w : World}
theorem kv3_pairs : ∀ (ps : List (Int × Str)) (t : Nat), Pairs (intKind prog w) (ents3 t ps) (kv3 t ps)
  | [], _ => .nil
  | (k, v) :: r, t => .cons (intKind_is _ _ _ _) rfl (kv3_pairs r (t + 3))
theorem kv2_pairs : ∀ (ps : List (Int × Str)) (t : Nat), Pairs (intKind prog w) (ents2 t ps) (kv2 t ps)
  | [], _ => .nil
  | (k, v) :: r, t => .cons (intKind_is _ _ _ _) rfl (kv2_pairs r (t + 2))
theorem pairs_append : ∀ {es fs : List DictEntry} {a b : List (Int × Value)}, Pairs (intKind prog w) es a → Pairs (intKind prog w) fs b → Pairs (intKind prog w) (es ++ fs) (a ++ b)
  | _, _, _, _, .nil, h => h
  | _, _, _, _, .cons x y z, h => .cons x y (pairs_append z h)
theorem ents3_hk (ps : List (Int × Str)) : ∀ t : Nat, ∀ e ∈ ents3 t ps, ∃ k, (intKind prog w).is k e.key = true ∧ e.hash = (intKind prog w).hash k := by
  induction ps with
  | nil => exact fun t e h => absurd h (by unfold ents3; exact List.not_mem_nil)
  | cons p r ih =>
    obtain ⟨k, v⟩ := p
    intro t e h
    unfold ents3 at h
    rcases List.mem_cons.mp h with rfl | h
    · exact ⟨k, intKind_is _ _ _ _, rfl⟩
    · exact ih _ e h
theorem ents2_hk (ps : List (Int × Str)) : ∀ t : Nat, ∀ e ∈ ents2 t ps, ∃ k, (intKind prog w).is k e.key = true ∧ e.hash = (intKind prog w).hash k := by
  induction ps with
  | nil => exact fun t e h => absurd h (by unfold ents2; exact List.not_mem_nil)
  | cons p r ih =>
    obtain ⟨k, v⟩ := p
    intro t e h
    unfold ents2 at h
    rcases List.mem_cons.mp h with rfl | h
    · exact ⟨k, intKind_is _ _ _ _, rfl⟩
    · exact ih _ e h
end
theorem kv3_fst : ∀ (ps : List (Int × Str)) (t : Nat), (kv3 t ps).map (·.1) = ps.map (·.1)
  | [], _ => rfl
  | (k, v) :: r, t => congrArg (k :: ·) (kv3_fst r _)
theorem kv2_fst : ∀ (ps : List (Int × Str)) (t : Nat), (kv2 t ps).map (·.1) = ps.map (·.1)
  | [], _ => rfl
  | (k, v) :: r, t => congrArg (k :: ·) (kv2_fst r _)
@[irreducible] noncomputable def kvsD : List (Int × Value) := kv3 237 (pr1 ++ pr2) ++ kv2 2175 pr3
theorem dict_is (prog : Program) (w : World) : dictO.IsDictOf (intKind prog w) kvsD := by
  refine ⟨dictEs.toArray, 650, ?_, ?_, ?_, ?_, ?_⟩
  · unfold dictO; exact ⟨rfl, rfl, rfl⟩
  · unfold dictO; rfl
  · intro e he
    have he := List.mem_toArray.mp he
    unfold dictEs at he
    rcases List.mem_append.mp he with h | h
    · exact ents3_hk _ _ e h
    · exact ents2_hk _ _ e h
  · unfold dictEs kvsD
    exact pairs_append (kv3_pairs _ _) (kv2_pairs _ _)
  · unfold kvsD
    rw [List.map_append, kv3_fst, kv2_fst, ← List.map_append]
    have h : ((((pr1 ++ pr2 ++ pr3).map (·.1))).map hashInt).Nodup := by rw [List.map_map]; exact prs_nodup
    exact (List.pairwise_map.mp h).imp fun {a b} (h : hashInt a ≠ hashInt b) (e : a = b) => h (congrArg hashInt e)
noncomputable def als : List Nat := [0, 1, 2, 4, 7, 8, 9, 10, 11, 12]
noncomputable def wanted (k : Int) : Bool := let n := k.toNat - 119808; k ≥ 119808 && als.contains (n / 52) && (n % 52 < 16)
noncomputable def target : List (Int × Str) := als.flatMap fun a => (List.range 16).map fun l => (((119808 + 52 * a + l : Nat) : Int), (⟨#[97 + l]⟩ : Str))
theorem target_eq : ((pr1 ++ pr2 ++ pr3).filter fun p => wanted p.1) = target := by kernel_rfl
noncomputable def look (ps : List (Int × Str)) (k : Int) : Option Str := (ps.find? fun p => decide (p.1 = k)).map (·.2)
theorem look_target : (als.all fun a => (List.range 16).all fun l => look target ((119808 + 52 * a + l : Nat) : Int) == some (⟨#[97 + l]⟩ : Str)) = true := by decide +kernel
theorem kv3_at (k : Int) (s : Str) : ∀ (ps : List (Int × Str)) (t : Nat), look ps k = some s → ∃ u, valueAt (kv3 t ps) k = some (.str s u)
  | [], _, h => nomatch h
  | (a, v) :: r, t, h => by
    by_cases e : a = k
    · subst e
      simp [look] at h
      subst h
      exact ⟨t + 1, by simp [valueAt, kv3]⟩
    · have h' : look r k = some s := by simpa [look, e] using h
      obtain ⟨u, hu⟩ := kv3_at k s r (t + 3) h'
      exact ⟨u, by simpa [valueAt, kv3, e] using hu⟩
theorem kv2_at (k : Int) (s : Str) : ∀ (ps : List (Int × Str)) (t : Nat), look ps k = some s → ∃ u, valueAt (kv2 t ps) k = some (.str s u)
  | [], _, h => nomatch h
  | (a, v) :: r, t, h => by
    by_cases e : a = k
    · subst e
      simp [look] at h
      subst h
      exact ⟨t + 1, by simp [valueAt, kv2]⟩
    · have h' : look r k = some s := by simpa [look, e] using h
      obtain ⟨u, hu⟩ := kv2_at k s r (t + 2) h'
      exact ⟨u, by simpa [valueAt, kv2, e] using hu⟩
theorem kv3_none (k : Int) : ∀ (ps : List (Int × Str)) (t : Nat), look ps k = none → valueAt (kv3 t ps) k = none
  | [], _, _ => rfl
  | (a, v) :: r, t, h => by
    by_cases e : a = k
    · subst e
      simp [look] at h
    · have h' : look r k = none := by simpa [look, e] using h
      simpa [valueAt, kv3, e] using kv3_none k r (t + 3) h'
theorem look_append (a b : List (Int × Str)) (k : Int) : look (a ++ b) k = (look a k).or (look b k) := by
  unfold look
  rw [List.find?_append]
  cases List.find? (fun p => decide (p.1 = k)) a <;> rfl
theorem valueAt_append (a b : List (Int × Value)) (k : Int) : valueAt (a ++ b) k = (valueAt a k).or (valueAt b k) := by
  unfold valueAt
  rw [List.find?_append]
  cases List.find? (fun kv => decide (kv.1 = k)) a <;> rfl
theorem look_filter (ps : List (Int × Str)) (k : Int) (hk : wanted k = true) : look ps k = look (ps.filter fun p => wanted p.1) k := by
  unfold look
  rw [List.find?_filter]
  congr 2
  funext p
  by_cases e : p.1 = k
  · simp [e, hk]
  · simp [e]
theorem b3_at (a l : Nat) (ha : a ∈ als) (hl : l < 16) : ∃ u, valueAt kvsD ((119808 + 52 * a + l : Nat) : Int) = some (.str ⟨#[97 + l]⟩ u) := by
  have hw : wanted ((119808 + 52 * a + l : Nat) : Int) = true := by
    have e1 : (119808 + 52 * a + l - 119808) / 52 = a := by omega
    have e2 : (119808 + 52 * a + l - 119808) % 52 = l := by omega
    unfold wanted
    simp only [Int.toNat_natCast, e1, e2, Bool.and_eq_true, decide_eq_true_eq]
    exact ⟨⟨by omega, List.contains_iff_mem.mpr ha⟩, hl⟩
  have hl' : look (pr1 ++ pr2 ++ pr3) ((119808 + 52 * a + l : Nat) : Int) = some (⟨#[97 + l]⟩ : Str) := by
    rw [look_filter _ _ hw, target_eq]
    have h := List.all_eq_true.mp look_target a ha
    exact eq_of_beq (List.all_eq_true.mp h l (List.mem_range.mpr hl))
  unfold kvsD
  rw [valueAt_append]
  rw [look_append] at hl'
  cases h : look (pr1 ++ pr2) ((119808 + 52 * a + l : Nat) : Int) with
  | some s =>
    rw [h] at hl'
    obtain ⟨u, hu⟩ := kv3_at _ _ _ 237 h
    have e : s = ⟨#[97 + l]⟩ := Option.some.inj hl'
    exact ⟨u, by rw [hu, e]; rfl⟩
  | none =>
    rw [h] at hl'
    obtain ⟨u, hu⟩ := kv2_at _ _ _ 2175 hl'
    exact ⟨u, by rw [kv3_none _ _ _ h, hu]; rfl⟩
theorem dict36 {P : Params} {h : Heap} (X : (KL P).In h) : h.get? 36 = some dictO := X 36 dictO (by rfl)
section
variable {w : World} {A : Around} {E : Value → Shared → Prop} {s : Shared} {h₀ : Heap} {L : Addr} {m : Str → Option Value}
theorem dict36_of {prog : Program} (X : (KL w.params).In h₀) (F : Fr h₀ L s.heap m) : s.heap.DictOf (intKind prog w) 36 kvsD :=
  Heap.dictOf_iff.mpr ⟨dictO, F.keep _ _ (dict36 X), dict_is prog w⟩
theorem b3_method {prog : Program} {pl : Sem Bool} {Q : Value × List Value → Shared → Prop} (X : (KL w.params).In h₀) (F : Fr h₀ L s.heap m) (h : Q (.builtin "dict.get", [.ref 36]) s) : wpAny (model prog w) A (getMethod (.ref 36) "get" pl) Q E s :=
  have hD := dict36_of (prog := prog) X F
  getMethod_builtin hD.typeIs PySem.F.plainAttrs_dict PySem.F.slot_dict_get PySem.F.type_dict_get hD.mapOf.noDict h
theorem b3_get {prog : Program} {a l : Nat} {t : Tok} {Q : Value → Shared → Prop} (ha : a ∈ als) (hl : l < 16) (X : (KL w.params).In h₀) (F : Fr h₀ L s.heap m) (h : ∀ u, Q (.str ⟨#[97 + l]⟩ u) { s with toks := s.toks + 1 }) :
    wpAny (model prog w) A (call (.builtin "dict.get") [.ref 36, .int ((119808 + 52 * a + l : Nat) : Int) t]) Q E s := by
  have hD := dict36_of (prog := prog) X F
  obtain ⟨u, hu⟩ := b3_at a l ha hl
  exact call_meetsIn PySem.F.slot_dict_get hD.typeIs PySem.F.entry_dict_get (PySem.F.args_dict_get_2 _ _) (meets_dict_get (intKind prog w) 36 (intKind_is _ _ _ _) (by decide)) ⟨_, hD.mapOf, by rw [hu]; exact h u⟩
end
end Mine
end
section
open PySem PySem.W PyProof.Rows PySem.Calls
namespace Mine
set_option maxRecDepth 100000
set_option maxHeartbeats 8000000
set_option linter.unusedVariables false
theorem says_b3 (w : World) (a l : Nat) (ha : a ∈ als) (hl : l < 16) (t : Tok) (news : List (Addr × Obj)) : Says w 81 8 [.str ⟨#[119808 + 52 * a + l]⟩ t] news (fun r tl => tl = [] ∧ ∃ t, r = .str ⟨#[97 + l]⟩ t) := by
  w_on
  w_top off
  intro loose mean mg mb dp un gd cn cs a' ccd cl outer A₀ base h₀ L m s Q E B F X N T hk hd hu hret
  have hlen : (⟨#[119808 + 52 * a + l]⟩ : Str).length = 1 := rfl
  revert X; k_fill; intro X
  refine wpAny_call ?_
  k_dflt cell_enter
  rename (KL w.params).In _ => X'
  (repeat' ((fail_if_success (with_reducible first | refine at_while ?_ | refine at_for ?_ | refine at_iter ?_ | refine at_ksw ?_ | refine at_wh ?_ | show InvPostN _ _ _ _ _ _ _ _ _)); (first | (with_reducible first | fail "none") | ((with_reducible show wpAny _ _ (getMethod (Value.ref 36) _ _) _ _ _); refine' b3_method ?k1 ?k2 ?_; (case k1 => k_asm); (case k2 => k_asm); try dsimp only) | ((with_reducible refine abs_st ?_); intro _ _; walk1; try dsimp only) | ((with_reducible refine use_post (by assumption) ?_); try dsimp only) | (k_unfold; (try dsimp only)) | (k_end; wrow_close) | (walk1; try dsimp only) | (dsimp only; walk1) | (leave1; walk_say "STEP leave1"; try dsimp only) | fail "no step")))
  rw [show (#[119808 + 52 * a + l] : Array Nat).getD 0 0 = 119808 + 52 * a + l from rfl]
  refine' b3_get ha hl ?k1 ?k2 fun u => ?_
  case k1 => exact X'
  case k2 => assumption
  dsimp only
  (repeat' ((fail_if_success (with_reducible first | refine at_while ?_ | refine at_for ?_ | refine at_iter ?_ | refine at_ksw ?_ | refine at_wh ?_ | show InvPostN _ _ _ _ _ _ _ _ _)); (first | (with_reducible first | fail "none") | ((with_reducible show wpAny _ _ (getMethod (Value.ref 36) _ _) _ _ _); refine' b3_method ?k1 ?k2 ?_; (case k1 => k_asm); (case k2 => k_asm); try dsimp only) | ((with_reducible refine abs_st ?_); intro _ _; walk1; try dsimp only) | ((with_reducible refine use_post (by assumption) ?_); try dsimp only) | (k_unfold; (try dsimp only)) | (k_end; wrow_close) | (walk1; try dsimp only) | (dsimp only; walk1) | (leave1; walk_say "STEP leave1"; try dsimp only) | fail "no step")))
  refine hret _ [] _ _ (by k_asm) (by k_asm) (fun _ _ _ h => nomatch h) ⟨rfl, u, rfl⟩
end Mine
end
section
open PySem PySem.W PyProof.Rows PySem.Calls
namespace Mine
set_option maxRecDepth 100000
set_option maxHeartbeats 8000000
set_option linter.unusedVariables false
noncomputable def dig (T : Int) (p : Nat) : Int := (1 + T % 15 + (1 + 2 * (T / 15 % 8)) * p) % 16
noncomputable def wordN (T : Int) : Nat → Int
  | 0 => 0
  | j + 1 => 16 * wordN T j + dig T j
noncomputable def wordB (d : Nat → Nat) : Array UInt8 := ((List.range 7).map fun p => UInt8.ofNat (65 + d p)).toArray
noncomputable def digN (T : Int) (p : Nat) : Nat := (dig T p).toNat
theorem dig_lo (T : Int) (p : Nat) : 0 ≤ dig T p := Int.emod_nonneg _ (by decide)
theorem dig_hi (T : Int) (p : Nat) : dig T p < 16 := Int.emod_lt_of_pos _ (by decide)
theorem dig_0 (T : Int) : 1 ≤ dig T 0 := by unfold dig; simp only [Int.natCast_zero, Int.mul_zero, Int.add_zero]; omega
theorem horn (a d : Int) (h0 : 0 ≤ d) (h1 : d < 16) : (16 * a + d) / 16 = a ∧ (16 * a + d) % 16 = d := by omega
theorem wordN_dig (T : Int) : ∀ n j k : Nat, n = j + 1 + k → wordN T n / 16 ^ k % 16 = dig T j
  | 0, j, k, h => absurd h (by omega)
  | n + 1, j, 0, h => by
    obtain rfl : n = j := by omega
    show wordN T (n + 1) / 1 % 16 = _
    rw [Int.ediv_one]
    exact (horn _ _ (dig_lo T n) (dig_hi T n)).2
  | n + 1, j, k + 1, h => by
    rw [Int.pow_succ, Int.mul_comm, ← Int.ediv_ediv_of_nonneg (by decide)]
    show (16 * wordN T n + dig T n) / 16 / 16 ^ k % 16 = _
    rw [(horn _ _ (dig_lo T n) (dig_hi T n)).1]
    exact wordN_dig T n j k (by omega)
theorem wordN_lt (T : Int) : ∀ n, wordN T n < 16 ^ n
  | 0 => by show (0 : Int) < 1; decide
  | n + 1 => by
    have h := wordN_lt T n
    have h1 := dig_hi T n
    show 16 * wordN T n + dig T n < 16 ^ (n + 1)
    rw [Int.pow_succ]
    omega
theorem wordN_ge (T : Int) : ∀ n, 16 ^ n ≤ wordN T (n + 1)
  | 0 => by
    have h := dig_0 T
    show (1 : Int) ≤ 16 * 0 + dig T 0
    omega
  | n + 1 => by
    have h := wordN_ge T n
    have h1 := dig_lo T (n + 1)
    show 16 ^ (n + 1) ≤ 16 * wordN T (n + 1) + dig T (n + 1)
    rw [Int.pow_succ]
    omega
theorem wordN_7 (T : Int) : 16 ^ 6 ≤ wordN T 7 ∧ wordN T 7 < 16 ^ 7 ∧ apD (wordN T 7) 7 = (List.range 7).map fun p => UInt8.ofNat (65 + digN T p) := by
  refine ⟨wordN_ge T 6, wordN_lt T 7, ?_⟩
  have h := fun j k (e : 7 = j + 1 + k) => congrArg (fun z : Int => UInt8.ofNat (65 + z.toNat)) (wordN_dig T 7 j k e)
  show [_, _, _, _, _, _, _] = [_, _, _, _, _, _, _]
  exact congr (congrArg _ (h 0 6 rfl)) (congr (congrArg _ (h 1 5 rfl)) (congr (congrArg _ (h 2 4 rfl)) (congr (congrArg _ (h 3 3 rfl)) (congr (congrArg _ (h 4 2 rfl)) (congr (congrArg _ (h 5 1 rfl)) (congr (congrArg _ (h 6 0 rfl)) rfl))))))
theorem says_word (w : World) (T : Int) (h0T : 0 ≤ T) (h1T : T < 20000000) (t : Tok) (news : List (Addr × Obj)) : Says w 88 20 [.int T t] news (fun r tl => tl = [] ∧ ∃ t, r = .bytes (wordB (digN T)) t) := by
  w_on
  w_top off
  intro loose mean mg mb dp un gd cn cs a ccd cl outer A₀ base h₀ L m s Q E B F X N T' hk hd hu hret
  revert X; k_fill; intro X
  refine wpAny_call ?_
  k_dflt cell_enter
  (repeat' ((fail_if_success (with_reducible first | refine at_while ?_ | refine at_for ?_ | refine at_iter ?_ | refine at_ksw ?_ | refine at_wh ?_ | show InvPostN _ _ _ _ _ _ _ _ _)); (first | (with_reducible first | fail "none") | ((with_reducible show wpAny _ _ (call (Value.ref 35) [Value.int (-_) _]) _ _ _); (refine' says_use (says_ap _ _ _ ?h1 ?h2 _) ?k1 ?k2 ?k3 ?k4 ?k5 ?kK ?kd ?ku ?_; (case k1 => k_asm); (case k2 => k_asm); (case k3 => k_asm); (case k4 => k_asm); (case k5 => k_asm); (case kK => rfl); (case h1 => omega); (case h2 => omega); (case kd => (dsimp only [Around.deeper]; omega)); (case ku => (dsimp only [Around.deeper]; omega))); intro r9 tl9 h9 tk9 F9 N9 hl9 hR9; (obtain ⟨e9, t9, e8⟩ := hR9); subst e9; subst e8; clear hl9; (try simp only [List.nil_append] at N9); (try dsimp only); (try k_fold)) | ((with_reducible refine abs_st ?_); intro _ _; walk1; try dsimp only) | ((with_reducible refine use_post (by assumption) ?_); try dsimp only) | (k_unfold; (try dsimp only)) | (k_end; wrow_close) | (walk1; try dsimp only) | (dsimp only; walk1) | (leave1; walk_say "STEP leave1"; try dsimp only) | fail "no step")))
  rename Fr _ _ _ _ => lF
  rename News _ _ _ _ => lN
  obtain ⟨u0, lF⟩ := fr_abs lF [("number", .int 0 _), ("total", .int T t)] (by kst_all)
  dsimp only [kstB] at lF
  walk1
  (repeat' ((fail_if_success (with_reducible first | refine at_while ?_ | refine at_for ?_ | refine at_iter ?_ | refine at_ksw ?_ | refine at_wh ?_ | show InvPostN _ _ _ _ _ _ _ _ _)); (first | (with_reducible first | fail "none") | ((with_reducible show wpAny _ _ (call (Value.ref 35) [Value.int (-_) _]) _ _ _); (refine' says_use (says_ap _ _ _ ?h1 ?h2 _) ?k1 ?k2 ?k3 ?k4 ?k5 ?kK ?kd ?ku ?_; (case k1 => k_asm); (case k2 => k_asm); (case k3 => k_asm); (case k4 => k_asm); (case k5 => k_asm); (case kK => rfl); (case h1 => omega); (case h2 => omega); (case kd => (dsimp only [Around.deeper]; omega)); (case ku => (dsimp only [Around.deeper]; omega))); intro r9 tl9 h9 tk9 F9 N9 hl9 hR9; (obtain ⟨e9, t9, e8⟩ := hR9); subst e9; subst e8; clear hl9; (try simp only [List.nil_append] at N9); (try dsimp only); (try k_fold)) | ((with_reducible refine abs_st ?_); intro _ _; walk1; try dsimp only) | ((with_reducible refine use_post (by assumption) ?_); try dsimp only) | (k_unfold; (try dsimp only)) | (k_end; wrow_close) | (walk1; try dsimp only) | (dsimp only; walk1) | (leave1; walk_say "STEP leave1"; try dsimp only) | fail "no step")))
  rename Fr _ _ _ _ => lF
  rename News _ _ _ _ => lN
  rename IsRange _ _ _ _ _ _ _ _ => rg
  with_unfolding_all refine' kst_range (σ := Int × Tok) (fun _ => news) (fun c => [("number", .int c.1 c.2)]) (fun c => True) [] (fun pre c => c.1 = wordN T pre.length) ⟨0, _⟩ rfl rg (small_one (by omega) (by omega) (by omega) (by omega)) (rangeSize_nat _ _) lF lN trivial ?hk ?hp ?turn ?done
  case hk => kst_all
  case hp => rfl
  case turn =>
    clear lF lN rg
    rintro ⟨num, tn⟩ pre i' t u h tk own hi hlt hoff hI hP lF lN
    dsimp only [kstB] at lF hP
    (repeat' ((fail_if_success (with_reducible first | refine at_while ?_ | refine at_for ?_ | refine at_iter ?_ | refine at_ksw ?_ | refine at_wh ?_ | show InvPostN _ _ _ _ _ _ _ _ _)); (first | (with_reducible first | fail "none") | ((with_reducible show wpAny _ _ (call (Value.ref 35) [Value.int (-_) _]) _ _ _); (refine' says_use (says_ap _ _ _ ?h1 ?h2 _) ?k1 ?k2 ?k3 ?k4 ?k5 ?kK ?kd ?ku ?_; (case k1 => k_asm); (case k2 => k_asm); (case k3 => k_asm); (case k4 => k_asm); (case k5 => k_asm); (case kK => rfl); (case h1 => omega); (case h2 => omega); (case kd => (dsimp only [Around.deeper]; omega)); (case ku => (dsimp only [Around.deeper]; omega))); intro r9 tl9 h9 tk9 F9 N9 hl9 hR9; (obtain ⟨e9, t9, e8⟩ := hR9); subst e9; subst e8; clear hl9; (try simp only [List.nil_append] at N9); (try dsimp only); (try k_fold)) | ((with_reducible refine abs_st ?_); intro _ _; walk1; try dsimp only) | ((with_reducible refine use_post (by assumption) ?_); try dsimp only) | (k_unfold; (try dsimp only)) | (k_end; wrow_close) | (walk1; try dsimp only) | (dsimp only; walk1) | (leave1; walk_say "STEP leave1"; try dsimp only) | fail "no step")))
    rename News _ _ _ _ => nE'
    refine kst_end (_, _) (by assumption) nE' (by kst_inAny) (by kst_anyIn) (by rfl) trivial (by kst_all) (by kst_same) ?_
    show _ = wordN T (pre ++ [i']).length
    rw [List.length_append, List.length_singleton, wordN, ← hP, hi]
    dsimp only
    rw [Int.fmod_eq_emod_of_nonneg _ (by decide), Int.fmod_eq_emod_of_nonneg _ (by decide), Int.fmod_eq_emod_of_nonneg _ (by decide), Int.fdiv_eq_ediv_of_nonneg _ (by decide), Int.zero_add]
    rfl
  case done =>
    clear lF lN rg
    rintro ⟨num, tn⟩ u h tk hI hP lF lN
    dsimp only [kstB] at lF hP
    obtain ⟨e1, e2, e3⟩ := wordN_7 T
    rw [show (rangeKs 0 ((7 : Int) - 0).toNat).length = 7 by decide] at hP
    rw [← hP] at e1 e2 e3
    (repeat' ((fail_if_success (with_reducible first | refine at_while ?_ | refine at_for ?_ | refine at_iter ?_ | refine at_ksw ?_ | refine at_wh ?_ | show InvPostN _ _ _ _ _ _ _ _ _)); (first | (with_reducible first | fail "none") | ((with_reducible show wpAny _ _ (call (Value.ref 35) [Value.int (-_) _]) _ _ _); (refine' says_use (says_ap _ _ _ ?h1 ?h2 _) ?k1 ?k2 ?k3 ?k4 ?k5 ?kK ?kd ?ku ?_; (case k1 => k_asm); (case k2 => k_asm); (case k3 => k_asm); (case k4 => k_asm); (case k5 => k_asm); (case kK => rfl); (case h1 => omega); (case h2 => omega); (case kd => (dsimp only [Around.deeper]; omega)); (case ku => (dsimp only [Around.deeper]; omega))); intro r9 tl9 h9 tk9 F9 N9 hl9 hR9; (obtain ⟨e9, t9, e8⟩ := hR9); subst e9; subst e8; clear hl9; (try simp only [List.nil_append] at N9); (try dsimp only); (try k_fold)) | ((with_reducible refine abs_st ?_); intro _ _; walk1; try dsimp only) | ((with_reducible refine use_post (by assumption) ?_); try dsimp only) | (k_unfold; (try dsimp only)) | (k_end; wrow_close) | (walk1; try dsimp only) | (dsimp only; walk1) | (leave1; walk_say "STEP leave1"; try dsimp only) | fail "no step")))
    rw [e3]
    exact hret _ [] _ _ (by k_asm) (by k_asm) (fun _ _ _ h => nomatch h) ⟨rfl, _, rfl⟩
end Mine
end
section
open PySem PySem.W PyProof.Rows PySem.Calls
open PySem.Builtin
namespace Mine
set_option maxRecDepth 100000
set_option maxHeartbeats 8000000
set_option linter.unusedVariables false
section
variable {prog : Program} {w : World} {A : Around} {E : Value → Shared → Prop} {s : Shared} {b : Array UInt8} {t : Tok}
theorem nextOf_bytes_item {it : Addr} {i : Nat} {c : UInt8} {Q : Value → Shared → Prop} (hit : KBw.IsBytesIter s.heap it b t i) (hx : b[i]? = some c)
    (hQ : ∀ h', KBw.IsBytesIter h' it b t (i + 1) → Heap.SameBut it s.heap h' → Q (.int (c.toNat : Int) s.toks) { s with heap := h', toks := s.toks + 1 }) :
    wpAny (model prog w) A (Builtin.SmallTypes.nextOf (.ref it)) Q E s := by
  obtain ⟨o, ho, hc, hd⟩ := id hit
  unfold Builtin.SmallTypes.nextOf
  refine wpAny_bind (wpAny_callSpecial?_slot (name := PySem.Str.ofString "__next__") (KBw.iter_typeIs hit) KBw.slot_next
    (wpAny_call_entry KBw.slot_next (KBw.iter_typeIs hit) KBw.entry_next ?_ (KBw.args_next _)))
  show wpAny _ _ (field (.ref it) 0 >>= _) _ _ s
  refine wpAny_bind (wpAny_field ho hd (x := .bytes b t) rfl ?_)
  show wpAny _ _ (if (Value.bytes b t == Value.none) = true then _ else _) _ _ s
  rw [if_neg (show ¬ ((Value.bytes b t == Value.none) = true) from Bool.false_ne_true)]
  show wpAny _ _ (field (.ref it) 1 >>= _) _ _ s
  refine wpAny_bind (wpAny_field ho hd (x := .int i 0) rfl ?_)
  refine wpAny_bind (wpAny_of_eq (a := b) rfl ?_)
  simp only [Int.toNat_natCast, hx]
  refine wpAny_bind (wpAny_setField ho hd (by simp) (wpAny_bind (wpAny_mkInt (wpAny_pure ⟨_, rfl, wpAny_pure (hQ _ ?_ (Heap.SameBut.update ..))⟩))))
  exact ⟨_, Heap.get?_update_self _ ho (Obj.isFreed_of_fields (Obj.data_mapFields hd _)), (Obj.cls_mapFields ..).trans hc, by
    rw [Obj.data_mapFields hd]; simp [rawInt]⟩
theorem nextOf_bytes_end {it : Addr} {i : Nat} {Q : Value → Shared → Prop} (hh : A.handled = none) (hit : KBw.IsBytesIter s.heap it b t i) (hx : b[i]? = none)
    (hE : ∀ h' e, Heap.ExtBut it s.heap h' → (∃ o, h'.get? e = some o ∧ o.cls = .type "StopIteration") → E (.ref e) { s with heap := h' }) :
    wpAny (model prog w) A (Builtin.SmallTypes.nextOf (.ref it)) Q E s := by
  obtain ⟨o, ho, hc, hd⟩ := id hit
  unfold Builtin.SmallTypes.nextOf
  refine wpAny_bind (wpAny_callSpecial?_slot (name := PySem.Str.ofString "__next__") (KBw.iter_typeIs hit) KBw.slot_next
    (wpAny_call_entry KBw.slot_next (KBw.iter_typeIs hit) KBw.entry_next ?_ (KBw.args_next _)))
  show wpAny _ _ (field (.ref it) 0 >>= _) _ _ s
  refine wpAny_bind (wpAny_field ho hd (x := .bytes b t) rfl ?_)
  show wpAny _ _ (if (Value.bytes b t == Value.none) = true then _ else _) _ _ s
  rw [if_neg (show ¬ ((Value.bytes b t == Value.none) = true) from Bool.false_ne_true)]
  show wpAny _ _ (field (.ref it) 1 >>= _) _ _ s
  refine wpAny_bind (wpAny_field ho hd (x := .int i 0) rfl ?_)
  refine wpAny_bind (wpAny_of_eq (a := b) rfl ?_)
  simp only [Int.toNat_natCast, hx]
  refine wpAny_bind (wpAny_rule (wpAny_bind (wpAny_setField ho hd (by simp) ?_)))
  show wpAny _ _ (newExc (.type "StopIteration") [] >>= _) _ _ _
  refine wpAny_bind ?_
  simp only [newExc, newTuple]
  refine wpAny_bind (wpAny_newObj_type ?_ (by size_fits))
  refine wpAny_bind (m := firstArgMember _ _) (wpAny_of_eq (a := Value.none) (by first | rfl | (simp only [firstArgMember]; rfl)) ?_)
  refine wpAny_newObj_type ?_ (by size_fits)
  simp only [raiseNew]
  refine wpAny_bind (wpAny_handled ?_)
  rw [show A.in1.handled = none from hh]
  refine wpAny_bind (wpAny_pure (wpAny_throw ?_))
  exact hE _ _ (((Heap.SameBut.update ..).extBut.push _).push _) ⟨_, Heap.get?_push_size _ rfl, rfl⟩
end
theorem draws_bytes {prog : Program} {w : World} {A : Around} (hh : A.handled = none) (it : Addr) (b : Array UInt8) (t : Tok) :
    Draws prog w A it [it] b.size (fun i v => ∃ (c : UInt8) (u : Tok), b[i]? = some c ∧ v = .int (c.toNat : Int) u) (fun i h => KBw.IsBytesIter h it b t i) where
  live := fun _ _ st => let ⟨o, ho, _⟩ := st; ⟨o, ho⟩
  frame := fun _ _ _ st hk => let ⟨o, ho, r⟩ := st; ⟨o, hk it (by simp) o ho, r⟩
  item := fun i s Q E hi st hQ => by
    refine nextOf_bytes_item st (c := b[i]) (by simp [hi]) fun h' hit' hs' => ?_
    exact hQ _ h' (s.toks + 1) ⟨_, _, by simp [hi], rfl⟩ hit' hs'
  done := fun s Q E st hE => nextOf_bytes_end hh st (by simp) hE
set_option maxHeartbeats 1000000 in
theorem meets_enumerate_newB (x : Array UInt8) (t : Tok) :
    Meets (Builtin.«enumerate.__new__» ⟨[.type "enumerate", .bytes x t], []⟩) (fun _ R s =>
      R (.ok (.ret (.ref (s.heap.push { cls := .type "bytes_iterator", data := .fields #[.bytes x t, .int 0 0] }).objs.size)))
        { s with heap := (s.heap.push { cls := .type "bytes_iterator", data := .fields #[.bytes x t, .int 0 0] }).push { cls := .type "enumerate", data := .fields #[.none, .bool false, .ref s.heap.objs.size, rawInt 0, .none, .none] } }) :=
  .of_wp fun prog w A R s h => by
    obtain ⟨hp, g, d, tk, os⟩ := s
    have hsub := sub_enumerate
    wp_walk
    refine wpAny_stack_any fun st => wpAny_pure ?_
    split
    · rename_i c _ _ _ _ _
      cases (c == Value.type "enumerate")
      · wp_walk using KBw.pyIter_bytes
        exact ⟨_, rfl, h⟩
      · wp_walk using KBw.pyIter_bytes
        exact ⟨_, rfl, h⟩
    · wp_walk using KBw.pyIter_bytes
      exact ⟨_, rfl, h⟩
section
variable {prog : Program} {w : World} {A : Around} {E : Value → Shared → Prop} {s : Shared} {h₀ : Heap} {L : Addr} {m : Str → Option Value} {news : List (Addr × Obj)}
theorem call_enumerate_bytes {x : Array UInt8} {t : Tok} {Q : Value → Shared → Prop}
    (h : ∀ h', IsEnum h' (s.heap.objs.size + 1) s.heap.objs.size 0 .none → KBw.IsBytesIter h' s.heap.objs.size x t 0 → h'.objs.size = s.heap.objs.size + 2 →
      (∀ b o, s.heap.get? b = some o → h'.get? b = some o) → Q (.ref (s.heap.objs.size + 1)) { s with heap := h' }) :
    wpAny (model prog w) A (call (.type "enumerate") [.bytes x t]) Q E s := by
  refine callType_new F.called_enumerate (by decide) (F.typeCall_enumerate_1 _) (F.newCall_enumerate_1 _) (fun obj => F.args_object_init_2 obj _) F.entry_enumerate_new
    (meets_enumerate_newB x t) ?_
  have hz : (s.heap.push { cls := .type "bytes_iterator", data := .fields #[.bytes x t, .int 0 0] }).objs.size = s.heap.objs.size + 1 := Heap.size_push ..
  show _ ∧ _
  rw [hz]
  have he : IsEnum ((s.heap.push { cls := .type "bytes_iterator", data := .fields #[.bytes x t, .int 0 0] }).push
      { cls := .type "enumerate", data := .fields #[.none, .bool false, .ref s.heap.objs.size, rawInt 0, .none, .none] }) (s.heap.objs.size + 1) s.heap.objs.size 0 .none := by
    have := Heap.get?_push_size (s.heap.push { cls := .type "bytes_iterator", data := .fields #[.bytes x t, .int 0 0] })
      (o := { cls := .type "enumerate", data := .fields #[.none, .bool false, .ref s.heap.objs.size, rawInt 0, .none, .none] }) rfl
    rw [hz] at this; exact this
  refine ⟨⟨_, he, rfl⟩, h _ he ⟨_, Heap.get?_push_of_some _ (Heap.get?_push_size _ rfl), rfl, rfl⟩ (by rw [Heap.size_push, hz]) fun b o y => Heap.get?_push_of_some _ (Heap.get?_push_of_some _ y)⟩
theorem call_enum_bytes {x : Array UInt8} {t : Tok} {Q : Value → Shared → Prop} (hh : A.handled = none) (F : Fr h₀ L s.heap m) (N : News h₀ L s.heap news)
    (h : ∀ h' e, Fr h₀ L h' m → News h₀ L h' news → PairSrcL prog w A E h₀ L ItemKind.int (KBw.bInts x) (.ref e) { s with heap := h' } m news → Q (.ref e) { s with heap := h' }) :
    wpAny (model prog w) A (call (.type "enumerate") [.bytes x t]) Q E s := by
  have hLs : L < s.heap.objs.size := F.ns.lt
  have hab : h₀.objs.size ≤ L := F.above
  refine call_enumerate_bytes fun h' he hit hsz hk => ?_
  have F' : Fr h₀ L h' m := ⟨F.ns.keeps hk, fun b o e => hk b o (F.keep b o e), F.above⟩
  have N' : News h₀ L h' news := fun p hp => ⟨hk _ _ (N p hp).1, (N p hp).2⟩
  refine h h' _ F' N' fun env hL => ?_
  subst hL
  have side1 : s.heap.objs.size + 1 ∉ [s.heap.objs.size] := fun hm => Nat.succ_ne_self _ (List.mem_singleton.mp hm)
  have side2 : env.locals ∉ [s.heap.objs.size + 1, s.heap.objs.size] := fun hm => by
    rcases List.mem_cons.mp hm with e | hm
    · exact Nat.ne_of_lt (Nat.lt_succ_of_lt hLs) e
    · exact Nat.ne_of_lt hLs (List.mem_singleton.mp hm)
  have side3 : ∀ b ∈ [s.heap.objs.size + 1, s.heap.objs.size], ∀ q ∈ news, b ≠ q.1 := fun b hb q hq e => by
    have hq1 : q.1 < s.heap.objs.size := Heap.lt_size (N q hq).1
    rcases List.mem_cons.mp hb with e1 | hb
    · exact Nat.ne_of_gt (Nat.lt_succ_of_lt hq1) (e1.symm.trans e)
    · exact Nat.ne_of_gt hq1 ((List.mem_singleton.mp hb).symm.trans e)
  have hP : ∀ i v, (∃ (c : UInt8) (u : Tok), x[i]? = some c ∧ v = Value.int (c.toNat : Int) u) → ∃ a, (KBw.bInts x)[i]? = some a ∧ ItemKind.int.is a v := fun i v hv => by
    obtain ⟨c, u, hc, rfl⟩ := hv
    exact ⟨_, KBw.ints_get hc, u, rfl⟩
  exact enumSrc (draws_bytes (A := A.in1) hh s.heap.objs.size x t) he hit (Nat.succ_ne_self _) side1 (by simp) side2 (Heap.get?_none_of_le (Nat.le_trans hab (Nat.le_of_lt (Nat.lt_succ_of_lt hLs)))) (Heap.get?_none_of_le (Nat.le_trans hab (Nat.le_of_lt hLs))) side3 (by simp [KBw.ints_length]) hP F' N'
end
end Mine
end
section
open PySem PySem.W PyProof.Rows PySem.Calls
namespace Mine
set_option maxRecDepth 100000
set_option maxHeartbeats 8000000
set_option linter.unusedVariables false
noncomputable def PrEnd (h₀ : Heap) (L : Addr) (s : Shared) (M : Str → Option Value) (xi xc : Str) (own rest : List (Addr × Obj)) (DS : Addr) (sts : List Str) (f : Flow) (s₂ : Shared) : Prop :=
  f = .next ∧ ∃ h' tk m' vs' cap' nx, s₂ = { s with heap := h', toks := tk } ∧ Fr h₀ L h' m' ∧ News h₀ L h' nx ∧ (∀ p ∈ own ++ (DS, listOf (List.toArray vs') cap') :: rest, p ∈ nx) ∧ StrsAre vs' sts ∧ ∀ y, y ≠ xi → y ≠ xc → m' y = M y
noncomputable def spC (d : Nat → Nat) (mask : Int) (p : Nat) : Nat := if mask / 2 ^ p % 2 = 1 then 65 + d p else 97 + d p
noncomputable def spS (d : Nat → Nat) (mask : Int) : Str := ⟨((List.range 7).map (spC d mask)).toArray⟩
noncomputable def sgS (d : Nat → Nat) (mask : Int) (n : Nat) : List Str := (List.range n).map fun p => ⟨#[spC d mask p]⟩
theorem word_ints (d : Nat → Nat) (h : ∀ p, d p < 16) : KBw.bInts (wordB d) = (List.range 7).map fun p => (65 + (d p : Int)) := by
  unfold wordB
  rw [KBw.ints_list, List.map_map]
  apply List.map_congr_left
  intro p _
  have := h p
  simp only [Function.comp]
  rw [UInt8.toNat_ofNat_of_lt' (by show _ < 256; omega)]
  omega
section
variable {prog : Program} {w : World} {A : Around} {E : Value → Shared → Prop} {s : Shared}
theorem alph_item {value slice : PySem.Expr} {l : Addr} {vs : List Value} {k : Int} {u : Tok} {Q : Value → Shared → Prop} (hl : s.heap.IsList l vs.toArray) (hi : IntsAre vs [0, 1, 2, 4, 7, 8, 9, 10, 11, 12]) (h0 : 0 ≤ k) (h1 : k < 10)
    (h : ∀ (al : Nat) t, al ∈ als → al ≤ 12 → Q (.int (al : Int) t) s)
    (hs : subscripted slice false (.ref l) (.int k u) = operate [.ref l, .int k u] (getItem (.ref l) (.int k u)) := by with_unfolding_all rfl) :
    wpAny (model prog w) A (subscriptTail value slice (.ref l) (.int k u)) Q E s := by
  refine item_anyK hl hi h0 h1 (by omega) (fun t => ?_) hs
  have hc : k = 0 ∨ k = 1 ∨ k = 2 ∨ k = 3 ∨ k = 4 ∨ k = 5 ∨ k = 6 ∨ k = 7 ∨ k = 8 ∨ k = 9 := by omega
  rcases hc with rfl | rfl | rfl | rfl | rfl | rfl | rfl | rfl | rfl | rfl
  · exact h 0 t (by decide) (by decide)
  · exact h 1 t (by decide) (by decide)
  · exact h 2 t (by decide) (by decide)
  · exact h 4 t (by decide) (by decide)
  · exact h 7 t (by decide) (by decide)
  · exact h 8 t (by decide) (by decide)
  · exact h 9 t (by decide) (by decide)
  · exact h 10 t (by decide) (by decide)
  · exact h 11 t (by decide) (by decide)
  · exact h 12 t (by decide) (by decide)
theorem chr_nat {i : Int} {c : Nat} {t : Tok} {Q : Value → Shared → Prop} (e : i = (c : Int)) (h1 : c ≤ 1114111) (h : Q (.str ⟨#[c]⟩ s.toks) { s with toks := s.toks + 1 }) :
    wpAny (model prog w) A (call (.builtin "chr") [.int i t]) Q E s := by
  subst e
  exact chr_of_range (by omega) (by omega) h
end
theorem upd_mid {d : Addr} {o o' : Obj} : ∀ (pre post : List (Addr × Obj)), (∀ p ∈ pre ++ post, p.1 ≠ d) → Upd d o o' (pre ++ (d, o) :: post) (pre ++ (d, o') :: post)
  | [], _, h => .head h
  | p :: pre, post, h => .tail (h p (.head _)) (upd_mid pre post fun q hq => h q (.tail _ hq))
theorem sts_append {prog : Program} {w : World} {A : Around} {E : Value → Shared → Prop} {s : Shared} {h₀ : Heap} {L D : Addr} {m : Str → Option Value} {own rest : List (Addr × Obj)} {vs : List Value} {ss : List Str} {n : Nat} {x : Str} {t : Tok} {Q : Value → Shared → Prop}
    (F : Fr h₀ L s.heap m) (N : News h₀ L s.heap (own ++ (D, listOf vs.toArray n) :: rest)) (hne : ∀ p ∈ own ++ rest, p.1 ≠ D) (hvs : StrsAre vs ss) (hsz : ss.length ≤ 1000)
    (h : ∀ h', Fr h₀ L h' m → News h₀ L h' (own ++ (D, listOf (vs ++ [Value.str x t]).toArray (n + 1)) :: rest) → StrsAre (vs ++ [Value.str x t]) (ss ++ [x]) → Q .none { s with heap := h' }) :
    wpAny (model prog w) A (call (.builtin "list.append") [.ref D, .str x t]) Q E s := by
  refine append_K F N (upd_mid own rest hne) (fun h' F' N' => ?_) (by rw [List.size_toArray, hvs.length, sizeLine_eq]; omega)
  rw [List.push_toArray] at N'
  exact h h' F' N' (StrsAre.append' hvs (.cons _ _ .nil))
theorem sgS_succ (d : Nat → Nat) (mask : Int) (i : Nat) : sgS d mask (i + 1) = sgS d mask i ++ [⟨#[spC d mask i]⟩] := by
  unfold sgS
  rw [List.range_succ, List.map_append]
  rfl
theorem join_sg (d : Nat → Nat) (mask : Int) : Txt.join (PySem.Str.ofString "") (sgS d mask 7) = spS d mask := by
  show Txt.join _ [_, _, _, _, _, _, _] = ⟨#[_, _, _, _, _, _, _]⟩
  rfl
theorem bit_eq (mask : Int) (i : Nat) : (mask.fdiv (2 ^ ((i : Int)).toNat)).fmod 2 = mask / 2 ^ i % 2 := by
  rw [Int.toNat_natCast, Int.fdiv_eq_ediv_of_nonneg _ (Int.le_of_lt (Int.pow_pos (by decide))), Int.fmod_eq_emod_of_nonneg _ (by decide)]
theorem allLt_of {a b : Addr} {o : Obj} {news : List (Addr × Obj)} (h : a < b ∧ AllLt b news) : ∀ p ∈ (a, o) :: news, p.1 < b := by
  intro p hp
  rcases List.mem_cons.mp hp with rfl | hp
  · exact h.1
  · exact ktn_ltOf h.2 p hp
theorem fr_pair {h₀ : Heap} {L : Addr} {h : Heap} {m₀ m₁ : Str → Option Value} {xc xi : Str} {v v' : Value} (hm : ∀ y, y ≠ xi → y ≠ xc → m₁ y = m₀ y) (F : Fr h₀ L h (fun y => if y = xc then some v else if y = xi then some v' else m₁ y)) : Fr h₀ L h (fun y => if y = xc then some v else if y = xi then some v' else m₀ y) := by
  have e : (fun y => if y = xc then some v else if y = xi then some v' else m₀ y) = (fun y => if y = xc then some v else if y = xi then some v' else m₁ y) := by
    funext y
    by_cases h1 : y = xc
    · rw [if_pos h1, if_pos h1]
    · rw [if_neg h1, if_neg h1]
      by_cases h2 : y = xi
      · rw [if_pos h2, if_pos h2]
      · rw [if_neg h2, if_neg h2]
        exact (hm y h2 h1).symm
  rw [e]
  exact F
theorem pair_strs {prog : Program} {w : World} {A : Around} {E : Value → Shared → Prop} {s : Shared} {env : Env} {h₀ : Heap} {α : Type} {K : ItemKind α} {as : List α} {xv : Value} {M : Str → Option Value} {DS : Addr} {n0 : Nat} {rest : List (Addr × Obj)} {xi xc : Str} {body : List Stmt} {Q : Flow → Shared → Prop}
    (S : PairSrcL prog w A E h₀ env.locals K as xv s M ((DS, listOf #[] n0) :: rest)) (sts : Nat → List Str) (hs0 : sts 0 = [])
    (step : ∀ i a t v vs cap h tk own, as[i]? = some a → K.is a v → StrsAre vs (sts i) → (∀ p ∈ own ++ rest, p.1 ≠ DS) →
      Fr h₀ env.locals h (fun y => if y = xc then some v else if y = xi then some (.int i t) else M y) → News h₀ env.locals h (own ++ (DS, listOf vs.toArray cap) :: rest) →
      wpAny (model prog w) A (execs body env) (PrEnd h₀ env.locals s M xi xc own rest DS (sts (i + 1))) E { s with heap := h, toks := tk })
    (hDS : ∀ p ∈ rest, p.1 ≠ DS)
    (done : ∀ h' tk m' vs cap, StrsAre vs (sts as.length) → Fr h₀ env.locals h' m' → (∀ y, y ≠ xi → y ≠ xc → m' y = M y) → News h₀ env.locals h' ((DS, listOf vs.toArray cap) :: rest) → Q .next { s with heap := h', toks := tk }) :
    wpAny (model prog w) A (pyIter xv) (fun it s₂ => PairAt3 prog w A h₀ env xi xc body Q E it s₂) E s := by
  refine (S.at _ rfl) xi xc body Q (fun i m nx => ∃ vs cap, nx = (DS, listOf (List.toArray vs) cap) :: rest ∧ StrsAre vs (sts i) ∧ (∀ y, y ≠ xi → y ≠ xc → m y = M y)) ⟨[], n0, rfl, by rw [hs0]; exact .nil, fun _ _ _ => rfl⟩ ?_ ?_
  · rintro i a t v m₁ news₁ s₁ own ⟨h1, tk1, rfl⟩ ha hv ⟨vs, cap, rfl, hvs, hm⟩ hmap hown F1 N1
    refine wpAny_mono (step i a t v vs cap h1 tk1 own ha hv hvs (fun p hp => ?_) (fr_pair hm F1) N1) (fun f s₂ q => ?_) (fun _ _ e => e)
    · rcases List.mem_append.mp hp with hp | hp
      · exact hown p hp _ (.head _)
      · exact hDS p hp
    · obtain ⟨rfl, h', tk, m', vs', cap', nx, rfl, F2, N2, hin, hs', hm'⟩ := q
      exact ⟨rfl, h', tk, m', _, rfl, F2, kst_newsOf N2 hin, rfl, vs', cap', rfl, hs', hm'⟩
  · rintro h' tk m' news' F' N' hmap ⟨vs, cap, rfl, hvs, hm⟩
    exact done h' tk m' vs cap hvs F' hm N'
theorem says_spell (w : World) (d : Nat → Nat) (mask : Int) (h0m : 0 ≤ mask) (h1m : mask < 128) (hd16 : ∀ p, d p < 16) (t tm : Tok) (news : List (Addr × Obj)) : Says w 95 30 [.bytes (wordB d) t, .int mask tm] news (fun r tl => tl = [] ∧ ∃ t, r = .str (spS d mask) t) := by
  w_on
  w_top off
  intro loose mean mg mb dp un gd cn cs a ccd cl outer A₀ base h₀ L m s Q E B F X N T' hk hd hu hret
  revert X; k_fill; intro X
  refine wpAny_call ?_
  k_dflt cell_enter
  (repeat' ((fail_if_success (with_reducible first | refine at_while ?_ | refine at_for ?_ | refine at_iter ?_ | refine at_ksw ?_ | refine at_wh ?_ | show InvPostN _ _ _ _ _ _ _ _ _ | show PrEnd _ _ _ _ _ _ _ _ _ _ _ _ | show wpAny _ _ (call (Value.builtin "chr") _) _ _ _ | show wpAny _ _ (call (Value.type "enumerate") _) _ _ _)); (first | (with_reducible first | fail "none") | ((with_reducible show wpAny _ _ (call (Value.ref 81) [Value.str _ _]) _ _ _); (refine' says_use (says_b3 _ _ _ ?h1 ?h2 _ _) ?k1 ?k2 ?k3 ?k4 ?k5 ?kK ?kd ?ku ?_; (case k1 => k_asm); (case k2 => k_asm); (case k3 => k_asm); (case k4 => k_asm); (case k5 => k_asm); (case kK => rfl); (case h1 => assumption); (case h2 => assumption); (case kd => (dsimp only [Around.deeper]; omega)); (case ku => (dsimp only [Around.deeper]; omega))); intro r9 tl9 h9 tk9 F9 N9 hl9 hR9; (obtain ⟨e9, t9, e8⟩ := hR9); subst e9; subst e8; clear hl9; (try simp only [List.nil_append] at N9); (try dsimp only); (try k_fold)) | ((with_reducible refine abs_st ?_); intro _ _; walk1; try dsimp only) | ((with_reducible refine use_post (by assumption) ?_); try dsimp only) | (k_unfold; (try dsimp only)) | (k_end; wrow_close) | (walk1; try dsimp only) | (dsimp only; walk1) | (leave1; walk_say "STEP leave1"; try dsimp only) | fail "no step")))
  rename Fr _ _ _ _ => lF
  rename News _ _ _ _ => lN
  rename _ ∧ AllLt _ news => hlt
  obtain ⟨u0, lF⟩ := fr_abs lF [("signs", .ref _), ("alphabets", .ref _), ("word", .bytes (wordB d) t), ("mask", .int mask tm)] (by kst_all)
  dsimp only [kstB] at lF
  refine For_pair3F lF rfl (by rfl) (by rfl) (by rfl) ?_ (fun _ => rfl)
  (repeat' ((fail_if_success (with_reducible first | refine at_while ?_ | refine at_for ?_ | refine at_iter ?_ | refine at_ksw ?_ | refine at_wh ?_ | show InvPostN _ _ _ _ _ _ _ _ _ | show PrEnd _ _ _ _ _ _ _ _ _ _ _ _ | show wpAny _ _ (call (Value.builtin "chr") _) _ _ _ | show wpAny _ _ (call (Value.type "enumerate") _) _ _ _)); (first | (with_reducible first | fail "none") | ((with_reducible show wpAny _ _ (call (Value.ref 81) [Value.str _ _]) _ _ _); (refine' says_use (says_b3 _ _ _ ?h1 ?h2 _ _) ?k1 ?k2 ?k3 ?k4 ?k5 ?kK ?kd ?ku ?_; (case k1 => k_asm); (case k2 => k_asm); (case k3 => k_asm); (case k4 => k_asm); (case k5 => k_asm); (case kK => rfl); (case h1 => assumption); (case h2 => assumption); (case kd => (dsimp only [Around.deeper]; omega)); (case ku => (dsimp only [Around.deeper]; omega))); intro r9 tl9 h9 tk9 F9 N9 hl9 hR9; (obtain ⟨e9, t9, e8⟩ := hR9); subst e9; subst e8; clear hl9; (try simp only [List.nil_append] at N9); (try dsimp only); (try k_fold)) | ((with_reducible refine abs_st ?_); intro _ _; walk1; try dsimp only) | ((with_reducible refine use_post (by assumption) ?_); try dsimp only) | (k_unfold; (try dsimp only)) | (k_end; wrow_close) | (walk1; try dsimp only) | (dsimp only; walk1) | (leave1; walk_say "STEP leave1"; try dsimp only) | fail "no step")))
  refine call_enum_bytes (by rfl) lF lN fun h' e eF eN S => ?_
  refine pair_strs S (sgS d mask) rfl ?step ?hDS ?done
  case hDS => (intro p hp; exact Nat.ne_of_lt (allLt_of hlt p hp))
  case step =>
    clear S eF eN lF lN
    rintro i a t1 v vs cap h1 tk1 own ha ⟨t2, rfl⟩ hvs hne F1 N1
    rw [word_ints d hd16] at ha
    obtain ⟨hi, rfl⟩ : i < 7 ∧ 65 + (d i : Int) = a := by
      rw [List.getElem?_map] at ha
      by_cases h : i < 7
      · rw [List.getElem?_range h] at ha
        exact ⟨h, Option.some.inj ha⟩
      · rw [List.getElem?_eq_none (by simp; omega)] at ha
        nomatch ha
    have hdi := hd16 i
    clear ha
    (repeat' ((fail_if_success (with_reducible first | refine at_while ?_ | refine at_for ?_ | refine at_iter ?_ | refine at_ksw ?_ | refine at_wh ?_ | show InvPostN _ _ _ _ _ _ _ _ _ | show PrEnd _ _ _ _ _ _ _ _ _ _ _ _ | show wpAny _ _ (call (Value.builtin "chr") _) _ _ _ | show wpAny _ _ (call (Value.type "enumerate") _) _ _ _)); (first | (with_reducible first | fail "none") | ((with_reducible show wpAny _ _ (call (Value.ref 81) [Value.str _ _]) _ _ _); (refine' says_use (says_b3 _ _ _ ?h1 ?h2 _ _) ?k1 ?k2 ?k3 ?k4 ?k5 ?kK ?kd ?ku ?_; (case k1 => k_asm); (case k2 => k_asm); (case k3 => k_asm); (case k4 => k_asm); (case k5 => k_asm); (case kK => rfl); (case h1 => assumption); (case h2 => assumption); (case kd => (dsimp only [Around.deeper]; omega)); (case ku => (dsimp only [Around.deeper]; omega))); intro r9 tl9 h9 tk9 F9 N9 hl9 hR9; (obtain ⟨e9, t9, e8⟩ := hR9); subst e9; subst e8; clear hl9; (try simp only [List.nil_append] at N9); (try dsimp only); (try k_fold)) | ((with_reducible refine abs_st ?_); intro _ _; walk1; try dsimp only) | ((with_reducible refine use_post (by assumption) ?_); try dsimp only) | (k_unfold; (try dsimp only)) | (k_end; wrow_close) | (walk1; try dsimp only) | (dsimp only; walk1) | (leave1; walk_say "STEP leave1"; try dsimp only) | fail "no step")))
    · refine chr_nat (c := 65 + d i) (by omega) (by omega) ?_
      dsimp only
      (repeat' ((fail_if_success (with_reducible first | refine at_while ?_ | refine at_for ?_ | refine at_iter ?_ | refine at_ksw ?_ | refine at_wh ?_ | show InvPostN _ _ _ _ _ _ _ _ _ | show PrEnd _ _ _ _ _ _ _ _ _ _ _ _ | show wpAny _ _ (call (Value.builtin "chr") _) _ _ _ | show wpAny _ _ (call (Value.type "enumerate") _) _ _ _)); (first | (with_reducible first | fail "none") | ((with_reducible show wpAny _ _ (call (Value.ref 81) [Value.str _ _]) _ _ _); (refine' says_use (says_b3 _ _ _ ?h1 ?h2 _ _) ?k1 ?k2 ?k3 ?k4 ?k5 ?kK ?kd ?ku ?_; (case k1 => k_asm); (case k2 => k_asm); (case k3 => k_asm); (case k4 => k_asm); (case k5 => k_asm); (case kK => rfl); (case h1 => assumption); (case h2 => assumption); (case kd => (dsimp only [Around.deeper]; omega)); (case ku => (dsimp only [Around.deeper]; omega))); intro r9 tl9 h9 tk9 F9 N9 hl9 hR9; (obtain ⟨e9, t9, e8⟩ := hR9); subst e9; subst e8; clear hl9; (try simp only [List.nil_append] at N9); (try dsimp only); (try k_fold)) | ((with_reducible refine abs_st ?_); intro _ _; walk1; try dsimp only) | ((with_reducible refine use_post (by assumption) ?_); try dsimp only) | (k_unfold; (try dsimp only)) | (k_end; wrow_close) | (walk1; try dsimp only) | (dsimp only; walk1) | (leave1; walk_say "STEP leave1"; try dsimp only) | fail "no step")))
      rename Fr _ _ _ _ => eF
      rename News _ _ _ _ => eN
      refine sts_append eF eN hne hvs (by simp [sgS]; omega) fun h' eF' eN' hvs' => ?_
      clear eF eN
      dsimp only
      (repeat' ((fail_if_success (with_reducible first | refine at_while ?_ | refine at_for ?_ | refine at_iter ?_ | refine at_ksw ?_ | refine at_wh ?_ | show InvPostN _ _ _ _ _ _ _ _ _ | show PrEnd _ _ _ _ _ _ _ _ _ _ _ _ | show wpAny _ _ (call (Value.builtin "chr") _) _ _ _ | show wpAny _ _ (call (Value.type "enumerate") _) _ _ _)); (first | (with_reducible first | fail "none") | ((with_reducible show wpAny _ _ (call (Value.ref 81) [Value.str _ _]) _ _ _); (refine' says_use (says_b3 _ _ _ ?h1 ?h2 _ _) ?k1 ?k2 ?k3 ?k4 ?k5 ?kK ?kd ?ku ?_; (case k1 => k_asm); (case k2 => k_asm); (case k3 => k_asm); (case k4 => k_asm); (case k5 => k_asm); (case kK => rfl); (case h1 => assumption); (case h2 => assumption); (case kd => (dsimp only [Around.deeper]; omega)); (case ku => (dsimp only [Around.deeper]; omega))); intro r9 tl9 h9 tk9 F9 N9 hl9 hR9; (obtain ⟨e9, t9, e8⟩ := hR9); subst e9; subst e8; clear hl9; (try simp only [List.nil_append] at N9); (try dsimp only); (try k_fold)) | ((with_reducible refine abs_st ?_); intro _ _; walk1; try dsimp only) | ((with_reducible refine use_post (by assumption) ?_); try dsimp only) | (k_unfold; (try dsimp only)) | (k_end; wrow_close) | (walk1; try dsimp only) | (dsimp only; walk1) | (leave1; walk_say "STEP leave1"; try dsimp only) | fail "no step")))
      refine ⟨rfl, _, _, _, _, _, _, rfl, by assumption, by assumption, fun _ h => h, ?_, fun y hy1 hy2 => ?_⟩
      · rw [sgS_succ, show spC d mask i = 65 + d i from if_pos (by rw [← bit_eq]; assumption)]
        exact hvs'
      · rw [if_neg hy2, if_neg hy1]
    · rename Fr _ _ _ _ => eF
      rename News _ _ _ _ => eN
      refine alph_item (vs := [_, _, _, _, _, _, _, _, _, _]) (News.isList eN (List.mem_append.mpr (.inr (.tail _ (.head _))))) (by repeat' constructor) (by first | omega | exact fmod_lo _ (by decide)) (by first | omega | exact fmod_hi _ (by decide)) (fun al t3 hal hal12 => ?_)
      (repeat' ((fail_if_success (with_reducible first | refine at_while ?_ | refine at_for ?_ | refine at_iter ?_ | refine at_ksw ?_ | refine at_wh ?_ | show InvPostN _ _ _ _ _ _ _ _ _ | show PrEnd _ _ _ _ _ _ _ _ _ _ _ _ | show wpAny _ _ (call (Value.builtin "chr") _) _ _ _ | show wpAny _ _ (call (Value.type "enumerate") _) _ _ _)); (first | (with_reducible first | fail "none") | ((with_reducible show wpAny _ _ (call (Value.ref 81) [Value.str _ _]) _ _ _); (refine' says_use (says_b3 _ _ _ ?h1 ?h2 _ _) ?k1 ?k2 ?k3 ?k4 ?k5 ?kK ?kd ?ku ?_; (case k1 => k_asm); (case k2 => k_asm); (case k3 => k_asm); (case k4 => k_asm); (case k5 => k_asm); (case kK => rfl); (case h1 => assumption); (case h2 => assumption); (case kd => (dsimp only [Around.deeper]; omega)); (case ku => (dsimp only [Around.deeper]; omega))); intro r9 tl9 h9 tk9 F9 N9 hl9 hR9; (obtain ⟨e9, t9, e8⟩ := hR9); subst e9; subst e8; clear hl9; (try simp only [List.nil_append] at N9); (try dsimp only); (try k_fold)) | ((with_reducible refine abs_st ?_); intro _ _; walk1; try dsimp only) | ((with_reducible refine use_post (by assumption) ?_); try dsimp only) | (k_unfold; (try dsimp only)) | (k_end; wrow_close) | (walk1; try dsimp only) | (dsimp only; walk1) | (leave1; walk_say "STEP leave1"; try dsimp only) | fail "no step")))
      refine chr_nat (c := 119808 + 52 * al + d i) (by omega) (by omega) ?_
      dsimp only
      (repeat' ((fail_if_success (with_reducible first | refine at_while ?_ | refine at_for ?_ | refine at_iter ?_ | refine at_ksw ?_ | refine at_wh ?_ | show InvPostN _ _ _ _ _ _ _ _ _ | show PrEnd _ _ _ _ _ _ _ _ _ _ _ _ | show wpAny _ _ (call (Value.builtin "chr") _) _ _ _ | show wpAny _ _ (call (Value.type "enumerate") _) _ _ _)); (first | (with_reducible first | fail "none") | ((with_reducible show wpAny _ _ (call (Value.ref 81) [Value.str _ _]) _ _ _); (refine' says_use (says_b3 _ _ _ ?h1 ?h2 _ _) ?k1 ?k2 ?k3 ?k4 ?k5 ?kK ?kd ?ku ?_; (case k1 => k_asm); (case k2 => k_asm); (case k3 => k_asm); (case k4 => k_asm); (case k5 => k_asm); (case kK => rfl); (case h1 => assumption); (case h2 => assumption); (case kd => (dsimp only [Around.deeper]; omega)); (case ku => (dsimp only [Around.deeper]; omega))); intro r9 tl9 h9 tk9 F9 N9 hl9 hR9; (obtain ⟨e9, t9, e8⟩ := hR9); subst e9; subst e8; clear hl9; (try simp only [List.nil_append] at N9); (try dsimp only); (try k_fold)) | ((with_reducible refine abs_st ?_); intro _ _; walk1; try dsimp only) | ((with_reducible refine use_post (by assumption) ?_); try dsimp only) | (k_unfold; (try dsimp only)) | (k_end; wrow_close) | (walk1; try dsimp only) | (dsimp only; walk1) | (leave1; walk_say "STEP leave1"; try dsimp only) | fail "no step")))
      rename Fr _ _ _ _ => eF
      rename News _ _ _ _ => eN
      refine sts_append eF eN hne hvs (by simp [sgS]; omega) fun h' eF' eN' hvs' => ?_
      clear eF eN
      dsimp only
      (repeat' ((fail_if_success (with_reducible first | refine at_while ?_ | refine at_for ?_ | refine at_iter ?_ | refine at_ksw ?_ | refine at_wh ?_ | show InvPostN _ _ _ _ _ _ _ _ _ | show PrEnd _ _ _ _ _ _ _ _ _ _ _ _ | show wpAny _ _ (call (Value.builtin "chr") _) _ _ _ | show wpAny _ _ (call (Value.type "enumerate") _) _ _ _)); (first | (with_reducible first | fail "none") | ((with_reducible show wpAny _ _ (call (Value.ref 81) [Value.str _ _]) _ _ _); (refine' says_use (says_b3 _ _ _ ?h1 ?h2 _ _) ?k1 ?k2 ?k3 ?k4 ?k5 ?kK ?kd ?ku ?_; (case k1 => k_asm); (case k2 => k_asm); (case k3 => k_asm); (case k4 => k_asm); (case k5 => k_asm); (case kK => rfl); (case h1 => assumption); (case h2 => assumption); (case kd => (dsimp only [Around.deeper]; omega)); (case ku => (dsimp only [Around.deeper]; omega))); intro r9 tl9 h9 tk9 F9 N9 hl9 hR9; (obtain ⟨e9, t9, e8⟩ := hR9); subst e9; subst e8; clear hl9; (try simp only [List.nil_append] at N9); (try dsimp only); (try k_fold)) | ((with_reducible refine abs_st ?_); intro _ _; walk1; try dsimp only) | ((with_reducible refine use_post (by assumption) ?_); try dsimp only) | (k_unfold; (try dsimp only)) | (k_end; wrow_close) | (walk1; try dsimp only) | (dsimp only; walk1) | (leave1; walk_say "STEP leave1"; try dsimp only) | fail "no step")))
      refine ⟨rfl, _, _, _, _, _, _, rfl, by assumption, by assumption, fun _ h => h, ?_, fun y hy1 hy2 => ?_⟩
      · rw [sgS_succ, show spC d mask i = 97 + d i from if_neg (by rw [← bit_eq]; assumption)]
        exact hvs'
      · rw [if_neg hy2, if_neg hy1]
  case done =>
    clear S eF eN lF lN
    rintro h2 tk2 m2 vs cap hvs F2 hm N2
    obtain ⟨u2, F2⟩ := fr_abs F2 [("signs", .ref _)] (by intro p hp; rcases List.mem_singleton.mp hp with rfl; exact hm _ (show Str.ofString "signs" ≠ Str.ofString "place" by decide) (show Str.ofString "signs" ≠ Str.ofString "octet" by decide))
    dsimp only [kstB] at F2
    (repeat' ((fail_if_success (with_reducible first | refine at_while ?_ | refine at_for ?_ | refine at_iter ?_ | refine at_ksw ?_ | refine at_wh ?_ | show InvPostN _ _ _ _ _ _ _ _ _ | show PrEnd _ _ _ _ _ _ _ _ _ _ _ _ | show wpAny _ _ (call (Value.builtin "chr") _) _ _ _ | show wpAny _ _ (call (Value.type "enumerate") _) _ _ _)); (first | (with_reducible first | fail "none") | ((with_reducible show wpAny _ _ (call (Value.ref 81) [Value.str _ _]) _ _ _); (refine' says_use (says_b3 _ _ _ ?h1 ?h2 _ _) ?k1 ?k2 ?k3 ?k4 ?k5 ?kK ?kd ?ku ?_; (case k1 => k_asm); (case k2 => k_asm); (case k3 => k_asm); (case k4 => k_asm); (case k5 => k_asm); (case kK => rfl); (case h1 => assumption); (case h2 => assumption); (case kd => (dsimp only [Around.deeper]; omega)); (case ku => (dsimp only [Around.deeper]; omega))); intro r9 tl9 h9 tk9 F9 N9 hl9 hR9; (obtain ⟨e9, t9, e8⟩ := hR9); subst e9; subst e8; clear hl9; (try simp only [List.nil_append] at N9); (try dsimp only); (try k_fold)) | ((with_reducible refine abs_st ?_); intro _ _; walk1; try dsimp only) | ((with_reducible refine use_post (by assumption) ?_); try dsimp only) | (k_unfold; (try dsimp only)) | (k_end; wrow_close) | (walk1; try dsimp only) | (dsimp only; walk1) | (leave1; walk_say "STEP leave1"; try dsimp only) | fail "no step")))
    rw [show (KBw.bInts (wordB d)).length = 7 from rfl] at hvs
    refine join_list (N2.isList (.head _)) hvs (by (have e1 : ((sgS d mask 7).map (·.length)).sum = 7 := rfl); (have e2 : (sgS d mask 7).length = 7 := rfl); (have e3 : (PySem.Str.ofString "").length = 0 := by decide); rw [e1, e2, e3]; omega) fun t5 k5 => ?_
    dsimp only
    rw [join_sg]
    (repeat' ((fail_if_success (with_reducible first | refine at_while ?_ | refine at_for ?_ | refine at_iter ?_ | refine at_ksw ?_ | refine at_wh ?_ | show InvPostN _ _ _ _ _ _ _ _ _ | show PrEnd _ _ _ _ _ _ _ _ _ _ _ _ | show wpAny _ _ (call (Value.builtin "chr") _) _ _ _ | show wpAny _ _ (call (Value.type "enumerate") _) _ _ _)); (first | (with_reducible first | fail "none") | ((with_reducible show wpAny _ _ (call (Value.ref 81) [Value.str _ _]) _ _ _); (refine' says_use (says_b3 _ _ _ ?h1 ?h2 _ _) ?k1 ?k2 ?k3 ?k4 ?k5 ?kK ?kd ?ku ?_; (case k1 => k_asm); (case k2 => k_asm); (case k3 => k_asm); (case k4 => k_asm); (case k5 => k_asm); (case kK => rfl); (case h1 => assumption); (case h2 => assumption); (case kd => (dsimp only [Around.deeper]; omega)); (case ku => (dsimp only [Around.deeper]; omega))); intro r9 tl9 h9 tk9 F9 N9 hl9 hR9; (obtain ⟨e9, t9, e8⟩ := hR9); subst e9; subst e8; clear hl9; (try simp only [List.nil_append] at N9); (try dsimp only); (try k_fold)) | ((with_reducible refine abs_st ?_); intro _ _; walk1; try dsimp only) | ((with_reducible refine use_post (by assumption) ?_); try dsimp only) | (k_unfold; (try dsimp only)) | (k_end; wrow_close) | (walk1; try dsimp only) | (dsimp only; walk1) | (leave1; walk_say "STEP leave1"; try dsimp only) | fail "no step")))
    exact hret _ [] _ _ (by k_asm) (kst_newsOf (by k_asm) fun p hp => .tail _ (.tail _ hp)) (fun _ _ _ h => nomatch h) ⟨rfl, _, rfl⟩
end Mine
end
section
open PySem PySem.W PyProof.Rows PySem.Calls
namespace Mine
set_option maxRecDepth 100000
set_option maxHeartbeats 8000000
set_option linter.unusedVariables false
noncomputable def det3 (a0 a1 a2 b0 b1 b2 c0 c1 c2 : Int) : Int := a0 * (b1 * c2 - b2 * c1) - a1 * (b0 * c2 - b2 * c0) + a2 * (b0 * c1 - b1 * c0)
theorem item_x {prog : Program} {w : World} {A : Around} {E : Value → Shared → Prop} {s : Shared} {value slice : PySem.Expr} {l : Addr} {vs : List Value} {ns : List Int} {k x : Int} {u : Tok} {Q : Value → Shared → Prop} (hl : s.heap.IsList l vs.toArray) (hi : IntsAre vs ns)
    (h0 : 0 ≤ k) (hfit : k < 1000) (e : ns[k.toNat]? = some x) (h : ∀ t, Q (.int x t) s)
    (hs : subscripted slice false (.ref l) (.int k u) = operate [.ref l, .int k u] (getItem (.ref l) (.int k u)) := by with_unfolding_all rfl) :
    wpAny (model prog w) A (subscriptTail value slice (.ref l) (.int k u)) Q E s := by
  obtain ⟨h1, h2⟩ := List.getElem?_eq_some_iff.mp e
  refine item_anyK hl hi h0 (by omega) (by omega) (fun t => ?_) hs
  rw [List.getD_eq_getElem?_getD, e]
  exact h t
theorem says_det (w : World) (R a b c : Addr) (n na nb nc : Nat) (va vb vc : List Value) (a0 a1 a2 b0 b1 b2 c0 c1 c2 : Int) (news : List (Addr × Obj))
    (hR : (R, listOf [Value.ref a, Value.ref b, Value.ref c].toArray n) ∈ news) (ha : (a, listOf va.toArray na) ∈ news) (hb : (b, listOf vb.toArray nb) ∈ news) (hc : (c, listOf vc.toArray nc) ∈ news)
    (ia : IntsAre va [a0, a1, a2]) (ib : IntsAre vb [b0, b1, b2]) (ic : IntsAre vc [c0, c1, c2])
    (q0 : -1000 ≤ a0 ∧ a0 ≤ 1000) (q1 : -1000 ≤ a1 ∧ a1 ≤ 1000) (q2 : -1000 ≤ a2 ∧ a2 ≤ 1000) (q3 : -1000 ≤ b0 ∧ b0 ≤ 1000) (q4 : -1000 ≤ b1 ∧ b1 ≤ 1000) (q5 : -1000 ≤ b2 ∧ b2 ≤ 1000) : Says w 107 8 [.ref R] news (fun r tl => tl = [] ∧ ∃ t, r = .int (det3 a0 a1 a2 b0 b1 b2 c0 c1 c2) t) := by
  w_on
  w_top off
  intro loose mean mg mb dp un gd cn cs a' ccd cl outer A₀ base h₀ L m s Q E B F X N T' hk hd hu hret
  replace N : News h₀ L s.heap ((R, listOf [Value.ref a, Value.ref b, Value.ref c].toArray n) :: (a, listOf va.toArray na) :: (b, listOf vb.toArray nb) :: (c, listOf vc.toArray nc) :: news) := kst_newsOf N (by
    intro p hp
    rcases List.mem_cons.mp hp with rfl | hp
    · exact hR
    rcases List.mem_cons.mp hp with rfl | hp
    · exact ha
    rcases List.mem_cons.mp hp with rfl | hp
    · exact hb
    rcases List.mem_cons.mp hp with rfl | hp
    · exact hc
    · exact hp)
  revert X; k_fill; intro X
  refine wpAny_call ?_
  k_dflt cell_enter
  (repeat' ((fail_if_success (with_reducible first | refine at_while ?_ | refine at_for ?_ | refine at_iter ?_ | refine at_ksw ?_ | refine at_wh ?_ | show InvPostN _ _ _ _ _ _ _ _ _)); (first | (with_reducible first | fail "none") | ((with_reducible refine at_sub ?_); (with_unfolding_all refine' item_x ?k1 ?k2 ?k3 ?k4 ?k5 ?_ ?k6; (case k1 => is_list); (case k2 => with_reducible assumption); (case k3 => decide); (case k4 => decide); (case k5 => rfl); (case k6 => with_unfolding_all rfl)); intro _; try dsimp only) | ((with_reducible show wpAny _ _ (binaryOp Operator.Mult (Value.int _ _) (Value.int _ _)) _ _ _); (refine mul_int ?_ (IntMulOk.of_left (intBits_le_64 (by omega) (by omega)))); try dsimp only) | ((with_reducible refine abs_st ?_); intro _ _; walk1; try dsimp only) | ((with_reducible refine use_post (by assumption) ?_); try dsimp only) | (k_unfold; (try dsimp only)) | (k_end; wrow_close) | (walk1; try dsimp only) | (dsimp only; walk1) | (leave1; walk_say "STEP leave1"; try dsimp only) | fail "no step")))
  exact hret _ [] _ _ (by k_asm) (kst_newsOf (by k_asm) fun p hp => .tail _ (.tail _ (.tail _ (.tail _ hp)))) (fun _ _ _ h => nomatch h) ⟨rfl, _, rfl⟩
end Mine
end
local macro_rules | `(tactic| k_ne) => `(tactic| first | assumption | exact Ne.symm (by assumption) | exact Mine.neN (Nat.ne_of_lt (by assumption)) | exact Mine.neN (Nat.ne_of_gt (by assumption)) | (focus (refine Mine.neN (Nat.ne_of_lt ?_); (repeat (first | exact Nat.lt_add_one _ | assumption | apply Nat.lt_add_one_of_lt)); done)) | (focus (refine Mine.neN (Nat.ne_of_gt ?_); (repeat (first | exact Nat.lt_add_one _ | assumption | apply Nat.lt_add_one_of_lt)); done)) | (refine Mine.neN ?_; (try dsimp only); (repeat ((with_reducible rename _ ≠ _ => z9); clear z9)); omega))
section
open PySem PySem.W PyProof.Rows PySem.Calls
namespace Mine
set_option maxRecDepth 100000
set_option maxHeartbeats 8000000
set_option linter.unusedVariables false
theorem comp_end {h₀ : Heap} {L I C D : Addr} {m : Str → Option Value} {s₁ : Shared} {oI oC oD : Obj} {S : List (Addr × Obj) → Prop} {rest : Value → List (Addr × Obj) → Prop} {y : Value} {h' : Heap} {tk : Nat} {news' : List (Addr × Obj)}
    (F : Fr h₀ L h' m) (N : News h₀ L h' ((I, oI) :: (C, oC) :: (D, oD) :: news')) (off : LCg.Off3 I C D news') (hS : S news') (r : rest y news') :
    LCg.CompEnd h₀ L m s₁ I oI C oC D oD S rest y { s₁ with heap := h', toks := tk } := ⟨h', tk, news', rfl, F, N, off, hS, r⟩
noncomputable def Perm4 (c a b d : Int) : Prop := (c = 0 ∧ a = 1 ∧ b = 2 ∧ d = 3) ∨ (c = 1 ∧ a = 0 ∧ b = 2 ∧ d = 3) ∨ (c = 2 ∧ a = 0 ∧ b = 1 ∧ d = 3) ∨ (c = 3 ∧ a = 0 ∧ b = 1 ∧ d = 2)
inductive OtEnd (h₀ : Heap) (L : Addr) (s : Shared) (m₀ : Str → Option Value) (led : List (Addr × Obj)) (c : Int) : Flow → Shared → Prop
  | mk (D : Addr) (o0 o1 o2 : Int) (t0 t1 t2 : Tok) (h' : Heap) (tk' : Nat) (hp : Perm4 c o0 o1 o2) (ho : LCg.Off1 D led) (F : Fr h₀ L h' (fun z => if z = "others" then some (.ref D) else m₀ z)) (N : News h₀ L h' ((D, LCg.lst [.int o0 t0, .int o1 t1, .int o2 t2]) :: led)) : OtEnd h₀ L s m₀ led c .next { s with heap := h', toks := tk' }
theorem ot_cut {prog : Program} {w : World} {A : Around} {E : Value → Shared → Prop} {Q : Flow → Shared → Prop} {s : Shared} {env : Env} {h₀ : Heap} {L : Addr} {st : Stmt} {m₀ : Str → Option Value} {led : List (Addr × Obj)} (c : Int) (_F : Fr h₀ L s.heap m₀) (_N : News h₀ L s.heap led)
    (h1 : wpAny (model prog w) A (exec st env) (OtEnd h₀ L s m₀ led c) E s)
    (h2 : ∀ (D : Addr) (o0 o1 o2 : Int) (t0 t1 t2 : Tok) (h' : Heap) (tk' : Nat), Perm4 c o0 o1 o2 → LCg.Off1 D led → Fr h₀ L h' (fun z => if z = "others" then some (.ref D) else m₀ z) → News h₀ L h' ((D, LCg.lst [.int o0 t0, .int o1 t1, .int o2 t2]) :: led) → Q .next { s with heap := h', toks := tk' }) :
    wpAny (model prog w) A (exec st env) Q E s := by
  refine wpAny_mono h1 (fun f s₂ q => ?_) (fun _ _ e => e)
  obtain ⟨D, o0, o1, o2, t0, t1, t2, h', tk', hp, ho, F, N⟩ := q
  exact h2 D o0 o1 o2 t0 t1 t2 h' tk' hp ho F N
noncomputable def rr (r0 r1 r2 r3 : Addr) (k : Int) : Addr := if k = 0 then r0 else if k = 1 then r1 else if k = 2 then r2 else r3
section
variable {prog : Program} {w : World} {A : Around} {E : Value → Shared → Prop} {s : Shared} {h₀ : Heap} {L : Addr} {news : List (Addr × Obj)}
theorem room_row {value slice : PySem.Expr} {R r0 r1 r2 r3 : Addr} {n : Nat} {k : Int} {u : Tok} {Q : Value → Shared → Prop} (N : News h₀ L s.heap news) (hm : (R, listOf [Value.ref r0, Value.ref r1, Value.ref r2, Value.ref r3].toArray n) ∈ news) (h0 : 0 ≤ k) (h1 : k < 4)
    (h : Q (.ref (rr r0 r1 r2 r3 k)) s)
    (hs : subscripted slice false (.ref R) (.int k u) = operate [.ref R, .int k u] (getItem (.ref R) (.int k u)) := by with_unfolding_all rfl) :
    wpAny (model prog w) A (subscriptTail value slice (.ref R) (.int k u)) Q E s := by
  have g : ∀ (x : Addr), [Value.ref r0, Value.ref r1, Value.ref r2, Value.ref r3].toArray[k.toNat]? = some (.ref x) → rr r0 r1 r2 r3 k = x → wpAny (model prog w) A (getItem (.ref R) (.int k u)) Q E s := fun x e1 e2 => by
    subst e2
    exact wpAny_getItem_list (PySem.IsL.isList (n := n) (N _ hm).1) h0 (by omega) e1 h
  refine tail_any (PySem.IsL.isList (n := n) (N _ hm).1).typeIs slot_list_getitem.lookup ?_ hs
  have hc : k = 0 ∨ k = 1 ∨ k = 2 ∨ k = 3 := by omega
  rcases hc with rfl | rfl | rfl | rfl
  · exact g r0 rfl rfl
  · exact g r1 rfl rfl
  · exact g r2 rfl rfl
  · exact g r3 rfl rfl
noncomputable def dd (x0 x1 x2 x3 : List Int) (k j : Int) : Int := (if k = 0 then x0 else if k = 1 then x1 else if k = 2 then x2 else x3).getD j.toNat 0
theorem room_cell {value slice : PySem.Expr} {r0 r1 r2 r3 : Addr} {n0 n1 n2 n3 : Nat} {v0 v1 v2 v3 : List Value} {x0 x1 x2 x3 : List Int} {k j : Int} {u : Tok} {Q : Value → Shared → Prop} (N : News h₀ L s.heap news)
    (m0 : (r0, listOf v0.toArray n0) ∈ news) (m1 : (r1, listOf v1.toArray n1) ∈ news) (m2 : (r2, listOf v2.toArray n2) ∈ news) (m3 : (r3, listOf v3.toArray n3) ∈ news)
    (i0 : IntsAre v0 x0) (i1 : IntsAre v1 x1) (i2 : IntsAre v2 x2) (i3 : IntsAre v3 x3) (l0 : x0.length = 4) (l1 : x1.length = 4) (l2 : x2.length = 4) (l3 : x3.length = 4) (h0 : 0 ≤ k) (h1 : k < 4) (h2 : 0 ≤ j) (h3 : j < 4)
    (h : ∀ t, Q (.int (dd x0 x1 x2 x3 k j) t) s)
    (hs : subscripted slice false (.ref (rr r0 r1 r2 r3 k)) (.int j u) = operate [.ref (rr r0 r1 r2 r3 k), .int j u] (getItem (.ref (rr r0 r1 r2 r3 k)) (.int j u)) := by with_unfolding_all rfl) :
    wpAny (model prog w) A (subscriptTail value slice (.ref (rr r0 r1 r2 r3 k)) (.int j u)) Q E s := by
  have hc : k = 0 ∨ k = 1 ∨ k = 2 ∨ k = 3 := by omega
  rcases hc with rfl | rfl | rfl | rfl
  · exact item_anyK (N.isList m0) i0 h2 (by omega) (by omega) h hs
  · exact item_anyK (N.isList m1) i1 h2 (by omega) (by omega) h hs
  · exact item_anyK (N.isList m2) i2 h2 (by omega) (by omega) h hs
  · exact item_anyK (N.isList m3) i3 h2 (by omega) (by omega) h hs
end
theorem others_are {c : Int} (h0 : 0 ≤ c) (h1 : c < 4) {ys : List Value} (h : IntsAre ys ((rangeKs 0 4).foldl (fun l k => if k = c then l else l ++ [k]) [])) :
    ∃ (o0 o1 o2 : Int) (t0 t1 t2 : Tok), ys = [.int o0 t0, .int o1 t1, .int o2 t2] ∧ Perm4 c o0 o1 o2 := by
  have k : ∀ a b d, (rangeKs 0 4).foldl (fun l k => if k = c then l else l ++ [k]) [] = [a, b, d] → Perm4 c a b d → ∃ (o0 o1 o2 : Int) (t0 t1 t2 : Tok), ys = [.int o0 t0, .int o1 t1, .int o2 t2] ∧ Perm4 c o0 o1 o2 := fun a b d e p => by
    rw [e] at h
    rcases h with _ | ⟨_, t0, h⟩
    rcases h with _ | ⟨_, t1, h⟩
    rcases h with _ | ⟨_, t2, h⟩
    rcases h with _ | _
    exact ⟨a, b, d, t0, t1, t2, rfl, p⟩
  have hc : c = 0 ∨ c = 1 ∨ c = 2 ∨ c = 3 := by omega
  rcases hc with rfl | rfl | rfl | rfl
  · exact k 1 2 3 rfl (.inl ⟨rfl, rfl, rfl, rfl⟩)
  · exact k 0 2 3 rfl (.inr (.inl ⟨rfl, rfl, rfl, rfl⟩))
  · exact k 0 1 3 rfl (.inr (.inr (.inl ⟨rfl, rfl, rfl, rfl⟩)))
  · exact k 0 1 2 rfl (.inr (.inr (.inr ⟨rfl, rfl, rfl, rfl⟩)))
theorem cell_is {o : Obj} {x y : Option Value} (h : o.data = .cell y) (e : y = x) : o.data = .cell x := e ▸ h
noncomputable def gR (x0 x1 x2 x3 : List Int) (c i j : Int) : Int := dd x0 x1 x2 x3 c i + dd x0 x1 x2 x3 c j - dd x0 x1 x2 x3 i j
noncomputable def detR (x0 x1 x2 x3 : List Int) (c o0 o1 o2 : Int) : Int := det3 (gR x0 x1 x2 x3 c o0 o0) (gR x0 x1 x2 x3 c o0 o1) (gR x0 x1 x2 x3 c o0 o2) (gR x0 x1 x2 x3 c o1 o0) (gR x0 x1 x2 x3 c o1 o1) (gR x0 x1 x2 x3 c o1 o2) (gR x0 x1 x2 x3 c o2 o0) (gR x0 x1 x2 x3 c o2 o1) (gR x0 x1 x2 x3 c o2 o2)
theorem says_room (w : World) (R r0 r1 r2 r3 M : Addr) (oM : Obj) (n n0 n1 n2 n3 : Nat) (corner : Int) (t : Tok) (hc0 : 0 ≤ corner) (hc1 : corner < 4) (v0 v1 v2 v3 : List Value) (x0 x1 x2 x3 : List Int) (i0 : IntsAre v0 x0) (i1 : IntsAre v1 x1) (i2 : IntsAre v2 x2) (i3 : IntsAre v3 x3)
    (e0 : x0.length = 4) (e1 : x1.length = 4) (e2 : x2.length = 4) (e3 : x3.length = 4) (hdd : ∀ k j, 0 ≤ k → k < 4 → 0 ≤ j → j < 4 → -100 ≤ dd x0 x1 x2 x3 k j ∧ dd x0 x1 x2 x3 k j ≤ 100) :
    Says w 112 20 [.ref R, .int corner t] [(R, listOf [Value.ref r0, Value.ref r1, Value.ref r2, Value.ref r3].toArray n), (r0, listOf v0.toArray n0), (r1, listOf v1.toArray n1), (r2, listOf v2.toArray n2), (r3, listOf v3.toArray n3), (M, oM)] (fun r tl => tl = [] ∧ ∃ t o0 o1 o2, Perm4 corner o0 o1 o2 ∧ r = .int (detR x0 x1 x2 x3 corner o0 o1 o2) t) := by
  w_on
  w_top off
  intro loose mean mg mb dp un gd cn cs a ccd cl outer A₀ base h₀ L m s Q E B F X N T hk hd hu hret
  revert X; k_fill; intro X
  refine wpAny_call ?_
  k_dflt (refine' code_defC ?k1 ?k2 ?k3 ?k4 ?k5 ?kA ?kF ?kK ?k6 ?k7 ?k8 ?k9 ?kB ?kD ?_ ?c2 ?c3 ?c4; (case kA => exact rfl); (case kF => exact rfl); (case kK => assumption); (case k1 => k_asm); (case k2 => k_asm); (case k3 => k_asm); (case k4 => k_asm); (case k5 => k_asm); (case k6 => k_is); (case k7 => k_is); (case k8 => ktr_room); (case k9 => exact BindsTo.of_eq rfl); (case kB => exact rfl); (case kD => decide +kernel); (case c2 => exact rfl); (case c3 => exact rfl); (case c4 => exact rfl); k_whole; intro g' L' h' tk' cells' FG' F' N' Y' B' X' T' l1; (try k_lt l1); k_cells Y'; (try simp only [List.cons_append, List.nil_append] at N'); (try dsimp only); (try k_lift B'); (try k_fold))
  rename Fr _ _ _ _ => lF
  obtain ⟨u0, lF⟩ := fr_abs lF [] (fun _ h => nomatch h)
  dsimp only [kstB] at lF
  rename News _ _ _ _ => lN
  rename _ = Data.cell _ => z
  have y3 := cell_is (x := some (.ref R)) z rfl
  clear z
  revert y3
  rename _ = Data.cell _ => z
  have y2 := cell_is (x := some (.int corner t)) z rfl
  clear z
  revert y2
  rename _ = Data.cell _ => z
  have y1 := cell_is (x := none) z rfl
  clear z
  intro y2 y3
  walk1
  refine ot_cut corner lF lN ?ot ?go
  case ot =>
    k_dflt (refine LCt.Assign_ListComp_T (F₀ := by k_asm) (by rfl) (by with_unfolding_all rfl) (by with_unfolding_all rfl) (by decide) (by rfl) (by decide) (by rfl) (by rfl) (by rfl) ?_)
    (repeat' ((fail_if_success (with_reducible first | refine at_while ?_ | refine at_for ?_ | refine at_iter ?_ | refine at_call ?_ | refine at_type ?_ | refine at_ksw ?_ | refine at_wh ?_ | refine at_src ?_ | refine at_srcT ?_ | refine at_comp ?_ | refine at_end ?_ | refine at_acomp ?_ | refine at_sub ?_)); (first | ((first | (with_reducible rename _ < _ ∧ _ => z9) | (with_reducible rename _ ≠ _ ∧ _ => z9)); (have z8 := And.left z9); (have z7 := And.right z9); (clear z9)) | (with_reducible first | fail "none") | fail "none" | ((with_reducible refine abs_st ?_); intro _ _; walk1; try dsimp only) | ((with_reducible refine use_post (by assumption) ?_); try dsimp only) | (k_unfold; (try dsimp only)) | (k_end; wrow_close) | (walk1; try dsimp only) | (dsimp only; walk1) | (leave1; walk_say "STEP leave1"; try dsimp only) | fail "no step")))
    k_dflt (refine LCt.CompSrcT.range (n := 4) (by rfl) (by k_asm) (by k_asm) (by assumption) (by decide) (by rfl) (by exact Nat.le_of_ble_eq_true rfl) ?_)
    intro g'
    refine' kci_range (fun l k => if k = corner then l else l ++ [k]) (fun k t I oI C oC D m₂ ys l h tk E' h0 h1 hy hC hx F N off ne mk => ?_) ?fin (fun l k => by dsimp only; split <;> simp)
    · clear mk
      (repeat' ((fail_if_success (with_reducible first | refine at_while ?_ | refine at_for ?_ | refine at_iter ?_ | refine at_call ?_ | refine at_type ?_ | refine at_ksw ?_ | refine at_wh ?_ | refine at_src ?_ | refine at_srcT ?_ | refine at_comp ?_ | refine at_end ?_ | refine at_acomp ?_ | refine at_sub ?_)); (first | ((first | (with_reducible rename _ < _ ∧ _ => z9) | (with_reducible rename _ ≠ _ ∧ _ => z9)); (have z8 := And.left z9); (have z7 := And.right z9); (clear z9)) | (with_reducible first | fail "none") | fail "none" | ((with_reducible refine abs_st ?_); intro _ _; walk1; try dsimp only) | ((with_reducible refine use_post (by assumption) ?_); try dsimp only) | (k_unfold; (try dsimp only)) | (k_end; wrow_close) | (walk1; try dsimp only) | (dsimp only; walk1) | (leave1; walk_say "STEP leave1"; try dsimp only) | fail "no step")))
      · rename Fr _ _ _ _ => F9
        rename News _ _ _ _ => N9
        exact comp_end F9 N9 off trivial ⟨rfl, k, _, rfl, if_neg (by assumption)⟩
      · rename Fr _ _ _ _ => F9
        rename News _ _ _ _ => N9
        exact comp_end F9 N9 off trivial ⟨rfl, if_pos (by assumption)⟩
    unfold KPfDone
    intro ys hys hyl
    unfold LCg.FinA
    intro D' h' tk' F' N' o1'
    obtain ⟨o0, o1, o2, t0, t1, t2, rfl, hP⟩ := others_are hc0 hc1 hys
    exact ⟨_, _, _, _, _, _, _, _, _, hP, o1', F', N'⟩
  case go =>
    clear lF lN
    intro D o0 o1 o2 t0 t1 t2 h' tk' hP hO lF lN
    simp only [LCg.Off1, and_true] at hO
    (repeat ((with_reducible rename _ ≠ _ ∧ _ => z9); (have z8 := And.left z9); (have z7 := And.right z9); (clear z9)))
    have hb : (0 ≤ o0 ∧ o0 < 4) ∧ (0 ≤ o1 ∧ o1 < 4) ∧ (0 ≤ o2 ∧ o2 < 4) := by
      rcases hP with ⟨rfl, rfl, rfl, rfl⟩ | ⟨rfl, rfl, rfl, rfl⟩ | ⟨rfl, rfl, rfl, rfl⟩ | ⟨rfl, rfl, rfl, rfl⟩ <;> decide
    have p0 := hb.1.1
    have p1 := hb.1.2
    have p2 := hb.2.1.1
    have p3 := hb.2.1.2
    have p4 := hb.2.2.1
    have p5 := hb.2.2.2
    clear hb
    (repeat' ((fail_if_success (with_reducible first | refine at_while ?_ | refine at_for ?_ | refine at_iter ?_ | refine at_call ?_ | refine at_type ?_ | refine at_ksw ?_ | refine at_wh ?_ | refine at_src ?_ | refine at_srcT ?_ | refine at_comp ?_ | refine at_end ?_ | refine at_acomp ?_ | refine at_sub ?_)); (first | ((first | (with_reducible rename _ < _ ∧ _ => z9) | (with_reducible rename _ ≠ _ ∧ _ => z9)); (have z8 := And.left z9); (have z7 := And.right z9); (clear z9)) | (with_reducible first | fail "none") | fail "none" | ((with_reducible refine abs_st ?_); intro _ _; walk1; try dsimp only) | ((with_reducible refine use_post (by assumption) ?_); try dsimp only) | (k_unfold; (try dsimp only)) | (k_end; wrow_close) | (walk1; try dsimp only) | (dsimp only; walk1) | (leave1; walk_say "STEP leave1"; try dsimp only) | fail "no step")))
    rename Fr _ _ _ _ => lF'
    with_unfolding_all refine' For_turns lF' ?_
    k_whole
    (repeat' ((fail_if_success (with_reducible first | refine at_while ?_ | refine at_for ?_ | refine at_iter ?_ | refine at_call ?_ | refine at_type ?_ | refine at_ksw ?_ | refine at_wh ?_ | refine at_src ?_ | refine at_srcT ?_ | refine at_comp ?_ | refine at_end ?_ | refine at_acomp ?_ | refine at_sub ?_)); (first | ((first | (with_reducible rename _ < _ ∧ _ => z9) | (with_reducible rename _ ≠ _ ∧ _ => z9)); (have z8 := And.left z9); (have z7 := And.right z9); (clear z9)) | (with_reducible first | fail "none") | fail "none" | ((with_reducible refine abs_st ?_); intro _ _; walk1; try dsimp only) | ((with_reducible refine use_post (by assumption) ?_); try dsimp only) | (k_unfold; (try dsimp only)) | (k_end; wrow_close) | (walk1; try dsimp only) | (dsimp only; walk1) | (leave1; walk_say "STEP leave1"; try dsimp only) | fail "no step")))
    walk1
    (repeat' ((fail_if_success (with_reducible first | refine at_while ?_ | refine at_for ?_ | refine at_iter ?_ | refine at_call ?_ | refine at_type ?_ | refine at_ksw ?_ | refine at_wh ?_ | refine at_src ?_ | refine at_srcT ?_ | refine at_comp ?_ | refine at_end ?_ | refine at_acomp ?_ | refine at_sub ?_)); (first | ((first | (with_reducible rename _ < _ ∧ _ => z9) | (with_reducible rename _ ≠ _ ∧ _ => z9)); (have z8 := And.left z9); (have z7 := And.right z9); (clear z9)) | (with_reducible first | fail "none") | fail "none" | ((with_reducible refine abs_st ?_); intro _ _; walk1; try dsimp only) | ((with_reducible refine use_post (by assumption) ?_); try dsimp only) | (k_unfold; (try dsimp only)) | (k_end; wrow_close) | (walk1; try dsimp only) | (dsimp only; walk1) | (leave1; walk_say "STEP leave1"; try dsimp only) | fail "no step")))
    lcg_calm
    k_dflt (refine LCg.ListComp_U (F₀ := by k_asm) (by with_unfolding_all rfl) (by decide) (by rfl) (by decide) (by rfl) ?_)
    (repeat' ((fail_if_success (with_reducible first | refine at_while ?_ | refine at_for ?_ | refine at_iter ?_ | refine at_call ?_ | refine at_type ?_ | refine at_ksw ?_ | refine at_wh ?_ | refine at_src ?_ | refine at_srcT ?_ | refine at_comp ?_ | refine at_end ?_ | refine at_acomp ?_ | refine at_sub ?_)); (first | ((first | (with_reducible rename _ < _ ∧ _ => z9) | (with_reducible rename _ ≠ _ ∧ _ => z9)); (have z8 := And.left z9); (have z7 := And.right z9); (clear z9)) | (with_reducible first | fail "none") | fail "none" | ((with_reducible refine abs_st ?_); intro _ _; walk1; try dsimp only) | ((with_reducible refine use_post (by assumption) ?_); try dsimp only) | (k_unfold; (try dsimp only)) | (k_end; wrow_close) | (walk1; try dsimp only) | (dsimp only; walk1) | (leave1; walk_say "STEP leave1"; try dsimp only) | fail "no step")))
    k_dflt (refine LCg.CompSrc.ledger (by rfl) (by k_asm) (by k_asm) (by k_mem) (by exact Nat.le_of_ble_eq_true rfl) ?_)
    intro g'
    refine' kcf_list (gR x0 x1 x2 x3 corner o0) (.cons _ _ (.cons _ _ (.cons _ _ .nil))) (fun k t I oI C oC D m₂ ys h tk E' hk hC hx F N off ne mk => ?_) ?_
    · have hkb : 0 ≤ k ∧ k < 4 := by simp only [List.mem_cons, List.not_mem_nil, or_false] at hk; omega
      clear hk mk ne
      have k0 := hkb.1
      have k1 := hkb.2
      clear hkb
      iterate 3
        (repeat' ((fail_if_success (with_reducible first | refine at_while ?_ | refine at_for ?_ | refine at_iter ?_ | refine at_call ?_ | refine at_type ?_ | refine at_ksw ?_ | refine at_wh ?_ | refine at_src ?_ | refine at_srcT ?_ | refine at_comp ?_ | refine at_end ?_ | refine at_acomp ?_ | refine at_sub ?_)); (first | ((first | (with_reducible rename _ < _ ∧ _ => z9) | (with_reducible rename _ ≠ _ ∧ _ => z9)); (have z8 := And.left z9); (have z7 := And.right z9); (clear z9)) | (with_reducible first | fail "none") | fail "none" | ((with_reducible refine abs_st ?_); intro _ _; walk1; try dsimp only) | ((with_reducible refine use_post (by assumption) ?_); try dsimp only) | (k_unfold; (try dsimp only)) | (k_end; wrow_close) | (walk1; try dsimp only) | (dsimp only; walk1) | (leave1; walk_say "STEP leave1"; try dsimp only) | fail "no step")))
        rename News _ _ _ _ => N9
        with_unfolding_all refine room_row N9 (by k_mem) (by assumption) (by assumption) ?_ (by with_unfolding_all rfl)
        (repeat' ((fail_if_success (with_reducible first | refine at_while ?_ | refine at_for ?_ | refine at_iter ?_ | refine at_call ?_ | refine at_type ?_ | refine at_ksw ?_ | refine at_wh ?_ | refine at_src ?_ | refine at_srcT ?_ | refine at_comp ?_ | refine at_end ?_ | refine at_acomp ?_ | refine at_sub ?_)); (first | ((first | (with_reducible rename _ < _ ∧ _ => z9) | (with_reducible rename _ ≠ _ ∧ _ => z9)); (have z8 := And.left z9); (have z7 := And.right z9); (clear z9)) | (with_reducible first | fail "none") | fail "none" | ((with_reducible refine abs_st ?_); intro _ _; walk1; try dsimp only) | ((with_reducible refine use_post (by assumption) ?_); try dsimp only) | (k_unfold; (try dsimp only)) | (k_end; wrow_close) | (walk1; try dsimp only) | (dsimp only; walk1) | (leave1; walk_say "STEP leave1"; try dsimp only) | fail "no step")))
        rename News _ _ _ _ => N9
        refine room_cell N9 (by k_mem) (by k_mem) (by k_mem) (by k_mem) i0 i1 i2 i3 e0 e1 e2 e3 (by assumption) (by assumption) (by assumption) (by assumption) ?_ (by with_unfolding_all rfl)
        intro _
        (try dsimp only)
      (repeat' ((fail_if_success (with_reducible first | refine at_while ?_ | refine at_for ?_ | refine at_iter ?_ | refine at_call ?_ | refine at_type ?_ | refine at_ksw ?_ | refine at_wh ?_ | refine at_src ?_ | refine at_srcT ?_ | refine at_comp ?_ | refine at_end ?_ | refine at_acomp ?_ | refine at_sub ?_)); (first | ((first | (with_reducible rename _ < _ ∧ _ => z9) | (with_reducible rename _ ≠ _ ∧ _ => z9)); (have z8 := And.left z9); (have z7 := And.right z9); (clear z9)) | (with_reducible first | fail "none") | fail "none" | ((with_reducible refine abs_st ?_); intro _ _; walk1; try dsimp only) | ((with_reducible refine use_post (by assumption) ?_); try dsimp only) | (k_unfold; (try dsimp only)) | (k_end; wrow_close) | (walk1; try dsimp only) | (dsimp only; walk1) | (leave1; walk_say "STEP leave1"; try dsimp only) | fail "no step")))
      rename Fr _ _ _ _ => F9
      rename News _ _ _ _ => N9
      exact comp_end F9 N9 off (by lcg_src) ⟨rfl, _, rfl⟩
    unfold KPfDone
    intro ys hys
    unfold LCg.FinE
    intro D' h' tk' F' N' o1'
    simp only [LCg.Off1, and_true] at o1'
    (repeat ((with_reducible rename _ ≠ _ ∧ _ => z9); (have z8 := And.left z9); (have z7 := And.right z9); (clear z9)))
    (try simp only [List.nil_append, List.cons_append] at N')
    dsimp only
    (repeat' ((fail_if_success (with_reducible first | refine at_while ?_ | refine at_for ?_ | refine at_iter ?_ | refine at_call ?_ | refine at_type ?_ | refine at_ksw ?_ | refine at_wh ?_ | refine at_src ?_ | refine at_srcT ?_ | refine at_comp ?_ | refine at_end ?_ | refine at_acomp ?_ | refine at_sub ?_)); (first | ((first | (with_reducible rename _ < _ ∧ _ => z9) | (with_reducible rename _ ≠ _ ∧ _ => z9)); (have z8 := And.left z9); (have z7 := And.right z9); (clear z9)) | (with_reducible first | fail "none") | fail "none" | ((with_reducible refine abs_st ?_); intro _ _; walk1; try dsimp only) | ((with_reducible refine use_post (by assumption) ?_); try dsimp only) | (k_unfold; (try dsimp only)) | (k_end; wrow_close) | (walk1; try dsimp only) | (dsimp only; walk1) | (leave1; walk_say "STEP leave1"; try dsimp only) | fail "no step")))
    lcg_calm
    k_dflt (refine LCg.ListComp_U (F₀ := by k_asm) (by with_unfolding_all rfl) (by decide) (by rfl) (by decide) (by rfl) ?_)
    (repeat' ((fail_if_success (with_reducible first | refine at_while ?_ | refine at_for ?_ | refine at_iter ?_ | refine at_call ?_ | refine at_type ?_ | refine at_ksw ?_ | refine at_wh ?_ | refine at_src ?_ | refine at_srcT ?_ | refine at_comp ?_ | refine at_end ?_ | refine at_acomp ?_ | refine at_sub ?_)); (first | ((first | (with_reducible rename _ < _ ∧ _ => z9) | (with_reducible rename _ ≠ _ ∧ _ => z9)); (have z8 := And.left z9); (have z7 := And.right z9); (clear z9)) | (with_reducible first | fail "none") | fail "none" | ((with_reducible refine abs_st ?_); intro _ _; walk1; try dsimp only) | ((with_reducible refine use_post (by assumption) ?_); try dsimp only) | (k_unfold; (try dsimp only)) | (k_end; wrow_close) | (walk1; try dsimp only) | (dsimp only; walk1) | (leave1; walk_say "STEP leave1"; try dsimp only) | fail "no step")))
    k_dflt (refine LCg.CompSrc.ledger (by rfl) (by k_asm) (by k_asm) (by k_mem) (by exact Nat.le_of_ble_eq_true rfl) ?_)
    intro g'
    refine' kcf_list (gR x0 x1 x2 x3 corner o1) (.cons _ _ (.cons _ _ (.cons _ _ .nil))) (fun k t I oI C oC D m₂ ys h tk E' hk hC hx F N off ne mk => ?_) ?_
    · have hkb : 0 ≤ k ∧ k < 4 := by simp only [List.mem_cons, List.not_mem_nil, or_false] at hk; omega
      clear hk mk ne
      have k0 := hkb.1
      have k1 := hkb.2
      clear hkb
      iterate 3
        (repeat' ((fail_if_success (with_reducible first | refine at_while ?_ | refine at_for ?_ | refine at_iter ?_ | refine at_call ?_ | refine at_type ?_ | refine at_ksw ?_ | refine at_wh ?_ | refine at_src ?_ | refine at_srcT ?_ | refine at_comp ?_ | refine at_end ?_ | refine at_acomp ?_ | refine at_sub ?_)); (first | ((first | (with_reducible rename _ < _ ∧ _ => z9) | (with_reducible rename _ ≠ _ ∧ _ => z9)); (have z8 := And.left z9); (have z7 := And.right z9); (clear z9)) | (with_reducible first | fail "none") | fail "none" | ((with_reducible refine abs_st ?_); intro _ _; walk1; try dsimp only) | ((with_reducible refine use_post (by assumption) ?_); try dsimp only) | (k_unfold; (try dsimp only)) | (k_end; wrow_close) | (walk1; try dsimp only) | (dsimp only; walk1) | (leave1; walk_say "STEP leave1"; try dsimp only) | fail "no step")))
        rename News _ _ _ _ => N9
        with_unfolding_all refine room_row N9 (by k_mem) (by assumption) (by assumption) ?_ (by with_unfolding_all rfl)
        (repeat' ((fail_if_success (with_reducible first | refine at_while ?_ | refine at_for ?_ | refine at_iter ?_ | refine at_call ?_ | refine at_type ?_ | refine at_ksw ?_ | refine at_wh ?_ | refine at_src ?_ | refine at_srcT ?_ | refine at_comp ?_ | refine at_end ?_ | refine at_acomp ?_ | refine at_sub ?_)); (first | ((first | (with_reducible rename _ < _ ∧ _ => z9) | (with_reducible rename _ ≠ _ ∧ _ => z9)); (have z8 := And.left z9); (have z7 := And.right z9); (clear z9)) | (with_reducible first | fail "none") | fail "none" | ((with_reducible refine abs_st ?_); intro _ _; walk1; try dsimp only) | ((with_reducible refine use_post (by assumption) ?_); try dsimp only) | (k_unfold; (try dsimp only)) | (k_end; wrow_close) | (walk1; try dsimp only) | (dsimp only; walk1) | (leave1; walk_say "STEP leave1"; try dsimp only) | fail "no step")))
        rename News _ _ _ _ => N9
        refine room_cell N9 (by k_mem) (by k_mem) (by k_mem) (by k_mem) i0 i1 i2 i3 e0 e1 e2 e3 (by assumption) (by assumption) (by assumption) (by assumption) ?_ (by with_unfolding_all rfl)
        intro _
        (try dsimp only)
      (repeat' ((fail_if_success (with_reducible first | refine at_while ?_ | refine at_for ?_ | refine at_iter ?_ | refine at_call ?_ | refine at_type ?_ | refine at_ksw ?_ | refine at_wh ?_ | refine at_src ?_ | refine at_srcT ?_ | refine at_comp ?_ | refine at_end ?_ | refine at_acomp ?_ | refine at_sub ?_)); (first | ((first | (with_reducible rename _ < _ ∧ _ => z9) | (with_reducible rename _ ≠ _ ∧ _ => z9)); (have z8 := And.left z9); (have z7 := And.right z9); (clear z9)) | (with_reducible first | fail "none") | fail "none" | ((with_reducible refine abs_st ?_); intro _ _; walk1; try dsimp only) | ((with_reducible refine use_post (by assumption) ?_); try dsimp only) | (k_unfold; (try dsimp only)) | (k_end; wrow_close) | (walk1; try dsimp only) | (dsimp only; walk1) | (leave1; walk_say "STEP leave1"; try dsimp only) | fail "no step")))
      rename Fr _ _ _ _ => F9
      rename News _ _ _ _ => N9
      exact comp_end F9 N9 off (by lcg_src) ⟨rfl, _, rfl⟩
    unfold KPfDone
    intro ys hys
    unfold LCg.FinE
    intro D' h' tk' F' N' o1'
    simp only [LCg.Off1, and_true] at o1'
    (repeat ((with_reducible rename _ ≠ _ ∧ _ => z9); (have z8 := And.left z9); (have z7 := And.right z9); (clear z9)))
    (try simp only [List.nil_append, List.cons_append] at N')
    dsimp only
    (repeat' ((fail_if_success (with_reducible first | refine at_while ?_ | refine at_for ?_ | refine at_iter ?_ | refine at_call ?_ | refine at_type ?_ | refine at_ksw ?_ | refine at_wh ?_ | refine at_src ?_ | refine at_srcT ?_ | refine at_comp ?_ | refine at_end ?_ | refine at_acomp ?_ | refine at_sub ?_)); (first | ((first | (with_reducible rename _ < _ ∧ _ => z9) | (with_reducible rename _ ≠ _ ∧ _ => z9)); (have z8 := And.left z9); (have z7 := And.right z9); (clear z9)) | (with_reducible first | fail "none") | fail "none" | ((with_reducible refine abs_st ?_); intro _ _; walk1; try dsimp only) | ((with_reducible refine use_post (by assumption) ?_); try dsimp only) | (k_unfold; (try dsimp only)) | (k_end; wrow_close) | (walk1; try dsimp only) | (dsimp only; walk1) | (leave1; walk_say "STEP leave1"; try dsimp only) | fail "no step")))
    lcg_calm
    k_dflt (refine LCg.ListComp_U (F₀ := by k_asm) (by with_unfolding_all rfl) (by decide) (by rfl) (by decide) (by rfl) ?_)
    (repeat' ((fail_if_success (with_reducible first | refine at_while ?_ | refine at_for ?_ | refine at_iter ?_ | refine at_call ?_ | refine at_type ?_ | refine at_ksw ?_ | refine at_wh ?_ | refine at_src ?_ | refine at_srcT ?_ | refine at_comp ?_ | refine at_end ?_ | refine at_acomp ?_ | refine at_sub ?_)); (first | ((first | (with_reducible rename _ < _ ∧ _ => z9) | (with_reducible rename _ ≠ _ ∧ _ => z9)); (have z8 := And.left z9); (have z7 := And.right z9); (clear z9)) | (with_reducible first | fail "none") | fail "none" | ((with_reducible refine abs_st ?_); intro _ _; walk1; try dsimp only) | ((with_reducible refine use_post (by assumption) ?_); try dsimp only) | (k_unfold; (try dsimp only)) | (k_end; wrow_close) | (walk1; try dsimp only) | (dsimp only; walk1) | (leave1; walk_say "STEP leave1"; try dsimp only) | fail "no step")))
    k_dflt (refine LCg.CompSrc.ledger (by rfl) (by k_asm) (by k_asm) (by k_mem) (by exact Nat.le_of_ble_eq_true rfl) ?_)
    intro g'
    refine' kcf_list (gR x0 x1 x2 x3 corner o2) (.cons _ _ (.cons _ _ (.cons _ _ .nil))) (fun k t I oI C oC D m₂ ys h tk E' hk hC hx F N off ne mk => ?_) ?_
    · have hkb : 0 ≤ k ∧ k < 4 := by simp only [List.mem_cons, List.not_mem_nil, or_false] at hk; omega
      clear hk mk ne
      have k0 := hkb.1
      have k1 := hkb.2
      clear hkb
      iterate 3
        (repeat' ((fail_if_success (with_reducible first | refine at_while ?_ | refine at_for ?_ | refine at_iter ?_ | refine at_call ?_ | refine at_type ?_ | refine at_ksw ?_ | refine at_wh ?_ | refine at_src ?_ | refine at_srcT ?_ | refine at_comp ?_ | refine at_end ?_ | refine at_acomp ?_ | refine at_sub ?_)); (first | ((first | (with_reducible rename _ < _ ∧ _ => z9) | (with_reducible rename _ ≠ _ ∧ _ => z9)); (have z8 := And.left z9); (have z7 := And.right z9); (clear z9)) | (with_reducible first | fail "none") | fail "none" | ((with_reducible refine abs_st ?_); intro _ _; walk1; try dsimp only) | ((with_reducible refine use_post (by assumption) ?_); try dsimp only) | (k_unfold; (try dsimp only)) | (k_end; wrow_close) | (walk1; try dsimp only) | (dsimp only; walk1) | (leave1; walk_say "STEP leave1"; try dsimp only) | fail "no step")))
        rename News _ _ _ _ => N9
        with_unfolding_all refine room_row N9 (by k_mem) (by assumption) (by assumption) ?_ (by with_unfolding_all rfl)
        (repeat' ((fail_if_success (with_reducible first | refine at_while ?_ | refine at_for ?_ | refine at_iter ?_ | refine at_call ?_ | refine at_type ?_ | refine at_ksw ?_ | refine at_wh ?_ | refine at_src ?_ | refine at_srcT ?_ | refine at_comp ?_ | refine at_end ?_ | refine at_acomp ?_ | refine at_sub ?_)); (first | ((first | (with_reducible rename _ < _ ∧ _ => z9) | (with_reducible rename _ ≠ _ ∧ _ => z9)); (have z8 := And.left z9); (have z7 := And.right z9); (clear z9)) | (with_reducible first | fail "none") | fail "none" | ((with_reducible refine abs_st ?_); intro _ _; walk1; try dsimp only) | ((with_reducible refine use_post (by assumption) ?_); try dsimp only) | (k_unfold; (try dsimp only)) | (k_end; wrow_close) | (walk1; try dsimp only) | (dsimp only; walk1) | (leave1; walk_say "STEP leave1"; try dsimp only) | fail "no step")))
        rename News _ _ _ _ => N9
        refine room_cell N9 (by k_mem) (by k_mem) (by k_mem) (by k_mem) i0 i1 i2 i3 e0 e1 e2 e3 (by assumption) (by assumption) (by assumption) (by assumption) ?_ (by with_unfolding_all rfl)
        intro _
        (try dsimp only)
      (repeat' ((fail_if_success (with_reducible first | refine at_while ?_ | refine at_for ?_ | refine at_iter ?_ | refine at_call ?_ | refine at_type ?_ | refine at_ksw ?_ | refine at_wh ?_ | refine at_src ?_ | refine at_srcT ?_ | refine at_comp ?_ | refine at_end ?_ | refine at_acomp ?_ | refine at_sub ?_)); (first | ((first | (with_reducible rename _ < _ ∧ _ => z9) | (with_reducible rename _ ≠ _ ∧ _ => z9)); (have z8 := And.left z9); (have z7 := And.right z9); (clear z9)) | (with_reducible first | fail "none") | fail "none" | ((with_reducible refine abs_st ?_); intro _ _; walk1; try dsimp only) | ((with_reducible refine use_post (by assumption) ?_); try dsimp only) | (k_unfold; (try dsimp only)) | (k_end; wrow_close) | (walk1; try dsimp only) | (dsimp only; walk1) | (leave1; walk_say "STEP leave1"; try dsimp only) | fail "no step")))
      rename Fr _ _ _ _ => F9
      rename News _ _ _ _ => N9
      exact comp_end F9 N9 off (by lcg_src) ⟨rfl, _, rfl⟩
    unfold KPfDone
    intro ys hys
    unfold LCg.FinE
    intro D' h' tk' F' N' o1'
    simp only [LCg.Off1, and_true] at o1'
    (repeat ((with_reducible rename _ ≠ _ ∧ _ => z9); (have z8 := And.left z9); (have z7 := And.right z9); (clear z9)))
    (try simp only [List.nil_append, List.cons_append] at N')
    dsimp only
    (repeat' ((fail_if_success (with_reducible first | refine at_while ?_ | refine at_for ?_ | refine at_iter ?_ | refine at_call ?_ | refine at_type ?_ | refine at_ksw ?_ | refine at_wh ?_ | refine at_src ?_ | refine at_srcT ?_ | refine at_comp ?_ | refine at_end ?_ | refine at_acomp ?_ | refine at_sub ?_)); (first | ((first | (with_reducible rename _ < _ ∧ _ => z9) | (with_reducible rename _ ≠ _ ∧ _ => z9)); (have z8 := And.left z9); (have z7 := And.right z9); (clear z9)) | (with_reducible first | fail "none") | fail "none" | ((with_reducible refine abs_st ?_); intro _ _; walk1; try dsimp only) | ((with_reducible refine use_post (by assumption) ?_); try dsimp only) | (k_unfold; (try dsimp only)) | (k_end; wrow_close) | (walk1; try dsimp only) | (dsimp only; walk1) | (leave1; walk_say "STEP leave1"; try dsimp only) | fail "no step")))
    rename News _ _ _ _ => N9
    simp only [List.push_toArray, List.nil_append, List.cons_append, LCg.lst] at N9
    have hg : ∀ i j, 0 ≤ i → i < 4 → 0 ≤ j → j < 4 → -1000 ≤ gR x0 x1 x2 x3 corner i j ∧ gR x0 x1 x2 x3 corner i j ≤ 1000 := by
      intro i j a b c d
      have e1 := hdd corner i hc0 hc1 a b
      have e2 := hdd corner j hc0 hc1 c d
      have e3 := hdd i j a b c d
      clear N9
      unfold gR
      omega
    refine' says_use (says_det w _ _ _ _ _ _ _ _ _ _ _ (gR x0 x1 x2 x3 corner o0 o0) (gR x0 x1 x2 x3 corner o0 o1) (gR x0 x1 x2 x3 corner o0 o2) (gR x0 x1 x2 x3 corner o1 o0) (gR x0 x1 x2 x3 corner o1 o1) (gR x0 x1 x2 x3 corner o1 o2) (gR x0 x1 x2 x3 corner o2 o0) (gR x0 x1 x2 x3 corner o2 o1) (gR x0 x1 x2 x3 corner o2 o2) _ ?hR ?ha ?hb ?hc ?ia ?ib ?ic (hg _ _ p0 p1 p0 p1) (hg _ _ p0 p1 p2 p3) (hg _ _ p0 p1 p4 p5) (hg _ _ p2 p3 p0 p1) (hg _ _ p2 p3 p2 p3) (hg _ _ p2 p3 p4 p5)) ?k1 ?k2 ?k3 N9 ?k5 ?kK ?kd ?ku ?_
    case k1 => k_asm
    case k2 => k_asm
    case k3 => k_asm
    case k5 => k_asm
    case kK => rfl
    case kd => (dsimp only [Around.deeper]; omega)
    case ku => (dsimp only [Around.deeper]; omega)
    case hR => repeat (first | exact List.Mem.head _ | apply List.Mem.tail)
    case ha => repeat (first | exact List.Mem.head _ | apply List.Mem.tail)
    case hb => repeat (first | exact List.Mem.head _ | apply List.Mem.tail)
    case hc => repeat (first | exact List.Mem.head _ | apply List.Mem.tail)
    case ia => assumption
    case ib => assumption
    case ic => assumption
    intro r9 tl9 h9 tk9 F9 N9 hl9 hR9
    obtain ⟨e9, t9, e8⟩ := hR9
    subst e9
    subst e8
    clear hl9
    simp only [List.nil_append] at N9
    dsimp only
    (repeat' ((fail_if_success (with_reducible first | refine at_while ?_ | refine at_for ?_ | refine at_iter ?_ | refine at_call ?_ | refine at_type ?_ | refine at_ksw ?_ | refine at_wh ?_ | refine at_src ?_ | refine at_srcT ?_ | refine at_comp ?_ | refine at_end ?_ | refine at_acomp ?_ | refine at_sub ?_)); (first | ((first | (with_reducible rename _ < _ ∧ _ => z9) | (with_reducible rename _ ≠ _ ∧ _ => z9)); (have z8 := And.left z9); (have z7 := And.right z9); (clear z9)) | (with_reducible first | fail "none") | fail "none" | ((with_reducible refine abs_st ?_); intro _ _; walk1; try dsimp only) | ((with_reducible refine use_post (by assumption) ?_); try dsimp only) | (k_unfold; (try dsimp only)) | (k_end; wrow_close) | (walk1; try dsimp only) | (dsimp only; walk1) | (leave1; walk_say "STEP leave1"; try dsimp only) | fail "no step")))
    refine hret _ [] _ _ (by k_asm) (kst_newsOf (by k_asm) fun p hp => ?_) (fun _ _ _ h => nomatch h) ⟨rfl, _, o0, o1, o2, hP, rfl⟩
    repeat (first | assumption | apply List.Mem.tail)
end Mine
end
section
open PySem PySem.W PyProof.Rows PySem.Calls
namespace Mine
set_option maxRecDepth 100000
set_option maxHeartbeats 8000000
set_option linter.unusedVariables false
/-- how one turn of a loop over a range ends; I is the iterator -/
inductive RgEnd {σ : Type} (h₀ : Heap) (L : Addr) (s : Shared) (I : Addr) (oI : Obj) (Led : σ → List (Addr × Obj)) (ps : σ → List (Str × Value)) (Facts : σ → Prop) (stored : List Str) (m₀ : Str → Option Value) (P : σ → Prop) : Flow → Shared → Prop
  | mk (c : σ) (h' : Heap) (tk' : Nat) (m' : Str → Option Value) (news' : List (Addr × Obj)) (F : Fr h₀ L h' m') (N : News h₀ L h' news') (sub : ∀ p ∈ (I, oI) :: Led c, p ∈ news') (ne : ∀ p ∈ Led c, p.1 ≠ I) (hf : Facts c) (hk : ∀ p ∈ ps c, m' p.1 = some p.2) (hr : ∀ z, (∀ p ∈ ps c, z ≠ p.1) → stored.contains z = false → m' z = m₀ z) (hp : P c) : RgEnd h₀ L s I oI Led ps Facts stored m₀ P .next { s with heap := h', toks := tk' }
section
variable {prog : Program} {w : World} {A : Around} {E : Value → Shared → Prop} {s : Shared} {env : Env} {h₀ : Heap} {x : Str} {px : Pos} {body : List Stmt} {Q : Flow → Shared → Prop}
theorem rg_turns {σ : Type} {r : Addr} {a₀ b₀ : Int} {t₀ u₀ v₀ : Tok} {n : Nat} {m₀ : Str → Option Value} (Led : σ → List (Addr × Obj)) (ps : σ → List (Str × Value)) (Facts : σ → Prop) (stored : List Str) (P : Nat → σ → Prop) (c₀ : σ)
    (hh : A.handled = none) (hr : IsRange s.heap r a₀ b₀ 1 t₀ u₀ v₀) (hsmall : Builtin.Range.small a₀ b₀ 1 = true) (hn : Builtin.Range.rangeSize a₀ b₀ 1 = (n : Int)) (F : Fr h₀ env.locals s.heap m₀) (N : News h₀ env.locals s.heap (Led c₀)) (hf : Facts c₀) (hk : ∀ p ∈ ps c₀, m₀ p.1 = some p.2) (hp : P 0 c₀)
    (turn : ∀ (c : σ) (i : Nat) (t : Tok) (u : Str → Option Value) (h : Heap) (tk : Nat) (I : Addr) (oI : Obj), i < n → Facts c → P i c → (∀ p ∈ Led c, p.1 ≠ I) →
      Fr h₀ env.locals h (kstB (fun z => if stored.contains z then u z else m₀ z) (ps c)) → News h₀ env.locals h ((I, oI) :: Led c) →
      wpAny (model prog w) A (assign (.Name x px) env (.int (a₀ + (i : Int)) t)) (fun _ s₃ => wpAny (model prog w) A (execs body env) (RgEnd h₀ env.locals s I oI Led ps Facts stored m₀ (P (i + 1))) E s₃) E { s with heap := h, toks := tk })
    (done : ∀ (c : σ) (u : Str → Option Value) (h : Heap) (tk : Nat), Facts c → P n c → Fr h₀ env.locals h (kstB (fun z => if stored.contains z then u z else m₀ z) (ps c)) → News h₀ env.locals h (Led c) → Q .next { s with heap := h, toks := tk }) :
    wpAny (model prog w) A (pyIter (.ref r)) (fun it s₂ => TurnsAt prog w A h₀ env (.Name x px) body Q E it s₂) E s := by
  refine wpAny_pyIter_range hr hsmall ?_
  have W : Walks prog w A s.heap.objs.size [s.heap.objs.size] [s.heap.objs.size] n (fun i v => i < n ∧ ∃ t, v = .int (a₀ + i * 1) t)
      (fun i h => IsRangeIter h s.heap.objs.size (a₀ + (i : Nat) * 1) ((n : Int) - (i : Nat)) 1) := (Walks.range hh _ a₀ 1 n).bound
  refine ⟨s.heap.objs.size, [s.heap.objs.size], [s.heap.objs.size], n, _, _, _, m₀, Led c₀, (fun i m nx => ∃ c : σ, nx = Led c ∧ Facts c ∧ (∀ p ∈ ps c, m p.1 = some p.2) ∧ (∀ z, (∀ p ∈ ps c, z ≠ p.1) → stored.contains z = false → m z = m₀ z) ∧ P i c), rfl,
    KTurns.ofWalks W (fun i v s Q E st q => wpAny_of_eq rfl q), ?_, ?_, ?_, (by show IsRangeIter _ _ _ _ _; rw [hn]; simpa using Heap.get?_push_size _ rfl), F.push _, (fun p hp => ⟨Heap.get?_push_of_some _ (N p hp).1, (N p hp).2⟩), ⟨c₀, rfl, hf, hk, fun _ _ _ => rfl, hp⟩, ?_, ?_⟩
  · intro hm
    exact absurd F.ns.lt ((List.mem_singleton.mp hm) ▸ Nat.lt_irrefl _)
  · intro b hb
    rw [List.mem_singleton.mp hb]
    exact next_is_new F
  · intro p hp hI
    exact absurd (Heap.lt_size (N p hp).1) ((List.mem_singleton.mp hI) ▸ Nat.lt_irrefl _)
  · rintro i v m₁ nx h tk own hi ⟨_, t, rfl⟩ ⟨c, rfl, hf', h1, h2, hp'⟩ hoff hown hown2 hin hst F₁ N₁
    obtain ⟨oI, hoI⟩ : ∃ oI, h.get? s.heap.objs.size = some oI := ⟨_, hst⟩
    have e1 : a₀ + (i : Int) * 1 = a₀ + (i : Int) := by omega
    rw [e1]
    have hmem := hin _ (List.mem_singleton.mpr rfl) (next_is_new F) oI hoI
    have N₂ : News h₀ env.locals h ((s.heap.objs.size, oI) :: Led c) := kst_newsOf N₁ (by
      intro p hp
      rcases List.mem_cons.mp hp with rfl | hp
      · exact List.mem_append.mpr (.inl hmem)
      · exact List.mem_append.mpr (.inr hp))
    refine wpAny_mono (turn c i t m₁ h tk s.heap.objs.size oI hi hf' hp' (fun p hp e => hoff p hp (List.mem_singleton.mpr e)) (ksw_fr h1 h2 F₁) N₂) (fun _ s₂ q => wpAny_mono q (fun f s₃ q => ?_) fun _ _ e => e) fun _ _ e => e
    obtain ⟨c', h', tk', m', news', F', N', hsub, hne, hf9, hk9, hr9, hp9⟩ := q
    refine ⟨rfl, h', tk', m', Led c', rfl, F', ?_, fun p hp hI => hne p hp (List.mem_singleton.mp hI), c', rfl, hf9, hk9, hr9, hp9⟩
    intro p hp
    rcases List.mem_append.mp hp with hp | hp
    · have e2 := List.mem_singleton.mp (hown p hp)
      have e3 := hown2 p hp
      rw [e2, hoI] at e3
      have e4 : p = (s.heap.objs.size, oI) := Prod.ext e2 (Option.some.inj e3).symm
      rw [e4]
      exact N' _ (hsub _ (.head _))
    · exact N' _ (hsub _ (.tail _ hp))
  · rintro h' tk m' nx F' N' hoff ⟨c, rfl, hf', h1, h2, hp'⟩
    exact done c m' h' tk hf' hp' (ksw_fr h1 h2 F') N'
end
end Mine
end
section
open PySem PySem.W PyProof.Rows PySem.Calls
namespace Mine
set_option maxRecDepth 100000
set_option maxHeartbeats 8000000
set_option linter.unusedVariables false
noncomputable def gS (m0 m1 : Int) : List Int := (rangeKs 0 7).map fun k => (m1.fdiv (2 ^ k.toNat)).fmod 2 - (m0.fdiv (2 ^ k.toNat)).fmod 2
inductive RwEnd (h₀ : Heap) (L : Addr) (s : Shared) (m0 m1 m2 m3 : Int) (tail : List (Addr × Obj)) : Flow → Shared → Unit → Unit → Prop
  | mk (D1 D2 D3 R : Addr) (y1 y2 y3 : List Value) (nR : Nat) (h' : Heap) (tk' : Nat) (u : Str → Option Value) (o : ∀ p ∈ tail, p.1 ≠ D1 ∧ p.1 ≠ D2 ∧ p.1 ≠ D3 ∧ p.1 ≠ R) (i1 : IntsAre y1 (gS m0 m1)) (i2 : IntsAre y2 (gS m0 m2)) (i3 : IntsAre y3 (gS m0 m3))
    (F : Fr h₀ L h' (kstB u [("rows", .ref R)])) (N : News h₀ L h' ((D1, LCg.lst y1) :: (D2, LCg.lst y2) :: (D3, LCg.lst y3) :: (R, listOf [Value.ref D1, Value.ref D2, Value.ref D3].toArray nR) :: tail)) : RwEnd h₀ L s m0 m1 m2 m3 tail .next { s with heap := h', toks := tk' } () ()
theorem rw_cut {prog : Program} {w : World} {A : Around} {E : Value → Shared → Prop} {Q : Flow → Shared → Prop} {s : Shared} {env : Env} {h₀ : Heap} {L : Addr} {st : Stmt} {m₀ : Str → Option Value} {pR p5 p4 p3 p2 p1 pM : Addr × Obj} (m0 m1 m2 m3 : Int) (_F : Fr h₀ L s.heap m₀) (_N : News h₀ L s.heap [pR, p5, p4, p3, p2, p1, pM])
    (h1 : wpAny (model prog w) A (exec st env) (fun f s₂ => RwEnd h₀ L s m0 m1 m2 m3 [p5, p4, p3, pM] f s₂ () ()) E s)
    (h2 : ∀ (D1 D2 D3 R : Addr) (y1 y2 y3 : List Value) (nR : Nat) (h' : Heap) (tk' : Nat) (u : Str → Option Value), (∀ p ∈ [p5, p4, p3, pM], p.1 ≠ D1 ∧ p.1 ≠ D2 ∧ p.1 ≠ D3 ∧ p.1 ≠ R) → IntsAre y1 (gS m0 m1) → IntsAre y2 (gS m0 m2) → IntsAre y3 (gS m0 m3) →
      Fr h₀ L h' (kstB u [("rows", .ref R)]) → News h₀ L h' ((D1, LCg.lst y1) :: (D2, LCg.lst y2) :: (D3, LCg.lst y3) :: (R, listOf [Value.ref D1, Value.ref D2, Value.ref D3].toArray nR) :: [p5, p4, p3, pM]) → Q .next { s with heap := h', toks := tk' }) :
    wpAny (model prog w) A (exec st env) Q E s := by
  refine wpAny_mono h1 (fun f s₂ q => ?_) (fun _ _ e => e)
  obtain ⟨D1, D2, D3, R, y1, y2, y3, nR, h', tk', u, a, b, c, d, F, N⟩ := q
  exact h2 D1 D2 D3 R y1 y2 y3 nR h' tk' u a b c d F N
theorem rw_pick {h₀ h : Heap} {L : Addr} {p0 p1 p2 p3 p4 p5 p6 p7 p8 p9 p10 : Addr × Obj} (N : News h₀ L h [p0, p1, p2, p3, p4, p5, p6, p7, p8, p9, p10]) : News h₀ L h [p2, p1, p0, p4, p5, p6, p7, p10] :=
  kst_newsOf N fun p hp => by
    simp only [List.mem_cons, List.not_mem_nil, or_false] at hp ⊢
    rcases hp with h | h | h | h | h | h | h | h <;> simp only [h, true_or, or_true]
theorem rw_tail {D1 D2 D3 R : Addr} : ∀ {tail : List (Addr × Obj)}, (∀ p ∈ tail, p.1 ≠ D1 ∧ p.1 ≠ D2 ∧ p.1 ≠ D3 ∧ p.1 ≠ R) → LCg.Off1 D1 tail ∧ LCg.Off1 D2 tail ∧ LCg.Off1 D3 tail ∧ LCg.Off1 R tail
  | [], _ => ⟨trivial, trivial, trivial, trivial⟩
  | p :: r, h =>
    have q := h p (.head _)
    have z := rw_tail fun x hx => h x (.tail _ hx)
    ⟨⟨q.1, z.1⟩, ⟨q.2.1, z.2.1⟩, ⟨q.2.2.1, z.2.2.1⟩, ⟨q.2.2.2, z.2.2.2⟩⟩
theorem gS_get (m0 m1 : Int) (n : Nat) : -1 ≤ (gS m0 m1).getD n 0 ∧ (gS m0 m1).getD n 0 ≤ 1 := by
  unfold gS
  rw [List.getD_eq_getElem?_getD, List.getElem?_map]
  cases (rangeKs 0 7)[n]? with
  | none => exact ⟨by show (-1 : Int) ≤ 0; decide, by show (0 : Int) ≤ 1; decide⟩
  | some k =>
    simp only [Option.map_some, Option.getD_some]
    have h1 := fmod_lo (m1.fdiv (2 ^ k.toNat)) (by decide : (0 : Int) < 2)
    have h2 := fmod_hi (m1.fdiv (2 ^ k.toNat)) (by decide : (0 : Int) < 2)
    have h3 := fmod_lo (m0.fdiv (2 ^ k.toNat)) (by decide : (0 : Int) < 2)
    have h4 := fmod_hi (m0.fdiv (2 ^ k.toNat)) (by decide : (0 : Int) < 2)
    omega
theorem gS_len (m0 m1 : Int) : (gS m0 m1).length = 7 := rfl
theorem sq_item {prog : Program} {w : World} {A : Around} {E : Value → Shared → Prop} {s : Shared} {value slice : PySem.Expr} {l : Addr} {vs : List Value} {m0 m1 k : Int} {u : Tok} {Q : Value → Shared → Prop} (hl : s.heap.IsList l vs.toArray) (hi : IntsAre vs (gS m0 m1)) (h0 : 0 ≤ k) (h1 : k < 7)
    (h : ∀ t, Q (.int ((gS m0 m1).getD k.toNat 0) t) s)
    (hs : subscripted slice false (.ref l) (.int k u) = operate [.ref l, .int k u] (getItem (.ref l) (.int k u)) := by with_unfolding_all rfl) :
    wpAny (model prog w) A (subscriptTail value slice (.ref l) (.int k u)) Q E s := item_anyK hl hi h0 (by rw [gS_len]; omega) (by omega) h hs
theorem gS_wide (m0 m1 : Int) (n : Nat) : -1000 ≤ (gS m0 m1).getD n 0 ∧ (gS m0 m1).getD n 0 ≤ 1000 := ⟨Int.le_trans (by decide) (gS_get m0 m1 n).1, Int.le_trans (gS_get m0 m1 n).2 (by decide)⟩
theorem mul_one1 {x y b : Int} (hx : -1 ≤ x ∧ x ≤ 1) (hy : -b ≤ y ∧ y ≤ b) : -b ≤ x * y ∧ x * y ≤ b := by
  have h : x = -1 ∨ x = 0 ∨ x = 1 := by omega
  rcases h with rfl | rfl | rfl <;> omega
theorem det_small {a0 a1 a2 b0 b1 b2 c0 c1 c2 : Int} (h0 : -1 ≤ a0 ∧ a0 ≤ 1) (h1 : -1 ≤ a1 ∧ a1 ≤ 1) (h2 : -1 ≤ a2 ∧ a2 ≤ 1) (h3 : -1 ≤ b0 ∧ b0 ≤ 1) (h4 : -1 ≤ b1 ∧ b1 ≤ 1) (h5 : -1 ≤ b2 ∧ b2 ≤ 1) (h6 : -1 ≤ c0 ∧ c0 ≤ 1) (h7 : -1 ≤ c1 ∧ c1 ≤ 1) (h8 : -1 ≤ c2 ∧ c2 ≤ 1) :
    -6 ≤ det3 a0 a1 a2 b0 b1 b2 c0 c1 c2 ∧ det3 a0 a1 a2 b0 b1 b2 c0 c1 c2 ≤ 6 := by
  unfold det3
  have p1 := mul_one1 (b := 1) h4 h8
  have p2 := mul_one1 (b := 1) h5 h7
  have p3 := mul_one1 (b := 1) h3 h8
  have p4 := mul_one1 (b := 1) h5 h6
  have p5 := mul_one1 (b := 1) h3 h7
  have p6 := mul_one1 (b := 1) h4 h6
  have q1 := mul_one1 (b := 2) (y := b1 * c2 - b2 * c1) h0 (by omega)
  have q2 := mul_one1 (b := 2) (y := b0 * c2 - b2 * c0) h1 (by omega)
  have q3 := mul_one1 (b := 2) (y := b0 * c1 - b1 * c0) h2 (by omega)
  omega
structure SS where
  sq : Int
  ts : Tok
  oH : Obj
  oM : Obj
  oL : Obj
noncomputable def dS (x1 x2 x3 : List Int) (l m h : Nat) : Int := det3 (x1.getD l 0) (x1.getD m 0) (x1.getD h 0) (x2.getD l 0) (x2.getD m 0) (x2.getD h 0) (x3.getD l 0) (x3.getD m 0) (x3.getD h 0)
noncomputable def sumL (x1 x2 x3 : List Int) (m h : Nat) : Nat → Int
  | 0 => 0
  | n + 1 => sumL x1 x2 x3 m h n + dS x1 x2 x3 n m h ^ 2
noncomputable def sumM (x1 x2 x3 : List Int) (h : Nat) : Nat → Int
  | 0 => 0
  | n + 1 => sumM x1 x2 x3 h n + sumL x1 x2 x3 (1 + n) h (1 + n)
noncomputable def sumH (x1 x2 x3 : List Int) : Nat → Int
  | 0 => 0
  | n + 1 => sumH x1 x2 x3 n + sumM x1 x2 x3 (2 + n) (1 + n)
theorem off1_of {D : Addr} : ∀ {l : List (Addr × Obj)}, (∀ p ∈ l, p.1 ≠ D) → LCg.Off1 D l
  | [], _ => trivial
  | p :: r, h => ⟨h p (.head _), off1_of fun x hx => h x (.tail _ hx)⟩
theorem of_off1 {D : Addr} : ∀ {l : List (Addr × Obj)}, LCg.Off1 D l → ∀ p ∈ l, p.1 ≠ D
  | [], _, p, h => nomatch h
  | q :: r, h, p, hp => by
    rcases List.mem_cons.mp hp with rfl | hp
    · exact h.1
    · exact of_off1 h.2 p hp
theorem comp_end1 {h₀ : Heap} {L I C D l : Addr} {m : Str → Option Value} {s₁ : Shared} {oI oC oD o : Obj} {S : List (Addr × Obj) → Prop} {rest : Value → List (Addr × Obj) → Prop} {y : Value} {h' : Heap} {tk : Nat} {news' : List (Addr × Obj)}
    (F : Fr h₀ L h' m) (N : News h₀ L h' ((l, o) :: (I, oI) :: (C, oC) :: (D, oD) :: news')) (off : LCg.Off3 I C D ((l, o) :: news')) (hS : S ((l, o) :: news')) (r : rest y ((l, o) :: news')) :
    LCg.CompEnd h₀ L m s₁ I oI C oC D oD S rest y { s₁ with heap := h', toks := tk } := ⟨h', tk, (l, o) :: news', rfl, F, kst_newsOf N (by
      intro p hp
      simp only [List.mem_cons] at hp ⊢
      rcases hp with h | h | h | h | h
      · exact .inr (.inl h)
      · exact .inr (.inr (.inl h))
      · exact .inr (.inr (.inr (.inl h)))
      · exact .inl h
      · exact .inr (.inr (.inr (.inr h)))), off, hS, r⟩
section
variable {prog : Program} {w : World} {A : Around} {E : Value → Shared → Prop} {s : Shared} {Q : Value → Shared → Prop}
theorem pow_k7 {k : Int} {t u : Tok} (h0 : 0 ≤ k) (h1 : k < 0 + ((7 - 0 : Int).toNat : Int)) (h : Q (.int (2 ^ k.toNat) s.toks) { s with toks := s.toks + 1 }) :
    wpAny (model prog w) A (binaryOp .Pow (.int 2 t) (.int k u)) Q E s := pow_int_small h0 (by omega) (by decide) h
theorem pow_sq {k : Int} {t u : Tok} (h0 : -6 ≤ k ∧ k ≤ 6) (h : Q (.int (k ^ 2) s.toks) { s with toks := s.toks + 1 }) :
    wpAny (model prog w) A (binaryOp .Pow (.int k t) (.int 2 u)) Q E s := pow_int_small (n := 2) (by decide) (by decide) (by omega) h
theorem fd_k7 {k a : Int} {t u : Tok} (h0 : 0 ≤ k) (h1 : k < 0 + ((7 - 0 : Int).toNat : Int)) (h : Q (.int (a.fdiv (2 ^ k.toNat)) s.toks) { s with toks := s.toks + 1 }) :
    wpAny (model prog w) A (binaryOp .FloorDiv (.int a t) (.int (2 ^ k.toNat) u)) Q E s := floordiv_int (Int.ne_of_gt (Int.pow_pos (by decide))) h (Or.inl (PyProof.noPylong_of_log2 (kbt_py (by omega))))
end
theorem says_squares (w : World) (M : Addr) (nM : Nat) (t0 t1 t2 t3 : Tok) (m0 m1 m2 m3 : Int) (hm0 : 0 ≤ m0 ∧ m0 < 128) (hm1 : 0 ≤ m1 ∧ m1 < 128) (hm2 : 0 ≤ m2 ∧ m2 < 128) (hm3 : 0 ≤ m3 ∧ m3 < 128) :
    Says w 117 20 [.ref M] [(M, listOf [Value.int m0 t0, Value.int m1 t1, Value.int m2 t2, Value.int m3 t3].toArray nM)] (fun r tl => tl = [] ∧ ∃ t, r = .int (8 * sumH (gS m0 m1) (gS m0 m2) (gS m0 m3) 5) t) := by
  w_on
  w_top off
  intro loose mean mg mb dp un gd cn cs a ccd cl outer A₀ base h₀ L m s Q E B F X N T' hk hd hu hret
  revert X; k_fill; intro X
  refine wpAny_call ?_
  k_dflt (refine' code_defC ?k1 ?k2 ?k3 ?k4 ?k5 ?kA ?kF ?kK ?k6 ?k7 ?k8 ?k9 ?kB ?kD ?_ ?c2 ?c3 ?c4; (case kA => exact rfl); (case kF => exact rfl); (case kK => assumption); (case k1 => k_asm); (case k2 => k_asm); (case k3 => k_asm); (case k4 => k_asm); (case k5 => k_asm); (case k6 => k_is); (case k7 => k_is); (case k8 => ktr_room); (case k9 => exact BindsTo.of_eq rfl); (case kB => exact rfl); (case kD => decide +kernel); (case c2 => exact rfl); (case c3 => exact rfl); (case c4 => exact rfl); k_whole; intro g' L' h' tk' cells' FG' F' N' Y' B' X' T' l1; (try k_lt l1); k_cells Y'; (try simp only [List.cons_append, List.nil_append] at N'); (try dsimp only); (try k_lift B'); (try k_fold))
  rename Fr _ _ _ _ => lF
  obtain ⟨u0, lF⟩ := fr_abs lF [] (fun _ h => nomatch h)
  dsimp only [kstB] at lF
  rename _ = Data.cell _ => z
  have y5 := cell_is (x := some (.ref M)) z rfl
  clear z
  revert y5
  rename _ = Data.cell _ => z
  have y4 := cell_is (x := none) z rfl
  clear z
  revert y4
  rename _ = Data.cell _ => z
  have y3 := cell_is (x := none) z rfl
  clear z
  revert y3
  rename _ = Data.cell _ => z
  have y2 := cell_is (x := none) z rfl
  clear z
  revert y2
  rename _ = Data.cell _ => z
  have y1 := cell_is (x := none) z rfl
  clear z
  revert y1
  intro y1 y2 y3 y4 y5
  (repeat' ((fail_if_success (with_reducible first | refine at_while ?_ | refine at_for ?_ | refine at_iter ?_ | refine at_call ?_ | refine at_type ?_ | refine at_ksw ?_ | refine at_wh ?_ | refine at_src ?_ | refine at_srcT ?_ | refine at_comp ?_ | refine at_end ?_ | refine at_acomp ?_ | refine at_sub ?_ | refine at_slice ?_)); (first | ((first | (with_reducible rename _ < _ ∧ _ => z9) | (with_reducible rename _ ≠ _ ∧ _ => z9)); (have z8 := And.left z9); (have z7 := And.right z9); (clear z9)) | (with_reducible first | ((with_reducible show wpAny _ _ (binaryOp Operator.Pow (Value.int _ _) (Value.int _ _)) _ _ _); (first | (refine pow_k7 (by assumption) (by assumption) ?_) | (refine pow_sq (by assumption) ?_)); try dsimp only) | ((with_reducible show wpAny _ _ (binaryOp Operator.FloorDiv (Value.int _ _) (Value.int _ _)) _ _ _); (refine fd_k7 (by assumption) (by assumption) ?_); try dsimp only)) | fail "none" | ((with_reducible refine abs_st ?_); intro _ _; walk1; try dsimp only) | ((with_reducible refine use_post (by assumption) ?_); try dsimp only) | (k_unfold; (try dsimp only)) | (k_end; wrow_close) | (walk1; try dsimp only) | (dsimp only; walk1) | (leave1; walk_say "STEP leave1"; try dsimp only) | fail "no step")))
  rename Fr _ _ _ _ => lF
  rename News _ _ _ _ => lN
  refine rw_cut m0 m1 m2 m3 lF lN ?rows ?go
  case rows =>
    rename Fr _ _ _ _ => lF'
    with_unfolding_all refine' For_turns lF' ?_
    k_whole
    (repeat' ((fail_if_success (with_reducible first | refine at_while ?_ | refine at_for ?_ | refine at_iter ?_ | refine at_call ?_ | refine at_type ?_ | refine at_ksw ?_ | refine at_wh ?_ | refine at_src ?_ | refine at_srcT ?_ | refine at_comp ?_ | refine at_end ?_ | refine at_acomp ?_ | refine at_sub ?_ | refine at_slice ?_)); (first | ((first | (with_reducible rename _ < _ ∧ _ => z9) | (with_reducible rename _ ≠ _ ∧ _ => z9)); (have z8 := And.left z9); (have z7 := And.right z9); (clear z9)) | (with_reducible first | ((with_reducible show wpAny _ _ (binaryOp Operator.Pow (Value.int _ _) (Value.int _ _)) _ _ _); (first | (refine pow_k7 (by assumption) (by assumption) ?_) | (refine pow_sq (by assumption) ?_)); try dsimp only) | ((with_reducible show wpAny _ _ (binaryOp Operator.FloorDiv (Value.int _ _) (Value.int _ _)) _ _ _); (refine fd_k7 (by assumption) (by assumption) ?_); try dsimp only)) | fail "none" | ((with_reducible refine abs_st ?_); intro _ _; walk1; try dsimp only) | ((with_reducible refine use_post (by assumption) ?_); try dsimp only) | (k_unfold; (try dsimp only)) | (k_end; wrow_close) | (walk1; try dsimp only) | (dsimp only; walk1) | (leave1; walk_say "STEP leave1"; try dsimp only) | fail "no step")))
    rename Fr _ _ _ _ => lF9
    rename News _ _ _ _ => lN9
    k_dflt (refine' kms_slice_lit (s := ⟨_, _, _, _, _⟩) lF9 lN9 ?za ?zb ?zc ?zd ?_ ?zs ?zt ?zz; (case za => kmk_list); (case zb => kmk_part); (case zc => kmk_part); (case zd => kl_lit); (case zs => with_unfolding_all rfl); (case zt => kmk_pure); (case zz => kmk_size))
    intro D' h' F' N' l1
    (try k_lt l1)
    (try k_sweep)
    (repeat' ((fail_if_success (with_reducible first | refine at_while ?_ | refine at_for ?_ | refine at_iter ?_ | refine at_call ?_ | refine at_type ?_ | refine at_ksw ?_ | refine at_wh ?_ | refine at_src ?_ | refine at_srcT ?_ | refine at_comp ?_ | refine at_end ?_ | refine at_acomp ?_ | refine at_sub ?_ | refine at_slice ?_)); (first | ((first | (with_reducible rename _ < _ ∧ _ => z9) | (with_reducible rename _ ≠ _ ∧ _ => z9)); (have z8 := And.left z9); (have z7 := And.right z9); (clear z9)) | (with_reducible first | ((with_reducible show wpAny _ _ (binaryOp Operator.Pow (Value.int _ _) (Value.int _ _)) _ _ _); (first | (refine pow_k7 (by assumption) (by assumption) ?_) | (refine pow_sq (by assumption) ?_)); try dsimp only) | ((with_reducible show wpAny _ _ (binaryOp Operator.FloorDiv (Value.int _ _) (Value.int _ _)) _ _ _); (refine fd_k7 (by assumption) (by assumption) ?_); try dsimp only)) | fail "none" | ((with_reducible refine abs_st ?_); intro _ _; walk1; try dsimp only) | ((with_reducible refine use_post (by assumption) ?_); try dsimp only) | (k_unfold; (try dsimp only)) | (k_end; wrow_close) | (walk1; try dsimp only) | (dsimp only; walk1) | (leave1; walk_say "STEP leave1"; try dsimp only) | fail "no step")))
    walk1
    (repeat' ((fail_if_success (with_reducible first | refine at_while ?_ | refine at_for ?_ | refine at_iter ?_ | refine at_call ?_ | refine at_type ?_ | refine at_ksw ?_ | refine at_wh ?_ | refine at_src ?_ | refine at_srcT ?_ | refine at_comp ?_ | refine at_end ?_ | refine at_acomp ?_ | refine at_sub ?_ | refine at_slice ?_)); (first | ((first | (with_reducible rename _ < _ ∧ _ => z9) | (with_reducible rename _ ≠ _ ∧ _ => z9)); (have z8 := And.left z9); (have z7 := And.right z9); (clear z9)) | (with_reducible first | ((with_reducible show wpAny _ _ (binaryOp Operator.Pow (Value.int _ _) (Value.int _ _)) _ _ _); (first | (refine pow_k7 (by assumption) (by assumption) ?_) | (refine pow_sq (by assumption) ?_)); try dsimp only) | ((with_reducible show wpAny _ _ (binaryOp Operator.FloorDiv (Value.int _ _) (Value.int _ _)) _ _ _); (refine fd_k7 (by assumption) (by assumption) ?_); try dsimp only)) | fail "none" | ((with_reducible refine abs_st ?_); intro _ _; walk1; try dsimp only) | ((with_reducible refine use_post (by assumption) ?_); try dsimp only) | (k_unfold; (try dsimp only)) | (k_end; wrow_close) | (walk1; try dsimp only) | (dsimp only; walk1) | (leave1; walk_say "STEP leave1"; try dsimp only) | fail "no step")))
    lcg_calm
    k_dflt (refine LCg.ListComp_U (F₀ := by k_asm) (by with_unfolding_all rfl) (by decide) (by rfl) (by decide) (by rfl) ?_)
    (repeat' ((fail_if_success (with_reducible first | refine at_while ?_ | refine at_for ?_ | refine at_iter ?_ | refine at_call ?_ | refine at_type ?_ | refine at_ksw ?_ | refine at_wh ?_ | refine at_src ?_ | refine at_srcT ?_ | refine at_comp ?_ | refine at_end ?_ | refine at_acomp ?_ | refine at_sub ?_ | refine at_slice ?_)); (first | ((first | (with_reducible rename _ < _ ∧ _ => z9) | (with_reducible rename _ ≠ _ ∧ _ => z9)); (have z8 := And.left z9); (have z7 := And.right z9); (clear z9)) | (with_reducible first | ((with_reducible show wpAny _ _ (binaryOp Operator.Pow (Value.int _ _) (Value.int _ _)) _ _ _); (first | (refine pow_k7 (by assumption) (by assumption) ?_) | (refine pow_sq (by assumption) ?_)); try dsimp only) | ((with_reducible show wpAny _ _ (binaryOp Operator.FloorDiv (Value.int _ _) (Value.int _ _)) _ _ _); (refine fd_k7 (by assumption) (by assumption) ?_); try dsimp only)) | fail "none" | ((with_reducible refine abs_st ?_); intro _ _; walk1; try dsimp only) | ((with_reducible refine use_post (by assumption) ?_); try dsimp only) | (k_unfold; (try dsimp only)) | (k_end; wrow_close) | (walk1; try dsimp only) | (dsimp only; walk1) | (leave1; walk_say "STEP leave1"; try dsimp only) | fail "no step")))
    k_dflt (refine LCg.CompSrc.range (n := 7) (by rfl) (by k_asm) (by k_asm) (by assumption) (by decide) (by rfl) (by exact Nat.le_of_ble_eq_true rfl) ?_)
    intro g'
    refine' kcf_range (fun k => (m1.fdiv (2 ^ k.toNat)).fmod 2 - (m0.fdiv (2 ^ k.toNat)).fmod 2) (fun k t I oI C oC D m₂ ys h tk E' h0 h1 hC hx F N off ne mk => ?_) ?_
    · clear ne mk
      (repeat' ((fail_if_success (with_reducible first | refine at_while ?_ | refine at_for ?_ | refine at_iter ?_ | refine at_call ?_ | refine at_type ?_ | refine at_ksw ?_ | refine at_wh ?_ | refine at_src ?_ | refine at_srcT ?_ | refine at_comp ?_ | refine at_end ?_ | refine at_acomp ?_ | refine at_sub ?_ | refine at_slice ?_)); (first | ((first | (with_reducible rename _ < _ ∧ _ => z9) | (with_reducible rename _ ≠ _ ∧ _ => z9)); (have z8 := And.left z9); (have z7 := And.right z9); (clear z9)) | (with_reducible first | ((with_reducible show wpAny _ _ (binaryOp Operator.Pow (Value.int _ _) (Value.int _ _)) _ _ _); (first | (refine pow_k7 (by assumption) (by assumption) ?_) | (refine pow_sq (by assumption) ?_)); try dsimp only) | ((with_reducible show wpAny _ _ (binaryOp Operator.FloorDiv (Value.int _ _) (Value.int _ _)) _ _ _); (refine fd_k7 (by assumption) (by assumption) ?_); try dsimp only)) | fail "none" | ((with_reducible refine abs_st ?_); intro _ _; walk1; try dsimp only) | ((with_reducible refine use_post (by assumption) ?_); try dsimp only) | (k_unfold; (try dsimp only)) | (k_end; wrow_close) | (walk1; try dsimp only) | (dsimp only; walk1) | (leave1; walk_say "STEP leave1"; try dsimp only) | fail "no step")))
      walk1
      (repeat' ((fail_if_success (with_reducible first | refine at_while ?_ | refine at_for ?_ | refine at_iter ?_ | refine at_call ?_ | refine at_type ?_ | refine at_ksw ?_ | refine at_wh ?_ | refine at_src ?_ | refine at_srcT ?_ | refine at_comp ?_ | refine at_end ?_ | refine at_acomp ?_ | refine at_sub ?_ | refine at_slice ?_)); (first | ((first | (with_reducible rename _ < _ ∧ _ => z9) | (with_reducible rename _ ≠ _ ∧ _ => z9)); (have z8 := And.left z9); (have z7 := And.right z9); (clear z9)) | (with_reducible first | ((with_reducible show wpAny _ _ (binaryOp Operator.Pow (Value.int _ _) (Value.int _ _)) _ _ _); (first | (refine pow_k7 (by assumption) (by assumption) ?_) | (refine pow_sq (by assumption) ?_)); try dsimp only) | ((with_reducible show wpAny _ _ (binaryOp Operator.FloorDiv (Value.int _ _) (Value.int _ _)) _ _ _); (refine fd_k7 (by assumption) (by assumption) ?_); try dsimp only)) | fail "none" | ((with_reducible refine abs_st ?_); intro _ _; walk1; try dsimp only) | ((with_reducible refine use_post (by assumption) ?_); try dsimp only) | (k_unfold; (try dsimp only)) | (k_end; wrow_close) | (walk1; try dsimp only) | (dsimp only; walk1) | (leave1; walk_say "STEP leave1"; try dsimp only) | fail "no step")))
      rename Fr _ _ _ _ => F9
      rename News _ _ _ _ => N9
      exact comp_end F9 N9 off trivial ⟨rfl, _, rfl⟩
    unfold KPfDone
    intro ys hys
    unfold LCg.FinE
    intro D' h' tk' F' N' o1'
    simp only [LCg.Off1, and_true] at o1'
    (try simp only [List.nil_append, List.cons_append] at N')
    dsimp only
    (repeat' ((fail_if_success (with_reducible first | refine at_while ?_ | refine at_for ?_ | refine at_iter ?_ | refine at_call ?_ | refine at_type ?_ | refine at_ksw ?_ | refine at_wh ?_ | refine at_src ?_ | refine at_srcT ?_ | refine at_comp ?_ | refine at_end ?_ | refine at_acomp ?_ | refine at_sub ?_ | refine at_slice ?_)); (first | ((first | (with_reducible rename _ < _ ∧ _ => z9) | (with_reducible rename _ ≠ _ ∧ _ => z9)); (have z8 := And.left z9); (have z7 := And.right z9); (clear z9)) | (with_reducible first | ((with_reducible show wpAny _ _ (binaryOp Operator.Pow (Value.int _ _) (Value.int _ _)) _ _ _); (first | (refine pow_k7 (by assumption) (by assumption) ?_) | (refine pow_sq (by assumption) ?_)); try dsimp only) | ((with_reducible show wpAny _ _ (binaryOp Operator.FloorDiv (Value.int _ _) (Value.int _ _)) _ _ _); (refine fd_k7 (by assumption) (by assumption) ?_); try dsimp only)) | fail "none" | ((with_reducible refine abs_st ?_); intro _ _; walk1; try dsimp only) | ((with_reducible refine use_post (by assumption) ?_); try dsimp only) | (k_unfold; (try dsimp only)) | (k_end; wrow_close) | (walk1; try dsimp only) | (dsimp only; walk1) | (leave1; walk_say "STEP leave1"; try dsimp only) | fail "no step")))
    lcg_calm
    k_dflt (refine LCg.ListComp_U (F₀ := by k_asm) (by with_unfolding_all rfl) (by decide) (by rfl) (by decide) (by rfl) ?_)
    (repeat' ((fail_if_success (with_reducible first | refine at_while ?_ | refine at_for ?_ | refine at_iter ?_ | refine at_call ?_ | refine at_type ?_ | refine at_ksw ?_ | refine at_wh ?_ | refine at_src ?_ | refine at_srcT ?_ | refine at_comp ?_ | refine at_end ?_ | refine at_acomp ?_ | refine at_sub ?_ | refine at_slice ?_)); (first | ((first | (with_reducible rename _ < _ ∧ _ => z9) | (with_reducible rename _ ≠ _ ∧ _ => z9)); (have z8 := And.left z9); (have z7 := And.right z9); (clear z9)) | (with_reducible first | ((with_reducible show wpAny _ _ (binaryOp Operator.Pow (Value.int _ _) (Value.int _ _)) _ _ _); (first | (refine pow_k7 (by assumption) (by assumption) ?_) | (refine pow_sq (by assumption) ?_)); try dsimp only) | ((with_reducible show wpAny _ _ (binaryOp Operator.FloorDiv (Value.int _ _) (Value.int _ _)) _ _ _); (refine fd_k7 (by assumption) (by assumption) ?_); try dsimp only)) | fail "none" | ((with_reducible refine abs_st ?_); intro _ _; walk1; try dsimp only) | ((with_reducible refine use_post (by assumption) ?_); try dsimp only) | (k_unfold; (try dsimp only)) | (k_end; wrow_close) | (walk1; try dsimp only) | (dsimp only; walk1) | (leave1; walk_say "STEP leave1"; try dsimp only) | fail "no step")))
    k_dflt (refine LCg.CompSrc.range (n := 7) (by rfl) (by k_asm) (by k_asm) (by assumption) (by decide) (by rfl) (by exact Nat.le_of_ble_eq_true rfl) ?_)
    intro g'
    refine' kcf_range (fun k => (m2.fdiv (2 ^ k.toNat)).fmod 2 - (m0.fdiv (2 ^ k.toNat)).fmod 2) (fun k t I oI C oC D m₂ ys h tk E' h0 h1 hC hx F N off ne mk => ?_) ?_
    · clear ne mk
      (repeat' ((fail_if_success (with_reducible first | refine at_while ?_ | refine at_for ?_ | refine at_iter ?_ | refine at_call ?_ | refine at_type ?_ | refine at_ksw ?_ | refine at_wh ?_ | refine at_src ?_ | refine at_srcT ?_ | refine at_comp ?_ | refine at_end ?_ | refine at_acomp ?_ | refine at_sub ?_ | refine at_slice ?_)); (first | ((first | (with_reducible rename _ < _ ∧ _ => z9) | (with_reducible rename _ ≠ _ ∧ _ => z9)); (have z8 := And.left z9); (have z7 := And.right z9); (clear z9)) | (with_reducible first | ((with_reducible show wpAny _ _ (binaryOp Operator.Pow (Value.int _ _) (Value.int _ _)) _ _ _); (first | (refine pow_k7 (by assumption) (by assumption) ?_) | (refine pow_sq (by assumption) ?_)); try dsimp only) | ((with_reducible show wpAny _ _ (binaryOp Operator.FloorDiv (Value.int _ _) (Value.int _ _)) _ _ _); (refine fd_k7 (by assumption) (by assumption) ?_); try dsimp only)) | fail "none" | ((with_reducible refine abs_st ?_); intro _ _; walk1; try dsimp only) | ((with_reducible refine use_post (by assumption) ?_); try dsimp only) | (k_unfold; (try dsimp only)) | (k_end; wrow_close) | (walk1; try dsimp only) | (dsimp only; walk1) | (leave1; walk_say "STEP leave1"; try dsimp only) | fail "no step")))
      walk1
      (repeat' ((fail_if_success (with_reducible first | refine at_while ?_ | refine at_for ?_ | refine at_iter ?_ | refine at_call ?_ | refine at_type ?_ | refine at_ksw ?_ | refine at_wh ?_ | refine at_src ?_ | refine at_srcT ?_ | refine at_comp ?_ | refine at_end ?_ | refine at_acomp ?_ | refine at_sub ?_ | refine at_slice ?_)); (first | ((first | (with_reducible rename _ < _ ∧ _ => z9) | (with_reducible rename _ ≠ _ ∧ _ => z9)); (have z8 := And.left z9); (have z7 := And.right z9); (clear z9)) | (with_reducible first | ((with_reducible show wpAny _ _ (binaryOp Operator.Pow (Value.int _ _) (Value.int _ _)) _ _ _); (first | (refine pow_k7 (by assumption) (by assumption) ?_) | (refine pow_sq (by assumption) ?_)); try dsimp only) | ((with_reducible show wpAny _ _ (binaryOp Operator.FloorDiv (Value.int _ _) (Value.int _ _)) _ _ _); (refine fd_k7 (by assumption) (by assumption) ?_); try dsimp only)) | fail "none" | ((with_reducible refine abs_st ?_); intro _ _; walk1; try dsimp only) | ((with_reducible refine use_post (by assumption) ?_); try dsimp only) | (k_unfold; (try dsimp only)) | (k_end; wrow_close) | (walk1; try dsimp only) | (dsimp only; walk1) | (leave1; walk_say "STEP leave1"; try dsimp only) | fail "no step")))
      rename Fr _ _ _ _ => F9
      rename News _ _ _ _ => N9
      exact comp_end F9 N9 off trivial ⟨rfl, _, rfl⟩
    unfold KPfDone
    intro ys hys
    unfold LCg.FinE
    intro D' h' tk' F' N' o1'
    simp only [LCg.Off1, and_true] at o1'
    (try simp only [List.nil_append, List.cons_append] at N')
    dsimp only
    (repeat' ((fail_if_success (with_reducible first | refine at_while ?_ | refine at_for ?_ | refine at_iter ?_ | refine at_call ?_ | refine at_type ?_ | refine at_ksw ?_ | refine at_wh ?_ | refine at_src ?_ | refine at_srcT ?_ | refine at_comp ?_ | refine at_end ?_ | refine at_acomp ?_ | refine at_sub ?_ | refine at_slice ?_)); (first | ((first | (with_reducible rename _ < _ ∧ _ => z9) | (with_reducible rename _ ≠ _ ∧ _ => z9)); (have z8 := And.left z9); (have z7 := And.right z9); (clear z9)) | (with_reducible first | ((with_reducible show wpAny _ _ (binaryOp Operator.Pow (Value.int _ _) (Value.int _ _)) _ _ _); (first | (refine pow_k7 (by assumption) (by assumption) ?_) | (refine pow_sq (by assumption) ?_)); try dsimp only) | ((with_reducible show wpAny _ _ (binaryOp Operator.FloorDiv (Value.int _ _) (Value.int _ _)) _ _ _); (refine fd_k7 (by assumption) (by assumption) ?_); try dsimp only)) | fail "none" | ((with_reducible refine abs_st ?_); intro _ _; walk1; try dsimp only) | ((with_reducible refine use_post (by assumption) ?_); try dsimp only) | (k_unfold; (try dsimp only)) | (k_end; wrow_close) | (walk1; try dsimp only) | (dsimp only; walk1) | (leave1; walk_say "STEP leave1"; try dsimp only) | fail "no step")))
    lcg_calm
    k_dflt (refine LCg.ListComp_U (F₀ := by k_asm) (by with_unfolding_all rfl) (by decide) (by rfl) (by decide) (by rfl) ?_)
    (repeat' ((fail_if_success (with_reducible first | refine at_while ?_ | refine at_for ?_ | refine at_iter ?_ | refine at_call ?_ | refine at_type ?_ | refine at_ksw ?_ | refine at_wh ?_ | refine at_src ?_ | refine at_srcT ?_ | refine at_comp ?_ | refine at_end ?_ | refine at_acomp ?_ | refine at_sub ?_ | refine at_slice ?_)); (first | ((first | (with_reducible rename _ < _ ∧ _ => z9) | (with_reducible rename _ ≠ _ ∧ _ => z9)); (have z8 := And.left z9); (have z7 := And.right z9); (clear z9)) | (with_reducible first | ((with_reducible show wpAny _ _ (binaryOp Operator.Pow (Value.int _ _) (Value.int _ _)) _ _ _); (first | (refine pow_k7 (by assumption) (by assumption) ?_) | (refine pow_sq (by assumption) ?_)); try dsimp only) | ((with_reducible show wpAny _ _ (binaryOp Operator.FloorDiv (Value.int _ _) (Value.int _ _)) _ _ _); (refine fd_k7 (by assumption) (by assumption) ?_); try dsimp only)) | fail "none" | ((with_reducible refine abs_st ?_); intro _ _; walk1; try dsimp only) | ((with_reducible refine use_post (by assumption) ?_); try dsimp only) | (k_unfold; (try dsimp only)) | (k_end; wrow_close) | (walk1; try dsimp only) | (dsimp only; walk1) | (leave1; walk_say "STEP leave1"; try dsimp only) | fail "no step")))
    k_dflt (refine LCg.CompSrc.range (n := 7) (by rfl) (by k_asm) (by k_asm) (by assumption) (by decide) (by rfl) (by exact Nat.le_of_ble_eq_true rfl) ?_)
    intro g'
    refine' kcf_range (fun k => (m3.fdiv (2 ^ k.toNat)).fmod 2 - (m0.fdiv (2 ^ k.toNat)).fmod 2) (fun k t I oI C oC D m₂ ys h tk E' h0 h1 hC hx F N off ne mk => ?_) ?_
    · clear ne mk
      (repeat' ((fail_if_success (with_reducible first | refine at_while ?_ | refine at_for ?_ | refine at_iter ?_ | refine at_call ?_ | refine at_type ?_ | refine at_ksw ?_ | refine at_wh ?_ | refine at_src ?_ | refine at_srcT ?_ | refine at_comp ?_ | refine at_end ?_ | refine at_acomp ?_ | refine at_sub ?_ | refine at_slice ?_)); (first | ((first | (with_reducible rename _ < _ ∧ _ => z9) | (with_reducible rename _ ≠ _ ∧ _ => z9)); (have z8 := And.left z9); (have z7 := And.right z9); (clear z9)) | (with_reducible first | ((with_reducible show wpAny _ _ (binaryOp Operator.Pow (Value.int _ _) (Value.int _ _)) _ _ _); (first | (refine pow_k7 (by assumption) (by assumption) ?_) | (refine pow_sq (by assumption) ?_)); try dsimp only) | ((with_reducible show wpAny _ _ (binaryOp Operator.FloorDiv (Value.int _ _) (Value.int _ _)) _ _ _); (refine fd_k7 (by assumption) (by assumption) ?_); try dsimp only)) | fail "none" | ((with_reducible refine abs_st ?_); intro _ _; walk1; try dsimp only) | ((with_reducible refine use_post (by assumption) ?_); try dsimp only) | (k_unfold; (try dsimp only)) | (k_end; wrow_close) | (walk1; try dsimp only) | (dsimp only; walk1) | (leave1; walk_say "STEP leave1"; try dsimp only) | fail "no step")))
      walk1
      (repeat' ((fail_if_success (with_reducible first | refine at_while ?_ | refine at_for ?_ | refine at_iter ?_ | refine at_call ?_ | refine at_type ?_ | refine at_ksw ?_ | refine at_wh ?_ | refine at_src ?_ | refine at_srcT ?_ | refine at_comp ?_ | refine at_end ?_ | refine at_acomp ?_ | refine at_sub ?_ | refine at_slice ?_)); (first | ((first | (with_reducible rename _ < _ ∧ _ => z9) | (with_reducible rename _ ≠ _ ∧ _ => z9)); (have z8 := And.left z9); (have z7 := And.right z9); (clear z9)) | (with_reducible first | ((with_reducible show wpAny _ _ (binaryOp Operator.Pow (Value.int _ _) (Value.int _ _)) _ _ _); (first | (refine pow_k7 (by assumption) (by assumption) ?_) | (refine pow_sq (by assumption) ?_)); try dsimp only) | ((with_reducible show wpAny _ _ (binaryOp Operator.FloorDiv (Value.int _ _) (Value.int _ _)) _ _ _); (refine fd_k7 (by assumption) (by assumption) ?_); try dsimp only)) | fail "none" | ((with_reducible refine abs_st ?_); intro _ _; walk1; try dsimp only) | ((with_reducible refine use_post (by assumption) ?_); try dsimp only) | (k_unfold; (try dsimp only)) | (k_end; wrow_close) | (walk1; try dsimp only) | (dsimp only; walk1) | (leave1; walk_say "STEP leave1"; try dsimp only) | fail "no step")))
      rename Fr _ _ _ _ => F9
      rename News _ _ _ _ => N9
      exact comp_end F9 N9 off trivial ⟨rfl, _, rfl⟩
    unfold KPfDone
    intro ys hys
    unfold LCg.FinE
    intro D' h' tk' F' N' o1'
    simp only [LCg.Off1, and_true] at o1'
    (try simp only [List.nil_append, List.cons_append] at N')
    dsimp only
    (repeat' ((fail_if_success (with_reducible first | refine at_while ?_ | refine at_for ?_ | refine at_iter ?_ | refine at_call ?_ | refine at_type ?_ | refine at_ksw ?_ | refine at_wh ?_ | refine at_src ?_ | refine at_srcT ?_ | refine at_comp ?_ | refine at_end ?_ | refine at_acomp ?_ | refine at_sub ?_ | refine at_slice ?_)); (first | ((first | (with_reducible rename _ < _ ∧ _ => z9) | (with_reducible rename _ ≠ _ ∧ _ => z9)); (have z8 := And.left z9); (have z7 := And.right z9); (clear z9)) | (with_reducible first | ((with_reducible show wpAny _ _ (binaryOp Operator.Pow (Value.int _ _) (Value.int _ _)) _ _ _); (first | (refine pow_k7 (by assumption) (by assumption) ?_) | (refine pow_sq (by assumption) ?_)); try dsimp only) | ((with_reducible show wpAny _ _ (binaryOp Operator.FloorDiv (Value.int _ _) (Value.int _ _)) _ _ _); (refine fd_k7 (by assumption) (by assumption) ?_); try dsimp only)) | fail "none" | ((with_reducible refine abs_st ?_); intro _ _; walk1; try dsimp only) | ((with_reducible refine use_post (by assumption) ?_); try dsimp only) | (k_unfold; (try dsimp only)) | (k_end; wrow_close) | (walk1; try dsimp only) | (dsimp only; walk1) | (leave1; walk_say "STEP leave1"; try dsimp only) | fail "no step")))
    rename Fr _ _ _ _ => lF
    rename News _ _ _ _ => lN
    obtain ⟨u0, lF⟩ := fr_abs lF [("rows", .ref _)] (by kst_all)
    refine ⟨_, _, _, _, _, _, _, _, _, _, _, ?t, (by assumption), (by assumption), (by assumption), lF, rw_pick lN⟩
    clear lF lN
    intro p hp
    simp only [List.mem_cons, List.not_mem_nil, or_false] at hp
    rcases hp with rfl | rfl | rfl | rfl
    all_goals refine ⟨?_, ?_, ?_, ?_⟩
    all_goals first | assumption | exact Nat.ne_of_lt (by assumption)
  case go =>
    clear lF lN
    intro D1 D2 D3 R y1 y2 y3 nR h' tk' u hO i1 i2 i3 lF lN
    obtain ⟨z1, z2, z3, z4⟩ := rw_tail hO
    clear hO
    simp only [LCg.Off1, and_true] at z1 z2 z3 z4
    (repeat ((with_reducible rename _ ≠ _ ∧ _ => z9); (have z8 := And.left z9); (have z7 := And.right z9); (clear z9)))
    dsimp only [kstB] at lF
    (repeat' ((fail_if_success (with_reducible first | refine at_while ?_ | refine at_for ?_ | refine at_iter ?_ | refine at_call ?_ | refine at_type ?_ | refine at_ksw ?_ | refine at_wh ?_ | refine at_src ?_ | refine at_srcT ?_ | refine at_comp ?_ | refine at_end ?_ | refine at_acomp ?_ | refine at_sub ?_ | refine at_slice ?_)); (first | ((first | (with_reducible rename _ < _ ∧ _ => z9) | (with_reducible rename _ ≠ _ ∧ _ => z9)); (have z8 := And.left z9); (have z7 := And.right z9); (clear z9)) | (with_reducible first | ((with_reducible show wpAny _ _ (binaryOp Operator.Pow (Value.int _ _) (Value.int _ _)) _ _ _); (first | (refine pow_k7 (by assumption) (by assumption) ?_) | (refine pow_sq (by assumption) ?_)); try dsimp only) | ((with_reducible show wpAny _ _ (binaryOp Operator.FloorDiv (Value.int _ _) (Value.int _ _)) _ _ _); (refine fd_k7 (by assumption) (by assumption) ?_); try dsimp only)) | fail "none" | ((with_reducible refine abs_st ?_); intro _ _; walk1; try dsimp only) | ((with_reducible refine use_post (by assumption) ?_); try dsimp only) | (k_unfold; (try dsimp only)) | (k_end; wrow_close) | (walk1; try dsimp only) | (dsimp only; walk1) | (leave1; walk_say "STEP leave1"; try dsimp only) | fail "no step")))
    rename Fr _ _ _ _ => lF'
    with_unfolding_all refine' For_turns lF' ?_
    k_whole
    (repeat' ((fail_if_success (with_reducible first | refine at_while ?_ | refine at_for ?_ | refine at_iter ?_ | refine at_call ?_ | refine at_type ?_ | refine at_ksw ?_ | refine at_wh ?_ | refine at_src ?_ | refine at_srcT ?_ | refine at_comp ?_ | refine at_end ?_ | refine at_acomp ?_ | refine at_sub ?_ | refine at_slice ?_)); (first | ((first | (with_reducible rename _ < _ ∧ _ => z9) | (with_reducible rename _ ≠ _ ∧ _ => z9)); (have z8 := And.left z9); (have z7 := And.right z9); (clear z9)) | (with_reducible first | ((with_reducible show wpAny _ _ (binaryOp Operator.Pow (Value.int _ _) (Value.int _ _)) _ _ _); (first | (refine pow_k7 (by assumption) (by assumption) ?_) | (refine pow_sq (by assumption) ?_)); try dsimp only) | ((with_reducible show wpAny _ _ (binaryOp Operator.FloorDiv (Value.int _ _) (Value.int _ _)) _ _ _); (refine fd_k7 (by assumption) (by assumption) ?_); try dsimp only)) | fail "none" | ((with_reducible refine abs_st ?_); intro _ _; walk1; try dsimp only) | ((with_reducible refine use_post (by assumption) ?_); try dsimp only) | (k_unfold; (try dsimp only)) | (k_end; wrow_close) | (walk1; try dsimp only) | (dsimp only; walk1) | (leave1; walk_say "STEP leave1"; try dsimp only) | fail "no step")))
    rename Fr _ _ _ _ => lF
    rename News _ _ _ _ => lN
    rename IsRange _ _ _ _ _ _ _ _ => rg
    with_unfolding_all refine' rg_turns (σ := SS) (fun c => [(D1, LCg.lst y1), (D2, LCg.lst y2), (D3, LCg.lst y3), (R, listOf [Value.ref D1, Value.ref D2, Value.ref D3].toArray nR), (L' + 1 + 1 + 1 + 1 + 1, c.oL), (L' + 1 + 1 + 1 + 1, c.oM), (L' + 1 + 1 + 1, c.oH), (M, listOf [Value.int m0 t0, Value.int m1 t1, Value.int m2 t2, Value.int m3 t3].toArray nM)]) (fun c => [("squares", .int c.sq c.ts)]) (fun c => (∃ x, c.oH.data = .cell x) ∧ (∃ x, c.oM.data = .cell x) ∧ ∃ x, c.oL.data = .cell x) [] (fun i c => c.sq = sumH (gS m0 m1) (gS m0 m2) (gS m0 m3) i) ⟨0, _, _, _, _⟩ rfl rg (small_one (by decide) (by decide) (by decide) (by decide)) (rangeSize_nat _ _) lF lN ?hf ?hk ?hp ?turn ?done
    case hf => exact ⟨⟨_, by assumption⟩, ⟨_, by assumption⟩, ⟨_, by assumption⟩⟩
    case hk => kst_all
    case hp => rfl
    case turn =>
      clear lF lN rg
      rintro ⟨sq, ts, oH, oM, oL⟩ i t u h tk I oI hi ⟨⟨xH, dH⟩, ⟨xM, dM⟩, ⟨xL, dL⟩⟩ hP hI lF lN
      have zL1 : L' + 1 + 1 + 1 + 1 + 1 ≠ I := hI (L' + 1 + 1 + 1 + 1 + 1, oL) (.tail _ (.tail _ (.tail _ (.tail _ (.head _)))))
      have zM1 : L' + 1 + 1 + 1 + 1 ≠ I := hI (L' + 1 + 1 + 1 + 1, oM) (.tail _ (.tail _ (.tail _ (.tail _ (.tail _ (.head _))))))
      have zH1 : L' + 1 + 1 + 1 ≠ I := hI (L' + 1 + 1 + 1, oH) (.tail _ (.tail _ (.tail _ (.tail _ (.tail _ (.tail _ (.head _)))))))
      dsimp only [kstB] at lF hP lN dH dM dL
      (repeat' ((fail_if_success (with_reducible first | refine at_while ?_ | refine at_for ?_ | refine at_iter ?_ | refine at_call ?_ | refine at_type ?_ | refine at_ksw ?_ | refine at_wh ?_ | refine at_src ?_ | refine at_srcT ?_ | refine at_comp ?_ | refine at_end ?_ | refine at_acomp ?_ | refine at_sub ?_ | refine at_slice ?_)); (first | ((first | (with_reducible rename _ < _ ∧ _ => z9) | (with_reducible rename _ ≠ _ ∧ _ => z9)); (have z8 := And.left z9); (have z7 := And.right z9); (clear z9)) | (with_reducible first | ((with_reducible show wpAny _ _ (binaryOp Operator.Pow (Value.int _ _) (Value.int _ _)) _ _ _); (first | (refine pow_k7 (by assumption) (by assumption) ?_) | (refine pow_sq (by assumption) ?_)); try dsimp only) | ((with_reducible show wpAny _ _ (binaryOp Operator.FloorDiv (Value.int _ _) (Value.int _ _)) _ _ _); (refine fd_k7 (by assumption) (by assumption) ?_); try dsimp only)) | fail "none" | ((with_reducible refine abs_st ?_); intro _ _; walk1; try dsimp only) | ((with_reducible refine use_post (by assumption) ?_); try dsimp only) | (k_unfold; (try dsimp only)) | (k_end; wrow_close) | (walk1; try dsimp only) | (dsimp only; walk1) | (leave1; walk_say "STEP leave1"; try dsimp only) | fail "no step")))
      rename Fr _ _ _ _ => lF'
      with_unfolding_all refine' For_turns lF' ?_
      k_whole
      (repeat' ((fail_if_success (with_reducible first | refine at_while ?_ | refine at_for ?_ | refine at_iter ?_ | refine at_call ?_ | refine at_type ?_ | refine at_ksw ?_ | refine at_wh ?_ | refine at_src ?_ | refine at_srcT ?_ | refine at_comp ?_ | refine at_end ?_ | refine at_acomp ?_ | refine at_sub ?_ | refine at_slice ?_)); (first | ((first | (with_reducible rename _ < _ ∧ _ => z9) | (with_reducible rename _ ≠ _ ∧ _ => z9)); (have z8 := And.left z9); (have z7 := And.right z9); (clear z9)) | (with_reducible first | ((with_reducible show wpAny _ _ (binaryOp Operator.Pow (Value.int _ _) (Value.int _ _)) _ _ _); (first | (refine pow_k7 (by assumption) (by assumption) ?_) | (refine pow_sq (by assumption) ?_)); try dsimp only) | ((with_reducible show wpAny _ _ (binaryOp Operator.FloorDiv (Value.int _ _) (Value.int _ _)) _ _ _); (refine fd_k7 (by assumption) (by assumption) ?_); try dsimp only)) | fail "none" | ((with_reducible refine abs_st ?_); intro _ _; walk1; try dsimp only) | ((with_reducible refine use_post (by assumption) ?_); try dsimp only) | (k_unfold; (try dsimp only)) | (k_end; wrow_close) | (walk1; try dsimp only) | (dsimp only; walk1) | (leave1; walk_say "STEP leave1"; try dsimp only) | fail "no step")))
      rename Obj => oH'
      rename Fr _ _ _ _ => lF
      rename News _ _ _ _ => lN
      rename IsRange _ _ _ _ _ _ _ _ => rg
      with_unfolding_all refine' rg_turns (σ := SS) (fun c => [(I, oI), (D1, LCg.lst y1), (D2, LCg.lst y2), (D3, LCg.lst y3), (R, listOf [Value.ref D1, Value.ref D2, Value.ref D3].toArray nR), (L' + 1 + 1 + 1 + 1 + 1, c.oL), (L' + 1 + 1 + 1 + 1, c.oM), (L' + 1 + 1 + 1, oH'), (M, listOf [Value.int m0 t0, Value.int m1 t1, Value.int m2 t2, Value.int m3 t3].toArray nM)]) (fun c => [("squares", .int c.sq c.ts)]) (fun c => (∃ x, c.oM.data = .cell x) ∧ ∃ x, c.oL.data = .cell x) [] (fun j c => c.sq = sumH (gS m0 m1) (gS m0 m2) (gS m0 m3) i + sumM (gS m0 m1) (gS m0 m2) (gS m0 m3) (2 + i) j) ⟨sq, ts, oH, oM, oL⟩ rfl rg (by (repeat ((with_reducible rename _ ≠ _ => z9); clear z9)); exact small_one (by omega) (by omega) (by omega) (by omega)) (rangeSize_nat _ _) lF lN ?hf2 ?hk2 ?hp2 ?turn2 ?done2
      case hf2 => exact ⟨⟨_, dM⟩, ⟨_, dL⟩⟩
      case hk2 => kst_all
      case hp2 => exact hP.trans (Int.add_zero _).symm
      case turn2 =>
        clear lF lN rg
        rintro ⟨sq2, ts2, oH2, oM2, oL2⟩ j t5 u5 h5 tk5 I2 oI2 hj ⟨⟨xM2, dM2⟩, ⟨xL2, dL2⟩⟩ hP2 hI2 lF lN
        have zL2 : L' + 1 + 1 + 1 + 1 + 1 ≠ I2 := hI2 (L' + 1 + 1 + 1 + 1 + 1, oL2) (.tail _ (.tail _ (.tail _ (.tail _ (.tail _ (.head _))))))
        have zM2 : L' + 1 + 1 + 1 + 1 ≠ I2 := hI2 (L' + 1 + 1 + 1 + 1, oM2) (.tail _ (.tail _ (.tail _ (.tail _ (.tail _ (.tail _ (.head _)))))))
        dsimp only [kstB] at lF hP2 lN dM2 dL2
        (repeat' ((fail_if_success (with_reducible first | refine at_while ?_ | refine at_for ?_ | refine at_iter ?_ | refine at_call ?_ | refine at_type ?_ | refine at_ksw ?_ | refine at_wh ?_ | refine at_src ?_ | refine at_srcT ?_ | refine at_comp ?_ | refine at_end ?_ | refine at_acomp ?_ | refine at_sub ?_ | refine at_slice ?_)); (first | ((first | (with_reducible rename _ < _ ∧ _ => z9) | (with_reducible rename _ ≠ _ ∧ _ => z9)); (have z8 := And.left z9); (have z7 := And.right z9); (clear z9)) | (with_reducible first | ((with_reducible show wpAny _ _ (binaryOp Operator.Pow (Value.int _ _) (Value.int _ _)) _ _ _); (first | (refine pow_k7 (by assumption) (by assumption) ?_) | (refine pow_sq (by assumption) ?_)); try dsimp only) | ((with_reducible show wpAny _ _ (binaryOp Operator.FloorDiv (Value.int _ _) (Value.int _ _)) _ _ _); (refine fd_k7 (by assumption) (by assumption) ?_); try dsimp only)) | fail "none" | ((with_reducible refine abs_st ?_); intro _ _; walk1; try dsimp only) | ((with_reducible refine use_post (by assumption) ?_); try dsimp only) | (k_unfold; (try dsimp only)) | (k_end; wrow_close) | (walk1; try dsimp only) | (dsimp only; walk1) | (leave1; walk_say "STEP leave1"; try dsimp only) | fail "no step")))
        rename Fr _ _ _ _ => lF'
        with_unfolding_all refine' For_turns lF' ?_
        k_whole
        (repeat' ((fail_if_success (with_reducible first | refine at_while ?_ | refine at_for ?_ | refine at_iter ?_ | refine at_call ?_ | refine at_type ?_ | refine at_ksw ?_ | refine at_wh ?_ | refine at_src ?_ | refine at_srcT ?_ | refine at_comp ?_ | refine at_end ?_ | refine at_acomp ?_ | refine at_sub ?_ | refine at_slice ?_)); (first | ((first | (with_reducible rename _ < _ ∧ _ => z9) | (with_reducible rename _ ≠ _ ∧ _ => z9)); (have z8 := And.left z9); (have z7 := And.right z9); (clear z9)) | (with_reducible first | ((with_reducible show wpAny _ _ (binaryOp Operator.Pow (Value.int _ _) (Value.int _ _)) _ _ _); (first | (refine pow_k7 (by assumption) (by assumption) ?_) | (refine pow_sq (by assumption) ?_)); try dsimp only) | ((with_reducible show wpAny _ _ (binaryOp Operator.FloorDiv (Value.int _ _) (Value.int _ _)) _ _ _); (refine fd_k7 (by assumption) (by assumption) ?_); try dsimp only)) | fail "none" | ((with_reducible refine abs_st ?_); intro _ _; walk1; try dsimp only) | ((with_reducible refine use_post (by assumption) ?_); try dsimp only) | (k_unfold; (try dsimp only)) | (k_end; wrow_close) | (walk1; try dsimp only) | (dsimp only; walk1) | (leave1; walk_say "STEP leave1"; try dsimp only) | fail "no step")))
        rename Obj => oM'
        rename Fr _ _ _ _ => lF
        rename News _ _ _ _ => lN
        rename IsRange _ _ _ _ _ _ _ _ => rg
        with_unfolding_all refine' rg_turns (σ := SS) (fun c => (I2, oI2) :: [(I, oI), (D1, LCg.lst y1), (D2, LCg.lst y2), (D3, LCg.lst y3), (R, listOf [Value.ref D1, Value.ref D2, Value.ref D3].toArray nR), (L' + 1 + 1 + 1 + 1 + 1, c.oL), (L' + 1 + 1 + 1 + 1, oM'), (L' + 1 + 1 + 1, oH'), (M, listOf [Value.int m0 t0, Value.int m1 t1, Value.int m2 t2, Value.int m3 t3].toArray nM)]) (fun c => [("squares", .int c.sq c.ts)]) (fun c => ∃ x, c.oL.data = .cell x) [] (fun k c => c.sq = sumH (gS m0 m1) (gS m0 m2) (gS m0 m3) i + sumM (gS m0 m1) (gS m0 m2) (gS m0 m3) (2 + i) j + sumL (gS m0 m1) (gS m0 m2) (gS m0 m3) (1 + j) (2 + i) k) ⟨sq2, ts2, oH2, oM2, oL2⟩ rfl rg (by (repeat ((with_reducible rename _ ≠ _ => z9); clear z9)); exact small_one (by omega) (by omega) (by omega) (by omega)) (rangeSize_nat _ _) lF lN ?hf3 ?hk3 ?hp3 ?turn3 ?done3
        case hf3 => exact ⟨_, dL2⟩
        case hk3 => kst_all
        case hp3 => exact hP2.trans (Int.add_zero _).symm
        case turn3 =>
          clear lF lN rg
          rintro ⟨sq3, ts3, oH3, oM3, oL3⟩ k t6 u6 h6 tk6 I3 oI3 hk3 ⟨xL3, dL3⟩ hP3 hI3 lF lN
          have zL3 : L' + 1 + 1 + 1 + 1 + 1 ≠ I3 := hI3 (L' + 1 + 1 + 1 + 1 + 1, oL3) (.tail _ (.tail _ (.tail _ (.tail _ (.tail _ (.tail _ (.head _)))))))
          dsimp only [kstB] at lF hP3 lN dL3
          have b0 : (0 ≤ 0 + (k : Int) ∧ 0 + (k : Int) < 7) ∧ (0 ≤ 1 + (j : Int) ∧ 1 + (j : Int) < 7) ∧ (0 ≤ 2 + (i : Int) ∧ 2 + (i : Int) < 7) := by
            clear lF lN hP3 hP2 hP
            (repeat ((with_reducible rename _ ≠ _ => z9); clear z9))
            omega
          obtain ⟨⟨c0, c1⟩, ⟨c2, c3⟩, c4, c5⟩ := b0
          (repeat' ((fail_if_success (with_reducible first | refine at_while ?_ | refine at_for ?_ | refine at_iter ?_ | refine at_call ?_ | refine at_type ?_ | refine at_ksw ?_ | refine at_wh ?_ | refine at_src ?_ | refine at_srcT ?_ | refine at_comp ?_ | refine at_end ?_ | refine at_acomp ?_ | refine at_sub ?_ | refine at_slice ?_)); (first | ((first | (with_reducible rename _ < _ ∧ _ => z9) | (with_reducible rename _ ≠ _ ∧ _ => z9)); (have z8 := And.left z9); (have z7 := And.right z9); (clear z9)) | (with_reducible first | ((with_reducible show wpAny _ _ (binaryOp Operator.Pow (Value.int _ _) (Value.int _ _)) _ _ _); (first | (refine pow_k7 (by assumption) (by assumption) ?_) | (refine pow_sq (by assumption) ?_)); try dsimp only) | ((with_reducible show wpAny _ _ (binaryOp Operator.FloorDiv (Value.int _ _) (Value.int _ _)) _ _ _); (refine fd_k7 (by assumption) (by assumption) ?_); try dsimp only)) | fail "none" | ((with_reducible refine abs_st ?_); intro _ _; walk1; try dsimp only) | ((with_reducible refine use_post (by assumption) ?_); try dsimp only) | (k_unfold; (try dsimp only)) | (k_end; wrow_close) | (walk1; try dsimp only) | (dsimp only; walk1) | (leave1; walk_say "STEP leave1"; try dsimp only) | fail "no step")))
          lcg_calm
          k_dflt (refine LCg.ListComp_U (F₀ := by k_asm) (by with_unfolding_all rfl) (by decide) (by rfl) (by decide) (by rfl) ?_)
          (repeat' ((fail_if_success (with_reducible first | refine at_while ?_ | refine at_for ?_ | refine at_iter ?_ | refine at_call ?_ | refine at_type ?_ | refine at_ksw ?_ | refine at_wh ?_ | refine at_src ?_ | refine at_srcT ?_ | refine at_comp ?_ | refine at_end ?_ | refine at_acomp ?_ | refine at_sub ?_ | refine at_slice ?_)); (first | ((first | (with_reducible rename _ < _ ∧ _ => z9) | (with_reducible rename _ ≠ _ ∧ _ => z9)); (have z8 := And.left z9); (have z7 := And.right z9); (clear z9)) | (with_reducible first | ((with_reducible show wpAny _ _ (binaryOp Operator.Pow (Value.int _ _) (Value.int _ _)) _ _ _); (first | (refine pow_k7 (by assumption) (by assumption) ?_) | (refine pow_sq (by assumption) ?_)); try dsimp only) | ((with_reducible show wpAny _ _ (binaryOp Operator.FloorDiv (Value.int _ _) (Value.int _ _)) _ _ _); (refine fd_k7 (by assumption) (by assumption) ?_); try dsimp only)) | fail "none" | ((with_reducible refine abs_st ?_); intro _ _; walk1; try dsimp only) | ((with_reducible refine use_post (by assumption) ?_); try dsimp only) | (k_unfold; (try dsimp only)) | (k_end; wrow_close) | (walk1; try dsimp only) | (dsimp only; walk1) | (leave1; walk_say "STEP leave1"; try dsimp only) | fail "no step")))
          k_dflt (refine LCg.CompSrc.ledger (by rfl) (by k_asm) (by k_asm) (by k_mem) (by exact Nat.le_of_ble_eq_true rfl) ?_)
          intro g'
          lcg_lit
          iterate 3
            with_unfolding_all refine LCg.CompRest.succ ?_
            intro v' I' oI' C' oC' D' m' h' tk' E' hv' hC' hx' F' N' off' ne'
            lcg_open hv'
            clear ne'
            iterate 3
              (repeat' ((fail_if_success (with_reducible first | refine at_while ?_ | refine at_for ?_ | refine at_iter ?_ | refine at_call ?_ | refine at_type ?_ | refine at_ksw ?_ | refine at_wh ?_ | refine at_src ?_ | refine at_srcT ?_ | refine at_comp ?_ | refine at_end ?_ | refine at_acomp ?_ | refine at_sub ?_ | refine at_slice ?_)); (first | ((first | (with_reducible rename _ < _ ∧ _ => z9) | (with_reducible rename _ ≠ _ ∧ _ => z9)); (have z8 := And.left z9); (have z7 := And.right z9); (clear z9)) | (with_reducible first | ((with_reducible show wpAny _ _ (binaryOp Operator.Pow (Value.int _ _) (Value.int _ _)) _ _ _); (first | (refine pow_k7 (by assumption) (by assumption) ?_) | (refine pow_sq (by assumption) ?_)); try dsimp only) | ((with_reducible show wpAny _ _ (binaryOp Operator.FloorDiv (Value.int _ _) (Value.int _ _)) _ _ _); (refine fd_k7 (by assumption) (by assumption) ?_); try dsimp only)) | fail "none" | ((with_reducible refine abs_st ?_); intro _ _; walk1; try dsimp only) | ((with_reducible refine use_post (by assumption) ?_); try dsimp only) | (k_unfold; (try dsimp only)) | (k_end; wrow_close) | (walk1; try dsimp only) | (dsimp only; walk1) | (leave1; walk_say "STEP leave1"; try dsimp only) | fail "no step")))
              with_unfolding_all refine sq_item (by is_list) (by with_reducible assumption) (by assumption) (by assumption) ?_ (by with_unfolding_all rfl)
              intro _
            (repeat' ((fail_if_success (with_reducible first | refine at_while ?_ | refine at_for ?_ | refine at_iter ?_ | refine at_call ?_ | refine at_type ?_ | refine at_ksw ?_ | refine at_wh ?_ | refine at_src ?_ | refine at_srcT ?_ | refine at_comp ?_ | refine at_end ?_ | refine at_acomp ?_ | refine at_sub ?_ | refine at_slice ?_)); (first | ((first | (with_reducible rename _ < _ ∧ _ => z9) | (with_reducible rename _ ≠ _ ∧ _ => z9)); (have z8 := And.left z9); (have z7 := And.right z9); (clear z9)) | (with_reducible first | ((with_reducible show wpAny _ _ (binaryOp Operator.Pow (Value.int _ _) (Value.int _ _)) _ _ _); (first | (refine pow_k7 (by assumption) (by assumption) ?_) | (refine pow_sq (by assumption) ?_)); try dsimp only) | ((with_reducible show wpAny _ _ (binaryOp Operator.FloorDiv (Value.int _ _) (Value.int _ _)) _ _ _); (refine fd_k7 (by assumption) (by assumption) ?_); try dsimp only)) | fail "none" | ((with_reducible refine abs_st ?_); intro _ _; walk1; try dsimp only) | ((with_reducible refine use_post (by assumption) ?_); try dsimp only) | (k_unfold; (try dsimp only)) | (k_end; wrow_close) | (walk1; try dsimp only) | (dsimp only; walk1) | (leave1; walk_say "STEP leave1"; try dsimp only) | fail "no step")))
            rename Fr _ _ _ _ => F9
            rename News _ _ _ _ => N9
            (repeat ((with_reducible rename _ < _ ∧ _ => z9); (have z8 := And.left z9); (have z7 := And.right z9); (clear z9)))
            refine comp_end1 F9 N9 ⟨⟨Nat.ne_of_gt (by assumption), Nat.ne_of_gt (by assumption), Nat.ne_of_gt (by assumption)⟩, off'⟩ (by lcg_src) ?_
            clear F9 N9
          with_unfolding_all refine LCg.CompRest.zero ?_
          unfold LCg.FinE
          intro D' h' tk' F' N' o1'
          simp only [LCg.Off1, and_true] at o1'
          (try simp only [List.nil_append, List.cons_append] at N')
          dsimp only
          (repeat' ((fail_if_success (with_reducible first | refine at_while ?_ | refine at_for ?_ | refine at_iter ?_ | refine at_call ?_ | refine at_type ?_ | refine at_ksw ?_ | refine at_wh ?_ | refine at_src ?_ | refine at_srcT ?_ | refine at_comp ?_ | refine at_end ?_ | refine at_acomp ?_ | refine at_sub ?_ | refine at_slice ?_)); (first | ((first | (with_reducible rename _ < _ ∧ _ => z9) | (with_reducible rename _ ≠ _ ∧ _ => z9)); (have z8 := And.left z9); (have z7 := And.right z9); (clear z9)) | (with_reducible first | ((with_reducible show wpAny _ _ (binaryOp Operator.Pow (Value.int _ _) (Value.int _ _)) _ _ _); (first | (refine pow_k7 (by assumption) (by assumption) ?_) | (refine pow_sq (by assumption) ?_)); try dsimp only) | ((with_reducible show wpAny _ _ (binaryOp Operator.FloorDiv (Value.int _ _) (Value.int _ _)) _ _ _); (refine fd_k7 (by assumption) (by assumption) ?_); try dsimp only)) | fail "none" | ((with_reducible refine abs_st ?_); intro _ _; walk1; try dsimp only) | ((with_reducible refine use_post (by assumption) ?_); try dsimp only) | (k_unfold; (try dsimp only)) | (k_end; wrow_close) | (walk1; try dsimp only) | (dsimp only; walk1) | (leave1; walk_say "STEP leave1"; try dsimp only) | fail "no step")))
          rename News _ _ _ _ => N9
          refine' says_use (says_det w _ _ _ _ _ _ _ _ _ _ _ ((gS m0 m1).getD (0 + (k : Int)).toNat 0) ((gS m0 m1).getD (1 + (j : Int)).toNat 0) ((gS m0 m1).getD (2 + (i : Int)).toNat 0) ((gS m0 m2).getD (0 + (k : Int)).toNat 0) ((gS m0 m2).getD (1 + (j : Int)).toNat 0) ((gS m0 m2).getD (2 + (i : Int)).toNat 0) ((gS m0 m3).getD (0 + (k : Int)).toNat 0) ((gS m0 m3).getD (1 + (j : Int)).toNat 0) ((gS m0 m3).getD (2 + (i : Int)).toNat 0) _ ?hR ?ha ?hb ?hc ?ia ?ib ?ic (gS_wide _ _ _) (gS_wide _ _ _) (gS_wide _ _ _) (gS_wide _ _ _) (gS_wide _ _ _) (gS_wide _ _ _)) ?k1 ?k2 ?k3 N9 ?k5 ?kK ?kd ?ku ?_
          case k1 => k_asm
          case k2 => k_asm
          case k3 => k_asm
          case k5 => k_asm
          case kK => rfl
          case kd => (dsimp only [Around.deeper]; omega)
          case ku => (dsimp only [Around.deeper]; omega)
          case hR => repeat (first | exact List.Mem.head _ | apply List.Mem.tail)
          case ha => repeat (first | exact List.Mem.head _ | apply List.Mem.tail)
          case hb => repeat (first | exact List.Mem.head _ | apply List.Mem.tail)
          case hc => repeat (first | exact List.Mem.head _ | apply List.Mem.tail)
          case ia => exact .cons _ _ (.cons _ _ (.cons _ _ .nil))
          case ib => exact .cons _ _ (.cons _ _ (.cons _ _ .nil))
          case ic => exact .cons _ _ (.cons _ _ (.cons _ _ .nil))
          intro r9 tl9 h9 tk9 F9 N9 hl9 hR9
          obtain ⟨e9, t9, e8⟩ := hR9
          subst e9
          subst e8
          clear hl9
          simp only [List.nil_append] at N9
          dsimp only
          have hb9 := det_small (gS_get m0 m1 (0 + (k : Int)).toNat) (gS_get m0 m1 (1 + (j : Int)).toNat) (gS_get m0 m1 (2 + (i : Int)).toNat) (gS_get m0 m2 (0 + (k : Int)).toNat) (gS_get m0 m2 (1 + (j : Int)).toNat) (gS_get m0 m2 (2 + (i : Int)).toNat) (gS_get m0 m3 (0 + (k : Int)).toNat) (gS_get m0 m3 (1 + (j : Int)).toNat) (gS_get m0 m3 (2 + (i : Int)).toNat)
          have e9 : det3 ((gS m0 m1).getD (0 + (k : Int)).toNat 0) ((gS m0 m1).getD (1 + (j : Int)).toNat 0) ((gS m0 m1).getD (2 + (i : Int)).toNat 0) ((gS m0 m2).getD (0 + (k : Int)).toNat 0) ((gS m0 m2).getD (1 + (j : Int)).toNat 0) ((gS m0 m2).getD (2 + (i : Int)).toNat 0) ((gS m0 m3).getD (0 + (k : Int)).toNat 0) ((gS m0 m3).getD (1 + (j : Int)).toNat 0) ((gS m0 m3).getD (2 + (i : Int)).toNat 0) = dS (gS m0 m1) (gS m0 m2) (gS m0 m3) k (1 + j) (2 + i) := by
            rw [show (0 + (k : Int)).toNat = k by clear lF lN hP3 hP2 hP N9 F9; (repeat ((with_reducible rename _ ≠ _ => z9); clear z9)); omega, show (1 + (j : Int)).toNat = 1 + j by clear lF lN hP3 hP2 hP N9 F9; (repeat ((with_reducible rename _ ≠ _ => z9); clear z9)); omega, show (2 + (i : Int)).toNat = 2 + i by clear lF lN hP3 hP2 hP N9 F9; (repeat ((with_reducible rename _ ≠ _ => z9); clear z9)); omega]
            rfl
          rw [e9] at hb9 ⊢
          clear e9
          (repeat' ((fail_if_success (with_reducible first | refine at_while ?_ | refine at_for ?_ | refine at_iter ?_ | refine at_call ?_ | refine at_type ?_ | refine at_ksw ?_ | refine at_wh ?_ | refine at_src ?_ | refine at_srcT ?_ | refine at_comp ?_ | refine at_end ?_ | refine at_acomp ?_ | refine at_sub ?_ | refine at_slice ?_)); (first | ((first | (with_reducible rename _ < _ ∧ _ => z9) | (with_reducible rename _ ≠ _ ∧ _ => z9)); (have z8 := And.left z9); (have z7 := And.right z9); (clear z9)) | (with_reducible first | ((with_reducible show wpAny _ _ (binaryOp Operator.Pow (Value.int _ _) (Value.int _ _)) _ _ _); (first | (refine pow_k7 (by assumption) (by assumption) ?_) | (refine pow_sq (by assumption) ?_)); try dsimp only) | ((with_reducible show wpAny _ _ (binaryOp Operator.FloorDiv (Value.int _ _) (Value.int _ _)) _ _ _); (refine fd_k7 (by assumption) (by assumption) ?_); try dsimp only)) | fail "none" | ((with_reducible refine abs_st ?_); intro _ _; walk1; try dsimp only) | ((with_reducible refine use_post (by assumption) ?_); try dsimp only) | (k_unfold; (try dsimp only)) | (k_end; wrow_close) | (walk1; try dsimp only) | (dsimp only; walk1) | (leave1; walk_say "STEP leave1"; try dsimp only) | fail "no step")))
          rename Fr _ _ _ _ => lF
          rename News _ _ _ _ => lN
          refine ⟨⟨sq3 + dS (gS m0 m1) (gS m0 m2) (gS m0 m3) k (1 + j) (2 + i) ^ 2, _, oH, oM, _⟩, _, _, _, _, lF, lN, ?e1, ?e2, ⟨_, by assumption⟩, by kst_all, by ksw_same, ?e3⟩
          case e1 => (intro p hp; repeat (first | exact hp | apply List.Mem.tail))
          case e2 => (have y := off1_of hI3; exact of_off1 y)
          case e3 => (show _ = _ + _ + (_ + _); rw [hP3, Int.add_assoc])
        case done3 =>
          clear lF lN rg
          rintro ⟨sq3, ts3, oH3, oM3, oL3⟩ u6 h6 tk6 ⟨xL3, dL3⟩ hP3 lF lN
          dsimp only [kstB] at lF hP3 lN dL3
          (repeat' ((fail_if_success (with_reducible first | refine at_while ?_ | refine at_for ?_ | refine at_iter ?_ | refine at_call ?_ | refine at_type ?_ | refine at_ksw ?_ | refine at_wh ?_ | refine at_src ?_ | refine at_srcT ?_ | refine at_comp ?_ | refine at_end ?_ | refine at_acomp ?_ | refine at_sub ?_ | refine at_slice ?_)); (first | ((first | (with_reducible rename _ < _ ∧ _ => z9) | (with_reducible rename _ ≠ _ ∧ _ => z9)); (have z8 := And.left z9); (have z7 := And.right z9); (clear z9)) | (with_reducible first | ((with_reducible show wpAny _ _ (binaryOp Operator.Pow (Value.int _ _) (Value.int _ _)) _ _ _); (first | (refine pow_k7 (by assumption) (by assumption) ?_) | (refine pow_sq (by assumption) ?_)); try dsimp only) | ((with_reducible show wpAny _ _ (binaryOp Operator.FloorDiv (Value.int _ _) (Value.int _ _)) _ _ _); (refine fd_k7 (by assumption) (by assumption) ?_); try dsimp only)) | fail "none" | ((with_reducible refine abs_st ?_); intro _ _; walk1; try dsimp only) | ((with_reducible refine use_post (by assumption) ?_); try dsimp only) | (k_unfold; (try dsimp only)) | (k_end; wrow_close) | (walk1; try dsimp only) | (dsimp only; walk1) | (leave1; walk_say "STEP leave1"; try dsimp only) | fail "no step")))
          refine ⟨⟨sq3, ts3, oH, oM', oL3⟩, _, _, _, _, lF, lN, ?e4, ?e5, ⟨⟨_, by assumption⟩, ⟨_, dL3⟩⟩, by kst_all, by ksw_same, ?e6⟩
          case e4 => (intro p hp; repeat (first | exact hp | apply List.Mem.tail))
          case e5 => (have y := off1_of hI2; exact of_off1 y)
          case e6 =>
            have e : ((1 + (j : Int)) - 0).toNat = 1 + j := by clear lF lN hP3 hP2 hP; (repeat ((with_reducible rename _ ≠ _ => z9); clear z9)); omega
            rw [e] at hP3
            show _ = _ + (_ + _)
            rw [hP3, Int.add_assoc]
      case done2 =>
        clear lF lN rg
        rintro ⟨sq2, ts2, oH2, oM2, oL2⟩ u5 h5 tk5 ⟨⟨xM2, dM2⟩, ⟨xL2, dL2⟩⟩ hP2 lF lN
        dsimp only [kstB] at lF hP2 lN dM2 dL2
        (repeat' ((fail_if_success (with_reducible first | refine at_while ?_ | refine at_for ?_ | refine at_iter ?_ | refine at_call ?_ | refine at_type ?_ | refine at_ksw ?_ | refine at_wh ?_ | refine at_src ?_ | refine at_srcT ?_ | refine at_comp ?_ | refine at_end ?_ | refine at_acomp ?_ | refine at_sub ?_ | refine at_slice ?_)); (first | ((first | (with_reducible rename _ < _ ∧ _ => z9) | (with_reducible rename _ ≠ _ ∧ _ => z9)); (have z8 := And.left z9); (have z7 := And.right z9); (clear z9)) | (with_reducible first | ((with_reducible show wpAny _ _ (binaryOp Operator.Pow (Value.int _ _) (Value.int _ _)) _ _ _); (first | (refine pow_k7 (by assumption) (by assumption) ?_) | (refine pow_sq (by assumption) ?_)); try dsimp only) | ((with_reducible show wpAny _ _ (binaryOp Operator.FloorDiv (Value.int _ _) (Value.int _ _)) _ _ _); (refine fd_k7 (by assumption) (by assumption) ?_); try dsimp only)) | fail "none" | ((with_reducible refine abs_st ?_); intro _ _; walk1; try dsimp only) | ((with_reducible refine use_post (by assumption) ?_); try dsimp only) | (k_unfold; (try dsimp only)) | (k_end; wrow_close) | (walk1; try dsimp only) | (dsimp only; walk1) | (leave1; walk_say "STEP leave1"; try dsimp only) | fail "no step")))
        refine ⟨⟨sq2, ts2, oH', oM2, oL2⟩, _, _, _, _, lF, lN, ?e7, ?e8, ⟨⟨_, by assumption⟩, ⟨_, dM2⟩, ⟨_, dL2⟩⟩, by kst_all, by ksw_same, ?e9⟩
        case e7 => (intro p hp; repeat (first | exact hp | apply List.Mem.tail))
        case e8 => (have y := off1_of hI; exact of_off1 y)
        case e9 =>
          have e : ((2 + (i : Int)) - 1).toNat = 1 + i := by clear lF lN hP2 hP; (repeat ((with_reducible rename _ ≠ _ => z9); clear z9)); omega
          rw [e] at hP2
          show _ = _ + _
          rw [hP2]
    case done =>
      clear lF lN rg
      rintro ⟨sq, ts, oH, oM, oL⟩ u h tk hf hP lF lN
      dsimp only [kstB] at lF hP lN
      (repeat' ((fail_if_success (with_reducible first | refine at_while ?_ | refine at_for ?_ | refine at_iter ?_ | refine at_call ?_ | refine at_type ?_ | refine at_ksw ?_ | refine at_wh ?_ | refine at_src ?_ | refine at_srcT ?_ | refine at_comp ?_ | refine at_end ?_ | refine at_acomp ?_ | refine at_sub ?_ | refine at_slice ?_)); (first | ((first | (with_reducible rename _ < _ ∧ _ => z9) | (with_reducible rename _ ≠ _ ∧ _ => z9)); (have z8 := And.left z9); (have z7 := And.right z9); (clear z9)) | (with_reducible first | ((with_reducible show wpAny _ _ (binaryOp Operator.Pow (Value.int _ _) (Value.int _ _)) _ _ _); (first | (refine pow_k7 (by assumption) (by assumption) ?_) | (refine pow_sq (by assumption) ?_)); try dsimp only) | ((with_reducible show wpAny _ _ (binaryOp Operator.FloorDiv (Value.int _ _) (Value.int _ _)) _ _ _); (refine fd_k7 (by assumption) (by assumption) ?_); try dsimp only)) | fail "none" | ((with_reducible refine abs_st ?_); intro _ _; walk1; try dsimp only) | ((with_reducible refine use_post (by assumption) ?_); try dsimp only) | (k_unfold; (try dsimp only)) | (k_end; wrow_close) | (walk1; try dsimp only) | (dsimp only; walk1) | (leave1; walk_say "STEP leave1"; try dsimp only) | fail "no step")))
      rw [hP]
      refine hret _ [] _ _ (by k_asm) (kst_newsOf (by k_asm) fun p hp => ?_) (fun _ _ _ h => nomatch h) ⟨rfl, _, rfl⟩
      repeat (first | assumption | apply List.Mem.tail)
end Mine
end
section
open PySem PySem.W PyProof.Rows PySem.Calls
namespace Mine
set_option maxRecDepth 100000
set_option maxHeartbeats 8000000
set_option linter.unusedVariables false
noncomputable def SaysN (w : World) (f : Addr) (n : Nat) (vs : List Value) (news : List (Addr × Obj)) (R : Value → List (Addr × Obj) → Prop) : Prop :=
  ∀ (loose : List Str) (mean : ExcName → Option Value) (mg mb : Str → Option Value) (dp un : Nat) (gd : Option (List Code)) (cn : Str) (cs : Scope) (a : Addr) (ccd : Value) (cl : List (Str × Addr)) (outer : List Env) (A₀ : Around) (base h₀ : Heap) (L : Addr) (m : Str → Option Value) (s : Shared)
    (Q E : Value → Shared → Prop),
    Below A₀ base outer h₀ → Fr h₀ L s.heap m → (KL w.params).In h₀ → News h₀ L s.heap news → Top VW loose mean mg mb h₀ → cs.kind = .function → dp + n < recursionLimit → un + 10 * n < cLine →
    (∀ r tl h' tk', Fr h₀ L h' m → News h₀ L h' (tl ++ news) → (∀ q ∈ news, ∀ p ∈ tl, q.1 ≠ p.1) → R r tl → Q r { s with heap := h', toks := tk' }) →
    wpAny (model PySem.Challenge.rw_tr0059_01.row.prog w) (ktrTop dp un gd cn cs L a ccd cl outer) (call (.ref f) vs) Q E s
theorem mv {α : Type} {p : α} (x d r : List α) (h : p ∈ d ++ (x ++ r)) : p ∈ x ++ (d ++ r) :=
  (List.mem_append.1 h).elim (fun h => List.mem_append.2 (.inr (List.mem_append.2 (.inl h)))) fun h => (List.mem_append.1 h).elim (fun h => List.mem_append.2 (.inl h)) fun h => List.mem_append.2 (.inr (List.mem_append.2 (.inr h)))
noncomputable def tt (s0 s1 s2 s3 : Str) (k : Int) : Str := if k = 0 then s0 else if k = 1 then s1 else if k = 2 then s2 else s3
/-- room_row, room_cell: as in C8 -/
noncomputable def LenLe (x : Str) (n : Nat) : Prop := x.length ≤ n
theorem tt_len {s0 s1 s2 s3 : Str} (g0 : s0.length = 7) (g1 : s1.length = 7) (g2 : s2.length = 7) (g3 : s3.length = 7) (k : Int) : (tt s0 s1 s2 s3 k).length = 7 := by
  unfold tt
  split
  · exact g0
  split
  · exact g1
  split
  · exact g2
  · exact g3
section
variable {prog : Program} {w : World} {A : Around} {E : Value → Shared → Prop} {s : Shared} {h₀ : Heap} {L : Addr} {m : Str → Option Value} {news : List (Addr × Obj)}
theorem text_item {value slice : PySem.Expr} {T : Addr} {s0 s1 s2 s3 : Str} {t0 t1 t2 t3 : Tok} {n : Nat} {k : Int} {u : Tok} {Q : Value → Shared → Prop} (N : News h₀ L s.heap news) (hm : (T, listOf [Value.str s0 t0, Value.str s1 t1, Value.str s2 t2, Value.str s3 t3].toArray n) ∈ news) (h0 : 0 ≤ k) (h1 : k < 4)
    (h : ∀ t, Q (.str (tt s0 s1 s2 s3 k) t) s)
    (hs : subscripted slice false (.ref T) (.int k u) = operate [.ref T, .int k u] (getItem (.ref T) (.int k u)) := by with_unfolding_all rfl) :
    wpAny (model prog w) A (subscriptTail value slice (.ref T) (.int k u)) Q E s := by
  have g : ∀ (x : Str) (t : Tok), [Value.str s0 t0, Value.str s1 t1, Value.str s2 t2, Value.str s3 t3].toArray[k.toNat]? = some (.str x t) → tt s0 s1 s2 s3 k = x → wpAny (model prog w) A (getItem (.ref T) (.int k u)) Q E s := fun x t e1 e2 => by
    subst e2
    exact wpAny_getItem_list (PySem.IsL.isList (n := n) (N _ hm).1) h0 (by omega) e1 (h t)
  refine tail_any (PySem.IsL.isList (n := n) (N _ hm).1).typeIs slot_list_getitem.lookup ?_ hs
  have hc : k = 0 ∨ k = 1 ∨ k = 2 ∨ k = 3 := by omega
  rcases hc with rfl | rfl | rfl | rfl
  · exact g s0 t0 rfl rfl
  · exact g s1 t1 rfl rfl
  · exact g s2 t2 rfl rfl
  · exact g s3 t3 rfl rfl
theorem slice_tk {value slice : PySem.Expr} {x : Str} {t tk : Tok} {k : Int} {Q : Value → Shared → Prop} (hF : Fr h₀ L s.heap m) (hN : News h₀ L s.heap news) (hx : x.length = 7) (h0 : 0 ≤ k) (h1 : k ≤ 7)
    (h : ∀ h' t' c, Fr h₀ L h' m → News h₀ L h' news → LenLe (takeS x k.toNat) 7 → Q (.str (takeS x k.toNat) t') { s with heap := h', toks := c })
    (hs : subscripted slice false (.str x t) (.ref s.heap.objs.size) = operate [.ref s.heap.objs.size, .str x t] (getItem (.str x t) (.ref s.heap.objs.size)) := by with_unfolding_all rfl)
    (ht : ∀ r, letTemporaryGo value (.str x t) r = pure () := by intro _; with_unfolding_all rfl) :
    wpAny (model prog w) A (subscriptTail value slice (.str x t) (.ref s.heap.objs.size)) Q E { s with heap := s.heap.push { cls := .type "slice", data := .fields #[.none, .int k tk, .none] } } := by
  refine slice_strN_ns_len hF hN (fun h' t' c a b _ => ?_) hs ht (by rw [hx, sizeLine_eq]; omega)
  have e : Txt.slice x none (some k) = takeS x k.toNat := by
    show PySem.StrLaws.sliceText x none (some k) = _
    rw [PySem.StrLaws.sliceText_to ⟨h0, by simpa [Str.length, hx] using (by rw [show (x.cps.toList.length : Int) = 7 from (by simpa [Str.length] using congrArg Int.ofNat hx)]; exact h1 : k ≤ (x.cps.toList.length : Int))⟩]
    unfold takeS
    rw [List.drop_zero, Int.sub_zero]
  rw [e]
  refine h h' t' c a b ?_
  unfold LenLe takeS Str.length
  unfold Str.length at hx
  simp
  omega
theorem slice_dp {value slice : PySem.Expr} {x : Str} {t tk : Tok} {k : Int} {Q : Value → Shared → Prop} (hF : Fr h₀ L s.heap m) (hN : News h₀ L s.heap news) (hx : x.length = 7) (h0 : 0 ≤ k) (h1 : k ≤ 7)
    (h : ∀ h' t' c, Fr h₀ L h' m → News h₀ L h' news → LenLe (dropS x k.toNat) 7 → Q (.str (dropS x k.toNat) t') { s with heap := h', toks := c })
    (hs : subscripted slice false (.str x t) (.ref s.heap.objs.size) = operate [.ref s.heap.objs.size, .str x t] (getItem (.str x t) (.ref s.heap.objs.size)) := by with_unfolding_all rfl)
    (ht : ∀ r, letTemporaryGo value (.str x t) r = pure () := by intro _; with_unfolding_all rfl) :
    wpAny (model prog w) A (subscriptTail value slice (.str x t) (.ref s.heap.objs.size)) Q E { s with heap := s.heap.push { cls := .type "slice", data := .fields #[.int k tk, .none, .none] } } := by
  refine slice_pre hF hN h0 (by rw [hx]; exact h1) (fun h' t' c a b e => h h' t' c a b ?_) hs ht (by rw [hx, sizeLine_eq]; omega)
  rw [hx] at e
  unfold LenLe
  omega
theorem add_ll {x y : Str} {t u : Tok} {a b : Nat} {Q : Value → Shared → Prop} (hx : LenLe x a) (hy : LenLe y b) (hab : a + b ≤ 1000) (h : ∀ t' tk, LenLe (x ++ y) (a + b) → Q (.str (x ++ y) t') { s with toks := tk }) :
    wpAny (model prog w) A (binaryOp .Add (.str x t) (.str y u)) Q E s := by
  unfold LenLe at hx hy
  refine add_str (fun t' tk => h t' tk ?_) (by rw [sizeLine_eq]; omega)
  show (x.cps ++ y.cps).size ≤ _
  rw [Array.size_append]
  exact Nat.add_le_add hx hy
theorem mul_y {t u : Tok} {n : Int} {Q : Value → Shared → Prop} (h0 : 0 ≤ n) (h1 : n ≤ 1) (h : ∀ t' tk, LenLe (Txt.mul "Y" n) 1 → Q (.str (Txt.mul "Y" n) t') { s with toks := tk }) :
    wpAny (model prog w) A (binaryOp .Mult (.str "Y" t) (.int n u)) Q E s := by
  have hc : n = 0 ∨ n = 1 := by omega
  rcases hc with rfl | rfl
  · refine SB.mul ⟨by decide, fun h => absurd (by decide) h, fun h => absurd (by decide) h⟩ fun t' k => h t' k (by unfold LenLe; decide)
  · refine SB.mul ⟨by decide, fun _ h => absurd h (by decide), fun _ h => absurd h (by decide)⟩ fun t' k => h t' k (by unfold LenLe; decide)
end
noncomputable def ev (D : Nat → Nat → Int) (i j a b : Nat) : Int := if a = b then 0 else if max a b < i ∨ (max a b = i ∧ min a b < j) then D (max a b) (min a b) else 0
noncomputable def xr (D : Nat → Nat → Int) (i j a : Nat) : List Int := [ev D i j a 0, ev D i j a 1, ev D i j a 2, ev D i j a 3]
theorem xr_len (D : Nat → Nat → Int) (i j a : Nat) : (xr D i j a).length = 4 := rfl
theorem xr_00 (D : Nat → Nat → Int) (a : Nat) : xr D 0 0 a = [0, 0, 0, 0] := by
  have e : ∀ b, ev D 0 0 a b = 0 := fun b => by
    unfold ev
    split
    · rfl
    · rw [if_neg (by omega)]
  unfold xr
  rw [e, e, e, e]
theorem xr_next (D : Nat → Nat → Int) (i a : Nat) : xr D i i a = xr D (i + 1) 0 a := by
  have e : ∀ b, ev D i i a b = ev D (i + 1) 0 a b := fun b => by
    unfold ev
    split
    · rfl
    · congr 1
      apply propext
      omega
  unfold xr
  rw [e, e, e, e]
structure AS where
  v0 : List Value
  v1 : List Value
  v2 : List Value
  v3 : List Value
inductive AEnd (h₀ : Heap) (L : Addr) (s : Shared) (T : Addr) (tail : List (Addr × Obj)) : Flow → Shared → Prop
  | mk (r0 r1 r2 r3 R : Addr) (v0 v1 v2 v3 : List Value) (n0 n1 n2 n3 nR : Nat) (h' : Heap) (tk' : Nat) (u : Str → Option Value) (i : IntsAre v0 [0, 0, 0, 0] ∧ IntsAre v1 [0, 0, 0, 0] ∧ IntsAre v2 [0, 0, 0, 0] ∧ IntsAre v3 [0, 0, 0, 0]) (d : r0 ≠ r1 ∧ r0 ≠ r2 ∧ r0 ≠ r3 ∧ r1 ≠ r2 ∧ r1 ≠ r3 ∧ r2 ≠ r3) (e : R ≠ r0 ∧ R ≠ r1 ∧ R ≠ r2 ∧ R ≠ r3) (o : ∀ p ∈ tail, p.1 ≠ r0 ∧ p.1 ≠ r1 ∧ p.1 ≠ r2 ∧ p.1 ≠ r3 ∧ p.1 ≠ R)
    (F : Fr h₀ L h' (kstB u [("apart", .ref R), ("texts", .ref T)])) (N : News h₀ L h' ((R, listOf [Value.ref r0, Value.ref r1, Value.ref r2, Value.ref r3].toArray nR) :: (r0, listOf v0.toArray n0) :: (r1, listOf v1.toArray n1) :: (r2, listOf v2.toArray n2) :: (r3, listOf v3.toArray n3) :: tail)) : AEnd h₀ L s T tail .next { s with heap := h', toks := tk' }
theorem ap_cut {prog : Program} {w : World} {A : Around} {E : Value → Shared → Prop} {Q : Flow → Shared → Prop} {s : Shared} {env : Env} {h₀ : Heap} {L T : Addr} {st : Stmt} {m₀ : Str → Option Value} {tail : List (Addr × Obj)} (_F : Fr h₀ L s.heap m₀) (_N : News h₀ L s.heap tail)
    (h1 : wpAny (model prog w) A (exec st env) (AEnd h₀ L s T tail) E s)
    (h2 : ∀ (r0 r1 r2 r3 R : Addr) (v0 v1 v2 v3 : List Value) (n0 n1 n2 n3 nR : Nat) (h' : Heap) (tk' : Nat) (u : Str → Option Value), (IntsAre v0 [0, 0, 0, 0] ∧ IntsAre v1 [0, 0, 0, 0] ∧ IntsAre v2 [0, 0, 0, 0] ∧ IntsAre v3 [0, 0, 0, 0]) → (r0 ≠ r1 ∧ r0 ≠ r2 ∧ r0 ≠ r3 ∧ r1 ≠ r2 ∧ r1 ≠ r3 ∧ r2 ≠ r3) → (R ≠ r0 ∧ R ≠ r1 ∧ R ≠ r2 ∧ R ≠ r3) → (∀ p ∈ tail, p.1 ≠ r0 ∧ p.1 ≠ r1 ∧ p.1 ≠ r2 ∧ p.1 ≠ r3 ∧ p.1 ≠ R) →
    Fr h₀ L h' (kstB u [("apart", .ref R), ("texts", .ref T)]) → News h₀ L h' ((R, listOf [Value.ref r0, Value.ref r1, Value.ref r2, Value.ref r3].toArray nR) :: (r0, listOf v0.toArray n0) :: (r1, listOf v1.toArray n1) :: (r2, listOf v2.toArray n2) :: (r3, listOf v3.toArray n3) :: tail) → Q .next { s with heap := h', toks := tk' }) :
    wpAny (model prog w) A (exec st env) Q E s := by
  refine wpAny_mono h1 (fun f s₂ q => ?_) (fun _ _ e => e)
  obtain ⟨r0, r1, r2, r3, R, v0, v1, v2, v3, n0, n1, n2, n3, nR, h', tk', u, a, b, c, d, F, N⟩ := q
  exact h2 r0 r1 r2 r3 R v0 v1 v2 v3 n0 n1 n2 n3 nR h' tk' u a b c d F N
noncomputable def LevOk (x y : Str) (v : Int) : Prop := LevAll x y v ∧ x.length ≤ 8 ∧ y.length ≤ 8 ∧ (x == y) = false ∧ (x.length ≤ y.length + 1 ∧ y.length ≤ x.length + 1)
noncomputable def firstS (x : Str) (p : Int) : Str := takeS x p.toNat ++ "Z" ++ dropS x p.toNat
noncomputable def secondS (x : Str) (p : Int) : Str := takeS x p.toNat ++ Txt.mul "Y" (1 - p.fmod 2) ++ dropS x p.toNat
noncomputable def Upd4 (k j x : Int) (x0 x1 x2 x3 y0 y1 y2 y3 : List Int) : Prop :=
  (y0 = (if k = 0 then x0.set j.toNat x else x0) ∧ y1 = (if k = 1 then x1.set j.toNat x else x1) ∧ y2 = (if k = 2 then x2.set j.toNat x else x2) ∧ y3 = (if k = 3 then x3.set j.toNat x else x3)) ∧ y0.length = 4 ∧ y1.length = 4 ∧ y2.length = 4 ∧ y3.length = 4
theorem upd4_of {k j x : Int} {x0 x1 x2 x3 : List Int} (l0 : x0.length = 4) (l1 : x1.length = 4) (l2 : x2.length = 4) (l3 : x3.length = 4) :
    Upd4 k j x x0 x1 x2 x3 (if k = 0 then x0.set j.toNat x else x0) (if k = 1 then x1.set j.toNat x else x1) (if k = 2 then x2.set j.toNat x else x2) (if k = 3 then x3.set j.toNat x else x3) := by
  refine ⟨⟨rfl, rfl, rfl, rfl⟩, ?_, ?_, ?_, ?_⟩ <;> split <;> simp [l0, l1, l2, l3]
theorem upd4_dd {k j x : Int} {x0 x1 x2 x3 y0 y1 y2 y3 : List Int} (l0 : x0.length = 4) (l1 : x1.length = 4) (l2 : x2.length = 4) (l3 : x3.length = 4) (h0 : 0 ≤ k) (h1 : k < 4) (h2 : 0 ≤ j) (h3 : j < 4) (H : Upd4 k j x x0 x1 x2 x3 y0 y1 y2 y3) : dd y0 y1 y2 y3 k j = x := by
  obtain ⟨⟨rfl, rfl, rfl, rfl⟩, _⟩ := H
  have e : ∀ l : List Int, l.length = 4 → (l.set j.toNat x).getD j.toNat 0 = x := fun l hl => by
    rw [List.getD_eq_getElem?_getD, List.getElem?_set_self (by omega)]
    rfl
  have hc : k = 0 ∨ k = 1 ∨ k = 2 ∨ k = 3 := by omega
  unfold dd
  rcases hc with rfl | rfl | rfl | rfl
  · exact e x0 l0
  · exact e x1 l1
  · exact e x2 l2
  · exact e x3 l3
section
variable {prog : Program} {w : World} {A : Around} {E : Value → Shared → Prop} {s : Shared} {h₀ : Heap} {L : Addr} {m : Str → Option Value} {news rest : List (Addr × Obj)}
theorem rr_store {r0 r1 r2 r3 : Addr} {v0 v1 v2 v3 : List Value} {x0 x1 x2 x3 : List Int} {n0 n1 n2 n3 : Nat} {k j x : Int} {t u : Tok} {Q : Unit → Shared → Prop} (F : Fr h₀ L s.heap m)
    (N : News h₀ L s.heap ((r0, listOf v0.toArray n0) :: (r1, listOf v1.toArray n1) :: (r2, listOf v2.toArray n2) :: (r3, listOf v3.toArray n3) :: rest)) (hne : ∀ p ∈ rest, p.1 ≠ r0 ∧ p.1 ≠ r1 ∧ p.1 ≠ r2 ∧ p.1 ≠ r3)
    (z01 : r0 ≠ r1) (z02 : r0 ≠ r2) (z03 : r0 ≠ r3) (z12 : r1 ≠ r2) (z13 : r1 ≠ r3) (z23 : r2 ≠ r3)
    (i0 : IntsAre v0 x0) (i1 : IntsAre v1 x1) (i2 : IntsAre v2 x2) (i3 : IntsAre v3 x3) (l0 : x0.length = 4) (l1 : x1.length = 4) (l2 : x2.length = 4) (l3 : x3.length = 4) (h0 : 0 ≤ k) (h1 : k < 4) (h2 : 0 ≤ j) (h3 : j < 4)
    (h : ∀ h' w0 w1 w2 w3 y0 y1 y2 y3, Fr h₀ L h' m → News h₀ L h' ((r0, listOf w0.toArray n0) :: (r1, listOf w1.toArray n1) :: (r2, listOf w2.toArray n2) :: (r3, listOf w3.toArray n3) :: rest) →
      IntsAre w0 y0 → IntsAre w1 y1 → IntsAre w2 y2 → IntsAre w3 y3 → Upd4 k j x x0 x1 x2 x3 y0 y1 y2 y3 → Q () { s with heap := h' }) :
    wpAny (model prog w) A (setItem (.ref (rr r0 r1 r2 r3 k)) (.int j u) (.int x t)) Q E s := by
  have hU := upd4_of (k := k) (j := j) (x := x) l0 l1 l2 l3
  have hc : k = 0 ∨ k = 1 ∨ k = 2 ∨ k = 3 := by omega
  rcases hc with rfl | rfl | rfl | rfl
  · exact ints_setItem F N (List.forall_mem_cons.2 ⟨Ne.symm z01, List.forall_mem_cons.2 ⟨Ne.symm z02, List.forall_mem_cons.2 ⟨Ne.symm z03, fun p hp => (hne p hp).1⟩⟩⟩) i0 h2 (by omega) (by omega) fun h' F' N' hi => h h' _ _ _ _ _ _ _ _ F' N' hi i1 i2 i3 hU
  · exact ints_setItem F (kst_newsOf N fun p hp => mv [_] [_] _ hp) (List.forall_mem_cons.2 ⟨z01, List.forall_mem_cons.2 ⟨Ne.symm z12, List.forall_mem_cons.2 ⟨Ne.symm z13, fun p hp => (hne p hp).2.1⟩⟩⟩) i1 h2 (by omega) (by omega) fun h' F' N' hi => h h' _ _ _ _ _ _ _ _ F' (kst_newsOf N' fun p hp => mv [_] [_] _ hp) i0 hi i2 i3 hU
  · exact ints_setItem F (kst_newsOf N fun p hp => mv [_, _] [_] _ hp) (List.forall_mem_cons.2 ⟨z02, List.forall_mem_cons.2 ⟨z12, List.forall_mem_cons.2 ⟨Ne.symm z23, fun p hp => (hne p hp).2.2.1⟩⟩⟩) i2 h2 (by omega) (by omega) fun h' F' N' hi => h h' _ _ _ _ _ _ _ _ F' (kst_newsOf N' fun p hp => mv [_] [_, _] _ hp) i0 i1 hi i3 hU
  · exact ints_setItem F (kst_newsOf N fun p hp => mv [_, _, _] [_] _ hp) (List.forall_mem_cons.2 ⟨z03, List.forall_mem_cons.2 ⟨z13, List.forall_mem_cons.2 ⟨z23, fun p hp => (hne p hp).2.2.2⟩⟩⟩) i3 h2 (by omega) (by omega) fun h' F' N' hi => h h' _ _ _ _ _ _ _ _ F' (kst_newsOf N' fun p hp => mv [_] [_, _, _] _ hp) i0 i1 i2 hi hU
end
noncomputable def up (k j x a : Int) (l : List Int) : List Int := if k = a then l.set j.toNat x else l
theorem lt4 {P : Nat → Nat → Prop} {i j : Nat} (hj : j < i) (hi : i < 4) (a : P 1 0) (b : P 2 0) (c : P 2 1) (d : P 3 0) (e : P 3 1) (f : P 3 2) : P i j :=
  match i, j, hj, hi with
  | 0, _, hj, _ => absurd hj (Nat.not_lt_zero _)
  | 1, 0, _, _ => a
  | 1, j + 1, hj, _ => absurd (Nat.lt_of_succ_lt_succ hj) (Nat.not_lt_zero _)
  | 2, 0, _, _ => b
  | 2, 1, _, _ => c
  | 2, j + 2, hj, _ => absurd (Nat.lt_of_succ_lt_succ (Nat.lt_of_succ_lt_succ hj)) (Nat.not_lt_zero _)
  | 3, 0, _, _ => d
  | 3, 1, _, _ => e
  | 3, 2, _, _ => f
  | 3, j + 3, hj, _ => absurd (Nat.lt_of_succ_lt_succ (Nat.lt_of_succ_lt_succ (Nat.lt_of_succ_lt_succ hj))) (Nat.not_lt_zero _)
  | i + 4, _, _, hi => absurd hi (Nat.not_lt_of_le (Nat.le_add_left 4 i))
theorem xr_upd (D : Nat → Nat → Int) {i j : Nat} (hj : j < i) (hi : i < 4) {y0 y1 y2 y3 w0 w1 w2 w3 : List Int} (H1 : Upd4 (0 + (i : Int)) (0 + (j : Int)) (D i j) (xr D i j 0) (xr D i j 1) (xr D i j 2) (xr D i j 3) y0 y1 y2 y3)
    (H2 : Upd4 (0 + (j : Int)) (0 + (i : Int)) (D i j) y0 y1 y2 y3 w0 w1 w2 w3) : w0 = xr D i (j + 1) 0 ∧ w1 = xr D i (j + 1) 1 ∧ w2 = xr D i (j + 1) 2 ∧ w3 = xr D i (j + 1) 3 := by
  obtain ⟨⟨rfl, rfl, rfl, rfl⟩, _⟩ := H1
  obtain ⟨⟨rfl, rfl, rfl, rfl⟩, _⟩ := H2
  have u0 : up (0 + (j : Int)) (0 + (i : Int)) (D i j) 0 (up (0 + (i : Int)) (0 + (j : Int)) (D i j) 0 (xr D i j 0)) = xr D i (j + 1) 0 := lt4 (P := fun i j => up (0 + (j : Int)) (0 + (i : Int)) (D i j) 0 (up (0 + (i : Int)) (0 + (j : Int)) (D i j) 0 (xr D i j 0)) = xr D i (j + 1) 0) hj hi rfl rfl rfl rfl rfl rfl
  have u1 : up (0 + (j : Int)) (0 + (i : Int)) (D i j) 1 (up (0 + (i : Int)) (0 + (j : Int)) (D i j) 1 (xr D i j 1)) = xr D i (j + 1) 1 := lt4 (P := fun i j => up (0 + (j : Int)) (0 + (i : Int)) (D i j) 1 (up (0 + (i : Int)) (0 + (j : Int)) (D i j) 1 (xr D i j 1)) = xr D i (j + 1) 1) hj hi rfl rfl rfl rfl rfl rfl
  have u2 : up (0 + (j : Int)) (0 + (i : Int)) (D i j) 2 (up (0 + (i : Int)) (0 + (j : Int)) (D i j) 2 (xr D i j 2)) = xr D i (j + 1) 2 := lt4 (P := fun i j => up (0 + (j : Int)) (0 + (i : Int)) (D i j) 2 (up (0 + (i : Int)) (0 + (j : Int)) (D i j) 2 (xr D i j 2)) = xr D i (j + 1) 2) hj hi rfl rfl rfl rfl rfl rfl
  have u3 : up (0 + (j : Int)) (0 + (i : Int)) (D i j) 3 (up (0 + (i : Int)) (0 + (j : Int)) (D i j) 3 (xr D i j 3)) = xr D i (j + 1) 3 := lt4 (P := fun i j => up (0 + (j : Int)) (0 + (i : Int)) (D i j) 3 (up (0 + (i : Int)) (0 + (j : Int)) (D i j) 3 (xr D i j 3)) = xr D i (j + 1) 3) hj hi rfl rfl rfl rfl rfl rfl
  exact ⟨u0, u1, u2, u3⟩
end Mine
end
section
open PySem PySem.W PyProof.Rows PySem.Calls
namespace Mine
set_option maxRecDepth 100000
set_option maxHeartbeats 8000000
set_option linter.unusedVariables false
theorem comp_end2 {h₀ : Heap} {L I C D l d : Addr} {m : Str → Option Value} {s₁ : Shared} {oI oC oD o od : Obj} {S : List (Addr × Obj) → Prop} {rest : Value → List (Addr × Obj) → Prop} {y : Value} {h' : Heap} {tk : Nat} {news' : List (Addr × Obj)}
    (F : Fr h₀ L h' m) (N : News h₀ L h' ((d, od) :: (l, o) :: (I, oI) :: (C, oC) :: (D, oD) :: news')) (off : LCg.Off3 I C D ((d, od) :: news')) (hS : S ((d, od) :: news')) (r : rest y ((d, od) :: news')) :
    LCg.CompEnd h₀ L m s₁ I oI C oC D oD S rest y { s₁ with heap := h', toks := tk } := ⟨h', tk, (d, od) :: news', rfl, F, kst_newsOf N (by
      intro p hp
      simp only [List.mem_cons] at hp ⊢
      rcases hp with h | h | h | h | h
      · exact .inr (.inr (.inl h))
      · exact .inr (.inr (.inr (.inl h)))
      · exact .inr (.inr (.inr (.inr (.inl h))))
      · exact .inl h
      · exact .inr (.inr (.inr (.inr (.inr h))))), off, hS, r⟩
noncomputable def ApPost (D : Nat → Nat → Int) (r : Value) (tl : List (Addr × Obj)) : Prop :=
  ∃ (R r0 r1 r2 r3 : Addr) (nR n0 n1 n2 n3 : Nat) (v0 v1 v2 v3 : List Value), r = .ref R ∧ tl = [(R, listOf [Value.ref r0, Value.ref r1, Value.ref r2, Value.ref r3].toArray nR), (r0, listOf v0.toArray n0), (r1, listOf v1.toArray n1), (r2, listOf v2.toArray n2), (r3, listOf v3.toArray n3)] ∧
    IntsAre v0 (xr D 4 0 0) ∧ IntsAre v1 (xr D 4 0 1) ∧ IntsAre v2 (xr D 4 0 2) ∧ IntsAre v3 (xr D 4 0 3)
theorem says_apart (w : World) (T M1 M2 M3 : Addr) (oM1 oM2 oM3 : Obj) (nT : Nat) (s0 s1 s2 s3 : Str) (t0 t1 t2 t3 : Tok) (g0 : s0.length = 7) (g1 : s1.length = 7) (g2 : s2.length = 7) (g3 : s3.length = 7) (D : Nat → Nat → Int) (H : ∀ i j : Nat, j < i → i < 4 → LevOk (firstS (tt s0 s1 s2 s3 (0 + (i : Int))) (0 + (i : Int) + (0 + (j : Int)))) (secondS (tt s0 s1 s2 s3 (0 + (j : Int))) (0 + (i : Int) + (0 + (j : Int)))) (D i j + 2)) :
    SaysN w 100 20 [.ref T] [(T, listOf [Value.str s0 t0, Value.str s1 t1, Value.str s2 t2, Value.str s3 t3].toArray nT), (M1, oM1), (M2, oM2), (M3, oM3)] (ApPost D) := by
  w_on
  w_top off
  intro loose mean mg mb dp un gd cn cs a ccd cl outer A₀ base h₀ L m s Q E B F X N T' hk hd hu hret
  revert X; k_fill; intro X
  refine wpAny_call ?_
  k_dflt cell_enter
  (repeat' ((fail_if_success (with_reducible first | refine at_while ?_ | refine at_for ?_ | refine at_iter ?_ | refine at_call ?_ | refine at_type ?_ | refine at_ksw ?_ | refine at_wh ?_ | refine at_src ?_ | refine at_srcT ?_ | refine at_comp ?_ | refine at_end ?_ | refine at_acomp ?_ | refine at_set ?_)); (first | (with_reducible first | ((with_reducible show wpAny _ _ (binaryOp Operator.Mod (Value.int _ _) (Value.int _ _)) _ _ _); (refine mod_int' (by decide) ?_); try dsimp only)) | (((with_reducible refine at_sub ?_); (with_reducible rename News _ _ _ _ => N9); first | ((with_reducible show wpAny _ _ (subscriptTail _ _ (Value.ref (rr _ _ _ _ _)) (Value.int _ _)) _ _ _); (with_reducible rename Upd4 _ _ _ _ _ _ _ _ _ _ _ => U9); (refine room_cell N9 (by k_mem) (by k_mem) (by k_mem) (by k_mem) (by with_reducible assumption) (by with_reducible assumption) (by with_reducible assumption) (by with_reducible assumption) U9.2.1 U9.2.2.1 U9.2.2.2.1 U9.2.2.2.2 (by assumption) (by assumption) (by assumption) (by assumption) ?_ (by with_unfolding_all rfl)); intro _) | ((with_unfolding_all refine text_item N9 (by k_mem) (by assumption) (by assumption) ?_ (by with_unfolding_all rfl)); intro _) | (with_unfolding_all refine room_row N9 (by k_mem) (by assumption) (by assumption) ?_ (by with_unfolding_all rfl))); try dsimp only) | (((with_reducible refine at_strs ?_); (with_reducible rename Fr _ _ _ _ => F'); (with_reducible rename News _ _ _ _ => N'); first | ((with_reducible show wpAny _ _ (subscriptTail _ (PySem.Expr.Slice none (some _) none _) _ _) _ _ _); (refine slice_tk (s := ⟨_, _, _, _, _⟩) F' N' (by assumption) (by assumption) (by assumption) ?_); intro _ _ _ _ _ _) | ((refine slice_dp (s := ⟨_, _, _, _, _⟩) F' N' (by assumption) (by assumption) (by assumption) ?_); intro _ _ _ _ _ _)); try dsimp only) | (((with_reducible refine at_bin ?_); first | ((with_reducible show wpAny _ _ (binaryOp _ (Value.str _ _) (Value.str _ _)) _ _ _); (refine add_ll (by assumption) (by assumption) (by decide) ?_); intro _ _ _) | ((refine mul_y (by assumption) (by assumption) ?_); intro _ _ _)); try dsimp only) | ((with_reducible refine abs_st ?_); intro _ _; walk1; try dsimp only) | ((with_reducible refine use_post (by assumption) ?_); try dsimp only) | (k_unfold; (try dsimp only)) | (k_end; wrow_close) | (walk1; try dsimp only) | (dsimp only; walk1) | (leave1; walk_say "STEP leave1"; try dsimp only) | fail "no step")))
  rename Fr _ _ _ _ => lF
  rename News _ _ _ _ => lN
  refine ap_cut (T := T) lF lN ?ap ?go
  case ap =>
    walk1
    iterate 4
      with_unfolding_all refine LCg.CompRest.succ ?_
      intro v' I' oI' C' oC' D' m' h' tk' E' hv' hC' hx' F' N' off' ne'
      lcg_open hv'
      clear ne'
      (repeat' ((fail_if_success (with_reducible first | refine at_while ?_ | refine at_for ?_ | refine at_iter ?_ | refine at_call ?_ | refine at_type ?_ | refine at_ksw ?_ | refine at_wh ?_ | refine at_src ?_ | refine at_srcT ?_ | refine at_comp ?_ | refine at_end ?_ | refine at_acomp ?_ | refine at_set ?_)); (first | (with_reducible first | ((with_reducible show wpAny _ _ (binaryOp Operator.Mod (Value.int _ _) (Value.int _ _)) _ _ _); (refine mod_int' (by decide) ?_); try dsimp only)) | (((with_reducible refine at_sub ?_); (with_reducible rename News _ _ _ _ => N9); first | ((with_reducible show wpAny _ _ (subscriptTail _ _ (Value.ref (rr _ _ _ _ _)) (Value.int _ _)) _ _ _); (with_reducible rename Upd4 _ _ _ _ _ _ _ _ _ _ _ => U9); (refine room_cell N9 (by k_mem) (by k_mem) (by k_mem) (by k_mem) (by with_reducible assumption) (by with_reducible assumption) (by with_reducible assumption) (by with_reducible assumption) U9.2.1 U9.2.2.1 U9.2.2.2.1 U9.2.2.2.2 (by assumption) (by assumption) (by assumption) (by assumption) ?_ (by with_unfolding_all rfl)); intro _) | ((with_unfolding_all refine text_item N9 (by k_mem) (by assumption) (by assumption) ?_ (by with_unfolding_all rfl)); intro _) | (with_unfolding_all refine room_row N9 (by k_mem) (by assumption) (by assumption) ?_ (by with_unfolding_all rfl))); try dsimp only) | (((with_reducible refine at_strs ?_); (with_reducible rename Fr _ _ _ _ => F'); (with_reducible rename News _ _ _ _ => N'); first | ((with_reducible show wpAny _ _ (subscriptTail _ (PySem.Expr.Slice none (some _) none _) _ _) _ _ _); (refine slice_tk (s := ⟨_, _, _, _, _⟩) F' N' (by assumption) (by assumption) (by assumption) ?_); intro _ _ _ _ _ _) | ((refine slice_dp (s := ⟨_, _, _, _, _⟩) F' N' (by assumption) (by assumption) (by assumption) ?_); intro _ _ _ _ _ _)); try dsimp only) | (((with_reducible refine at_bin ?_); first | ((with_reducible show wpAny _ _ (binaryOp _ (Value.str _ _) (Value.str _ _)) _ _ _); (refine add_ll (by assumption) (by assumption) (by decide) ?_); intro _ _ _) | ((refine mul_y (by assumption) (by assumption) ?_); intro _ _ _)); try dsimp only) | ((with_reducible refine abs_st ?_); intro _ _; walk1; try dsimp only) | ((with_reducible refine use_post (by assumption) ?_); try dsimp only) | (k_unfold; (try dsimp only)) | (k_end; wrow_close) | (walk1; try dsimp only) | (dsimp only; walk1) | (leave1; walk_say "STEP leave1"; try dsimp only) | fail "no step")))
      rename Fr _ _ _ _ => F9
      rename News _ _ _ (_ :: _ :: _ :: _ :: _ :: _) => N9
      rename _ < _ ∧ _ => l9
      refine comp_end2 F9 N9 ⟨⟨Nat.ne_of_gt l9.2.1, Nat.ne_of_gt l9.2.2.1, Nat.ne_of_gt l9.2.2.2.1⟩, off'⟩ (by lcg_src) ?_
      clear F9 N9
    with_unfolding_all refine LCg.CompRest.zero ?_
    unfold LCg.FinA
    intro D' h' tk' F' N' o1'
    (try simp only [List.nil_append, List.cons_append] at N')
    (try dsimp only)
    (repeat' ((fail_if_success (with_reducible first | refine at_while ?_ | refine at_for ?_ | refine at_iter ?_ | refine at_call ?_ | refine at_type ?_ | refine at_ksw ?_ | refine at_wh ?_ | refine at_src ?_ | refine at_srcT ?_ | refine at_comp ?_ | refine at_end ?_ | refine at_acomp ?_ | refine at_set ?_)); (first | (with_reducible first | ((with_reducible show wpAny _ _ (binaryOp Operator.Mod (Value.int _ _) (Value.int _ _)) _ _ _); (refine mod_int' (by decide) ?_); try dsimp only)) | (((with_reducible refine at_sub ?_); (with_reducible rename News _ _ _ _ => N9); first | ((with_reducible show wpAny _ _ (subscriptTail _ _ (Value.ref (rr _ _ _ _ _)) (Value.int _ _)) _ _ _); (with_reducible rename Upd4 _ _ _ _ _ _ _ _ _ _ _ => U9); (refine room_cell N9 (by k_mem) (by k_mem) (by k_mem) (by k_mem) (by with_reducible assumption) (by with_reducible assumption) (by with_reducible assumption) (by with_reducible assumption) U9.2.1 U9.2.2.1 U9.2.2.2.1 U9.2.2.2.2 (by assumption) (by assumption) (by assumption) (by assumption) ?_ (by with_unfolding_all rfl)); intro _) | ((with_unfolding_all refine text_item N9 (by k_mem) (by assumption) (by assumption) ?_ (by with_unfolding_all rfl)); intro _) | (with_unfolding_all refine room_row N9 (by k_mem) (by assumption) (by assumption) ?_ (by with_unfolding_all rfl))); try dsimp only) | (((with_reducible refine at_strs ?_); (with_reducible rename Fr _ _ _ _ => F'); (with_reducible rename News _ _ _ _ => N'); first | ((with_reducible show wpAny _ _ (subscriptTail _ (PySem.Expr.Slice none (some _) none _) _ _) _ _ _); (refine slice_tk (s := ⟨_, _, _, _, _⟩) F' N' (by assumption) (by assumption) (by assumption) ?_); intro _ _ _ _ _ _) | ((refine slice_dp (s := ⟨_, _, _, _, _⟩) F' N' (by assumption) (by assumption) (by assumption) ?_); intro _ _ _ _ _ _)); try dsimp only) | (((with_reducible refine at_bin ?_); first | ((with_reducible show wpAny _ _ (binaryOp _ (Value.str _ _) (Value.str _ _)) _ _ _); (refine add_ll (by assumption) (by assumption) (by decide) ?_); intro _ _ _) | ((refine mul_y (by assumption) (by assumption) ?_); intro _ _ _)); try dsimp only) | ((with_reducible refine abs_st ?_); intro _ _; walk1; try dsimp only) | ((with_reducible refine use_post (by assumption) ?_); try dsimp only) | (k_unfold; (try dsimp only)) | (k_end; wrow_close) | (walk1; try dsimp only) | (dsimp only; walk1) | (leave1; walk_say "STEP leave1"; try dsimp only) | fail "no step")))
    rename Fr _ _ _ _ => lF
    rename News _ _ _ _ => lN
    rename LCg.Off1 _ _ => o1
    obtain ⟨u0, lF⟩ := fr_abs lF [("apart", .ref _), ("texts", .ref T)] (by kst_all)
    refine ⟨_, _, _, _, _, _, _, _, _, _, _, _, _, _, _, _, _, ?i, ?d, ?e, ?t, lF, kst_newsOf lN (by
      intro p hp
      rcases List.mem_cons.mp hp with rfl | hp
      · repeat (first | exact List.Mem.head _ | apply List.Mem.tail)
      rcases List.mem_cons.mp hp with rfl | hp
      · repeat (first | exact List.Mem.head _ | apply List.Mem.tail)
      rcases List.mem_cons.mp hp with rfl | hp
      · repeat (first | exact List.Mem.head _ | apply List.Mem.tail)
      rcases List.mem_cons.mp hp with rfl | hp
      · repeat (first | exact List.Mem.head _ | apply List.Mem.tail)
      rcases List.mem_cons.mp hp with rfl | hp
      · repeat (first | exact List.Mem.head _ | apply List.Mem.tail)
      rcases List.mem_cons.mp hp with rfl | hp
      · repeat (first | exact List.Mem.head _ | apply List.Mem.tail)
      rcases List.mem_cons.mp hp with rfl | hp
      · repeat (first | exact List.Mem.head _ | apply List.Mem.tail)
      rcases List.mem_cons.mp hp with rfl | hp
      · repeat (first | exact List.Mem.head _ | apply List.Mem.tail)
      rcases List.mem_cons.mp hp with rfl | hp
      · repeat (first | exact List.Mem.head _ | apply List.Mem.tail)
      nomatch hp)⟩
    case i => (refine ⟨?_, ?_, ?_, ?_⟩; all_goals assumption)
    all_goals clear lF lN
    case d => (refine ⟨?_, ?_, ?_, ?_, ?_, ?_⟩; all_goals first | (refine Nat.ne_of_lt ?_; omega) | (refine Nat.ne_of_gt ?_; omega))
    case e =>
      exact ⟨Ne.symm o1.2.2.2.1, Ne.symm o1.2.2.1, Ne.symm o1.2.1, Ne.symm o1.1⟩
    case t =>
      have q := of_off1 o1
      intro p hp
      refine ⟨?_, ?_, ?_, ?_, q p (by repeat (first | exact hp | apply List.Mem.tail))⟩
      all_goals clear q
      all_goals (simp only [List.mem_cons, List.not_mem_nil, or_false] at hp; rcases hp with rfl | rfl | rfl | rfl)
      all_goals (dsimp only; refine Nat.ne_of_lt ?_; omega)
  case go =>
    clear lF lN
    intro r0 r1 r2 r3 R v0 v1 v2 v3 n0 n1 n2 n3 nR h' tk' u hi0 hd0 hR0 hO lF lN
    dsimp only [kstB] at lF
    have z01 := hd0.1
    have z02 := hd0.2.1
    have z03 := hd0.2.2.1
    have z12 := hd0.2.2.2.1
    have z13 := hd0.2.2.2.2.1
    have z23 := hd0.2.2.2.2.2
    clear hd0
    have zR0 := hR0.1
    have zR1 := hR0.2.1
    have zR2 := hR0.2.2.1
    have zR3 := hR0.2.2.2
    clear hR0
    (repeat' ((fail_if_success (with_reducible first | refine at_while ?_ | refine at_for ?_ | refine at_iter ?_ | refine at_call ?_ | refine at_type ?_ | refine at_ksw ?_ | refine at_wh ?_ | refine at_src ?_ | refine at_srcT ?_ | refine at_comp ?_ | refine at_end ?_ | refine at_acomp ?_ | refine at_set ?_)); (first | (with_reducible first | ((with_reducible show wpAny _ _ (binaryOp Operator.Mod (Value.int _ _) (Value.int _ _)) _ _ _); (refine mod_int' (by decide) ?_); try dsimp only)) | (((with_reducible refine at_sub ?_); (with_reducible rename News _ _ _ _ => N9); first | ((with_reducible show wpAny _ _ (subscriptTail _ _ (Value.ref (rr _ _ _ _ _)) (Value.int _ _)) _ _ _); (with_reducible rename Upd4 _ _ _ _ _ _ _ _ _ _ _ => U9); (refine room_cell N9 (by k_mem) (by k_mem) (by k_mem) (by k_mem) (by with_reducible assumption) (by with_reducible assumption) (by with_reducible assumption) (by with_reducible assumption) U9.2.1 U9.2.2.1 U9.2.2.2.1 U9.2.2.2.2 (by assumption) (by assumption) (by assumption) (by assumption) ?_ (by with_unfolding_all rfl)); intro _) | ((with_unfolding_all refine text_item N9 (by k_mem) (by assumption) (by assumption) ?_ (by with_unfolding_all rfl)); intro _) | (with_unfolding_all refine room_row N9 (by k_mem) (by assumption) (by assumption) ?_ (by with_unfolding_all rfl))); try dsimp only) | (((with_reducible refine at_strs ?_); (with_reducible rename Fr _ _ _ _ => F'); (with_reducible rename News _ _ _ _ => N'); first | ((with_reducible show wpAny _ _ (subscriptTail _ (PySem.Expr.Slice none (some _) none _) _ _) _ _ _); (refine slice_tk (s := ⟨_, _, _, _, _⟩) F' N' (by assumption) (by assumption) (by assumption) ?_); intro _ _ _ _ _ _) | ((refine slice_dp (s := ⟨_, _, _, _, _⟩) F' N' (by assumption) (by assumption) (by assumption) ?_); intro _ _ _ _ _ _)); try dsimp only) | (((with_reducible refine at_bin ?_); first | ((with_reducible show wpAny _ _ (binaryOp _ (Value.str _ _) (Value.str _ _)) _ _ _); (refine add_ll (by assumption) (by assumption) (by decide) ?_); intro _ _ _) | ((refine mul_y (by assumption) (by assumption) ?_); intro _ _ _)); try dsimp only) | ((with_reducible refine abs_st ?_); intro _ _; walk1; try dsimp only) | ((with_reducible refine use_post (by assumption) ?_); try dsimp only) | (k_unfold; (try dsimp only)) | (k_end; wrow_close) | (walk1; try dsimp only) | (dsimp only; walk1) | (leave1; walk_say "STEP leave1"; try dsimp only) | fail "no step")))
    (rename Fr _ _ _ _ => lF'; (with_unfolding_all refine' For_turns lF' ?_); k_whole)
    (repeat' ((fail_if_success (with_reducible first | refine at_while ?_ | refine at_for ?_ | refine at_iter ?_ | refine at_call ?_ | refine at_type ?_ | refine at_ksw ?_ | refine at_wh ?_ | refine at_src ?_ | refine at_srcT ?_ | refine at_comp ?_ | refine at_end ?_ | refine at_acomp ?_ | refine at_set ?_)); (first | (with_reducible first | ((with_reducible show wpAny _ _ (binaryOp Operator.Mod (Value.int _ _) (Value.int _ _)) _ _ _); (refine mod_int' (by decide) ?_); try dsimp only)) | (((with_reducible refine at_sub ?_); (with_reducible rename News _ _ _ _ => N9); first | ((with_reducible show wpAny _ _ (subscriptTail _ _ (Value.ref (rr _ _ _ _ _)) (Value.int _ _)) _ _ _); (with_reducible rename Upd4 _ _ _ _ _ _ _ _ _ _ _ => U9); (refine room_cell N9 (by k_mem) (by k_mem) (by k_mem) (by k_mem) (by with_reducible assumption) (by with_reducible assumption) (by with_reducible assumption) (by with_reducible assumption) U9.2.1 U9.2.2.1 U9.2.2.2.1 U9.2.2.2.2 (by assumption) (by assumption) (by assumption) (by assumption) ?_ (by with_unfolding_all rfl)); intro _) | ((with_unfolding_all refine text_item N9 (by k_mem) (by assumption) (by assumption) ?_ (by with_unfolding_all rfl)); intro _) | (with_unfolding_all refine room_row N9 (by k_mem) (by assumption) (by assumption) ?_ (by with_unfolding_all rfl))); try dsimp only) | (((with_reducible refine at_strs ?_); (with_reducible rename Fr _ _ _ _ => F'); (with_reducible rename News _ _ _ _ => N'); first | ((with_reducible show wpAny _ _ (subscriptTail _ (PySem.Expr.Slice none (some _) none _) _ _) _ _ _); (refine slice_tk (s := ⟨_, _, _, _, _⟩) F' N' (by assumption) (by assumption) (by assumption) ?_); intro _ _ _ _ _ _) | ((refine slice_dp (s := ⟨_, _, _, _, _⟩) F' N' (by assumption) (by assumption) (by assumption) ?_); intro _ _ _ _ _ _)); try dsimp only) | (((with_reducible refine at_bin ?_); first | ((with_reducible show wpAny _ _ (binaryOp _ (Value.str _ _) (Value.str _ _)) _ _ _); (refine add_ll (by assumption) (by assumption) (by decide) ?_); intro _ _ _) | ((refine mul_y (by assumption) (by assumption) ?_); intro _ _ _)); try dsimp only) | ((with_reducible refine abs_st ?_); intro _ _; walk1; try dsimp only) | ((with_reducible refine use_post (by assumption) ?_); try dsimp only) | (k_unfold; (try dsimp only)) | (k_end; wrow_close) | (walk1; try dsimp only) | (dsimp only; walk1) | (leave1; walk_say "STEP leave1"; try dsimp only) | fail "no step")))
    rename Fr _ _ _ _ => lF
    rename News _ _ _ _ => lN
    rename IsRange _ _ _ _ _ _ _ _ => rg
    with_unfolding_all refine' rg_turns (σ := AS) (fun c => [(R, listOf [Value.ref r0, Value.ref r1, Value.ref r2, Value.ref r3].toArray nR), (r0, listOf c.v0.toArray n0), (r1, listOf c.v1.toArray n1), (r2, listOf c.v2.toArray n2), (r3, listOf c.v3.toArray n3), (T, listOf [Value.str s0 t0, Value.str s1 t1, Value.str s2 t2, Value.str s3 t3].toArray nT), (M1, oM1), (M2, oM2), (M3, oM3)]) (fun c => []) (fun c => True) ["one", "other", "place", "first", "second"] (fun i c => IntsAre c.v0 (xr D i 0 0) ∧ IntsAre c.v1 (xr D i 0 1) ∧ IntsAre c.v2 (xr D i 0 2) ∧ IntsAre c.v3 (xr D i 0 3)) ⟨v0, v1, v2, v3⟩ rfl rg (small_one (by decide) (by decide) (by decide) (by decide)) (rangeSize_nat _ _) lF lN trivial ?hk ?hp ?turn ?done
    case hk => exact fun _ h => nomatch h
    case hp => (rw [xr_00, xr_00, xr_00, xr_00]; exact hi0)
    case turn =>
      clear lF lN rg hi0
      rintro ⟨v0, v1, v2, v3⟩ i t u h tk I oI hi _ hP hI lF lN
      dsimp only [kstB] at lF hP lN
      (repeat' ((fail_if_success (with_reducible first | refine at_while ?_ | refine at_for ?_ | refine at_iter ?_ | refine at_call ?_ | refine at_type ?_ | refine at_ksw ?_ | refine at_wh ?_ | refine at_src ?_ | refine at_srcT ?_ | refine at_comp ?_ | refine at_end ?_ | refine at_acomp ?_ | refine at_set ?_)); (first | (with_reducible first | ((with_reducible show wpAny _ _ (binaryOp Operator.Mod (Value.int _ _) (Value.int _ _)) _ _ _); (refine mod_int' (by decide) ?_); try dsimp only)) | (((with_reducible refine at_sub ?_); (with_reducible rename News _ _ _ _ => N9); first | ((with_reducible show wpAny _ _ (subscriptTail _ _ (Value.ref (rr _ _ _ _ _)) (Value.int _ _)) _ _ _); (with_reducible rename Upd4 _ _ _ _ _ _ _ _ _ _ _ => U9); (refine room_cell N9 (by k_mem) (by k_mem) (by k_mem) (by k_mem) (by with_reducible assumption) (by with_reducible assumption) (by with_reducible assumption) (by with_reducible assumption) U9.2.1 U9.2.2.1 U9.2.2.2.1 U9.2.2.2.2 (by assumption) (by assumption) (by assumption) (by assumption) ?_ (by with_unfolding_all rfl)); intro _) | ((with_unfolding_all refine text_item N9 (by k_mem) (by assumption) (by assumption) ?_ (by with_unfolding_all rfl)); intro _) | (with_unfolding_all refine room_row N9 (by k_mem) (by assumption) (by assumption) ?_ (by with_unfolding_all rfl))); try dsimp only) | (((with_reducible refine at_strs ?_); (with_reducible rename Fr _ _ _ _ => F'); (with_reducible rename News _ _ _ _ => N'); first | ((with_reducible show wpAny _ _ (subscriptTail _ (PySem.Expr.Slice none (some _) none _) _ _) _ _ _); (refine slice_tk (s := ⟨_, _, _, _, _⟩) F' N' (by assumption) (by assumption) (by assumption) ?_); intro _ _ _ _ _ _) | ((refine slice_dp (s := ⟨_, _, _, _, _⟩) F' N' (by assumption) (by assumption) (by assumption) ?_); intro _ _ _ _ _ _)); try dsimp only) | (((with_reducible refine at_bin ?_); first | ((with_reducible show wpAny _ _ (binaryOp _ (Value.str _ _) (Value.str _ _)) _ _ _); (refine add_ll (by assumption) (by assumption) (by decide) ?_); intro _ _ _) | ((refine mul_y (by assumption) (by assumption) ?_); intro _ _ _)); try dsimp only) | ((with_reducible refine abs_st ?_); intro _ _; walk1; try dsimp only) | ((with_reducible refine use_post (by assumption) ?_); try dsimp only) | (k_unfold; (try dsimp only)) | (k_end; wrow_close) | (walk1; try dsimp only) | (dsimp only; walk1) | (leave1; walk_say "STEP leave1"; try dsimp only) | fail "no step")))
      (rename Fr _ _ _ _ => lF'; (with_unfolding_all refine' For_turns lF' ?_); k_whole)
      (repeat' ((fail_if_success (with_reducible first | refine at_while ?_ | refine at_for ?_ | refine at_iter ?_ | refine at_call ?_ | refine at_type ?_ | refine at_ksw ?_ | refine at_wh ?_ | refine at_src ?_ | refine at_srcT ?_ | refine at_comp ?_ | refine at_end ?_ | refine at_acomp ?_ | refine at_set ?_)); (first | (with_reducible first | ((with_reducible show wpAny _ _ (binaryOp Operator.Mod (Value.int _ _) (Value.int _ _)) _ _ _); (refine mod_int' (by decide) ?_); try dsimp only)) | (((with_reducible refine at_sub ?_); (with_reducible rename News _ _ _ _ => N9); first | ((with_reducible show wpAny _ _ (subscriptTail _ _ (Value.ref (rr _ _ _ _ _)) (Value.int _ _)) _ _ _); (with_reducible rename Upd4 _ _ _ _ _ _ _ _ _ _ _ => U9); (refine room_cell N9 (by k_mem) (by k_mem) (by k_mem) (by k_mem) (by with_reducible assumption) (by with_reducible assumption) (by with_reducible assumption) (by with_reducible assumption) U9.2.1 U9.2.2.1 U9.2.2.2.1 U9.2.2.2.2 (by assumption) (by assumption) (by assumption) (by assumption) ?_ (by with_unfolding_all rfl)); intro _) | ((with_unfolding_all refine text_item N9 (by k_mem) (by assumption) (by assumption) ?_ (by with_unfolding_all rfl)); intro _) | (with_unfolding_all refine room_row N9 (by k_mem) (by assumption) (by assumption) ?_ (by with_unfolding_all rfl))); try dsimp only) | (((with_reducible refine at_strs ?_); (with_reducible rename Fr _ _ _ _ => F'); (with_reducible rename News _ _ _ _ => N'); first | ((with_reducible show wpAny _ _ (subscriptTail _ (PySem.Expr.Slice none (some _) none _) _ _) _ _ _); (refine slice_tk (s := ⟨_, _, _, _, _⟩) F' N' (by assumption) (by assumption) (by assumption) ?_); intro _ _ _ _ _ _) | ((refine slice_dp (s := ⟨_, _, _, _, _⟩) F' N' (by assumption) (by assumption) (by assumption) ?_); intro _ _ _ _ _ _)); try dsimp only) | (((with_reducible refine at_bin ?_); first | ((with_reducible show wpAny _ _ (binaryOp _ (Value.str _ _) (Value.str _ _)) _ _ _); (refine add_ll (by assumption) (by assumption) (by decide) ?_); intro _ _ _) | ((refine mul_y (by assumption) (by assumption) ?_); intro _ _ _)); try dsimp only) | ((with_reducible refine abs_st ?_); intro _ _; walk1; try dsimp only) | ((with_reducible refine use_post (by assumption) ?_); try dsimp only) | (k_unfold; (try dsimp only)) | (k_end; wrow_close) | (walk1; try dsimp only) | (dsimp only; walk1) | (leave1; walk_say "STEP leave1"; try dsimp only) | fail "no step")))
      rename Fr _ _ _ _ => lF
      rename News _ _ _ _ => lN
      rename IsRange _ _ _ _ _ _ _ _ => rg
      with_unfolding_all refine' rg_turns (σ := AS) (fun c => [(I, oI), (R, listOf [Value.ref r0, Value.ref r1, Value.ref r2, Value.ref r3].toArray nR), (r0, listOf c.v0.toArray n0), (r1, listOf c.v1.toArray n1), (r2, listOf c.v2.toArray n2), (r3, listOf c.v3.toArray n3), (T, listOf [Value.str s0 t0, Value.str s1 t1, Value.str s2 t2, Value.str s3 t3].toArray nT), (M1, oM1), (M2, oM2), (M3, oM3)]) (fun c => []) (fun c => True) ["other", "place", "first", "second"] (fun j c => IntsAre c.v0 (xr D i j 0) ∧ IntsAre c.v1 (xr D i j 1) ∧ IntsAre c.v2 (xr D i j 2) ∧ IntsAre c.v3 (xr D i j 3)) ⟨v0, v1, v2, v3⟩ rfl rg (by (repeat ((with_reducible rename _ ≠ _ => z9); clear z9)); exact small_one (by omega) (by omega) (by omega) (by omega)) (rangeSize_nat _ _) lF lN trivial ?hk2 ?hp2 ?turn2 ?done2
      case hk2 => exact fun _ h => nomatch h
      case hp2 => exact hP
      case turn2 =>
        clear lF lN rg hP
        rintro ⟨v0, v1, v2, v3⟩ j t5 u5 h5 tk5 I2 oI2 hj _ hP hI2 lF lN
        have i0 := hP.1
        have i1 := hP.2.1
        have i2 := hP.2.2.1
        have i3 := hP.2.2.2
        clear hP
        dsimp only [kstB] at lF lN i0 i1 i2 i3
        have b0 : (0 ≤ 0 + (i : Int) ∧ 0 + (i : Int) < 4) ∧ (0 ≤ 0 + (j : Int) ∧ 0 + (j : Int) < 4) ∧ j < i ∧ i < 4 := by
          clear lF lN
          (repeat ((with_reducible rename _ ≠ _ => z9); clear z9))
          omega
        have c0 := b0.1.1
        have c1 := b0.1.2
        have c2 := b0.2.1.1
        have c3 := b0.2.1.2
        have c4 := b0.2.2.1
        have c5 := b0.2.2.2
        clear b0
        have b1 : (0 ≤ 0 + (i : Int) + (0 + (j : Int)) ∧ 0 + (i : Int) + (0 + (j : Int)) ≤ 7) ∧ 0 ≤ 1 - (0 + (i : Int) + (0 + (j : Int))).fmod 2 ∧ 1 - (0 + (i : Int) + (0 + (j : Int))).fmod 2 ≤ 1 := by
          have e1 := fmod_lo (0 + (i : Int) + (0 + (j : Int))) (by decide : (0 : Int) < 2)
          have e2 := fmod_hi (0 + (i : Int) + (0 + (j : Int))) (by decide : (0 : Int) < 2)
          clear lF lN
          (repeat ((with_reducible rename _ ≠ _ => z9); clear z9))
          omega
        have c6 := b1.1.1
        have c7 := b1.1.2
        have c8 := b1.2.1
        have c9 := b1.2.2
        clear b1
        have l1 := tt_len g0 g1 g2 g3 (0 + (i : Int))
        have l2 := tt_len g0 g1 g2 g3 (0 + (j : Int))
        have lZ : LenLe "Z" 1 := by unfold LenLe; decide
        (repeat' ((fail_if_success (with_reducible first | refine at_while ?_ | refine at_for ?_ | refine at_iter ?_ | refine at_call ?_ | refine at_type ?_ | refine at_ksw ?_ | refine at_wh ?_ | refine at_src ?_ | refine at_srcT ?_ | refine at_comp ?_ | refine at_end ?_ | refine at_acomp ?_ | refine at_set ?_)); (first | (with_reducible first | ((with_reducible show wpAny _ _ (binaryOp Operator.Mod (Value.int _ _) (Value.int _ _)) _ _ _); (refine mod_int' (by decide) ?_); try dsimp only)) | (((with_reducible refine at_sub ?_); (with_reducible rename News _ _ _ _ => N9); first | ((with_reducible show wpAny _ _ (subscriptTail _ _ (Value.ref (rr _ _ _ _ _)) (Value.int _ _)) _ _ _); (with_reducible rename Upd4 _ _ _ _ _ _ _ _ _ _ _ => U9); (refine room_cell N9 (by k_mem) (by k_mem) (by k_mem) (by k_mem) (by with_reducible assumption) (by with_reducible assumption) (by with_reducible assumption) (by with_reducible assumption) U9.2.1 U9.2.2.1 U9.2.2.2.1 U9.2.2.2.2 (by assumption) (by assumption) (by assumption) (by assumption) ?_ (by with_unfolding_all rfl)); intro _) | ((with_unfolding_all refine text_item N9 (by k_mem) (by assumption) (by assumption) ?_ (by with_unfolding_all rfl)); intro _) | (with_unfolding_all refine room_row N9 (by k_mem) (by assumption) (by assumption) ?_ (by with_unfolding_all rfl))); try dsimp only) | (((with_reducible refine at_strs ?_); (with_reducible rename Fr _ _ _ _ => F'); (with_reducible rename News _ _ _ _ => N'); first | ((with_reducible show wpAny _ _ (subscriptTail _ (PySem.Expr.Slice none (some _) none _) _ _) _ _ _); (refine slice_tk (s := ⟨_, _, _, _, _⟩) F' N' (by assumption) (by assumption) (by assumption) ?_); intro _ _ _ _ _ _) | ((refine slice_dp (s := ⟨_, _, _, _, _⟩) F' N' (by assumption) (by assumption) (by assumption) ?_); intro _ _ _ _ _ _)); try dsimp only) | (((with_reducible refine at_bin ?_); first | ((with_reducible show wpAny _ _ (binaryOp _ (Value.str _ _) (Value.str _ _)) _ _ _); (refine add_ll (by assumption) (by assumption) (by decide) ?_); intro _ _ _) | ((refine mul_y (by assumption) (by assumption) ?_); intro _ _ _)); try dsimp only) | ((with_reducible refine abs_st ?_); intro _ _; walk1; try dsimp only) | ((with_reducible refine use_post (by assumption) ?_); try dsimp only) | (k_unfold; (try dsimp only)) | (k_end; wrow_close) | (walk1; try dsimp only) | (dsimp only; walk1) | (leave1; walk_say "STEP leave1"; try dsimp only) | fail "no step")))
        rename Fr _ _ _ _ => lF
        rename News _ _ _ _ => lN
        obtain ⟨hv, hx8, hy8, hxy, hlen⟩ := H i j c4 c5
        refine' says_use (says_lev _ _ _ (D i j + 2) _ _ _ _ hv hx8 hy8 hxy hlen) ?k1 ?k2 ?k3 lN ?k5 ?kK ?kd ?ku ?_
        case k1 => k_asm
        case k2 => k_asm
        case k3 => k_asm
        case k5 => k_asm
        case kK => rfl
        case kd => (dsimp only [Around.deeper]; omega)
        case ku => (dsimp only [Around.deeper]; omega)
        clear lF lN hv hx8 hy8 hxy hlen
        intro r9 tl9 h9 tk9 F9 N9 hl9 hR9
        obtain ⟨e9, t9, e8⟩ := hR9
        subst e9
        subst e8
        clear hl9
        simp only [List.nil_append] at N9
        dsimp only
        have hne : ∀ p ∈ [(I2, oI2), (I, oI), (R, listOf [Value.ref r0, Value.ref r1, Value.ref r2, Value.ref r3].toArray nR), (T, listOf [Value.str s0 t0, Value.str s1 t1, Value.str s2 t2, Value.str s3 t3].toArray nT), (M1, oM1), (M2, oM2), (M3, oM3)], p.1 ≠ r0 ∧ p.1 ≠ r1 ∧ p.1 ≠ r2 ∧ p.1 ≠ r3 := by
          clear N9 F9
          intro p hp
          rcases List.mem_cons.mp hp with rfl | hp
          · exact ⟨Ne.symm (hI2 (r0, _) (.tail _ (.tail _ (.head _)))), Ne.symm (hI2 (r1, _) (.tail _ (.tail _ (.tail _ (.head _))))), Ne.symm (hI2 (r2, _) (.tail _ (.tail _ (.tail _ (.tail _ (.head _)))))), Ne.symm (hI2 (r3, _) (.tail _ (.tail _ (.tail _ (.tail _ (.tail _ (.head _)))))))⟩
          rcases List.mem_cons.mp hp with rfl | hp
          · exact ⟨Ne.symm (hI (r0, _) (.tail _ (.head _))), Ne.symm (hI (r1, _) (.tail _ (.tail _ (.head _)))), Ne.symm (hI (r2, _) (.tail _ (.tail _ (.tail _ (.head _))))), Ne.symm (hI (r3, _) (.tail _ (.tail _ (.tail _ (.tail _ (.head _))))))⟩
          rcases List.mem_cons.mp hp with rfl | hp
          · exact ⟨zR0, zR1, zR2, zR3⟩
          exact ⟨(hO p hp).1, (hO p hp).2.1, (hO p hp).2.2.1, (hO p hp).2.2.2.1⟩
        (repeat' ((fail_if_success (with_reducible first | refine at_while ?_ | refine at_for ?_ | refine at_iter ?_ | refine at_call ?_ | refine at_type ?_ | refine at_ksw ?_ | refine at_wh ?_ | refine at_src ?_ | refine at_srcT ?_ | refine at_comp ?_ | refine at_end ?_ | refine at_acomp ?_ | refine at_set ?_)); (first | (with_reducible first | ((with_reducible show wpAny _ _ (binaryOp Operator.Mod (Value.int _ _) (Value.int _ _)) _ _ _); (refine mod_int' (by decide) ?_); try dsimp only)) | (((with_reducible refine at_sub ?_); (with_reducible rename News _ _ _ _ => N9); first | ((with_reducible show wpAny _ _ (subscriptTail _ _ (Value.ref (rr _ _ _ _ _)) (Value.int _ _)) _ _ _); (with_reducible rename Upd4 _ _ _ _ _ _ _ _ _ _ _ => U9); (refine room_cell N9 (by k_mem) (by k_mem) (by k_mem) (by k_mem) (by with_reducible assumption) (by with_reducible assumption) (by with_reducible assumption) (by with_reducible assumption) U9.2.1 U9.2.2.1 U9.2.2.2.1 U9.2.2.2.2 (by assumption) (by assumption) (by assumption) (by assumption) ?_ (by with_unfolding_all rfl)); intro _) | ((with_unfolding_all refine text_item N9 (by k_mem) (by assumption) (by assumption) ?_ (by with_unfolding_all rfl)); intro _) | (with_unfolding_all refine room_row N9 (by k_mem) (by assumption) (by assumption) ?_ (by with_unfolding_all rfl))); try dsimp only) | (((with_reducible refine at_strs ?_); (with_reducible rename Fr _ _ _ _ => F'); (with_reducible rename News _ _ _ _ => N'); first | ((with_reducible show wpAny _ _ (subscriptTail _ (PySem.Expr.Slice none (some _) none _) _ _) _ _ _); (refine slice_tk (s := ⟨_, _, _, _, _⟩) F' N' (by assumption) (by assumption) (by assumption) ?_); intro _ _ _ _ _ _) | ((refine slice_dp (s := ⟨_, _, _, _, _⟩) F' N' (by assumption) (by assumption) (by assumption) ?_); intro _ _ _ _ _ _)); try dsimp only) | (((with_reducible refine at_bin ?_); first | ((with_reducible show wpAny _ _ (binaryOp _ (Value.str _ _) (Value.str _ _)) _ _ _); (refine add_ll (by assumption) (by assumption) (by decide) ?_); intro _ _ _) | ((refine mul_y (by assumption) (by assumption) ?_); intro _ _ _)); try dsimp only) | ((with_reducible refine abs_st ?_); intro _ _; walk1; try dsimp only) | ((with_reducible refine use_post (by assumption) ?_); try dsimp only) | (k_unfold; (try dsimp only)) | (k_end; wrow_close) | (walk1; try dsimp only) | (dsimp only; walk1) | (leave1; walk_say "STEP leave1"; try dsimp only) | fail "no step")))
        rename Fr _ _ _ _ => lF
        rename News _ _ _ _ => lN
        rw [Int.add_sub_cancel]
        refine rr_store (n0 := n0) (n1 := n1) (n2 := n2) (n3 := n3) (rest := [(I2, oI2), (I, oI), (R, listOf [Value.ref r0, Value.ref r1, Value.ref r2, Value.ref r3].toArray nR), (T, listOf [Value.str s0 t0, Value.str s1 t1, Value.str s2 t2, Value.str s3 t3].toArray nT), (M1, oM1), (M2, oM2), (M3, oM3)]) lF (kst_newsOf lN ?pm) hne z01 z02 z03 z12 z13 z23 i0 i1 i2 i3 rfl rfl rfl rfl c0 c1 c2 c3 ?_
        case pm => exact fun p hp => mv [_, _, _] [_, _, _, _] _ hp
        clear lF lN
        intro h' w0 w1 w2 w3 y0 y1 y2 y3 lF lN i0' i1' i2' i3' hU
        dsimp only
        (repeat' ((fail_if_success (with_reducible first | refine at_while ?_ | refine at_for ?_ | refine at_iter ?_ | refine at_call ?_ | refine at_type ?_ | refine at_ksw ?_ | refine at_wh ?_ | refine at_src ?_ | refine at_srcT ?_ | refine at_comp ?_ | refine at_end ?_ | refine at_acomp ?_ | refine at_set ?_)); (first | (with_reducible first | ((with_reducible show wpAny _ _ (binaryOp Operator.Mod (Value.int _ _) (Value.int _ _)) _ _ _); (refine mod_int' (by decide) ?_); try dsimp only)) | (((with_reducible refine at_sub ?_); (with_reducible rename News _ _ _ _ => N9); first | ((with_reducible show wpAny _ _ (subscriptTail _ _ (Value.ref (rr _ _ _ _ _)) (Value.int _ _)) _ _ _); (with_reducible rename Upd4 _ _ _ _ _ _ _ _ _ _ _ => U9); (refine room_cell N9 (by k_mem) (by k_mem) (by k_mem) (by k_mem) (by with_reducible assumption) (by with_reducible assumption) (by with_reducible assumption) (by with_reducible assumption) U9.2.1 U9.2.2.1 U9.2.2.2.1 U9.2.2.2.2 (by assumption) (by assumption) (by assumption) (by assumption) ?_ (by with_unfolding_all rfl)); intro _) | ((with_unfolding_all refine text_item N9 (by k_mem) (by assumption) (by assumption) ?_ (by with_unfolding_all rfl)); intro _) | (with_unfolding_all refine room_row N9 (by k_mem) (by assumption) (by assumption) ?_ (by with_unfolding_all rfl))); try dsimp only) | (((with_reducible refine at_strs ?_); (with_reducible rename Fr _ _ _ _ => F'); (with_reducible rename News _ _ _ _ => N'); first | ((with_reducible show wpAny _ _ (subscriptTail _ (PySem.Expr.Slice none (some _) none _) _ _) _ _ _); (refine slice_tk (s := ⟨_, _, _, _, _⟩) F' N' (by assumption) (by assumption) (by assumption) ?_); intro _ _ _ _ _ _) | ((refine slice_dp (s := ⟨_, _, _, _, _⟩) F' N' (by assumption) (by assumption) (by assumption) ?_); intro _ _ _ _ _ _)); try dsimp only) | (((with_reducible refine at_bin ?_); first | ((with_reducible show wpAny _ _ (binaryOp _ (Value.str _ _) (Value.str _ _)) _ _ _); (refine add_ll (by assumption) (by assumption) (by decide) ?_); intro _ _ _) | ((refine mul_y (by assumption) (by assumption) ?_); intro _ _ _)); try dsimp only) | ((with_reducible refine abs_st ?_); intro _ _; walk1; try dsimp only) | ((with_reducible refine use_post (by assumption) ?_); try dsimp only) | (k_unfold; (try dsimp only)) | (k_end; wrow_close) | (walk1; try dsimp only) | (dsimp only; walk1) | (leave1; walk_say "STEP leave1"; try dsimp only) | fail "no step")))
        rename Fr _ _ _ _ => lF
        rename News _ _ _ _ => lN
        rename Upd4 _ _ _ _ _ _ _ _ _ _ _ => hU
        rw [upd4_dd rfl rfl rfl rfl c0 c1 c2 c3 hU]
        refine rr_store (n0 := n0) (n1 := n1) (n2 := n2) (n3 := n3) (rest := [(I2, oI2), (I, oI), (R, listOf [Value.ref r0, Value.ref r1, Value.ref r2, Value.ref r3].toArray nR), (T, listOf [Value.str s0 t0, Value.str s1 t1, Value.str s2 t2, Value.str s3 t3].toArray nT), (M1, oM1), (M2, oM2), (M3, oM3)]) lF lN hne z01 z02 z03 z12 z13 z23 i0' i1' i2' i3' hU.2.1 hU.2.2.1 hU.2.2.2.1 hU.2.2.2.2 c2 c3 c0 c1 ?_
        clear lF lN
        intro h' p0 p1 p2 p3 q0 q1 q2 q3 lF lN j0 j1 j2 j3 hU2
        dsimp only
        obtain ⟨e0, e1, e2, e3⟩ := xr_upd D c4 c5 hU hU2
        subst e0 e1 e2 e3
        (repeat' ((fail_if_success (with_reducible first | refine at_while ?_ | refine at_for ?_ | refine at_iter ?_ | refine at_call ?_ | refine at_type ?_ | refine at_ksw ?_ | refine at_wh ?_ | refine at_src ?_ | refine at_srcT ?_ | refine at_comp ?_ | refine at_end ?_ | refine at_acomp ?_ | refine at_set ?_)); (first | (with_reducible first | ((with_reducible show wpAny _ _ (binaryOp Operator.Mod (Value.int _ _) (Value.int _ _)) _ _ _); (refine mod_int' (by decide) ?_); try dsimp only)) | (((with_reducible refine at_sub ?_); (with_reducible rename News _ _ _ _ => N9); first | ((with_reducible show wpAny _ _ (subscriptTail _ _ (Value.ref (rr _ _ _ _ _)) (Value.int _ _)) _ _ _); (with_reducible rename Upd4 _ _ _ _ _ _ _ _ _ _ _ => U9); (refine room_cell N9 (by k_mem) (by k_mem) (by k_mem) (by k_mem) (by with_reducible assumption) (by with_reducible assumption) (by with_reducible assumption) (by with_reducible assumption) U9.2.1 U9.2.2.1 U9.2.2.2.1 U9.2.2.2.2 (by assumption) (by assumption) (by assumption) (by assumption) ?_ (by with_unfolding_all rfl)); intro _) | ((with_unfolding_all refine text_item N9 (by k_mem) (by assumption) (by assumption) ?_ (by with_unfolding_all rfl)); intro _) | (with_unfolding_all refine room_row N9 (by k_mem) (by assumption) (by assumption) ?_ (by with_unfolding_all rfl))); try dsimp only) | (((with_reducible refine at_strs ?_); (with_reducible rename Fr _ _ _ _ => F'); (with_reducible rename News _ _ _ _ => N'); first | ((with_reducible show wpAny _ _ (subscriptTail _ (PySem.Expr.Slice none (some _) none _) _ _) _ _ _); (refine slice_tk (s := ⟨_, _, _, _, _⟩) F' N' (by assumption) (by assumption) (by assumption) ?_); intro _ _ _ _ _ _) | ((refine slice_dp (s := ⟨_, _, _, _, _⟩) F' N' (by assumption) (by assumption) (by assumption) ?_); intro _ _ _ _ _ _)); try dsimp only) | (((with_reducible refine at_bin ?_); first | ((with_reducible show wpAny _ _ (binaryOp _ (Value.str _ _) (Value.str _ _)) _ _ _); (refine add_ll (by assumption) (by assumption) (by decide) ?_); intro _ _ _) | ((refine mul_y (by assumption) (by assumption) ?_); intro _ _ _)); try dsimp only) | ((with_reducible refine abs_st ?_); intro _ _; walk1; try dsimp only) | ((with_reducible refine use_post (by assumption) ?_); try dsimp only) | (k_unfold; (try dsimp only)) | (k_end; wrow_close) | (walk1; try dsimp only) | (dsimp only; walk1) | (leave1; walk_say "STEP leave1"; try dsimp only) | fail "no step")))
        rename Fr _ _ _ _ => lF
        rename News _ _ _ _ => lN
        refine ⟨⟨p0, p1, p2, p3⟩, _, _, _, _, lF, lN, ?e1, ?e2, trivial, by kst_all, by ksw_same, ⟨j0, j1, j2, j3⟩⟩
        case e1 => exact fun p hp => mv [_, _, _, _] [_, _, _] _ hp
        case e2 => (have y := off1_of hI2; exact of_off1 y)
      case done2 =>
        clear lF lN rg hP
        rintro ⟨v0, v1, v2, v3⟩ u5 h5 tk5 _ hP lF lN
        have e : ((0 + (i : Int)) - 0).toNat = i := by clear lF lN hP; (repeat ((with_reducible rename _ ≠ _ => z9); clear z9)); omega
        rw [e, xr_next, xr_next, xr_next, xr_next] at hP
        dsimp only [kstB] at lF lN
        (repeat' ((fail_if_success (with_reducible first | refine at_while ?_ | refine at_for ?_ | refine at_iter ?_ | refine at_call ?_ | refine at_type ?_ | refine at_ksw ?_ | refine at_wh ?_ | refine at_src ?_ | refine at_srcT ?_ | refine at_comp ?_ | refine at_end ?_ | refine at_acomp ?_ | refine at_set ?_)); (first | (with_reducible first | ((with_reducible show wpAny _ _ (binaryOp Operator.Mod (Value.int _ _) (Value.int _ _)) _ _ _); (refine mod_int' (by decide) ?_); try dsimp only)) | (((with_reducible refine at_sub ?_); (with_reducible rename News _ _ _ _ => N9); first | ((with_reducible show wpAny _ _ (subscriptTail _ _ (Value.ref (rr _ _ _ _ _)) (Value.int _ _)) _ _ _); (with_reducible rename Upd4 _ _ _ _ _ _ _ _ _ _ _ => U9); (refine room_cell N9 (by k_mem) (by k_mem) (by k_mem) (by k_mem) (by with_reducible assumption) (by with_reducible assumption) (by with_reducible assumption) (by with_reducible assumption) U9.2.1 U9.2.2.1 U9.2.2.2.1 U9.2.2.2.2 (by assumption) (by assumption) (by assumption) (by assumption) ?_ (by with_unfolding_all rfl)); intro _) | ((with_unfolding_all refine text_item N9 (by k_mem) (by assumption) (by assumption) ?_ (by with_unfolding_all rfl)); intro _) | (with_unfolding_all refine room_row N9 (by k_mem) (by assumption) (by assumption) ?_ (by with_unfolding_all rfl))); try dsimp only) | (((with_reducible refine at_strs ?_); (with_reducible rename Fr _ _ _ _ => F'); (with_reducible rename News _ _ _ _ => N'); first | ((with_reducible show wpAny _ _ (subscriptTail _ (PySem.Expr.Slice none (some _) none _) _ _) _ _ _); (refine slice_tk (s := ⟨_, _, _, _, _⟩) F' N' (by assumption) (by assumption) (by assumption) ?_); intro _ _ _ _ _ _) | ((refine slice_dp (s := ⟨_, _, _, _, _⟩) F' N' (by assumption) (by assumption) (by assumption) ?_); intro _ _ _ _ _ _)); try dsimp only) | (((with_reducible refine at_bin ?_); first | ((with_reducible show wpAny _ _ (binaryOp _ (Value.str _ _) (Value.str _ _)) _ _ _); (refine add_ll (by assumption) (by assumption) (by decide) ?_); intro _ _ _) | ((refine mul_y (by assumption) (by assumption) ?_); intro _ _ _)); try dsimp only) | ((with_reducible refine abs_st ?_); intro _ _; walk1; try dsimp only) | ((with_reducible refine use_post (by assumption) ?_); try dsimp only) | (k_unfold; (try dsimp only)) | (k_end; wrow_close) | (walk1; try dsimp only) | (dsimp only; walk1) | (leave1; walk_say "STEP leave1"; try dsimp only) | fail "no step")))
        rename Fr _ _ _ _ => lF
        rename News _ _ _ _ => lN
        refine ⟨⟨v0, v1, v2, v3⟩, _, _, _, _, lF, lN, ?e4, ?e5, trivial, by kst_all, by ksw_same, hP⟩
        case e4 => (intro p hp; repeat (first | exact hp | apply List.Mem.tail))
        case e5 => (have y := off1_of hI; exact of_off1 y)
    case done =>
      clear lF lN rg
      rintro ⟨v0, v1, v2, v3⟩ u h tk _ hP lF lN
      dsimp only [kstB] at lF hP lN
      (repeat' ((fail_if_success (with_reducible first | refine at_while ?_ | refine at_for ?_ | refine at_iter ?_ | refine at_call ?_ | refine at_type ?_ | refine at_ksw ?_ | refine at_wh ?_ | refine at_src ?_ | refine at_srcT ?_ | refine at_comp ?_ | refine at_end ?_ | refine at_acomp ?_ | refine at_set ?_)); (first | (with_reducible first | ((with_reducible show wpAny _ _ (binaryOp Operator.Mod (Value.int _ _) (Value.int _ _)) _ _ _); (refine mod_int' (by decide) ?_); try dsimp only)) | (((with_reducible refine at_sub ?_); (with_reducible rename News _ _ _ _ => N9); first | ((with_reducible show wpAny _ _ (subscriptTail _ _ (Value.ref (rr _ _ _ _ _)) (Value.int _ _)) _ _ _); (with_reducible rename Upd4 _ _ _ _ _ _ _ _ _ _ _ => U9); (refine room_cell N9 (by k_mem) (by k_mem) (by k_mem) (by k_mem) (by with_reducible assumption) (by with_reducible assumption) (by with_reducible assumption) (by with_reducible assumption) U9.2.1 U9.2.2.1 U9.2.2.2.1 U9.2.2.2.2 (by assumption) (by assumption) (by assumption) (by assumption) ?_ (by with_unfolding_all rfl)); intro _) | ((with_unfolding_all refine text_item N9 (by k_mem) (by assumption) (by assumption) ?_ (by with_unfolding_all rfl)); intro _) | (with_unfolding_all refine room_row N9 (by k_mem) (by assumption) (by assumption) ?_ (by with_unfolding_all rfl))); try dsimp only) | (((with_reducible refine at_strs ?_); (with_reducible rename Fr _ _ _ _ => F'); (with_reducible rename News _ _ _ _ => N'); first | ((with_reducible show wpAny _ _ (subscriptTail _ (PySem.Expr.Slice none (some _) none _) _ _) _ _ _); (refine slice_tk (s := ⟨_, _, _, _, _⟩) F' N' (by assumption) (by assumption) (by assumption) ?_); intro _ _ _ _ _ _) | ((refine slice_dp (s := ⟨_, _, _, _, _⟩) F' N' (by assumption) (by assumption) (by assumption) ?_); intro _ _ _ _ _ _)); try dsimp only) | (((with_reducible refine at_bin ?_); first | ((with_reducible show wpAny _ _ (binaryOp _ (Value.str _ _) (Value.str _ _)) _ _ _); (refine add_ll (by assumption) (by assumption) (by decide) ?_); intro _ _ _) | ((refine mul_y (by assumption) (by assumption) ?_); intro _ _ _)); try dsimp only) | ((with_reducible refine abs_st ?_); intro _ _; walk1; try dsimp only) | ((with_reducible refine use_post (by assumption) ?_); try dsimp only) | (k_unfold; (try dsimp only)) | (k_end; wrow_close) | (walk1; try dsimp only) | (dsimp only; walk1) | (leave1; walk_say "STEP leave1"; try dsimp only) | fail "no step")))
      refine hret _ [(R, listOf [Value.ref r0, Value.ref r1, Value.ref r2, Value.ref r3].toArray nR), (r0, listOf v0.toArray n0), (r1, listOf v1.toArray n1), (r2, listOf v2.toArray n2), (r3, listOf v3.toArray n3)] _ _ (by k_asm) (by k_asm) ?e7 ⟨R, r0, r1, r2, r3, nR, n0, n1, n2, n3, v0, v1, v2, v3, rfl, rfl, hP⟩
      case e7 =>
        intro q hq p hp
        have z := hO q hq
        simp only [List.mem_cons, List.not_mem_nil, or_false] at hp
        rcases hp with rfl | rfl | rfl | rfl | rfl
        · exact z.2.2.2.2
        · exact z.1
        · exact z.2.1
        · exact z.2.2.1
        · exact z.2.2.2.1
end Mine
end
section
open PySem PySem.W PyProof.Rows PySem.Calls PySem.Spec
namespace Mine
set_option maxRecDepth 100000
set_option maxHeartbeats 8000000
set_option linter.unusedVariables false
theorem off1_of' {D : Addr} : ∀ {l : List (Addr × Obj)}, (∀ p ∈ l, p.1 ≠ D) → LCg.Off1 D l
  | [], _ => trivial
  | p :: r, h => ⟨h p (.head _), off1_of' fun x hx => h x (.tail _ hx)⟩
/-- how the element of a comprehension over enumerate(l) ends: an int, all that was in the ledger still there -/
inductive EnEnd (h₀ : Heap) (L : Addr) (m : Str → Option Value) (s : Shared) (led : List (Addr × Obj)) (P : Int → Prop) : Value → Shared → Prop
  | mk (h' : Heap) (tk : Nat) (z : Int) (t : Tok) (all : List (Addr × Obj)) (hz : P z) (F : Fr h₀ L h' m) (N : News h₀ L h' all) (sub : ∀ p ∈ led, p ∈ all) : EnEnd h₀ L m s led P (.int z t) { s with heap := h', toks := tk }
theorem EnEnd.moved {h₀ : Heap} {L : Addr} {m : Str → Option Value} {s : Shared} {led : List (Addr × Obj)} {P : Int → Prop} {y : Value} {s₂ : Shared} (h₁ : Heap) (tk₁ : Nat) (q : EnEnd h₀ L m s led P y s₂) : EnEnd h₀ L m { s with heap := h₁, toks := tk₁ } led P y s₂ := by
  obtain ⟨h', tk, z, t, all, hz, F, N, sub⟩ := q
  exact EnEnd.mk (s := { s with heap := h₁, toks := tk₁ }) h' tk z t all hz F N sub
/-- enumerate(l) before its first item -/
structure EnSt (h : Heap) (e it l : Addr) (items : Array Value) (i : Nat) : Prop where
  en : ∃ old, IsEnum h e it i old
  li : h.IsListIter it l i
  ls : h.IsList l items
section
variable {prog : Program} {w : World} {A : Around} {E : Value → Shared → Prop} {s : Shared} {h₀ : Heap} {L : Addr} {m : Str → Option Value} {env : Env}
/-- one turn: the element of the place i, asked in the block's own frame C -/
noncomputable def EnTurn (prog : Program) (w : World) (A : Around) (h₀ : Heap) (L : Addr) (m : Str → Option Value) (env : Env) (s : Shared) (elt : PySem.Expr) (a b : Str) (scope : Scope) (cl : List (Str × Addr)) (items : Array Value) (news : List (Addr × Obj)) (e it : Addr) (P : Int → Prop) : Prop :=
  ∀ (i : Nat) (x : Value) (t : Tok) (oe oi oC oD : Obj) (C D : Addr) (m₂ : Str → Option Value) (h : Heap) (tk : Nat) (E' : Value → Shared → Prop), items[i]? = some x → LCg.NsObj oC m₂ → m₂ a = some (.int i t) → m₂ b = some x → Fr h₀ L h m →
    News h₀ L h ((e, oe) :: (it, oi) :: (C, oC) :: (D, oD) :: news) →
    wpAny (model prog w) A (eval elt (compEnvC scope cl C env)) (EnEnd h₀ L m s ((e, oe) :: (it, oi) :: (C, oC) :: (D, oD) :: news) P) E' { s with heap := h, toks := tk }
theorem en_block {elt iter : PySem.Expr} {a b : Str} {pa pb tp : Pos} {kk : Nat} {scope : Scope} {cl : List (Str × Addr)} {pos : Pos} {e it l : Addr} {lo : Obj} {items : Array Value} {news : List (Addr × Obj)} {P : Int → Prop} {RR : Value → Addr → Result → Shared → Prop}
    (hh : A.handled = none) (hei : e ≠ it) (hle : l ≠ e) (hli : l ≠ it) (st : EnSt s.heap e it l items 0) (hl : (l, lo) ∈ news) (hlo : ∀ h : Heap, h.get? l = some lo → h.IsList l items) (hsz : items.size ≤ 100)
    (hcell : ∀ y ∈ scope.names, y.2 ≠ .cell) (hkind : scope.kind = .function) (hxa : scope.names.lookup a = some .local) (hxb : scope.names.lookup b = some .local) (hab : ¬ a = b)
    (F : Fr h₀ L s.heap m) (N : News h₀ L s.heap news) (hLe : L ≠ e) (hLi : L ≠ it) (he0 : h₀.get? e = none) (hi0 : h₀.get? it = none) (off : ∀ p ∈ news, p.1 ≠ e ∧ p.1 ≠ it) (hlt : e < s.heap.objs.size ∧ it < s.heap.objs.size)
    (turn : EnTurn prog w A h₀ L m env s elt a b scope cl items news e it P)
    (hRR : ∀ D C h tk m' ys zs, IntsAre ys zs → zs.length = items.size → (∀ z ∈ zs, P z) → Fr h₀ L h m → News h₀ L h ((D, LCg.lst ys) :: news) → LCg.Off1 D news → h.Ns C m' → h₀.get? C = none → h₀.get? D = none → C ≠ L → D ≠ L → C ≠ D → (∀ p ∈ news, p.1 ≠ C) → RR (.ref D) C (.ok .next) { s with heap := h, toks := tk }) :
    wpAny (model prog w) A (newList []) (fun acc s₃ => wpAny (model prog w) A (newFunctionEnv scope env.globals cl [] env.qual none .none (some env)) (fun cenv s₄ =>
      codeAny (model prog w) A (.compStart (.ListComp elt [⟨.Tuple [.Name a pa, .Name b pb] kk tp, iter, [], 0⟩] scope pos) 0 (.ref e) acc { cenv with scope := relabel scope env }) (RR acc cenv.locals) s₄) E s₃) E s := by
  refine wpAny_newObj_type (wpAny_newFunctionEnv hcell (by intro y hy; simp at hy) (fun h₁ hns₁ hsb₁ => ?_) hkind)
  dsimp only at hns₁ hsb₁ ⊢
  generalize hH : s.heap.push { cls := .type "list", dict := none, data := .seq ([] : List Value).toArray } = H at hns₁ hsb₁ ⊢
  have hC : H.objs.size = s.heap.objs.size + 1 := by rw [← hH, Heap.size_push]
  have hDC : s.heap.objs.size ≠ H.objs.size := by rw [hC]; exact Nat.ne_of_lt (Nat.lt_succ_self _)
  have low : ∀ c, c < s.heap.objs.size → c ≠ H.objs.size ∧ c ≠ s.heap.objs.size := fun c hc => ⟨by rw [hC]; exact Nat.ne_of_lt (Nat.lt_succ_of_lt hc), Nat.ne_of_lt hc⟩
  have old : ∀ c o, s.heap.get? c = some o → h₁.get? c = some o := fun c o q => hsb₁.extBut c o (low c (Heap.lt_size q)).1 (Heap.get?_push_of_some _ (hH ▸ Heap.get?_push_of_some _ q))
  have hacc : h₁.get? s.heap.objs.size = some (LCg.lst []) := hsb₁.extBut _ _ hDC (Heap.get?_push_of_some _ (hH ▸ Heap.get?_push_size _ rfl))
  have fresh : ∀ c, s.heap.objs.size ≤ c → h₀.get? c = none := fun c hc => by
    cases q : h₀.get? c with
    | none => rfl
    | some o' => exact absurd (Heap.lt_size (F.keep c o' q)) (Nat.not_lt.mpr hc)
  have hD0 : h₀.get? s.heap.objs.size = none := fresh _ (Nat.le_refl _)
  have hC0 : h₀.get? H.objs.size = none := fresh _ (by rw [hC]; exact Nat.le_succ _)
  have hDL : s.heap.objs.size ≠ L := Ne.symm (low L F.ns.lt).2
  have hCL : H.objs.size ≠ L := Ne.symm (low L F.ns.lt).1
  have hCe : e ≠ H.objs.size := (low e hlt.1).1
  have hDe : e ≠ s.heap.objs.size := (low e hlt.1).2
  have hCi : it ≠ H.objs.size := (low it hlt.2).1
  have hDi : it ≠ s.heap.objs.size := (low it hlt.2).2
  have offC : ∀ p ∈ news, p.1 ≠ H.objs.size := fun p hp => (low _ (Heap.lt_size (N p hp).1)).1
  have offD : ∀ p ∈ news, p.1 ≠ s.heap.objs.size := fun p hp => (low _ (Heap.lt_size (N p hp).1)).2
  have W := KTurns.ofWalksU (elts := [.Name a pa, .Name b pb]) (k := kk) (pos := tp) (WalksT.enumerate (prog := prog) (w := w) hh e it l hei hle hli items).toU
  have st₁ : EnSt h₁ e it l items 0 := by
    obtain ⟨⟨o1, q1⟩, q2, q3⟩ := st
    exact ⟨⟨o1, old _ _ q1⟩, q2.at fun o x => old _ _ x, q3.at fun o x => old _ _ x⟩
  have loop : ∀ s₃ : Shared, s₃ = { s with heap := h₁, toks := s.toks + ([] : List (Str × Value)).length } →
      codeAny (model prog w) A (.compLoop (.ListComp elt [⟨.Tuple [.Name a pa, .Name b pb] kk tp, iter, [], 0⟩] scope pos) 0 (.ref e) (.ref s.heap.objs.size) (compEnvC scope cl H.objs.size env)) (RR (.ref s.heap.objs.size) H.objs.size) s₃ := by
    rintro s₃ rfl
    refine kcp_loop
      (fun k s' => ∃ h' tk i ys zs m', s' = { s with heap := h', toks := tk } ∧ i ≤ items.size ∧ k = items.size + 1 - i ∧ IntsAre ys zs ∧ zs.length = i ∧ (∀ z ∈ zs, P z) ∧ EnSt h' e it l items i ∧ Fr h₀ L h' m ∧ h'.Ns H.objs.size m' ∧ News h₀ L h' ((s.heap.objs.size, LCg.lst ys) :: news)) ?_ (items.size + 1)
      ⟨h₁, _, 0, [], [], _, rfl, Nat.zero_le _, rfl, .nil, rfl, (fun _ h => nomatch h), st₁, F.keeps old, hns₁, fun p hp => ?_⟩
    · rintro k s' ⟨h', tk, i, ys, zs, m', rfl, hi, rfl, hys, hzl, hzs, st', F', hn', N'⟩
      have hyl : ys.length = i := by rw [hys.length, hzl]
      by_cases hlt' : i < items.size
      · refine W.item i _ _ _ hlt' ⟨st'.en, st'.li, st'.ls⟩ fun v h₂ tk₂ hMd hk₂ => ?_
        refine W.go i v _ _ _ hMd fun h₃ hP hst₃ hk₃ => ?_
        obtain ⟨T, vals, rfl, ⟨t, x, hx, rfl⟩, hT⟩ := hP
        have up₃ : ∀ c o, c ≠ e → c ≠ it → h'.get? c = some o → h₃.get? c = some o := fun c o q1 q2 q => hk₃ c o (by simp [q1, q2]) (hk₂ c o (by simp [q1, q2]) q)
        refine kcp_assign (env := compEnvC scope cl H.objs.size env) hh hT (lookup_relabel_local hxa) (lookup_relabel_local hxb) (by simp [compEnvC, relabel, hkind]) (hn'.at' fun o q => up₃ _ o (Ne.symm hCe) (Ne.symm hCi) q) fun h₄ tk₄ hn₄ hs₄ => ?_
        have up : ∀ c o, c ≠ e → c ≠ it → c ≠ H.objs.size → h'.get? c = some o → h₄.get? c = some o := fun c o q1 q2 q3 q => hs₄ c o q3 (up₃ c o q1 q2 q)
        obtain ⟨⟨oldv, hE₃⟩, ⟨oi, gi, ri⟩, hL₃⟩ := hst₃
        obtain ⟨oe, ge, re⟩ : ∃ oe : Obj, h₄.get? e = some oe ∧ ∀ h : Heap, h.get? e = some oe → IsEnum h e it ((i + 1 : Nat) : Int) oldv := ⟨_, hs₄ e _ hCe hE₃, fun _ q => q⟩
        have gi₄ : h₄.get? it = some oi := hs₄ it _ hCi gi
        obtain ⟨oC, gC, hoC⟩ := LCg.ns_obj hn₄
        have F₄ : Fr h₀ L h₄ m := ⟨F'.ns.at' fun o q => up _ o hLe hLi (Ne.symm hCL) q, fun c o q => up c o (fun z => by rw [z, he0] at q; cases q) (fun z => by rw [z, hi0] at q; cases q) (fun z => by rw [z, hC0] at q; cases q) (F'.keep c o q), F'.above⟩
        have N₄ : News h₀ L h₄ ((e, oe) :: (it, oi) :: (H.objs.size, oC) :: (s.heap.objs.size, LCg.lst ys) :: news) := fun p hp => by
          rcases List.mem_cons.mp hp with rfl | hp
          · exact ⟨ge, Ne.symm hLe, he0⟩
          rcases List.mem_cons.mp hp with rfl | hp
          · exact ⟨gi₄, Ne.symm hLi, hi0⟩
          rcases List.mem_cons.mp hp with rfl | hp
          · exact ⟨gC, hCL, hC0⟩
          rcases List.mem_cons.mp hp with rfl | hp
          · exact ⟨up _ _ (Ne.symm hDe) (Ne.symm hDi) hDC (N' _ (.head _)).1, hDL, hD0⟩
          · have z := N' p (.tail _ hp)
            exact ⟨up _ _ (off p hp).1 (off p hp).2 (offC p hp) z.1, z.2⟩
        refine wpAny_mono (turn i x t oe oi oC (LCg.lst ys) H.objs.size s.heap.objs.size _ h₄ _ _ hx hoC (by simp [hab]) (by simp) F₄ N₄) (fun y s₅ h₅ => ?_) fun _ _ q => q
        obtain ⟨h₅, tk₅, z, ty, all, hz, F₅, N₅, sub⟩ := h₅
        have ze := (N₅ _ (sub _ (.head _))).1
        have zi := (N₅ _ (sub _ (.tail _ (.head _)))).1
        have zC := (N₅ _ (sub _ (.tail _ (.tail _ (.head _))))).1
        have zD := (N₅ _ (sub _ (.tail _ (.tail _ (.tail _ (.head _)))))).1
        have N₅' : News h₀ L h₅ news := fun p hp => N₅ p (sub p (.tail _ (.tail _ (.tail _ (.tail _ hp)))))
        refine append_at (hsz := by show ys.toArray.size ≤ sizeLine; rw [List.size_toArray, hyl, sizeLine_eq]; omega) zD fun h₆ hs₆ hD₆ => ?_
        refine ⟨items.size + 1 - (i + 1), by omega, h₆, tk₅, i + 1, ys ++ [Value.int z ty], zs ++ [z], _, rfl, hlt', rfl, IntsAre.append hys (.cons _ _ .nil), by rw [List.length_append, hzl]; rfl, (fun z' hz' => ?_), ⟨⟨oldv, re _ (hs₆.extBut e oe hDe ze)⟩, ⟨oi, hs₆.extBut it oi hDi zi, ri⟩, hlo _ (hs₆.extBut l lo (offD _ hl) (N₅' _ hl).1)⟩, F₅.change hs₆ hDL hD0, (hoC.ns zC).sameBut hs₆ (Ne.symm hDC), fun p hp => ?_⟩
        · rcases List.mem_append.mp hz' with q | q
          · exact hzs z' q
          · rw [List.mem_singleton.mp q]; exact hz
        · rcases List.mem_cons.mp hp with rfl | hp
          · exact ⟨hD₆.trans (congrArg some (LCg.lst_snoc ys _)), hDL, hD0⟩
          · exact ⟨hs₆.extBut _ _ (offD p hp) (N₅' p hp).1, (N₅' p hp).2⟩
      · obtain rfl : i = items.size := Nat.le_antisymm hi (Nat.not_lt.mp hlt')
        refine W.done _ _ _ ⟨st'.en, st'.li, st'.ls⟩ fun h₂ tk₂ hk₂ => ?_
        have up : ∀ c o, c ≠ e → c ≠ it → h'.get? c = some o → h₂.get? c = some o := fun c o q1 q2 q => hk₂ c o (by simp [q1, q2]) q
        refine hRR _ _ h₂ tk₂ _ ys zs hys hzl hzs ⟨F'.ns.at' fun o q => up _ o hLe hLi q, fun c o q => up c o (fun z => by rw [z, he0] at q; cases q) (fun z => by rw [z, hi0] at q; cases q) (F'.keep c o q), F'.above⟩ (fun p hp => ?_) (off1_of' offD) (hn'.at' fun o q => up _ o (Ne.symm hCe) (Ne.symm hCi) q) hC0 hD0 hCL hDL (Ne.symm hDC) offC
        rcases List.mem_cons.mp hp with rfl | hp
        · exact ⟨up _ _ (Ne.symm hDe) (Ne.symm hDi) (N' _ (.head _)).1, hDL, hD0⟩
        · exact ⟨up _ _ (off p hp).1 (off p hp).2 (N' p (.tail _ hp)).1, (N' p (.tail _ hp)).2⟩
    · rcases List.mem_cons.mp hp with rfl | hp
      · exact ⟨hacc, hDL, hD0⟩
      · exact ⟨old _ _ (N p hp).1, (N p hp).2⟩
  obtain ⟨o1, q1⟩ := st₁.en
  exact codeAny_compStart_list (loop _ rfl) (wpAny_pyIter_enum q1 (loop _ rfl))
/-- what eval of the iterable, enumerate(l), must bring for en_Assign -/
inductive EnSrc (prog : Program) (w : World) (A : Around) (h₀ : Heap) (L : Addr) (m : Str → Option Value) (env : Env) (s : Shared) (elt : PySem.Expr) (a b : Str) (scope : Scope) (cl : List (Str × Addr)) (y : Str) (P : Int → Prop) (Q : Flow → Shared → Prop) : Value → Shared → Prop
  | mk (e it l : Addr) (lo : Obj) (items : Array Value) (news : List (Addr × Obj)) (h₁ : Heap) (tk₁ : Nat) (hh : A.handled = none) (hei : e ≠ it) (hle : l ≠ e) (hli : l ≠ it) (st : EnSt h₁ e it l items 0) (hl : (l, lo) ∈ news) (hlo : ∀ h : Heap, h.get? l = some lo → h.IsList l items) (hsz : items.size ≤ 100)
    (F : Fr h₀ L h₁ m) (N : News h₀ L h₁ news) (hLe : L ≠ e) (hLi : L ≠ it) (he0 : h₀.get? e = none) (hi0 : h₀.get? it = none) (off : ∀ p ∈ news, p.1 ≠ e ∧ p.1 ≠ it) (hlt : e < h₁.objs.size ∧ it < h₁.objs.size)
    (turn : EnTurn prog w A h₀ L m env s elt a b scope cl items news e it P)
    (fin : ∀ D ys zs h tk, IntsAre ys zs → zs.length = items.size → (∀ z ∈ zs, P z) → Fr h₀ L h (fun z => if z = y then some (.ref D) else m z) → News h₀ L h ((D, LCg.lst ys) :: news) → LCg.Off1 D news → Q .next { s with heap := h, toks := tk }) : EnSrc prog w A h₀ L m env s elt a b scope cl y P Q (.ref e) { s with heap := h₁, toks := tk₁ }
theorem en_Assign {elt iter : PySem.Expr} {a b y : Str} {pa pb tp py : Pos} {kk : Nat} {scope : Scope} {cl : List (Str × Addr)} {pos spos : Pos} {Q : Flow → Shared → Prop} (P : Int → Prop) (_F₀ : Fr h₀ L s.heap m) (hLenv : env.locals = L)
    (hsw : swapsWith (.ListComp elt [⟨.Tuple [.Name a pa, .Name b pb] kk tp, iter, [], 0⟩] scope pos) (some (.Name y py)) spos.line env = pure true)
    (hclos : closureFor scope env = pure cl) (hcell : ∀ z ∈ scope.names, z.2 ≠ .cell) (hkind : scope.kind = .function)
    (hnames : ∀ z ∈ scope.names, z.2 = .local → scope.names.lookup z.1 = some .local) (hxa : scope.names.lookup a = some .local) (hxb : scope.names.lookup b = some .local) (hab : ¬ a = b)
    (hy : env.kindOf y = some .local) (hp : (env.scope.kind == .class || (env.scope.kind == .module && env.locals != env.globals)) = false)
    (h : wpAny (model prog w) A (eval iter env) (EnSrc prog w A h₀ L m env s elt a b scope cl y P Q) E s)
    (hs : ∀ x, foldedSetIterable iter env x = pure x := by intro _; rfl) :
    wpAny (model prog w) A (exec (.Assign [.Name y py] (.ListComp elt [⟨.Tuple [.Name a pa, .Name b pb] kk tp, iter, [], 0⟩] scope pos) spos) env) Q E s := by
  subst hLenv
  rw [exec_Assign_Name_used _ _ _ _ hsw]
  refine wpAny_bind (wpAny_standAt (wpAny_bind ?_))
  show wpAny _ A (do let _ ← comprehension (.ListComp elt [⟨.Tuple [.Name a pa, .Name b pb] kk tp, iter, [], 0⟩] scope pos) scope env _ (newList []) false (eval iter env) (some (assign (.Name y py) env))) _ _ s
  refine wpAny_bind (wpAny_mono (wpAny_comprehension_free (use := some (assign (.Name y py) env)) (Q := fun _ s' => Q .next s') rfl hs hclos hkind hnames
    (wpAny_mono h (fun xv s₁ h₁ => ?_) fun _ _ e => e)) (fun _ s' hq => wpAny_pure (wpAny_pure hq)) fun _ _ e => e)
  obtain ⟨e, it, l, lo, items, news, h₁, tk₁, hh, hei, hle, hli, st, hl, hlo, hsz, F, N, hLe, hLi, he0, hi0, off, hlt, turn, fin⟩ := h₁
  obtain ⟨o1, q1⟩ := st.en
  refine wpAny_pyIter_enum q1 ?_
  refine en_block (s := { s with heap := h₁, toks := tk₁ }) hh hei hle hli st hl hlo hsz hcell hkind hxa hxb hab F N hLe hLi he0 hi0 off hlt (fun i x t oe oi oC oD C D m₂ h tk E' a1 a2 a3 a4 F' N' => wpAny_mono (turn i x t oe oi oC oD C D m₂ h tk E' a1 a2 a3 a4 F' N') (fun _ _ q => q.moved h₁ tk₁) fun _ _ e => e) ?_
  intro D C h' tk m' ys zs hys hzl hzs F' N' o1 hn hC₀ hD₀ hCL hDL hCD offC
  show wpAny _ A (assign (.Name y py) env (.ref D)) _ _ _
  refine wpAny_assign_Name (wpAny_storeName_local hy F'.ns (fun h₂ hn₂ hs₂ => ?_) hp)
  have hL₀ : h₀.get? env.locals = none := Heap.get?_none_of_le F'.above
  have F₂ : Fr h₀ env.locals h₂ (fun z => if z = y then some (.ref D) else m z) := ⟨hn₂, fun c o q => hs₂.extBut c o (fun z => by rw [z, hL₀] at q; cases q) (F'.keep c o q), F'.above⟩
  refine ⟨m', hn.sameBut hs₂ hCL, fun h'' hs'' => fin D ys zs h'' _ hys hzl hzs (F₂.change hs'' hCL hC₀) (fun p hp => ?_) o1⟩
  have z : h₂.get? p.1 = some p.2 := hs₂.extBut _ _ (N' p hp).2.1 (N' p hp).1
  refine ⟨hs''.extBut _ _ ?_ z, (N' p hp).2⟩
  rcases List.mem_cons.mp hp with rfl | hp
  · exact Ne.symm hCD
  · exact offC p hp
/-- the call enumerate(l) at the end of the iterable -/
theorem en_call {elt : PySem.Expr} {a b y : Str} {scope : Scope} {cl : List (Str × Addr)} {P : Int → Prop} {Q : Flow → Shared → Prop} {l : Addr} {vs : List Value} {n : Nat} {news : List (Addr × Obj)} {h₁ : Heap} {tk₁ : Nat} (hh : A.handled = none) (F : Fr h₀ L h₁ m) (N : News h₀ L h₁ news) (hm : (l, listOf vs.toArray n) ∈ news) (hsz : vs.length ≤ 100)
    (turn : ∀ e it, EnTurn prog w A h₀ L m env s elt a b scope cl vs.toArray news e it P)
    (fin : ∀ D ys zs h tk, IntsAre ys zs → zs.length = vs.length → (∀ z ∈ zs, P z) → Fr h₀ L h (fun z => if z = y then some (.ref D) else m z) → News h₀ L h ((D, LCg.lst ys) :: news) → LCg.Off1 D news → Q .next { s with heap := h, toks := tk }) :
    wpAny (model prog w) A (call (.type "enumerate") [.ref l]) (EnSrc prog w A h₀ L m env s elt a b scope cl y P Q) E { s with heap := h₁, toks := tk₁ } := by
  have z := N _ hm
  have hl : h₁.IsList l vs.toArray := PySem.IsL.isList (n := n) z.1
  have hlt : l < h₁.objs.size := Heap.lt_size z.1
  have hLs : L < h₁.objs.size := F.ns.lt
  have fresh : ∀ c, h₁.objs.size ≤ c → h₀.get? c = none := fun c hc => by
    cases q : h₀.get? c with
    | none => rfl
    | some o' => exact absurd (Heap.lt_size (F.keep c o' q)) (Nat.not_lt.mpr hc)
  refine call_enumerate_list hl fun h' hE hI hsz' hk => ?_
  dsimp only at hE hI hsz' hk ⊢
  refine ⟨h₁.objs.size + 1, h₁.objs.size, l, _, vs.toArray, news, h', tk₁, hh, Nat.succ_ne_self _, Nat.ne_of_lt (Nat.lt_succ_of_lt hlt), Nat.ne_of_lt hlt, ⟨⟨_, hE⟩, hI, hl.at fun o x => hk _ _ x⟩, hm, fun h q => PySem.IsL.isList (n := n) q, by simpa using hsz,
    F.keeps hk, N.grown hk, Nat.ne_of_lt (Nat.lt_succ_of_lt hLs), Nat.ne_of_lt hLs, fresh _ (Nat.le_succ _), fresh _ (Nat.le_refl _), fun p hp => ⟨Nat.ne_of_lt (Nat.lt_succ_of_lt (Heap.lt_size (N p hp).1)), Nat.ne_of_lt (Heap.lt_size (N p hp).1)⟩, ⟨by rw [hsz']; exact Nat.lt_succ_self _, by rw [hsz']; exact Nat.lt_succ_of_lt (Nat.lt_succ_self _)⟩, turn _ _, ?_⟩
  simpa using fin
end
end Mine
end
section
open PySem PySem.W PyProof.Rows PySem.Calls
namespace Mine
set_option maxRecDepth 100000
set_option maxHeartbeats 8000000
set_option linter.unusedVariables false
theorem pick_ints {vs : List Value} {ns : List Int} (hi : IntsAre vs ns) : ∀ L : List Nat, ∃ ms, IntsAre (L.filterMap (vs.toArray[·]?)) ms
  | [] => ⟨[], .nil⟩
  | k :: L => by
    obtain ⟨ms, h⟩ := pick_ints hi L
    cases e : vs.toArray[k]? with
    | none =>
      rw [List.filterMap_cons_none e]
      exact ⟨ms, h⟩
    | some v =>
      rw [List.filterMap_cons_some e]
      obtain ⟨n, t, rfl⟩ : ∃ n t, v = .int n t := by
        have e' : vs[k]? = some v := by simpa using e
        clear e h
        induction hi generalizing k with
        | nil => simp at e'
        | cons n t r ih =>
          cases k with
          | zero => exact ⟨n, t, (Option.some.inj e').symm⟩
          | succ k => exact ih k (by simpa using e')
      exact ⟨n :: ms, .cons _ _ h⟩
section
variable {prog : Program} {w : World} {A : Around} {E : Value → Shared → Prop} {s : Shared} {h₀ : Heap} {L : Addr} {m : Str → Option Value} {news : List (Addr × Obj)}
theorem slice_any {value slice : PySem.Expr} {l : Addr} {vs : List Value} {ns : List Int} {i : Int} {t u : Tok} {ops : List Value} {Q : Value → Shared → Prop} (F : Fr h₀ L s.heap m) (N : News h₀ L s.heap news) (hl : s.heap.IsList l vs.toArray) (hi : IntsAre vs ns) (hz : vs.length ≤ 100)
    (h : ∀ D zs ms h', IntsAre zs ms → Fr h₀ L h' m → News h₀ L h' ((D, listOf zs.toArray 0) :: news) → Q (.ref D) { s with heap := h' })
    (hs : subscripted slice false (.ref l) (.ref s.heap.objs.size) = operate ops (getItem (.ref l) (.ref s.heap.objs.size))) (ht : ∀ r, letTemporaryGo value (.ref l) r = pure ()) :
    wpAny (model prog w) A (subscriptTail value slice (.ref l) (.ref s.heap.objs.size)) Q E { s with heap := s.heap.push { cls := .type "slice", data := .fields #[.int i t, .none, .int 4 u] } } := by
  obtain ⟨ms, hm⟩ := pick_ints hi (PySem.sliceRange (sliceBounds (some i) none (some 4) vs.toArray.size).1 (sliceBounds (some i) none (some 4) vs.toArray.size).2.1 (sliceBounds (some i) none (some 4) vs.toArray.size).2.2)
  exact kmk_slice3_lit (st := some 4) F N hl (.int _ _) .none (.int _ _) (by decide) rfl (fun D h' F' N' _ => h D _ ms h' hm F' N') hs ht (by rw [List.size_toArray, sizeLine_eq]; omega)
end
theorem four_int {i : Nat} {x : Value} {a b c d : Int} {ta tb tc td : Tok} (h : [Value.int a ta, Value.int b tb, Value.int c tc, Value.int d td].toArray[i]? = some x) : ∃ n t, x = .int n t := by
  have h : [Value.int a ta, Value.int b tb, Value.int c tc, Value.int d td][i]? = some x := by simpa using h
  match i, h with
  | 0, h => exact ⟨_, _, (Option.some.inj h).symm⟩
  | 1, h => exact ⟨_, _, (Option.some.inj h).symm⟩
  | 2, h => exact ⟨_, _, (Option.some.inj h).symm⟩
  | 3, h => exact ⟨_, _, (Option.some.inj h).symm⟩
  | n + 4, h => exact nomatch h
theorem sum_small : ∀ ns : List Int, 0 ≤ (ns.map fun k => k.fmod (10 ^ Int.toNat 6)).sum ∧ (ns.map fun k => k.fmod (10 ^ Int.toNat 6)).sum ≤ 1000000 * ns.length
  | [] => by decide
  | k :: ns => by
    have h := sum_small ns
    have h1 := fmod_lo k (show (0 : Int) < 10 ^ Int.toNat 6 by decide)
    have h2 := fmod_hi k (show (0 : Int) < 10 ^ Int.toNat 6 by decide)
    have h3 : (10 : Int) ^ Int.toNat 6 = 1000000 := by decide
    rw [List.map_cons, List.sum_cons, List.length_cons]
    rw [h3] at h1 h2 h ⊢
    omega
theorem cells_sum {ws : List Int} {ys : List Value} (h : IntsAre ys ((ws.take 12).map fun k => k.fmod (10 ^ Int.toNat 6))) : ∃ cs, IntsAre ys cs ∧ ys.length ≤ 100 ∧ 0 ≤ cs.sum ∧ cs.sum < 20000000 := by
  have h1 := sum_small (ws.take 12)
  have h2 : (ws.take 12).length ≤ 12 := by rw [List.length_take]; omega
  have h3 := h.length
  rw [List.length_map] at h3
  exact ⟨_, h, by omega, h1.1, by omega⟩
theorem ints_four {ys : List Value} {zs : List Int} (h : IntsAre ys zs) (hl : zs.length = 4) (hz : ∀ z ∈ zs, 0 ≤ z ∧ z < 128) : ∃ m0 m1 m2 m3 u0 u1 u2 u3, ys = [.int m0 u0, .int m1 u1, .int m2 u2, .int m3 u3] ∧ (0 ≤ m0 ∧ m0 < 128) ∧ (0 ≤ m1 ∧ m1 < 128) ∧ (0 ≤ m2 ∧ m2 < 128) ∧ (0 ≤ m3 ∧ m3 < 128) := by
  rcases h with _ | ⟨m0, u0, h⟩
  · simp at hl
  rcases h with _ | ⟨m1, u1, h⟩
  · simp at hl
  rcases h with _ | ⟨m2, u2, h⟩
  · simp at hl
  rcases h with _ | ⟨m3, u3, h⟩
  · simp at hl
  rcases h with _ | ⟨m4, u4, h⟩
  · exact ⟨m0, m1, m2, m3, u0, u1, u2, u3, rfl, hz m0 (.head _), hz m1 (.tail _ (.head _)), hz m2 (.tail _ (.tail _ (.head _))), hz m3 (.tail _ (.tail _ (.tail _ (.head _))))⟩
  · simp at hl
end Mine
end
section
open PySem PySem.W PyProof.Rows PySem.Calls
namespace Mine
set_option linter.unusedVariables false
/-- one row over the costs cs -/
noncomputable def rowN : List Nat → List Nat → Nat → Nat → Nat → List Nat × Nat × Nat
  | c :: cs, e :: row, d, r, mi =>
    let res := Nat.min (d + c) (Nat.min e r + 2)
    match rowN cs row e res (Nat.min mi res) with
    | (o, r', m') => (res :: o, r', m')
  | _, _, _, r, mi => ([], r, mi)
noncomputable def runN : List (List Nat) → Nat → List Nat → Nat → Option Nat
  | [], _, _, r => some r
  | cs :: C, k, row, _ =>
    match rowN cs row (2 * k) (2 * k) 9223372036854775807 with
    | (o, r', m') => if m' ≤ 9 then runN C (k + 1) o r' else none
noncomputable def toI (l : List Nat) : List Int := l.map fun (n : Nat) => (n : Int)
theorem rowN_cons (c e : Nat) (cs row : List Nat) (d r mi : Nat) : rowN (c :: cs) (e :: row) d r mi =
    (Nat.min (d + c) (Nat.min e r + 2) :: (rowN cs row e (Nat.min (d + c) (Nat.min e r + 2)) (Nat.min mi (Nat.min (d + c) (Nat.min e r + 2)))).1,
     (rowN cs row e (Nat.min (d + c) (Nat.min e r + 2)) (Nat.min mi (Nat.min (d + c) (Nat.min e r + 2)))).2.1,
     (rowN cs row e (Nat.min (d + c) (Nat.min e r + 2)) (Nat.min mi (Nat.min (d + c) (Nat.min e r + 2)))).2.2) := by
  rw [rowN]
theorem rowN_len : ∀ (cs row : List Nat) (d r mi : Nat), cs.length = row.length → (rowN cs row d r mi).1.length = row.length
  | [], [], _, _, _, _ => rfl
  | c :: cs, e :: row, d, r, mi, h => by
    rw [rowN_cons, List.length_cons, rowN_len cs row _ _ _ (by simpa using h)]
    rfl
theorem min_if (a b : Nat) : (if (a : Int) < (b : Int) then (a : Int) else (b : Int)) = ((Nat.min a b : Nat) : Int) := by
  show _ = ((min a b : Nat) : Int)
  omega
theorem row_run (a b : Str) : ∀ (cs row : List Nat) (pre : List Int) (d r mi : Nat), cs.length = row.length →
    (∀ k, k < cs.length → subC b (Txt.item a ((pre.length + k : Nat) : Int)) = ((cs.getD k 0 : Nat) : Int)) →
    ∃ d', ((List.range' pre.length cs.length).map fun (i : Nat) => (i : Int)).foldl (inner b a) ⟨pre ++ toI row, d, r, mi⟩ =
      ⟨pre ++ toI (rowN cs row d r mi).1, d', ((rowN cs row d r mi).2.1 : Nat), ((rowN cs row d r mi).2.2 : Nat)⟩
  | [], [], pre, d, r, mi, _, _ => ⟨d, rfl⟩
  | c :: cs, e :: row, pre, d, r, mi, hl, hc => by
    have hl' : cs.length = row.length := by simpa using hl
    have hc0 := hc 0 (Nat.succ_pos _)
    rw [Nat.add_zero] at hc0
    have hc0' : subC b (Txt.item a (pre.length : Int)) = (c : Int) := hc0
    let res := Nat.min (d + c) (Nat.min e r + 2)
    obtain ⟨d', hd'⟩ := row_run a b cs row (pre ++ [(res : Int)]) e res (Nat.min mi res) hl' (fun k hk => by
      have := hc (k + 1) (Nat.succ_lt_succ hk)
      rw [List.length_append, List.length_singleton, show pre.length + 1 + k = pre.length + (k + 1) by omega]
      simpa using this)
    refine ⟨d', ?_⟩
    have e1 : List.range' pre.length (c :: cs).length = pre.length :: List.range' (pre ++ [(res : Int)]).length cs.length := by
      rw [List.length_cons, List.range'_succ, List.length_append, List.length_singleton]
    rw [e1, List.map_cons, List.foldl_cons]
    have e2 : inner b a ⟨pre ++ toI (e :: row), d, r, mi⟩ (pre.length : Int) = ⟨(pre ++ [(res : Int)]) ++ toI row, e, res, (Nat.min mi res : Nat)⟩ := by
      have g1 : (pre ++ toI (e :: row)).getD pre.length 0 = (e : Int) := by
        rw [List.getD_eq_getElem?_getD, List.getElem?_append_right (Nat.le_refl _), Nat.sub_self]
        rfl
      have g2 : ∀ z : Int, (pre ++ toI (e :: row)).set pre.length z = (pre ++ [z]) ++ toI row := fun z => by
        rw [List.set_append_right _ _ (Nat.le_refl _), Nat.sub_self, List.append_assoc]
        rw [show toI (e :: row) = (e : Int) :: toI row from rfl, List.set_cons_zero, List.singleton_append]
      unfold inner
      dsimp only
      rw [Int.toNat_natCast, g1, hc0', min_if, show ((Nat.min e r : Nat) : Int) + 2 = ((Nat.min e r + 2 : Nat) : Int) from rfl, show (d : Int) + c = ((d + c : Nat) : Int) from rfl, min_if, min_if, g2]
      congr 2
      show Nat.min res mi = Nat.min mi res
      exact Nat.min_comm _ _
    rw [e2, hd', List.append_assoc, rowN_cons]
    rfl
theorem rangeKs_eq (n : Nat) : rangeKs 0 n = (List.range' 0 n).map fun (i : Nat) => (i : Int) := by
  unfold rangeKs
  rw [List.range_eq_range']
  exact List.map_congr_left fun i _ => Int.zero_add _
theorem in_run (a b : Str) (cs row : List Nat) (k : Nat) (hl : cs.length = row.length) (ha : a.length = row.length) (hc : ∀ j, j < cs.length → subC (Txt.item b (k : Int)) (Txt.item a (j : Int)) = ((cs.getD j 0 : Nat) : Int)) :
    ∃ d', inRun a b (toI row) (k : Int) = ⟨toI (rowN cs row (2 * k) (2 * k) 9223372036854775807).1, d', ((rowN cs row (2 * k) (2 * k) 9223372036854775807).2.1 : Nat), ((rowN cs row (2 * k) (2 * k) 9223372036854775807).2.2 : Nat)⟩ := by
  obtain ⟨d', h⟩ := row_run a (Txt.item b (k : Int)) cs row [] (2 * k) (2 * k) 9223372036854775807 hl (fun j hj => by
    rw [List.length_nil, Nat.zero_add]
    exact hc j hj)
  refine ⟨d', ?_⟩
  unfold inRun
  rw [rangeKs_eq, ha, ← hl]
  have e : ((2 * k : Nat) : Int) = (k : Int) * 2 := by omega
  rw [e] at h
  exact h
/-- the two loops from the k-th turn on -/
theorem run_out (a b : Str) : ∀ (C : List (List Nat)) (k : Nat) (row : List Nat) (r v : Nat),
    (∀ j, j < C.length → (C.getD j []).length = a.length) → row.length = a.length → C.length + k = b.length →
    (∀ j i, j < C.length → i < a.length → subC (Txt.item b ((k + j : Nat) : Int)) (Txt.item a (i : Int)) = (((C.getD j []).getD i 0 : Nat) : Int)) →
    outRun a b k = (toI row, (r : Int)) → runN C k row r = some v →
    (outRun a b b.length).2 = (v : Int) ∧ ∀ j, k ≤ j → j < b.length → (inRun a b (outRun a b j).1 j).mi ≤ 9
  | [], k, row, r, v, _, _, hk, _, ho, hr => by
    have e : k = b.length := by simpa using hk
    subst e
    have hr : r = v := Option.some.inj hr
    subst hr
    exact ⟨by rw [ho], fun j h1 h2 => absurd h2 (by omega)⟩
  | cs :: C, k, row, r, v, hC, hrow, hk, hc, ho, hr => by
    have hcl : cs.length = a.length := hC 0 (Nat.succ_pos _)
    obtain ⟨d', hin⟩ := in_run a b cs row k (by omega) hrow.symm (fun j hj => hc 0 j (Nat.succ_pos _) (by omega))
    have hrow' := rowN_len cs row (2 * k) (2 * k) 9223372036854775807 (by omega)
    have hr' : (if (rowN cs row (2 * k) (2 * k) 9223372036854775807).2.2 ≤ 9 then runN C (k + 1) (rowN cs row (2 * k) (2 * k) 9223372036854775807).1 (rowN cs row (2 * k) (2 * k) 9223372036854775807).2.1 else none) = some v := hr
    generalize rowN cs row (2 * k) (2 * k) 9223372036854775807 = q at *
    by_cases h9 : q.2.2 ≤ 9
    · rw [if_pos h9] at hr'
      have ho' : outRun a b (k + 1) = (toI q.1, (q.2.1 : Int)) := by
        rw [outRun_succ, ho]
        show ((inRun a b (toI row) k).row, (inRun a b (toI row) k).r) = _
        rw [hin]
      obtain ⟨i1, i2⟩ := run_out a b C (k + 1) q.1 q.2.1 v (fun j hj => hC (j + 1) (Nat.succ_lt_succ hj)) (by omega) (by simp only [List.length_cons] at hk; omega)
        (fun j i hj hi => by rw [show k + 1 + j = k + (j + 1) by omega]; exact hc (j + 1) i (Nat.succ_lt_succ hj) hi) ho' hr'
      refine ⟨i1, fun j h1 h2 => ?_⟩
      by_cases hj : j = k
      · subst hj
        rw [ho, hin]
        show ((q.2.2 : Nat) : Int) ≤ 9
        omega
      · exact i2 j (by omega) h2
    · rw [if_neg h9] at hr'
      nomatch hr'
noncomputable def row2 (n : Nat) : List Nat := (List.range n).map fun i => 2 + i * 2
theorem row2_ints (n : Nat) : rangeInts 2 2 n = toI (row2 n) := by
  unfold rangeInts toI row2
  rw [List.map_map]
  exact List.map_congr_left fun i _ => by show (2 : Int) + i * 2 = ((2 + i * 2 : Nat) : Int); omega
theorem core_of (a b : Str) (C : List (List Nat)) (v : Nat) (hb : C.length = b.length) (hC : ∀ j, j < C.length → (C.getD j []).length = a.length)
    (hc : ∀ j i, j < C.length → i < a.length → subC (Txt.item b (j : Int)) (Txt.item a (i : Int)) = (((C.getD j []).getD i 0 : Nat) : Int)) (hr : runN C 0 (row2 a.length) 0 = some v) : CoreIs a b v := by
  obtain ⟨h1, h2⟩ := run_out a b C 0 (row2 a.length) 0 v hC (by simp [row2]) hb (fun j i hj hi => by rw [Nat.zero_add]; exact hc j i hj hi) (by
    unfold outRun
    rw [row2_ints]
    rfl) hr
  exact ⟨h1, fun j hj => h2 j (Nat.zero_le _) hj⟩
end Mine
end
section
open PySem PySem.W PyProof.Rows PySem.Calls
namespace Mine
set_option linter.unusedVariables false
noncomputable def first (f : Nat → Nat) : Nat → Nat → Nat
  | 0, i => i
  | n + 1, i => if f i = 0 then first f n (i + 1) else i
theorem first_is (f : Nat → Nat) : ∀ (n s i : Nat), s ≤ i → i ≤ s + n → (∀ j, s ≤ j → j < i → f j = 0) → (i = s + n ∨ f i ≠ 0) → first f n s = i
  | 0, s, i, h1, h2, _, _ => by unfold first; omega
  | n + 1, s, i, h1, h2, h3, h4 => by
    unfold first
    by_cases h : s = i
    · subst h
      rw [if_neg]
      rcases h4 with h4 | h4
      · omega
      · exact h4
    · rw [if_pos (h3 s (Nat.le_refl _) (by omega))]
      exact first_is f n (s + 1) i (by omega) (by omega) (fun j a b => h3 j (by omega) b) (by rcases h4 with h4 | h4; left; omega; exact .inr h4)
noncomputable def costs (M : Nat → Nat → Nat) (i n m : Nat) : List (List Nat) := (List.range m).map fun j => (List.range n).map fun k => M (i + k) (i + j)
noncomputable def levIt (M : Nat → Nat → Nat) (i nx ny : Nat) : Option Nat :=
  if nx = 0 then some (2 * ny) else if ny = 0 then some (2 * nx) else
  if nx ≤ ny then runN (costs M i nx ny) 0 (row2 nx) 0 else runN (costs (fun a b => M b a) i ny nx) 0 (row2 ny) 0
noncomputable def levM (M : Nat → Nat → Nat) (lx ly : Nat) : Option Nat :=
  let i := first (fun j => M j j) (min lx ly) 0
  let t := first (fun j => M (lx - 1 - j) (ly - 1 - j)) (min lx ly - i) 0
  levIt M i (lx - i - t) (ly - i - t)
theorem subC_zero (u v : Str) : subC u v = 0 ↔ u = v := by
  unfold subC
  constructor
  · intro h
    by_cases e : (u == v) = true
    · exact eq_of_beq e
    · rw [if_neg e] at h
      split at h <;> omega
  · intro h
    subst h
    rw [if_pos (beq_self_eq_true u)]
theorem subC_comm (u v : Str) : subC u v = subC v u := by
  unfold subC
  rw [BEq.comm (a := u) (b := v), BEq.comm (a := Txt.lower u)]
theorem item_nat (x : Str) (j : Nat) (h : j < x.length) : Txt.item x (j : Int) = ⟨#[x.cps.getD j 0]⟩ := item_at (by omega) (by omega) (Int.toNat_natCast j).symm
theorem item_neg (x : Str) (j : Nat) (h : j < x.length) : Txt.item x ((j : Int) - x.length) = ⟨#[x.cps.getD j 0]⟩ := by
  have := item_closes_neg (x := x) (i := (j : Int) - x.length) (j := j) (by omega) (by omega) (by omega)
  rw [Int.toNat_natCast] at this
  exact eq_of_beq this
theorem item_drop (x : Str) (n j : Nat) (h : n + j < x.length) : Txt.item (dropS x n) (j : Int) = Txt.item x ((n + j : Nat) : Int) := by
  have hl : j < (dropS x n).length := by unfold dropS Str.length at *; simp; omega
  rw [item_nat _ _ hl, item_nat _ _ h]
  unfold dropS
  congr 2
  simp only [Array.getD_eq_getD_getElem?, List.getElem?_toArray, List.getElem?_drop, Array.getElem?_toList]
theorem item_take (x : Str) (n j : Nat) (h : j < n) (hn : n ≤ x.length) : Txt.item (takeS x n) (j : Int) = Txt.item x (j : Int) := by
  have hl : j < (takeS x n).length := by unfold takeS Str.length at *; simp; omega
  rw [item_nat _ _ hl, item_nat _ _ (by omega)]
  unfold takeS
  congr 2
  simp only [Array.getD_eq_getD_getElem?, List.getElem?_toArray, List.getElem?_take, Array.getElem?_toList]
  rw [if_pos h]
theorem len_drop (x : Str) (n : Nat) : (dropS x n).length = x.length - n := by unfold dropS Str.length; simp
theorem len_take (x : Str) (n : Nat) : (takeS x n).length = min n x.length := by unfold takeS Str.length; simp
theorem costs_len (M : Nat → Nat → Nat) (i n m : Nat) : (costs M i n m).length = m := by unfold costs; simp
theorem costs_row (M : Nat → Nat → Nat) (i n m j : Nat) (h : j < m) : (costs M i n m).getD j [] = (List.range n).map fun k => M (i + k) (i + j) := by
  unfold costs
  rw [List.getD_eq_getElem?_getD, List.getElem?_map, List.getElem?_range h]
  rfl
theorem costs_at (M : Nat → Nat → Nat) (i n m j k : Nat) (h : j < m) (hk : k < n) : ((costs M i n m).getD j []).getD k 0 = M (i + k) (i + j) := by
  rw [costs_row M i n m j h, List.getD_eq_getElem?_getD, List.getElem?_map, List.getElem?_range hk]
  rfl
/-- the core from the costs of the window -/
theorem core_win (a b : Str) (M : Nat → Nat → Nat) (i v : Nat) (hM : ∀ k j, k < a.length → j < b.length → subC (Txt.item a (k : Int)) (Txt.item b (j : Int)) = ((M (i + k) (i + j) : Nat) : Int))
    (h : runN (costs M i a.length b.length) 0 (row2 a.length) 0 = some v) : CoreIs a b v := by
  refine core_of a b (costs M i a.length b.length) v (costs_len _ _ _ _) (fun j hj => ?_) (fun j k hj hk => ?_) h
  · rw [costs_len] at hj
    rw [costs_row _ _ _ _ _ hj]
    simp
  · rw [costs_len] at hj
    rw [costs_at _ _ _ _ _ _ hj hk, subC_comm]
    exact hM k j hk hj
theorem lev_is (x2 y2 : Str) (M : Nat → Nat → Nat) (i v : Nat) (hM : ∀ a b, a < x2.length → b < y2.length → subC (Txt.item x2 (a : Int)) (Txt.item y2 (b : Int)) = ((M (i + a) (i + b) : Nat) : Int))
    (h : levIt M i x2.length y2.length = some v) : LevIs x2 y2 v := by
  unfold levIt at h
  refine ⟨fun h0 => ?_, fun h1 h2 => ⟨fun h3 => ?_, fun h3 => ?_⟩⟩
  · by_cases hx : x2.length = 0
    · rw [if_pos hx] at h
      have := Option.some.inj h
      omega
    · rw [if_neg hx] at h
      have hy : y2.length = 0 := by omega
      rw [if_pos hy] at h
      have := Option.some.inj h
      omega
  · rw [if_neg h1, if_neg h2, if_pos h3] at h
    exact core_win x2 y2 M i v hM h
  · rw [if_neg h1, if_neg h2, if_neg (by omega)] at h
    exact core_win y2 x2 (fun a b => M b a) i v (fun k j hk hj => by rw [subC_comm]; exact hM j k hj hk) h
noncomputable def Eq0 (x y : Str) (M : Nat → Nat → Nat) : Prop := ∀ a b, a < x.length → b < y.length → (Txt.item x (a : Int) = Txt.item y (b : Int) ↔ M a b = 0)
theorem nat_pre {x y : Str} {i : Nat} (h : PreP x y (i : Int)) : i ≤ x.length ∧ i ≤ y.length := ⟨Int.ofNat_le.mp h.2.1, Int.ofNat_le.mp h.2.2.1⟩
theorem pre_first {x y : Str} {M : Nat → Nat → Nat} {i : Nat} (E : Eq0 x y M) (h : PreP x y (i : Int)) (hD : PreD x y (i : Int)) : first (fun j => M j j) (min x.length y.length) 0 = i := by
  have hx := (nat_pre h).1
  have hy := (nat_pre h).2
  have h3 := h.2.2.2
  clear h
  refine first_is _ _ 0 i (Nat.zero_le _) (by rw [Nat.zero_add]; exact Nat.le_min.mpr ⟨hx, hy⟩) (fun j _ hj => (E j j (Nat.lt_of_lt_of_le hj hx) (Nat.lt_of_lt_of_le hj hy)).mp (h3 j (Int.natCast_nonneg _) (Int.ofNat_lt.mpr hj))) ?_
  rw [Nat.zero_add]
  rcases hD with e | e | ⟨e1, e2, e3⟩
  · left
    have e := Int.ofNat.inj e
    rw [← e]
    exact (Nat.min_eq_left hy).symm
  · left
    have e := Int.ofNat.inj e
    rw [← e]
    exact (Nat.min_eq_right hx).symm
  · exact .inr fun z => e3 ((E i i (Int.ofNat_lt.mp e1) (Int.ofNat_lt.mp e2)).mpr z)
/-- an index from the end of the rest of a text -/
theorem item_end (x : Str) (i j : Nat) (h : i + j < x.length) : Txt.item (dropS x i) (-((j + 1 : Nat) : Int)) = Txt.item x ((x.length - 1 - j : Nat) : Int) := by
  have hl := len_drop x i
  have e := item_neg (dropS x i) (x.length - i - 1 - j) (by omega)
  rw [show (((x.length - i - 1 - j : Nat) : Int) - ((dropS x i).length : Int)) = -((j + 1 : Nat) : Int) by omega, ← item_nat _ _ (by omega), item_drop _ _ _ (by omega)] at e
  rw [e]
  congr 2
  omega
theorem nat_pos {x y : Str} {i t : Nat} (h : PosP (dropS x i) (dropS y i) (-(t : Int))) : t ≤ x.length - i ∧ t ≤ y.length - i := by
  have h1 := h.2.1
  have h2 := h.2.2.1
  rw [len_drop] at h1 h2
  exact ⟨Int.ofNat_le.mp (Int.neg_le_neg_iff.mp h1), Int.ofNat_le.mp (Int.neg_le_neg_iff.mp h2)⟩
theorem sub_lt {a i j : Nat} (h : i + j < a) : a - 1 - j < a := by omega
theorem add_lt {a i j t : Nat} (h : j < t) (h2 : t ≤ a - i) : i + j < a := by omega
theorem neg_succ (j : Nat) : -((j : Int)) - 1 = -((j + 1 : Nat) : Int) := by omega
theorem lt_of_neg {a i t : Nat} (h : -((a - i : Nat) : Int) < -(t : Int)) : i + t < a := by omega
theorem pos_first {x y : Str} {M : Nat → Nat → Nat} {i t : Nat} (E : Eq0 x y M) (h : PosP (dropS x i) (dropS y i) (-(t : Int))) (hD : PosD (dropS x i) (dropS y i) (-(t : Int))) : first (fun j => M (x.length - 1 - j) (y.length - 1 - j)) (min x.length y.length - i) 0 = t := by
  obtain ⟨hx, hy⟩ := nat_pos h
  have g3 := h.2.2.2
  clear h
  have hm : min x.length y.length - i = min (x.length - i) (y.length - i) := by omega
  rw [hm]
  refine first_is _ _ 0 t (Nat.zero_le _) (by rw [Nat.zero_add]; exact Nat.le_min.mpr ⟨hx, hy⟩) (fun j _ hj => (E _ _ (sub_lt (add_lt hj hx)) (sub_lt (add_lt hj hy))).mp ?_) ?_
  · rw [← item_end x i j (add_lt hj hx), ← item_end y i j (add_lt hj hy)]
    exact g3 _ (Int.neg_le_neg (Int.ofNat_le.mpr hj)) (by clear g3 hD hm hx hy hj; omega)
  · rw [Nat.zero_add]
    clear hm
    unfold PosD at hD
    rw [len_drop, len_drop] at hD
    rcases hD with e | e | ⟨e1, e2, e3⟩
    · left
      have e := Int.ofNat.inj (Int.neg_inj.mp e)
      rw [e] at hy ⊢
      exact (Nat.min_eq_left hy).symm
    · left
      have e := Int.ofNat.inj (Int.neg_inj.mp e)
      rw [e] at hx ⊢
      exact (Nat.min_eq_right hx).symm
    · refine .inr fun z => e3 ?_
      have a1 := lt_of_neg e1
      have a2 := lt_of_neg e2
      rw [neg_succ, item_end x i t a1, item_end y i t a2]
      exact (E _ _ (sub_lt a1) (sub_lt a2)).mpr z
theorem len_win (x : Str) (i t : Nat) : (takeS (dropS x i) (x.length - i - t)).length = x.length - i - t := by rw [len_take, len_drop]; exact Nat.min_eq_left (Nat.sub_le _ _)
theorem item_win (x : Str) (i t a : Nat) (h : a < x.length - i - t) : Txt.item (takeS (dropS x i) (x.length - i - t)) (a : Int) = Txt.item x ((i + a : Nat) : Int) ∧ i + a < x.length := by
  have e : i + a < x.length := by omega
  exact ⟨by rw [item_take _ _ _ h (by rw [len_drop]; exact Nat.sub_le _ _), item_drop _ _ _ e], e⟩
theorem win_nat (x : Str) (i t : Nat) : (((dropS x i).length : Int) + -(t : Int)).toNat = x.length - i - t := by rw [len_drop]; omega
theorem lev_all (x y : Str) (M : Nat → Nat → Nat) (v : Nat) (hM : ∀ a b, a < x.length → b < y.length → subC (Txt.item x (a : Int)) (Txt.item y (b : Int)) = ((M a b : Nat) : Int))
    (h : levM M x.length y.length = some v) : LevAll x y v := by
  have E : Eq0 x y M := fun a b ha hb => by
    rw [← subC_zero, hM a b ha hb]
    exact ⟨fun h => Int.ofNat.inj h, fun h => congrArg _ h⟩
  intro i k hPre hPreD hPos hPosD
  obtain ⟨i, rfl⟩ := Int.eq_ofNat_of_zero_le hPre.1
  obtain ⟨t, rfl⟩ : ∃ t : Nat, k = -(t : Int) := ⟨(-k).toNat, by have := hPos.1; clear hM h hPre hPreD hPosD; omega⟩
  rw [Int.toNat_natCast] at hPos hPosD ⊢
  unfold levM at h
  dsimp only at h
  rw [pre_first E hPre hPreD, pos_first E hPos hPosD] at h
  rw [win_nat, win_nat]
  refine lev_is _ _ M i v (fun a b ha hb => ?_) (by rw [len_win, len_win]; exact h)
  rw [len_win] at ha hb
  obtain ⟨e1, e2⟩ := item_win x i t a ha
  obtain ⟨e3, e4⟩ := item_win y i t b hb
  rw [e1, e3]
  exact hM _ _ e2 e4
end Mine
end
section
open PySem PySem.W PyProof.Rows PySem.Calls
namespace Mine
set_option linter.unusedVariables false
/-- which place of the word stands at the index a of the later text, 7 for the Z -/
noncomputable def plX (p a : Nat) : Nat := if a < p then a else if a = p then 7 else a - 1
/-- the same of the earlier text, 8 for the Y -/
noncomputable def plY (p c : Nat) : Nat := if p % 2 = 0 then if c < p then c else if c = p then 8 else c - 1 else c
noncomputable def costP (p b a c : Nat) : Nat := if plX p a = plY p c then b / 2 ^ plX p a % 2 else 2
noncomputable def pop (b : Nat) : Nat := b % 2 + b / 2 % 2 + b / 4 % 2 + b / 8 % 2 + b / 16 % 2 + b / 32 % 2 + b / 64 % 2
noncomputable def lenY (p : Nat) : Nat := if p % 2 = 0 then 8 else 7
noncomputable def okAt (p b : Nat) : Bool := levM (costP p b) 8 (lenY p) == some (2 + pop b)
noncomputable def okAll (p : Nat) : Nat → Bool
  | 0 => true
  | n + 1 => okAt p n && okAll p n
theorem ok1 : okAll 1 128 = true := by decide +kernel
theorem ok2 : okAll 2 128 = true := by decide +kernel
theorem ok3 : okAll 3 128 = true := by decide +kernel
theorem ok4 : okAll 4 128 = true := by decide +kernel
theorem ok5 : okAll 5 128 = true := by decide +kernel
theorem okAll_at (p : Nat) : ∀ n, okAll p n = true → ∀ b, b < n → okAt p b = true
  | 0, _, b, h => absurd h (Nat.not_lt_zero b)
  | n + 1, h, b, hb => by
    have h' : okAt p n = true ∧ okAll p n = true := by simpa [okAll] using h
    by_cases e : b = n
    · rw [e]; exact h'.1
    · exact okAll_at p n h'.2 b (by omega)
theorem lev_ok (p b : Nat) (h1 : 1 ≤ p) (h2 : p ≤ 5) (hb : b < 128) : levM (costP p b) 8 (lenY p) = some (2 + pop b) := by
  have hc : p = 1 ∨ p = 2 ∨ p = 3 ∨ p = 4 ∨ p = 5 := by omega
  have h : okAt p b = true := by
    rcases hc with rfl | rfl | rfl | rfl | rfl
    · exact okAll_at _ _ ok1 b hb
    · exact okAll_at _ _ ok2 b hb
    · exact okAll_at _ _ ok3 b hb
    · exact okAll_at _ _ ok4 b hb
    · exact okAll_at _ _ ok5 b hb
  exact eq_of_beq h
end Mine
end
section
open PySem PySem.W PyProof.Rows PySem.Calls
namespace Mine
set_option linter.unusedVariables false
/-- the sign of the place q of the spelling, 7 for the Z, 8 for the Y -/
noncomputable def codeZ (d : Nat → Nat) (m : Int) (q : Nat) : Nat := if q = 7 then 90 else if q = 8 then 89 else spC d m q
noncomputable def textX (d : Nat → Nat) (m : Int) (p : Nat) : Str := ⟨((List.range 8).map fun a => codeZ d m (plX p a)).toArray⟩
noncomputable def textY (d : Nat → Nat) (m : Int) (p : Nat) : Str := ⟨((List.range (lenY p)).map fun a => codeZ d m (plY p a)).toArray⟩
theorem firstS_is (d : Nat → Nat) (m : Int) (p : Nat) (h1 : 1 ≤ p) (h2 : p ≤ 5) : firstS (spS d m) (p : Int) = textX d m p := by
  have hc : p = 1 ∨ p = 2 ∨ p = 3 ∨ p = 4 ∨ p = 5 := by omega
  rcases hc with rfl | rfl | rfl | rfl | rfl <;> rfl
theorem secondS_is (d : Nat → Nat) (m : Int) (p : Nat) (h1 : 1 ≤ p) (h2 : p ≤ 5) : secondS (spS d m) (p : Int) = textY d m p := by
  have hc : p = 1 ∨ p = 2 ∨ p = 3 ∨ p = 4 ∨ p = 5 := by omega
  rcases hc with rfl | rfl | rfl | rfl | rfl <;> rfl
theorem textX_len (d : Nat → Nat) (m : Int) (p : Nat) : (textX d m p).length = 8 := by unfold textX Str.length; simp
theorem textY_len (d : Nat → Nat) (m : Int) (p : Nat) : (textY d m p).length = lenY p := by unfold textY Str.length; simp
theorem getD_range (f : Nat → Nat) (n a : Nat) (h : a < n) : (((List.range n).map f).toArray).getD a 0 = f a := by
  rw [Array.getD_eq_getD_getElem?, List.getElem?_toArray, List.getElem?_map, List.getElem?_range h]
  rfl
theorem textX_at (d : Nat → Nat) (m : Int) (p a : Nat) (h : a < 8) : Txt.item (textX d m p) (a : Int) = ⟨#[codeZ d m (plX p a)]⟩ := by
  rw [item_nat _ _ (by rw [textX_len]; exact h)]
  unfold textX
  rw [getD_range _ _ _ h]
theorem textY_at (d : Nat → Nat) (m : Int) (p a : Nat) (h : a < lenY p) : Txt.item (textY d m p) (a : Int) = ⟨#[codeZ d m (plY p a)]⟩ := by
  rw [item_nat _ _ (by rw [textY_len]; exact h)]
  unfold textY
  rw [getD_range _ _ _ h]
theorem subC_code (u v : Nat) (hu : u < 128) (hv : v < 128) : subC ⟨#[u]⟩ ⟨#[v]⟩ = if u = v then 0 else if lo1 u = lo1 v then 1 else 2 := by
  have e : ∀ a b : Nat, ((⟨#[a]⟩ : Str) == ⟨#[b]⟩) = true ↔ a = b := fun a b => by
    constructor
    · intro h
      have h' : (⟨#[a]⟩ : Str) = ⟨#[b]⟩ := eq_of_beq h
      injection h' with h'
      simpa using h'
    · rintro rfl
      exact beq_self_eq_true _
  have l : ∀ a : Nat, a < 128 → Txt.lower ⟨#[a]⟩ = ⟨#[lo1 a]⟩ := fun a ha => by
    rw [lower_ascii (x := ⟨#[a]⟩) (by intro c hc; have : c = a := by simpa using hc
                                      omega)]
    simp
  unfold subC
  rw [l u hu, l v hv]
  simp only [e]
noncomputable def bit (m : Int) (q : Nat) : Int := m / 2 ^ q % 2
/-- whether the place q stands in the one spelling great, in the other small -/
noncomputable def eb (m n : Int) (q : Nat) : Nat := if bit m q = bit n q then 0 else 1
theorem eb_le (m n : Int) (q : Nat) : eb m n q ≤ 1 := by unfold eb; split <;> omega
/-- the number of some digits to the base 2, the lowest first -/
noncomputable def bin : List Nat → Nat
  | [] => 0
  | e :: l => e + 2 * bin l
theorem bin_lt : ∀ l : List Nat, (∀ e ∈ l, e ≤ 1) → bin l < 2 ^ l.length
  | [], _ => Nat.one_pos
  | e :: l, h => by
    have h1 := bin_lt l fun x hx => h x (.tail _ hx)
    have h2 := h e (.head _)
    clear h
    unfold bin
    rw [List.length_cons, Nat.pow_succ]
    omega
theorem bin_get : ∀ (l : List Nat) (q : Nat), (∀ e ∈ l, e ≤ 1) → bin l / 2 ^ q % 2 = l.getD q 0
  | [], q, _ => by show 0 / 2 ^ q % 2 = 0; rw [Nat.zero_div]
  | e :: l, 0, h => by
    have h2 := h e (.head _)
    clear h
    show (e + 2 * bin l) / 1 % 2 = e
    omega
  | e :: l, q + 1, h => by
    have h1 := bin_get l q fun x hx => h x (.tail _ hx)
    have h2 := h e (.head _)
    show (e + 2 * bin l) / 2 ^ (q + 1) % 2 = l.getD q 0
    rw [Nat.pow_succ', ← Nat.div_div_eq_div_mul, show (e + 2 * bin l) / 2 = bin l by clear h h1; omega]
    exact h1
noncomputable def xb (m n : Int) : Nat := bin ((List.range 7).map (eb m n))
theorem xb_facts (m n : Int) : xb m n < 128 ∧ (∀ q, q < 7 → xb m n / 2 ^ q % 2 = eb m n q) ∧ pop (xb m n) = eb m n 0 + eb m n 1 + eb m n 2 + eb m n 3 + eb m n 4 + eb m n 5 + eb m n 6 := by
  have hl : ∀ e ∈ (List.range 7).map (eb m n), e ≤ 1 := fun e he => by
    obtain ⟨q, _, rfl⟩ := List.mem_map.mp he
    exact eb_le m n q
  have g : ∀ q, q < 7 → xb m n / 2 ^ q % 2 = eb m n q := fun q hq => by
    unfold xb
    rw [bin_get _ _ hl, List.getD_eq_getElem?_getD, List.getElem?_map, List.getElem?_range hq]
    rfl
  refine ⟨bin_lt _ hl, g, ?_⟩
  rw [← g 0 (by decide), ← g 1 (by decide), ← g 2 (by decide), ← g 3 (by decide), ← g 4 (by decide), ← g 5 (by decide), ← g 6 (by decide)]
  unfold pop
  rw [Nat.pow_zero, Nat.div_one]
theorem plX_le (p a : Nat) (h2 : p ≤ 5) (ha : a < 8) : plX p a ≤ 7 := by unfold plX; split; omega; split <;> omega
theorem plY_le (p a : Nat) (h2 : p ≤ 5) (ha : a < lenY p) : plY p a ≤ 8 ∧ plY p a ≠ 7 := by
  unfold lenY at ha
  unfold plY
  by_cases h : p % 2 = 0
  · rw [if_pos h] at ha ⊢
    by_cases h3 : a < p
    · rw [if_pos h3]; omega
    · rw [if_neg h3]
      by_cases h4 : a = p
      · rw [if_pos h4]; omega
      · rw [if_neg h4]; omega
  · rw [if_neg h] at ha ⊢
    omega
theorem lo1_up (k : Nat) (h : k < 26) : lo1 (65 + k) = 97 + k := by unfold lo1; rw [if_pos (by omega)]; omega
theorem lo1_low (k : Nat) : lo1 (97 + k) = 97 + k := by unfold lo1; rw [if_neg (by omega)]
theorem codeZ_low (d : Nat → Nat) (hd : ∀ p, d p < 16) (m : Int) (q : Nat) (hq : q < 7) : lo1 (codeZ d m q) = 97 + d q ∧ codeZ d m q = if bit m q = 1 then 65 + d q else 97 + d q := by
  have e : codeZ d m q = if bit m q = 1 then 65 + d q else 97 + d q := by
    unfold codeZ
    rw [if_neg (by omega), if_neg (by omega)]
    rfl
  refine ⟨?_, e⟩
  rw [e]
  have := hd q
  split
  · exact lo1_up _ (by omega)
  · exact lo1_low _
theorem bit_01 (m : Int) (q : Nat) : bit m q = 0 ∨ bit m q = 1 := by unfold bit; omega
theorem code_sub (d : Nat → Nat) (hd : ∀ p, d p < 16) (hi : ∀ p q, p < 7 → q < 7 → d p = d q → p = q) (m n : Int) (q r : Nat) (hq : q ≤ 7) (hr : r ≤ 8) (hr7 : r ≠ 7) :
    subC ⟨#[codeZ d m q]⟩ ⟨#[codeZ d n r]⟩ = (((if q = r then xb m n / 2 ^ q % 2 else 2 : Nat)) : Int) := by
  have hlt : ∀ (k : Int) (z : Nat), z ≤ 8 → codeZ d k z < 128 := fun k z hz => by
    unfold codeZ spC
    have := hd z
    split
    · omega
    split
    · omega
    split <;> omega
  rw [subC_code _ _ (hlt m q (by omega)) (hlt n r (by omega))]
  by_cases q7 : q = 7
  · subst q7
    have h90 : codeZ d m 7 = 90 := rfl
    rw [h90]
    rw [if_neg (show ¬ 7 = r by omega)]
    by_cases r8 : r = 8
    · subst r8
      rfl
    · obtain ⟨l1, l2⟩ := codeZ_low d hd n r (by omega)
      have := hd r
      have e1 : ¬ (90 = codeZ d n r) := by rw [l2]; split <;> omega
      rw [if_neg e1, l1, if_neg (by show ¬ (122 = 97 + d r); omega)]
      rfl
  · obtain ⟨l1, l2⟩ := codeZ_low d hd m q (by omega)
    have hdq := hd q
    by_cases r8 : r = 8
    · subst r8
      have h89 : codeZ d n 8 = 89 := rfl
      rw [h89, if_neg (by rw [l2]; split <;> omega), l1, if_neg (by show ¬ (97 + d q = 121); omega), if_neg (by omega)]
      rfl
    · obtain ⟨k1, k2⟩ := codeZ_low d hd n r (by omega)
      have hdr := hd r
      by_cases e : q = r
      · subst e
        rw [if_pos rfl, l1, k1, if_pos rfl, (xb_facts m n).2.1 q (by omega), l2, k2]
        unfold eb
        rcases bit_01 m q with hm | hm <;> rcases bit_01 n q with hn | hn <;> rw [hm, hn] <;> simp <;> omega
      · have hne : d q ≠ d r := fun z => e (hi q r (by omega) (by omega) z)
        rw [if_neg e, l1, k1, if_neg (show ¬ (97 + d q = 97 + d r) by omega), if_neg]
        · rfl
        · rw [l2, k2]
          split <;> split <;> omega
/-- how far the one spelling lies from the other -/
noncomputable def hd7 (m n : Int) : Int := ((eb m n 0 + eb m n 1 + eb m n 2 + eb m n 3 + eb m n 4 + eb m n 5 + eb m n 6 : Nat) : Int)
theorem lev_spell (d : Nat → Nat) (hd : ∀ p, d p < 16) (hi : ∀ p q, p < 7 → q < 7 → d p = d q → p = q) (m n : Int) (p : Nat) (h1 : 1 ≤ p) (h2 : p ≤ 5) :
    LevOk (firstS (spS d m) (p : Int)) (secondS (spS d n) (p : Int)) (hd7 m n + 2) := by
  rw [firstS_is d m p h1 h2, secondS_is d n p h1 h2]
  have hl := textX_len d m p
  have hly := textY_len d n p
  have hy : lenY p ≤ 8 ∧ 7 ≤ lenY p := by unfold lenY; split <;> omega
  have hM : ∀ a b, a < (textX d m p).length → b < (textY d n p).length → subC (Txt.item (textX d m p) (a : Int)) (Txt.item (textY d n p) (b : Int)) = ((costP p (xb m n) a b : Nat) : Int) := fun a b ha hb => by
    rw [hl] at ha
    rw [hly] at hb
    have e1 := plX_le p a h2 ha
    have e2 := plY_le p b h2 hb
    rw [textX_at d m p a ha, textY_at d n p b hb, code_sub d hd hi m n _ _ e1 e2.1 e2.2]
    rfl
  have hx := xb_facts m n
  have hv : (hd7 m n + 2) = ((2 + pop (xb m n) : Nat) : Int) := by
    unfold hd7
    rw [hx.2.2]
    omega
  refine ⟨?_, by omega, by omega, ?_, by omega, by omega⟩
  · rw [hv]
    exact lev_all _ _ (costP p (xb m n)) _ hM (by rw [hl, hly]; exact lev_ok p _ h1 h2 hx.1)
  · rw [beq_eq_false_iff_ne]
    intro e
    have el : lenY p = 8 := by rw [← hly, ← e, hl]
    have hp : p % 2 = 0 := by
      unfold lenY at el
      by_cases h : p % 2 = 0
      · exact h
      · rw [if_neg h] at el; omega
    have h := hM p p (by omega) (by omega)
    rw [e, (subC_zero _ _).mpr rfl] at h
    unfold costP plX plY at h
    rw [if_neg (Nat.lt_irrefl p), if_pos rfl, if_pos hp, if_neg (Nat.lt_irrefl p), if_pos rfl] at h
    rw [if_neg (show ¬ (7 : Nat) = 8 by decide)] at h
    exact absurd h (by decide)
end Mine
end
section
namespace Mine
/-- a sum over the numbers below n -/
noncomputable def sumTo (n : Nat) (f : Nat → Int) : Int := match n with
  | 0 => 0
  | n + 1 => sumTo n f + f n
theorem sumTo_add (n : Nat) (f g : Nat → Int) : sumTo n (fun p => f p + g p) = sumTo n f + sumTo n g := by
  induction n with
  | zero => rfl
  | succ n ih => simp only [sumTo, ih]; omega
noncomputable def minor (x y z : Nat → Int) (i j k : Nat) : Int := det3 (x i) (x j) (x k) (y i) (y j) (y k) (z i) (z j) (z k)
noncomputable def gram (x y : Nat → Int) (n : Nat) : Int := sumTo n fun p => x p * y p
theorem cb1 (x y z : Nat → Int) (j k : Nat) (n : Nat) :
    sumTo n (fun l => minor x y z l j k ^ 2) =
      (let a := y j * z k - y k * z j; let b := z j * x k - z k * x j; let c := x j * y k - x k * y j
       a * a * gram x x n + b * b * gram y y n + c * c * gram z z n + 2 * a * b * gram x y n + 2 * a * c * gram x z n + 2 * b * c * gram y z n) := by
  induction n with
  | zero => simp [sumTo, gram]
  | succ n ih => simp only [sumTo, gram, minor, det3] at ih ⊢; rw [ih]; grind
noncomputable def adjForm (xx yy zz xy xz yz a b c : Int) : Int :=
  a * a * (yy * zz - yz * yz) + b * b * (xx * zz - xz * xz) + c * c * (xx * yy - xy * xy) + 2 * a * b * (xz * yz - xy * zz) + 2 * a * c * (xy * yz - xz * yy) + 2 * b * c * (xy * xz - xx * yz)
theorem cb2 (x y z : Nat → Int) (k : Nat) (n : Nat) :
    sumTo n (fun m => sumTo m fun l => minor x y z l m k ^ 2) = adjForm (gram x x n) (gram y y n) (gram z z n) (gram x y n) (gram x z n) (gram y z n) (x k) (y k) (z k) := by
  induction n with
  | zero => simp [sumTo, gram, adjForm]
  | succ n ih => simp only [sumTo]; rw [ih, cb1]; simp only [gram, sumTo, adjForm]; grind
theorem cb3 (x y z : Nat → Int) (n : Nat) :
    sumTo n (fun h => sumTo h fun m => sumTo m fun l => minor x y z l m h ^ 2) =
      det3 (gram x x n) (gram x y n) (gram x z n) (gram x y n) (gram y y n) (gram y z n) (gram x z n) (gram y z n) (gram z z n) := by
  induction n with
  | zero => simp [sumTo, gram, det3]
  | succ n ih => simp only [sumTo]; rw [ih, cb2]; simp only [gram, sumTo, adjForm, det3]; grind
theorem det3_twice (a b c d e f g h i : Int) : det3 (2 * a) (2 * b) (2 * c) (2 * d) (2 * e) (2 * f) (2 * g) (2 * h) (2 * i) = 8 * det3 a b c d e f g h i := by
  simp only [det3]; grind
/-- the squares of the differences, added up -/
noncomputable def dist (u v : Nat → Int) (n : Nat) : Int := sumTo n fun p => (u p - v p) * (u p - v p)
theorem dist_comm (u v : Nat → Int) (n : Nat) : dist u v n = dist v u n := by
  induction n with
  | zero => rfl
  | succ n ih => simp only [dist, sumTo] at ih ⊢; rw [ih]; grind
theorem gram_dist (c u v : Nat → Int) (n : Nat) : dist c u n + dist c v n - dist u v n = 2 * gram (fun p => u p - c p) (fun p => v p - c p) n := by
  induction n with
  | zero => simp [dist, gram, sumTo]
  | succ n ih => simp only [dist, gram, sumTo] at ih ⊢; grind
theorem dist_self (u : Nat → Int) (n : Nat) : dist u u n = 0 := by
  induction n with
  | zero => rfl
  | succ n ih => simp only [dist, sumTo] at ih ⊢; rw [ih]; grind
/-- the table from a corner with the distances to the other three and between these -/
noncomputable def room (a b c ab ac bc : Int) : Int :=
  det3 (a + a - 0) (a + b - ab) (a + c - ac) (b + a - ab) (b + b - 0) (b + c - bc) (c + a - ac) (c + b - bc) (c + c - 0)
theorem room_1 (d01 d02 d03 d12 d13 d23 : Int) : room d01 d12 d13 d02 d03 d23 = room d01 d02 d03 d12 d13 d23 := by simp only [room, det3]; grind
theorem room_2 (d01 d02 d03 d12 d13 d23 : Int) : room d02 d12 d23 d01 d03 d13 = room d01 d02 d03 d12 d13 d23 := by simp only [room, det3]; grind
theorem room_3 (d01 d02 d03 d12 d13 d23 : Int) : room d03 d13 d23 d01 d02 d12 = room d01 d02 d03 d12 d13 d23 := by simp only [room, det3]; grind
theorem room_squares (u0 u1 u2 u3 : Nat → Int) (n : Nat) : room (dist u0 u1 n) (dist u0 u2 n) (dist u0 u3 n) (dist u1 u2 n) (dist u1 u3 n) (dist u2 u3 n) =
    8 * sumTo n (fun h => sumTo h fun m => sumTo m fun l => minor (fun p => u1 p - u0 p) (fun p => u2 p - u0 p) (fun p => u3 p - u0 p) l m h ^ 2) := by
  rw [cb3, ← det3_twice, ← gram_dist, ← gram_dist, ← gram_dist, ← gram_dist, ← gram_dist, ← gram_dist, dist_self, dist_self, dist_self]
  simp only [room]
  rw [Int.add_comm (dist u0 u2 n) (dist u0 u1 n), Int.add_comm (dist u0 u3 n) (dist u0 u1 n), Int.add_comm (dist u0 u3 n) (dist u0 u2 n)]
end Mine
end
section
open PySem PySem.W PyProof.Rows PySem.Calls
namespace Mine
set_option linter.unusedVariables false
noncomputable def bitV (m : Int) (p : Nat) : Int := if p < 7 then bit m p else 0
theorem eb_sq (m n : Int) (q : Nat) : (bit m q - bit n q) * (bit m q - bit n q) = ((eb m n q : Nat) : Int) := by
  unfold eb
  rcases bit_01 m q with hm | hm <;> rcases bit_01 n q with hn | hn <;> rw [hm, hn] <;> rfl
theorem hd7_dist (m n : Int) : hd7 m n = dist (bitV n) (bitV m) 7 := by
  rw [dist_comm]
  have e : dist (bitV m) (bitV n) 7 = 0 + (bit m 0 - bit n 0) * (bit m 0 - bit n 0) + (bit m 1 - bit n 1) * (bit m 1 - bit n 1) + (bit m 2 - bit n 2) * (bit m 2 - bit n 2) + (bit m 3 - bit n 3) * (bit m 3 - bit n 3) + (bit m 4 - bit n 4) * (bit m 4 - bit n 4) + (bit m 5 - bit n 5) * (bit m 5 - bit n 5) + (bit m 6 - bit n 6) * (bit m 6 - bit n 6) := rfl
  rw [e]
  simp only [eb_sq]
  unfold hd7
  omega
theorem gS_bit (m0 m1 : Int) (p : Nat) : (gS m0 m1).getD p 0 = bitV m1 p - bitV m0 p := by
  unfold gS
  rw [List.getD_eq_getElem?_getD, List.getElem?_map]
  unfold rangeKs bitV
  rw [List.getElem?_map]
  by_cases h : p < 7
  · rw [List.getElem?_range h, if_pos h, if_pos h]
    show (m1.fdiv (2 ^ (0 + (p : Int)).toNat)).fmod 2 - (m0.fdiv (2 ^ (0 + (p : Int)).toNat)).fmod 2 = _
    rw [Int.zero_add, bit_eq, bit_eq]
    rfl
  · rw [List.getElem?_eq_none (by simpa using h), if_neg h, if_neg h]
    rfl
section
variable (m0 m1 m2 m3 : Int)
noncomputable def sq3 (l m h : Nat) : Int := minor (fun p => bitV m1 p - bitV m0 p) (fun p => bitV m2 p - bitV m0 p) (fun p => bitV m3 p - bitV m0 p) l m h ^ 2
theorem dS_minor (l m h : Nat) : dS (gS m0 m1) (gS m0 m2) (gS m0 m3) l m h ^ 2 = sq3 m0 m1 m2 m3 l m h := by
  unfold dS sq3 minor
  simp only [gS_bit]
theorem sumL_to (m h : Nat) : ∀ n, sumL (gS m0 m1) (gS m0 m2) (gS m0 m3) m h n = sumTo n fun l => sq3 m0 m1 m2 m3 l m h
  | 0 => rfl
  | n + 1 => by
    rw [sumL, sumL_to m h n, dS_minor]
    rfl
theorem sumM_to (h : Nat) : ∀ n, sumM (gS m0 m1) (gS m0 m2) (gS m0 m3) h n = sumTo (n + 1) fun m => sumTo m fun l => sq3 m0 m1 m2 m3 l m h
  | 0 => rfl
  | n + 1 => by
    rw [sumM, sumM_to h n, sumL_to, Nat.add_comm 1 n]
    rfl
theorem sumH_to : ∀ n, sumH (gS m0 m1) (gS m0 m2) (gS m0 m3) n = sumTo (n + 2) fun h => sumTo h fun m => sumTo m fun l => sq3 m0 m1 m2 m3 l m h
  | 0 => rfl
  | n + 1 => by
    rw [sumH, sumH_to n, sumM_to, Nat.add_comm 2 n, Nat.add_comm 1 n]
    rfl
noncomputable def mk4 (i : Nat) : Int := if i = 0 then m0 else if i = 1 then m1 else if i = 2 then m2 else m3
/-- the distances between the spellings -/
noncomputable def dM (i j : Nat) : Int := hd7 (mk4 m0 m1 m2 m3 i) (mk4 m0 m1 m2 m3 j)
theorem room_bits : room (dM m0 m1 m2 m3 1 0) (dM m0 m1 m2 m3 2 0) (dM m0 m1 m2 m3 3 0) (dM m0 m1 m2 m3 2 1) (dM m0 m1 m2 m3 3 1) (dM m0 m1 m2 m3 3 2) = 8 * sumH (gS m0 m1) (gS m0 m2) (gS m0 m3) 5 := by
  rw [sumH_to]
  have h := room_squares (bitV m0) (bitV m1) (bitV m2) (bitV m3) 7
  rw [← hd7_dist, ← hd7_dist, ← hd7_dist, ← hd7_dist, ← hd7_dist, ← hd7_dist] at h
  exact h
theorem room_all {c o0 o1 o2 : Int} (h : Perm4 c o0 o1 o2) : detR (xr (dM m0 m1 m2 m3) 4 0 0) (xr (dM m0 m1 m2 m3) 4 0 1) (xr (dM m0 m1 m2 m3) 4 0 2) (xr (dM m0 m1 m2 m3) 4 0 3) c o0 o1 o2 = 8 * sumH (gS m0 m1) (gS m0 m2) (gS m0 m3) 5 := by
  rw [← room_bits]
  generalize dM m0 m1 m2 m3 = D
  rcases h with ⟨rfl, rfl, rfl, rfl⟩ | ⟨rfl, rfl, rfl, rfl⟩ | ⟨rfl, rfl, rfl, rfl⟩ | ⟨rfl, rfl, rfl, rfl⟩
  · rfl
  · rw [← room_1]; rfl
  · rw [← room_2]; rfl
  · rw [← room_3]; rfl
end
end Mine
end
section
open PySem PySem.W PyProof.Rows PySem.Calls
namespace Mine
set_option maxRecDepth 100000
set_option maxHeartbeats 8000000
set_option linter.unusedVariables false
theorem digN_lt (T : Int) (p : Nat) : digN T p < 16 := by
  have h1 := dig_lo T p
  have h2 := dig_hi T p
  unfold digN
  omega
theorem saysN_use {w : World} {f : Addr} {n : Nat} {vs : List Value} {news : List (Addr × Obj)} {R : Value → List (Addr × Obj) → Prop} {loose : List Str} {mean : ExcName → Option Value} {mg mb : Str → Option Value} {dp un : Nat} {gd : Option (List Code)} {cn : Str} {cs : Scope} {a : Addr} {ccd : Value} {cl : List (Str × Addr)} {outer : List Env} {A₀ : Around} {base h₀ : Heap} {L : Addr} {m : Str → Option Value} {s : Shared}
    {Q E : Value → Shared → Prop} (C : SaysN w f n vs news R)
    (B : Below A₀ base outer h₀) (F : Fr h₀ L s.heap m) (X : (KL w.params).In h₀) (N : News h₀ L s.heap news) (T : Top VW loose mean mg mb h₀) (hk : cs.kind = .function) (hd : dp + n < recursionLimit) (hu : un + 10 * n < cLine)
    (ret : ∀ r tl h' tk', Fr h₀ L h' m → News h₀ L h' (tl ++ news) → (∀ q ∈ news, ∀ p ∈ tl, q.1 ≠ p.1) → R r tl → Q r { s with heap := h', toks := tk' }) :
    wpAny (model PySem.Challenge.rw_tr0059_01.row.prog w) (ktrTop dp un gd cn cs L a ccd cl outer) (call (.ref f) vs) Q E s :=
  C _ _ _ _ _ _ _ _ _ _ _ _ _ _ _ _ _ _ _ _ _ B F X N T hk hd hu ret
theorem pick4 {h₀ h : Heap} {L : Addr} {p0 p1 p2 p3 p4 p5 p6 : Addr × Obj} (N : News h₀ L h [p0, p1, p2, p3, p4, p5, p6]) : News h₀ L h [p0, p1, p3, p6] :=
  kst_newsOf N fun p hp => by
    simp only [List.mem_cons, List.not_mem_nil, or_false] at hp ⊢
    rcases hp with h | h | h | h <;> simp only [h, true_or, or_true]
theorem dig_tab : ∀ a : Fin 15, ∀ c : Fin 8, ∀ p q : Fin 7, (1 + a.val + (1 + 2 * c.val) * p.val) % 16 = (1 + a.val + (1 + 2 * c.val) * q.val) % 16 → p = q := by decide +kernel
theorem digN_nat (T : Int) (a c p : Nat) (ha : T % 15 = a) (hc : T / 15 % 8 = c) : digN T p = (1 + a + (1 + 2 * c) * p) % 16 := by
  unfold digN dig
  rw [ha, hc, show (1 + (a : Int) + (1 + 2 * (c : Int)) * (p : Int)) = ((1 + a + (1 + 2 * c) * p : Nat) : Int) by simp only [Int.natCast_add, Int.natCast_mul]; rfl]
  exact Int.toNat_natCast _
theorem digN_inj (T : Int) (p q : Nat) (hp : p < 7) (hq : q < 7) (h : digN T p = digN T q) : p = q := by
  obtain ⟨a, ha⟩ := Int.eq_ofNat_of_zero_le (Int.emod_nonneg T (by decide : (15 : Int) ≠ 0))
  obtain ⟨c, hc⟩ := Int.eq_ofNat_of_zero_le (Int.emod_nonneg (T / 15) (by decide : (8 : Int) ≠ 0))
  have ha' : a < 15 := by have := Int.emod_lt_of_pos T (by decide : (0 : Int) < 15); omega
  have hc' : c < 8 := by have := Int.emod_lt_of_pos (T / 15) (by decide : (0 : Int) < 8); omega
  rw [digN_nat T a c p ha hc, digN_nat T a c q ha hc] at h
  exact congrArg Fin.val (dig_tab ⟨a, ha'⟩ ⟨c, hc'⟩ ⟨p, hp⟩ ⟨q, hq⟩ h)
theorem lev_all4 (T : Int) (m0 m1 m2 m3 : Int) (i j : Nat) (hj : j < i) (hi : i < 4) :
    LevOk (firstS (tt (spS (digN T) m0) (spS (digN T) m1) (spS (digN T) m2) (spS (digN T) m3) (0 + (i : Int))) (0 + (i : Int) + (0 + (j : Int)))) (secondS (tt (spS (digN T) m0) (spS (digN T) m1) (spS (digN T) m2) (spS (digN T) m3) (0 + (j : Int))) (0 + (i : Int) + (0 + (j : Int)))) (dM m0 m1 m2 m3 i j + 2) := by
  have e : (0 + (i : Int) + (0 + (j : Int))) = ((i + j : Nat) : Int) := by omega
  have et : ∀ k : Nat, k < 4 → tt (spS (digN T) m0) (spS (digN T) m1) (spS (digN T) m2) (spS (digN T) m3) (0 + (k : Int)) = spS (digN T) (mk4 m0 m1 m2 m3 k) := fun k hk => by
    have hc : k = 0 ∨ k = 1 ∨ k = 2 ∨ k = 3 := by omega
    rcases hc with rfl | rfl | rfl | rfl <;> rfl
  rw [e, et i hi, et j (by omega)]
  exact lev_spell _ (digN_lt T) (digN_inj T) _ _ _ (by omega) (by omega)
theorem pick6 {h₀ h : Heap} {L : Addr} {p0 p1 p2 p3 p4 p5 p6 p7 p8 : Addr × Obj} (N : News h₀ L h [p0, p1, p2, p3, p4, p5, p6, p7, p8]) : News h₀ L h [p0, p1, p2, p3, p4, p6] :=
  kst_newsOf N fun p hp => by
    simp only [List.mem_cons, List.not_mem_nil, or_false] at hp ⊢
    rcases hp with h | h | h | h | h | h <;> simp only [h, true_or, or_true]
theorem pick1 {h₀ h : Heap} {L : Addr} {p0 p1 p2 p3 p4 p5 : Addr × Obj} (N : News h₀ L h [p0, p1, p2, p3, p4, p5]) : News h₀ L h [p5] :=
  kst_newsOf N fun p hp => by
    simp only [List.mem_cons, List.not_mem_nil, or_false] at hp ⊢
    simp only [hp, or_true]
theorem dd_small (m0 m1 m2 m3 : Int) (k j : Int) (h0 : 0 ≤ k) (h1 : k < 4) (h2 : 0 ≤ j) (h3 : j < 4) : -100 ≤ dd (xr (dM m0 m1 m2 m3) 4 0 0) (xr (dM m0 m1 m2 m3) 4 0 1) (xr (dM m0 m1 m2 m3) 4 0 2) (xr (dM m0 m1 m2 m3) 4 0 3) k j ∧ dd (xr (dM m0 m1 m2 m3) 4 0 0) (xr (dM m0 m1 m2 m3) 4 0 1) (xr (dM m0 m1 m2 m3) 4 0 2) (xr (dM m0 m1 m2 m3) 4 0 3) k j ≤ 100 := by
  have hb : ∀ a b, -100 ≤ dM m0 m1 m2 m3 a b ∧ dM m0 m1 m2 m3 a b ≤ 100 := fun a b => by
    unfold dM hd7
    have e0 := eb_le (mk4 m0 m1 m2 m3 a) (mk4 m0 m1 m2 m3 b) 0
    have e1 := eb_le (mk4 m0 m1 m2 m3 a) (mk4 m0 m1 m2 m3 b) 1
    have e2 := eb_le (mk4 m0 m1 m2 m3 a) (mk4 m0 m1 m2 m3 b) 2
    have e3 := eb_le (mk4 m0 m1 m2 m3 a) (mk4 m0 m1 m2 m3 b) 3
    have e4 := eb_le (mk4 m0 m1 m2 m3 a) (mk4 m0 m1 m2 m3 b) 4
    have e5 := eb_le (mk4 m0 m1 m2 m3 a) (mk4 m0 m1 m2 m3 b) 5
    have e6 := eb_le (mk4 m0 m1 m2 m3 a) (mk4 m0 m1 m2 m3 b) 6
    omega
  generalize dM m0 m1 m2 m3 = D at *
  have hk : k = 0 ∨ k = 1 ∨ k = 2 ∨ k = 3 := by omega
  have hj : j = 0 ∨ j = 1 ∨ j = 2 ∨ j = 3 := by omega
  have z : -100 ≤ (0 : Int) ∧ (0 : Int) ≤ 100 := by decide
  rcases hk with rfl | rfl | rfl | rfl <;> rcases hj with rfl | rfl | rfl | rfl
  · exact z
  · exact hb 1 0
  · exact hb 2 0
  · exact hb 3 0
  · exact hb 1 0
  · exact z
  · exact hb 2 1
  · exact hb 3 1
  · exact hb 2 0
  · exact hb 2 1
  · exact z
  · exact hb 3 2
  · exact hb 3 0
  · exact hb 3 1
  · exact hb 3 2
  · exact z
theorem prom : rowL.toRowW.promised := by w_witness2
local macro_rules | `(tactic| tm_at "eq") => `(tactic| exact PyProof.Rows.v_eq_bool (PyProof.Rows.v_res (by rfl)) PyProof.Rows.v_lit)
local macro_rules | `(tactic| k_qdec) => `(tactic| decide +kernel)
theorem W0 : PySem.Challenge.rw_tr0059_01.Holds := by
  w_on
  w_top off
  refine law_of_row fun said => holds_open (r := PySem.Challenge.rw_tr0059_01.row) (q := VW) (loose := looseL) (Xt := XtL) (XP := XL VW []) (Yf := Hook.obs HL) (Ya := Hook.val HL) (YP := Hook.says (kHook KL asL as_eq)) (N := 21000) left_o (Hook.of HL) (Hook.keeps HL)
    (fun s e => xl_of s (Bool.and_eq_true_iff.mp e).1) XL.keeps (by rfl) (by rfl) (by rfl) (fun s e => recFacts_of (Bool.and_eq_true_iff.mp e).2) (by rfl) said (by decide +kernel) ⟨rfl, rfl, rfl, rfl, rfl, by decide +kernel⟩ prom ?_
  clear said
  w_strict (k_go0; (all_goals try k_fold))
  (repeat' ((fail_if_success (with_reducible first | show wpAny _ _ (exec (Stmt.Assign _ _ _) _) _ _ _ | show wpAny _ _ (call (Value.type "enumerate") _) _ _ _ | show wpAny _ _ (call (Value.ref 88) _) _ _ _ | show wpAny _ _ (call (Value.ref 100) _) _ _ _ | show wpAny _ _ (call (Value.ref 112) _) _ _ _ | show wpAny _ _ (call (Value.ref 117) _) _ _ _ | show GoodW _ _ _ _ _ _ _ | show EnEnd _ _ _ _ _ _ _ _ | show wpAny _ _ (subscriptTail _ (PySem.Expr.Slice _ _ (some _) _) _ _) _ _ _)); (first | (with_reducible first | fail "none") | ((with_reducible show wpAny _ _ (call (Value.ref 95) [Value.bytes _ _, Value.int _ _]) _ _ _); (refine' says_use (says_spell _ _ _ ?h0 ?h1 ?h2 _ _ _) ?k1 ?k2 ?k3 ?k4 ?k5 ?kK ?kd ?ku ?_; (case k1 => k_asm); (case k2 => k_asm); (case k3 => k_asm); (case k4 => k_asm); (case k5 => k_asm); (case kK => rfl); (case h0 => assumption); (case h1 => assumption); (case h2 => exact digN_lt _); (case kd => decide); (case ku => decide)); intro r9 tl9 h9 tk9 F9 N9 hl9 hR9; (obtain ⟨e9, t9, e8⟩ := hR9); subst e9; subst e8; clear hl9; (try simp only [List.nil_append] at N9); (try dsimp only); (try k_fold)) | ((with_reducible first | show wpAny _ _ (eval (PySem.Expr.Name (PySem.Str.ofString "int") _) (compEnvC _ _ _ _)) _ _ _ | show wpAny _ _ (eval (PySem.Expr.Name (PySem.Str.ofString "sum") _) (compEnvC _ _ _ _)) _ _ _); k_dflt (refine LCgL.ld_built (by k_asm) (by k_asm) (by k_asm) (by k_is) (by boot_by_name) (by decide) ?_); try dsimp only) | ((with_reducible show wpAny _ _ (eval (PySem.Expr.Name (PySem.Str.ofString "_law_spelling") _) (compEnvC _ _ _ _)) _ _ _); k_dflt (refine LCgL.ld_global (by k_asm) (by k_asm) (by k_asm) (by k_is) ?_); try dsimp only) | ((with_reducible show wpAny _ _ (eval (PySem.Expr.ListComp (PySem.Expr.Call (PySem.Expr.Name _ _) _ _ _) _ _ _) _) _ _ _); k_here; lcg_calm; k_dflt (refine LCg.ListComp_U (F₀ := by k_asm) (by with_unfolding_all rfl) (by decide) (by rfl) (by decide) (by rfl) ?_)) | ((with_reducible refine at_src ?_); k_dflt (refine LCg.CompSrc.ledger (by rfl) (by k_asm) (by k_asm) (by k_mem) (by first | size_fits | exact Nat.le_of_ble_eq_true rfl) ?_); intro g'; lcg_lit) | ((with_reducible refine at_rest ?_); (with_unfolding_all first | (refine LCg.CompRest.succ ?_; intro v' I' oI' C' oC' D' m' h' tk' E' hv' hC' hx' F' N' off' ne'; (first | lcg_open hv' | (obtain ⟨t9', hv9'⟩ := hv'; subst hv9')); (try simp only [LCg.Off3, and_true] at off'); (clear ne')) | refine LCg.CompRest.zero ?_)) | ((with_reducible refine at_finE ?_); (unfold LCg.FinE); intro D' h' tk' F' N' o1'; (try simp only [LCg.Off1, and_true] at o1'); (try simp only [List.nil_append, List.cons_append] at N'); (repeat ((with_reducible rename (_ ≠ _ ∧ _ ≠ _ ∧ _ ≠ _) ∧ _ => z9); clear z9)); (repeat ((with_reducible rename _ ≠ _ ∧ _ => z9); (have z8 := And.left z9); (have z7 := And.right z9); clear z9)); (try dsimp only)) | ((with_reducible refine at_end ?_); (with_reducible rename Fr _ _ _ _ => F9); (with_reducible rename News _ _ _ (_ :: _ :: _ :: _) => N9); refine comp_end F9 N9 ?off (by lcg_src) ?_; (case off => first | assumption | (simp only [LCg.Off3, and_true]; assumption))) | ((with_reducible refine abs_st ?_); intro _ _; walk1; try dsimp only) | ((with_reducible refine use_post (by assumption) ?_); try dsimp only) | (k_unfold; (try dsimp only)) | (k_end; wrow_close) | (walk1; try dsimp only) | (dsimp only; walk1) | (leave1; walk_say "STEP leave1"; try dsimp only) | fail "no step")))
  walk1
  (repeat' ((fail_if_success (with_reducible first | show wpAny _ _ (exec (Stmt.Assign _ _ _) _) _ _ _ | show wpAny _ _ (call (Value.type "enumerate") _) _ _ _ | show wpAny _ _ (call (Value.ref 88) _) _ _ _ | show wpAny _ _ (call (Value.ref 100) _) _ _ _ | show wpAny _ _ (call (Value.ref 112) _) _ _ _ | show wpAny _ _ (call (Value.ref 117) _) _ _ _ | show GoodW _ _ _ _ _ _ _ | show EnEnd _ _ _ _ _ _ _ _ | show wpAny _ _ (subscriptTail _ (PySem.Expr.Slice _ _ (some _) _) _ _) _ _ _)); (first | (with_reducible first | fail "none") | ((with_reducible show wpAny _ _ (call (Value.ref 95) [Value.bytes _ _, Value.int _ _]) _ _ _); (refine' says_use (says_spell _ _ _ ?h0 ?h1 ?h2 _ _ _) ?k1 ?k2 ?k3 ?k4 ?k5 ?kK ?kd ?ku ?_; (case k1 => k_asm); (case k2 => k_asm); (case k3 => k_asm); (case k4 => k_asm); (case k5 => k_asm); (case kK => rfl); (case h0 => assumption); (case h1 => assumption); (case h2 => exact digN_lt _); (case kd => decide); (case ku => decide)); intro r9 tl9 h9 tk9 F9 N9 hl9 hR9; (obtain ⟨e9, t9, e8⟩ := hR9); subst e9; subst e8; clear hl9; (try simp only [List.nil_append] at N9); (try dsimp only); (try k_fold)) | ((with_reducible first | show wpAny _ _ (eval (PySem.Expr.Name (PySem.Str.ofString "int") _) (compEnvC _ _ _ _)) _ _ _ | show wpAny _ _ (eval (PySem.Expr.Name (PySem.Str.ofString "sum") _) (compEnvC _ _ _ _)) _ _ _); k_dflt (refine LCgL.ld_built (by k_asm) (by k_asm) (by k_asm) (by k_is) (by boot_by_name) (by decide) ?_); try dsimp only) | ((with_reducible show wpAny _ _ (eval (PySem.Expr.Name (PySem.Str.ofString "_law_spelling") _) (compEnvC _ _ _ _)) _ _ _); k_dflt (refine LCgL.ld_global (by k_asm) (by k_asm) (by k_asm) (by k_is) ?_); try dsimp only) | ((with_reducible show wpAny _ _ (eval (PySem.Expr.ListComp (PySem.Expr.Call (PySem.Expr.Name _ _) _ _ _) _ _ _) _) _ _ _); k_here; lcg_calm; k_dflt (refine LCg.ListComp_U (F₀ := by k_asm) (by with_unfolding_all rfl) (by decide) (by rfl) (by decide) (by rfl) ?_)) | ((with_reducible refine at_src ?_); k_dflt (refine LCg.CompSrc.ledger (by rfl) (by k_asm) (by k_asm) (by k_mem) (by first | size_fits | exact Nat.le_of_ble_eq_true rfl) ?_); intro g'; lcg_lit) | ((with_reducible refine at_rest ?_); (with_unfolding_all first | (refine LCg.CompRest.succ ?_; intro v' I' oI' C' oC' D' m' h' tk' E' hv' hC' hx' F' N' off' ne'; (first | lcg_open hv' | (obtain ⟨t9', hv9'⟩ := hv'; subst hv9')); (try simp only [LCg.Off3, and_true] at off'); (clear ne')) | refine LCg.CompRest.zero ?_)) | ((with_reducible refine at_finE ?_); (unfold LCg.FinE); intro D' h' tk' F' N' o1'; (try simp only [LCg.Off1, and_true] at o1'); (try simp only [List.nil_append, List.cons_append] at N'); (repeat ((with_reducible rename (_ ≠ _ ∧ _ ≠ _ ∧ _ ≠ _) ∧ _ => z9); clear z9)); (repeat ((with_reducible rename _ ≠ _ ∧ _ => z9); (have z8 := And.left z9); (have z7 := And.right z9); clear z9)); (try dsimp only)) | ((with_reducible refine at_end ?_); (with_reducible rename Fr _ _ _ _ => F9); (with_reducible rename News _ _ _ (_ :: _ :: _ :: _) => N9); refine comp_end F9 N9 ?off (by lcg_src) ?_; (case off => first | assumption | (simp only [LCg.Off3, and_true]; assumption))) | ((with_reducible refine abs_st ?_); intro _ _; walk1; try dsimp only) | ((with_reducible refine use_post (by assumption) ?_); try dsimp only) | (k_unfold; (try dsimp only)) | (k_end; wrow_close) | (walk1; try dsimp only) | (dsimp only; walk1) | (leave1; walk_say "STEP leave1"; try dsimp only) | fail "no step")))
  rename Fr _ _ _ _ => lF
  rename News _ _ _ _ => lN
  rename IntsAre _ (List.map _ _) => hcs
  obtain ⟨cs, hcs, hz100, hT0, hT1⟩ := cells_sum hcs
  k_dflt (refine en_Assign (P := fun z => 0 ≤ z ∧ z < 128) lF (by rfl) (by with_unfolding_all rfl) (by with_unfolding_all rfl) (by decide) (by rfl) (by decide) (by rfl) (by rfl) (by first | decide | decide +kernel) (by rfl) (by rfl) ?_)
  (repeat' ((fail_if_success (with_reducible first | show wpAny _ _ (exec (Stmt.Assign _ _ _) _) _ _ _ | show wpAny _ _ (call (Value.type "enumerate") _) _ _ _ | show wpAny _ _ (call (Value.ref 88) _) _ _ _ | show wpAny _ _ (call (Value.ref 100) _) _ _ _ | show wpAny _ _ (call (Value.ref 112) _) _ _ _ | show wpAny _ _ (call (Value.ref 117) _) _ _ _ | show GoodW _ _ _ _ _ _ _ | show EnEnd _ _ _ _ _ _ _ _ | show wpAny _ _ (subscriptTail _ (PySem.Expr.Slice _ _ (some _) _) _ _) _ _ _)); (first | (with_reducible first | fail "none") | ((with_reducible show wpAny _ _ (call (Value.ref 95) [Value.bytes _ _, Value.int _ _]) _ _ _); (refine' says_use (says_spell _ _ _ ?h0 ?h1 ?h2 _ _ _) ?k1 ?k2 ?k3 ?k4 ?k5 ?kK ?kd ?ku ?_; (case k1 => k_asm); (case k2 => k_asm); (case k3 => k_asm); (case k4 => k_asm); (case k5 => k_asm); (case kK => rfl); (case h0 => assumption); (case h1 => assumption); (case h2 => exact digN_lt _); (case kd => decide); (case ku => decide)); intro r9 tl9 h9 tk9 F9 N9 hl9 hR9; (obtain ⟨e9, t9, e8⟩ := hR9); subst e9; subst e8; clear hl9; (try simp only [List.nil_append] at N9); (try dsimp only); (try k_fold)) | ((with_reducible first | show wpAny _ _ (eval (PySem.Expr.Name (PySem.Str.ofString "int") _) (compEnvC _ _ _ _)) _ _ _ | show wpAny _ _ (eval (PySem.Expr.Name (PySem.Str.ofString "sum") _) (compEnvC _ _ _ _)) _ _ _); k_dflt (refine LCgL.ld_built (by k_asm) (by k_asm) (by k_asm) (by k_is) (by boot_by_name) (by decide) ?_); try dsimp only) | ((with_reducible show wpAny _ _ (eval (PySem.Expr.Name (PySem.Str.ofString "_law_spelling") _) (compEnvC _ _ _ _)) _ _ _); k_dflt (refine LCgL.ld_global (by k_asm) (by k_asm) (by k_asm) (by k_is) ?_); try dsimp only) | ((with_reducible show wpAny _ _ (eval (PySem.Expr.ListComp (PySem.Expr.Call (PySem.Expr.Name _ _) _ _ _) _ _ _) _) _ _ _); k_here; lcg_calm; k_dflt (refine LCg.ListComp_U (F₀ := by k_asm) (by with_unfolding_all rfl) (by decide) (by rfl) (by decide) (by rfl) ?_)) | ((with_reducible refine at_src ?_); k_dflt (refine LCg.CompSrc.ledger (by rfl) (by k_asm) (by k_asm) (by k_mem) (by first | size_fits | exact Nat.le_of_ble_eq_true rfl) ?_); intro g'; lcg_lit) | ((with_reducible refine at_rest ?_); (with_unfolding_all first | (refine LCg.CompRest.succ ?_; intro v' I' oI' C' oC' D' m' h' tk' E' hv' hC' hx' F' N' off' ne'; (first | lcg_open hv' | (obtain ⟨t9', hv9'⟩ := hv'; subst hv9')); (try simp only [LCg.Off3, and_true] at off'); (clear ne')) | refine LCg.CompRest.zero ?_)) | ((with_reducible refine at_finE ?_); (unfold LCg.FinE); intro D' h' tk' F' N' o1'; (try simp only [LCg.Off1, and_true] at o1'); (try simp only [List.nil_append, List.cons_append] at N'); (repeat ((with_reducible rename (_ ≠ _ ∧ _ ≠ _ ∧ _ ≠ _) ∧ _ => z9); clear z9)); (repeat ((with_reducible rename _ ≠ _ ∧ _ => z9); (have z8 := And.left z9); (have z7 := And.right z9); clear z9)); (try dsimp only)) | ((with_reducible refine at_end ?_); (with_reducible rename Fr _ _ _ _ => F9); (with_reducible rename News _ _ _ (_ :: _ :: _ :: _) => N9); refine comp_end F9 N9 ?off (by lcg_src) ?_; (case off => first | assumption | (simp only [LCg.Off3, and_true]; assumption))) | ((with_reducible refine abs_st ?_); intro _ _; walk1; try dsimp only) | ((with_reducible refine use_post (by assumption) ?_); try dsimp only) | (k_unfold; (try dsimp only)) | (k_end; wrow_close) | (walk1; try dsimp only) | (dsimp only; walk1) | (leave1; walk_say "STEP leave1"; try dsimp only) | fail "no step")))
  rename Fr _ _ _ _ => lF
  rename News _ _ _ _ => lN
  refine en_call (vs := [_, _, _, _]) (by rfl) lF lN (by k_mem) (by exact Nat.le_of_ble_eq_true rfl) ?turn ?fin
  case turn =>
    clear lF lN
    intro e it i x t oe oi oC oD C D m₂ h tk E' hx hC ha hb lF lN
    obtain ⟨c, t', rfl⟩ := four_int hx
    (repeat' ((fail_if_success (with_reducible first | show wpAny _ _ (exec (Stmt.Assign _ _ _) _) _ _ _ | show wpAny _ _ (call (Value.type "enumerate") _) _ _ _ | show wpAny _ _ (call (Value.ref 88) _) _ _ _ | show wpAny _ _ (call (Value.ref 100) _) _ _ _ | show wpAny _ _ (call (Value.ref 112) _) _ _ _ | show wpAny _ _ (call (Value.ref 117) _) _ _ _ | show GoodW _ _ _ _ _ _ _ | show EnEnd _ _ _ _ _ _ _ _ | show wpAny _ _ (subscriptTail _ (PySem.Expr.Slice _ _ (some _) _) _ _) _ _ _)); (first | (with_reducible first | fail "none") | ((with_reducible show wpAny _ _ (call (Value.ref 95) [Value.bytes _ _, Value.int _ _]) _ _ _); (refine' says_use (says_spell _ _ _ ?h0 ?h1 ?h2 _ _ _) ?k1 ?k2 ?k3 ?k4 ?k5 ?kK ?kd ?ku ?_; (case k1 => k_asm); (case k2 => k_asm); (case k3 => k_asm); (case k4 => k_asm); (case k5 => k_asm); (case kK => rfl); (case h0 => assumption); (case h1 => assumption); (case h2 => exact digN_lt _); (case kd => decide); (case ku => decide)); intro r9 tl9 h9 tk9 F9 N9 hl9 hR9; (obtain ⟨e9, t9, e8⟩ := hR9); subst e9; subst e8; clear hl9; (try simp only [List.nil_append] at N9); (try dsimp only); (try k_fold)) | ((with_reducible first | show wpAny _ _ (eval (PySem.Expr.Name (PySem.Str.ofString "int") _) (compEnvC _ _ _ _)) _ _ _ | show wpAny _ _ (eval (PySem.Expr.Name (PySem.Str.ofString "sum") _) (compEnvC _ _ _ _)) _ _ _); k_dflt (refine LCgL.ld_built (by k_asm) (by k_asm) (by k_asm) (by k_is) (by boot_by_name) (by decide) ?_); try dsimp only) | ((with_reducible show wpAny _ _ (eval (PySem.Expr.Name (PySem.Str.ofString "_law_spelling") _) (compEnvC _ _ _ _)) _ _ _); k_dflt (refine LCgL.ld_global (by k_asm) (by k_asm) (by k_asm) (by k_is) ?_); try dsimp only) | ((with_reducible show wpAny _ _ (eval (PySem.Expr.ListComp (PySem.Expr.Call (PySem.Expr.Name _ _) _ _ _) _ _ _) _) _ _ _); k_here; lcg_calm; k_dflt (refine LCg.ListComp_U (F₀ := by k_asm) (by with_unfolding_all rfl) (by decide) (by rfl) (by decide) (by rfl) ?_)) | ((with_reducible refine at_src ?_); k_dflt (refine LCg.CompSrc.ledger (by rfl) (by k_asm) (by k_asm) (by k_mem) (by first | size_fits | exact Nat.le_of_ble_eq_true rfl) ?_); intro g'; lcg_lit) | ((with_reducible refine at_rest ?_); (with_unfolding_all first | (refine LCg.CompRest.succ ?_; intro v' I' oI' C' oC' D' m' h' tk' E' hv' hC' hx' F' N' off' ne'; (first | lcg_open hv' | (obtain ⟨t9', hv9'⟩ := hv'; subst hv9')); (try simp only [LCg.Off3, and_true] at off'); (clear ne')) | refine LCg.CompRest.zero ?_)) | ((with_reducible refine at_finE ?_); (unfold LCg.FinE); intro D' h' tk' F' N' o1'; (try simp only [LCg.Off1, and_true] at o1'); (try simp only [List.nil_append, List.cons_append] at N'); (repeat ((with_reducible rename (_ ≠ _ ∧ _ ≠ _ ∧ _ ≠ _) ∧ _ => z9); clear z9)); (repeat ((with_reducible rename _ ≠ _ ∧ _ => z9); (have z8 := And.left z9); (have z7 := And.right z9); clear z9)); (try dsimp only)) | ((with_reducible refine at_end ?_); (with_reducible rename Fr _ _ _ _ => F9); (with_reducible rename News _ _ _ (_ :: _ :: _ :: _) => N9); refine comp_end F9 N9 ?off (by lcg_src) ?_; (case off => first | assumption | (simp only [LCg.Off3, and_true]; assumption))) | ((with_reducible refine abs_st ?_); intro _ _; walk1; try dsimp only) | ((with_reducible refine use_post (by assumption) ?_); try dsimp only) | (k_unfold; (try dsimp only)) | (k_end; wrow_close) | (walk1; try dsimp only) | (dsimp only; walk1) | (leave1; walk_say "STEP leave1"; try dsimp only) | fail "no step")))
    rename Fr _ _ _ _ => lF'
    rename News _ _ _ _ => lN'
    refine' slice_any (s := ⟨_, _, _, _, _⟩) lF' lN' ?za hcs hz100 ?_ ?zs ?zt
    case za => kmk_list
    case zs => with_unfolding_all rfl
    case zt => kmk_pure
    intro _ _ _ _ _ _ _
    dsimp only
    (repeat' ((fail_if_success (with_reducible first | show wpAny _ _ (exec (Stmt.Assign _ _ _) _) _ _ _ | show wpAny _ _ (call (Value.type "enumerate") _) _ _ _ | show wpAny _ _ (call (Value.ref 88) _) _ _ _ | show wpAny _ _ (call (Value.ref 100) _) _ _ _ | show wpAny _ _ (call (Value.ref 112) _) _ _ _ | show wpAny _ _ (call (Value.ref 117) _) _ _ _ | show GoodW _ _ _ _ _ _ _ | show EnEnd _ _ _ _ _ _ _ _ | show wpAny _ _ (subscriptTail _ (PySem.Expr.Slice _ _ (some _) _) _ _) _ _ _)); (first | (with_reducible first | fail "none") | ((with_reducible show wpAny _ _ (call (Value.ref 95) [Value.bytes _ _, Value.int _ _]) _ _ _); (refine' says_use (says_spell _ _ _ ?h0 ?h1 ?h2 _ _ _) ?k1 ?k2 ?k3 ?k4 ?k5 ?kK ?kd ?ku ?_; (case k1 => k_asm); (case k2 => k_asm); (case k3 => k_asm); (case k4 => k_asm); (case k5 => k_asm); (case kK => rfl); (case h0 => assumption); (case h1 => assumption); (case h2 => exact digN_lt _); (case kd => decide); (case ku => decide)); intro r9 tl9 h9 tk9 F9 N9 hl9 hR9; (obtain ⟨e9, t9, e8⟩ := hR9); subst e9; subst e8; clear hl9; (try simp only [List.nil_append] at N9); (try dsimp only); (try k_fold)) | ((with_reducible first | show wpAny _ _ (eval (PySem.Expr.Name (PySem.Str.ofString "int") _) (compEnvC _ _ _ _)) _ _ _ | show wpAny _ _ (eval (PySem.Expr.Name (PySem.Str.ofString "sum") _) (compEnvC _ _ _ _)) _ _ _); k_dflt (refine LCgL.ld_built (by k_asm) (by k_asm) (by k_asm) (by k_is) (by boot_by_name) (by decide) ?_); try dsimp only) | ((with_reducible show wpAny _ _ (eval (PySem.Expr.Name (PySem.Str.ofString "_law_spelling") _) (compEnvC _ _ _ _)) _ _ _); k_dflt (refine LCgL.ld_global (by k_asm) (by k_asm) (by k_asm) (by k_is) ?_); try dsimp only) | ((with_reducible show wpAny _ _ (eval (PySem.Expr.ListComp (PySem.Expr.Call (PySem.Expr.Name _ _) _ _ _) _ _ _) _) _ _ _); k_here; lcg_calm; k_dflt (refine LCg.ListComp_U (F₀ := by k_asm) (by with_unfolding_all rfl) (by decide) (by rfl) (by decide) (by rfl) ?_)) | ((with_reducible refine at_src ?_); k_dflt (refine LCg.CompSrc.ledger (by rfl) (by k_asm) (by k_asm) (by k_mem) (by first | size_fits | exact Nat.le_of_ble_eq_true rfl) ?_); intro g'; lcg_lit) | ((with_reducible refine at_rest ?_); (with_unfolding_all first | (refine LCg.CompRest.succ ?_; intro v' I' oI' C' oC' D' m' h' tk' E' hv' hC' hx' F' N' off' ne'; (first | lcg_open hv' | (obtain ⟨t9', hv9'⟩ := hv'; subst hv9')); (try simp only [LCg.Off3, and_true] at off'); (clear ne')) | refine LCg.CompRest.zero ?_)) | ((with_reducible refine at_finE ?_); (unfold LCg.FinE); intro D' h' tk' F' N' o1'; (try simp only [LCg.Off1, and_true] at o1'); (try simp only [List.nil_append, List.cons_append] at N'); (repeat ((with_reducible rename (_ ≠ _ ∧ _ ≠ _ ∧ _ ≠ _) ∧ _ => z9); clear z9)); (repeat ((with_reducible rename _ ≠ _ ∧ _ => z9); (have z8 := And.left z9); (have z7 := And.right z9); clear z9)); (try dsimp only)) | ((with_reducible refine at_end ?_); (with_reducible rename Fr _ _ _ _ => F9); (with_reducible rename News _ _ _ (_ :: _ :: _ :: _) => N9); refine comp_end F9 N9 ?off (by lcg_src) ?_; (case off => first | assumption | (simp only [LCg.Off3, and_true]; assumption))) | ((with_reducible refine abs_st ?_); intro _ _; walk1; try dsimp only) | ((with_reducible refine use_post (by assumption) ?_); try dsimp only) | (k_unfold; (try dsimp only)) | (k_end; wrow_close) | (walk1; try dsimp only) | (dsimp only; walk1) | (leave1; walk_say "STEP leave1"; try dsimp only) | fail "no step")))
    exact ⟨_, _, _, _, _, ⟨fmod_lo _ (by decide), fmod_hi _ (by decide)⟩, by assumption, by assumption, fun p hp => .tail _ hp⟩
  case fin =>
    clear lF lN
    intro D2 mys mzs h tk hys hzl hzs lF lN o1
    obtain ⟨m0, m1, m2, m3, u0, u1, u2, u3, rfl, hm0, hm1, hm2, hm3⟩ := ints_four hys hzl hzs
    clear hys hzl hzs
    simp only [LCg.Off1, and_true] at o1
    (repeat ((with_reducible rename _ ≠ _ ∧ _ => z9); (obtain ⟨_, _⟩ := z9)))
    obtain ⟨u, lF⟩ := fr_abs lF [("masks", .ref D2)] (by kst_all)
    dsimp only [kstB] at lF
    (repeat' ((fail_if_success (with_reducible first | show wpAny _ _ (exec (Stmt.Assign _ _ _) _) _ _ _ | show wpAny _ _ (call (Value.type "enumerate") _) _ _ _ | show wpAny _ _ (call (Value.ref 88) _) _ _ _ | show wpAny _ _ (call (Value.ref 100) _) _ _ _ | show wpAny _ _ (call (Value.ref 112) _) _ _ _ | show wpAny _ _ (call (Value.ref 117) _) _ _ _ | show GoodW _ _ _ _ _ _ _ | show EnEnd _ _ _ _ _ _ _ _ | show wpAny _ _ (subscriptTail _ (PySem.Expr.Slice _ _ (some _) _) _ _) _ _ _)); (first | (with_reducible first | fail "none") | ((with_reducible show wpAny _ _ (call (Value.ref 95) [Value.bytes _ _, Value.int _ _]) _ _ _); (refine' says_use (says_spell _ _ _ ?h0 ?h1 ?h2 _ _ _) ?k1 ?k2 ?k3 ?k4 ?k5 ?kK ?kd ?ku ?_; (case k1 => k_asm); (case k2 => k_asm); (case k3 => k_asm); (case k4 => k_asm); (case k5 => k_asm); (case kK => rfl); (case h0 => assumption); (case h1 => assumption); (case h2 => exact digN_lt _); (case kd => decide); (case ku => decide)); intro r9 tl9 h9 tk9 F9 N9 hl9 hR9; (obtain ⟨e9, t9, e8⟩ := hR9); subst e9; subst e8; clear hl9; (try simp only [List.nil_append] at N9); (try dsimp only); (try k_fold)) | ((with_reducible first | show wpAny _ _ (eval (PySem.Expr.Name (PySem.Str.ofString "int") _) (compEnvC _ _ _ _)) _ _ _ | show wpAny _ _ (eval (PySem.Expr.Name (PySem.Str.ofString "sum") _) (compEnvC _ _ _ _)) _ _ _); k_dflt (refine LCgL.ld_built (by k_asm) (by k_asm) (by k_asm) (by k_is) (by boot_by_name) (by decide) ?_); try dsimp only) | ((with_reducible show wpAny _ _ (eval (PySem.Expr.Name (PySem.Str.ofString "_law_spelling") _) (compEnvC _ _ _ _)) _ _ _); k_dflt (refine LCgL.ld_global (by k_asm) (by k_asm) (by k_asm) (by k_is) ?_); try dsimp only) | ((with_reducible show wpAny _ _ (eval (PySem.Expr.ListComp (PySem.Expr.Call (PySem.Expr.Name _ _) _ _ _) _ _ _) _) _ _ _); k_here; lcg_calm; k_dflt (refine LCg.ListComp_U (F₀ := by k_asm) (by with_unfolding_all rfl) (by decide) (by rfl) (by decide) (by rfl) ?_)) | ((with_reducible refine at_src ?_); k_dflt (refine LCg.CompSrc.ledger (by rfl) (by k_asm) (by k_asm) (by k_mem) (by first | size_fits | exact Nat.le_of_ble_eq_true rfl) ?_); intro g'; lcg_lit) | ((with_reducible refine at_rest ?_); (with_unfolding_all first | (refine LCg.CompRest.succ ?_; intro v' I' oI' C' oC' D' m' h' tk' E' hv' hC' hx' F' N' off' ne'; (first | lcg_open hv' | (obtain ⟨t9', hv9'⟩ := hv'; subst hv9')); (try simp only [LCg.Off3, and_true] at off'); (clear ne')) | refine LCg.CompRest.zero ?_)) | ((with_reducible refine at_finE ?_); (unfold LCg.FinE); intro D' h' tk' F' N' o1'; (try simp only [LCg.Off1, and_true] at o1'); (try simp only [List.nil_append, List.cons_append] at N'); (repeat ((with_reducible rename (_ ≠ _ ∧ _ ≠ _ ∧ _ ≠ _) ∧ _ => z9); clear z9)); (repeat ((with_reducible rename _ ≠ _ ∧ _ => z9); (have z8 := And.left z9); (have z7 := And.right z9); clear z9)); (try dsimp only)) | ((with_reducible refine at_end ?_); (with_reducible rename Fr _ _ _ _ => F9); (with_reducible rename News _ _ _ (_ :: _ :: _ :: _) => N9); refine comp_end F9 N9 ?off (by lcg_src) ?_; (case off => first | assumption | (simp only [LCg.Off3, and_true]; assumption))) | ((with_reducible refine abs_st ?_); intro _ _; walk1; try dsimp only) | ((with_reducible refine use_post (by assumption) ?_); try dsimp only) | (k_unfold; (try dsimp only)) | (k_end; wrow_close) | (walk1; try dsimp only) | (dsimp only; walk1) | (leave1; walk_say "STEP leave1"; try dsimp only) | fail "no step")))
    walk1
    (repeat' ((fail_if_success (with_reducible first | show wpAny _ _ (exec (Stmt.Assign _ _ _) _) _ _ _ | show wpAny _ _ (call (Value.type "enumerate") _) _ _ _ | show wpAny _ _ (call (Value.ref 88) _) _ _ _ | show wpAny _ _ (call (Value.ref 100) _) _ _ _ | show wpAny _ _ (call (Value.ref 112) _) _ _ _ | show wpAny _ _ (call (Value.ref 117) _) _ _ _ | show GoodW _ _ _ _ _ _ _ | show EnEnd _ _ _ _ _ _ _ _ | show wpAny _ _ (subscriptTail _ (PySem.Expr.Slice _ _ (some _) _) _ _) _ _ _)); (first | (with_reducible first | fail "none") | ((with_reducible show wpAny _ _ (call (Value.ref 95) [Value.bytes _ _, Value.int _ _]) _ _ _); (refine' says_use (says_spell _ _ _ ?h0 ?h1 ?h2 _ _ _) ?k1 ?k2 ?k3 ?k4 ?k5 ?kK ?kd ?ku ?_; (case k1 => k_asm); (case k2 => k_asm); (case k3 => k_asm); (case k4 => k_asm); (case k5 => k_asm); (case kK => rfl); (case h0 => assumption); (case h1 => assumption); (case h2 => exact digN_lt _); (case kd => decide); (case ku => decide)); intro r9 tl9 h9 tk9 F9 N9 hl9 hR9; (obtain ⟨e9, t9, e8⟩ := hR9); subst e9; subst e8; clear hl9; (try simp only [List.nil_append] at N9); (try dsimp only); (try k_fold)) | ((with_reducible first | show wpAny _ _ (eval (PySem.Expr.Name (PySem.Str.ofString "int") _) (compEnvC _ _ _ _)) _ _ _ | show wpAny _ _ (eval (PySem.Expr.Name (PySem.Str.ofString "sum") _) (compEnvC _ _ _ _)) _ _ _); k_dflt (refine LCgL.ld_built (by k_asm) (by k_asm) (by k_asm) (by k_is) (by boot_by_name) (by decide) ?_); try dsimp only) | ((with_reducible show wpAny _ _ (eval (PySem.Expr.Name (PySem.Str.ofString "_law_spelling") _) (compEnvC _ _ _ _)) _ _ _); k_dflt (refine LCgL.ld_global (by k_asm) (by k_asm) (by k_asm) (by k_is) ?_); try dsimp only) | ((with_reducible show wpAny _ _ (eval (PySem.Expr.ListComp (PySem.Expr.Call (PySem.Expr.Name _ _) _ _ _) _ _ _) _) _ _ _); k_here; lcg_calm; k_dflt (refine LCg.ListComp_U (F₀ := by k_asm) (by with_unfolding_all rfl) (by decide) (by rfl) (by decide) (by rfl) ?_)) | ((with_reducible refine at_src ?_); k_dflt (refine LCg.CompSrc.ledger (by rfl) (by k_asm) (by k_asm) (by k_mem) (by first | size_fits | exact Nat.le_of_ble_eq_true rfl) ?_); intro g'; lcg_lit) | ((with_reducible refine at_rest ?_); (with_unfolding_all first | (refine LCg.CompRest.succ ?_; intro v' I' oI' C' oC' D' m' h' tk' E' hv' hC' hx' F' N' off' ne'; (first | lcg_open hv' | (obtain ⟨t9', hv9'⟩ := hv'; subst hv9')); (try simp only [LCg.Off3, and_true] at off'); (clear ne')) | refine LCg.CompRest.zero ?_)) | ((with_reducible refine at_finE ?_); (unfold LCg.FinE); intro D' h' tk' F' N' o1'; (try simp only [LCg.Off1, and_true] at o1'); (try simp only [List.nil_append, List.cons_append] at N'); (repeat ((with_reducible rename (_ ≠ _ ∧ _ ≠ _ ∧ _ ≠ _) ∧ _ => z9); clear z9)); (repeat ((with_reducible rename _ ≠ _ ∧ _ => z9); (have z8 := And.left z9); (have z7 := And.right z9); clear z9)); (try dsimp only)) | ((with_reducible refine at_end ?_); (with_reducible rename Fr _ _ _ _ => F9); (with_reducible rename News _ _ _ (_ :: _ :: _ :: _) => N9); refine comp_end F9 N9 ?off (by lcg_src) ?_; (case off => first | assumption | (simp only [LCg.Off3, and_true]; assumption))) | ((with_reducible refine abs_st ?_); intro _ _; walk1; try dsimp only) | ((with_reducible refine use_post (by assumption) ?_); try dsimp only) | (k_unfold; (try dsimp only)) | (k_end; wrow_close) | (walk1; try dsimp only) | (dsimp only; walk1) | (leave1; walk_say "STEP leave1"; try dsimp only) | fail "no step")))
    rename Fr _ _ _ _ => lF
    rename News _ _ _ _ => lN
    refine' says_use (says_word _ cs.sum hT0 hT1 _ _) ?k1 ?k2 ?k3 lN ?k5 ?kK ?kd ?ku ?_
    case k1 => k_asm
    case k2 => k_asm
    case k3 => k_asm
    case k5 => k_asm
    case kK => rfl
    case kd => decide
    case ku => decide
    clear lF lN
    intro r9 tl9 h9 tk9 F9 N9 hl9 hR9
    obtain ⟨e9, t9, e8⟩ := hR9
    subst e9
    subst e8
    clear hl9
    simp only [List.nil_append] at N9
    dsimp only
    (repeat' ((fail_if_success (with_reducible first | show wpAny _ _ (exec (Stmt.Assign _ _ _) _) _ _ _ | show wpAny _ _ (call (Value.type "enumerate") _) _ _ _ | show wpAny _ _ (call (Value.ref 88) _) _ _ _ | show wpAny _ _ (call (Value.ref 100) _) _ _ _ | show wpAny _ _ (call (Value.ref 112) _) _ _ _ | show wpAny _ _ (call (Value.ref 117) _) _ _ _ | show GoodW _ _ _ _ _ _ _ | show EnEnd _ _ _ _ _ _ _ _ | show wpAny _ _ (subscriptTail _ (PySem.Expr.Slice _ _ (some _) _) _ _) _ _ _)); (first | (with_reducible first | fail "none") | ((with_reducible show wpAny _ _ (call (Value.ref 95) [Value.bytes _ _, Value.int _ _]) _ _ _); (refine' says_use (says_spell _ _ _ ?h0 ?h1 ?h2 _ _ _) ?k1 ?k2 ?k3 ?k4 ?k5 ?kK ?kd ?ku ?_; (case k1 => k_asm); (case k2 => k_asm); (case k3 => k_asm); (case k4 => k_asm); (case k5 => k_asm); (case kK => rfl); (case h0 => assumption); (case h1 => assumption); (case h2 => exact digN_lt _); (case kd => decide); (case ku => decide)); intro r9 tl9 h9 tk9 F9 N9 hl9 hR9; (obtain ⟨e9, t9, e8⟩ := hR9); subst e9; subst e8; clear hl9; (try simp only [List.nil_append] at N9); (try dsimp only); (try k_fold)) | ((with_reducible first | show wpAny _ _ (eval (PySem.Expr.Name (PySem.Str.ofString "int") _) (compEnvC _ _ _ _)) _ _ _ | show wpAny _ _ (eval (PySem.Expr.Name (PySem.Str.ofString "sum") _) (compEnvC _ _ _ _)) _ _ _); k_dflt (refine LCgL.ld_built (by k_asm) (by k_asm) (by k_asm) (by k_is) (by boot_by_name) (by decide) ?_); try dsimp only) | ((with_reducible show wpAny _ _ (eval (PySem.Expr.Name (PySem.Str.ofString "_law_spelling") _) (compEnvC _ _ _ _)) _ _ _); k_dflt (refine LCgL.ld_global (by k_asm) (by k_asm) (by k_asm) (by k_is) ?_); try dsimp only) | ((with_reducible show wpAny _ _ (eval (PySem.Expr.ListComp (PySem.Expr.Call (PySem.Expr.Name _ _) _ _ _) _ _ _) _) _ _ _); k_here; lcg_calm; k_dflt (refine LCg.ListComp_U (F₀ := by k_asm) (by with_unfolding_all rfl) (by decide) (by rfl) (by decide) (by rfl) ?_)) | ((with_reducible refine at_src ?_); k_dflt (refine LCg.CompSrc.ledger (by rfl) (by k_asm) (by k_asm) (by k_mem) (by first | size_fits | exact Nat.le_of_ble_eq_true rfl) ?_); intro g'; lcg_lit) | ((with_reducible refine at_rest ?_); (with_unfolding_all first | (refine LCg.CompRest.succ ?_; intro v' I' oI' C' oC' D' m' h' tk' E' hv' hC' hx' F' N' off' ne'; (first | lcg_open hv' | (obtain ⟨t9', hv9'⟩ := hv'; subst hv9')); (try simp only [LCg.Off3, and_true] at off'); (clear ne')) | refine LCg.CompRest.zero ?_)) | ((with_reducible refine at_finE ?_); (unfold LCg.FinE); intro D' h' tk' F' N' o1'; (try simp only [LCg.Off1, and_true] at o1'); (try simp only [List.nil_append, List.cons_append] at N'); (repeat ((with_reducible rename (_ ≠ _ ∧ _ ≠ _ ∧ _ ≠ _) ∧ _ => z9); clear z9)); (repeat ((with_reducible rename _ ≠ _ ∧ _ => z9); (have z8 := And.left z9); (have z7 := And.right z9); clear z9)); (try dsimp only)) | ((with_reducible refine at_end ?_); (with_reducible rename Fr _ _ _ _ => F9); (with_reducible rename News _ _ _ (_ :: _ :: _ :: _) => N9); refine comp_end F9 N9 ?off (by lcg_src) ?_; (case off => first | assumption | (simp only [LCg.Off3, and_true]; assumption))) | ((with_reducible refine abs_st ?_); intro _ _; walk1; try dsimp only) | ((with_reducible refine use_post (by assumption) ?_); try dsimp only) | (k_unfold; (try dsimp only)) | (k_end; wrow_close) | (walk1; try dsimp only) | (dsimp only; walk1) | (leave1; walk_say "STEP leave1"; try dsimp only) | fail "no step")))
    obtain ⟨a0, b0⟩ := hm0
    obtain ⟨a1, b1⟩ := hm1
    obtain ⟨a2, b2⟩ := hm2
    obtain ⟨a3, b3⟩ := hm3
    walk1
    (repeat' ((fail_if_success (with_reducible first | show wpAny _ _ (exec (Stmt.Assign _ _ _) _) _ _ _ | show wpAny _ _ (call (Value.type "enumerate") _) _ _ _ | show wpAny _ _ (call (Value.ref 88) _) _ _ _ | show wpAny _ _ (call (Value.ref 100) _) _ _ _ | show wpAny _ _ (call (Value.ref 112) _) _ _ _ | show wpAny _ _ (call (Value.ref 117) _) _ _ _ | show GoodW _ _ _ _ _ _ _ | show EnEnd _ _ _ _ _ _ _ _ | show wpAny _ _ (subscriptTail _ (PySem.Expr.Slice _ _ (some _) _) _ _) _ _ _)); (first | (with_reducible first | fail "none") | ((with_reducible show wpAny _ _ (call (Value.ref 95) [Value.bytes _ _, Value.int _ _]) _ _ _); (refine' says_use (says_spell _ _ _ ?h0 ?h1 ?h2 _ _ _) ?k1 ?k2 ?k3 ?k4 ?k5 ?kK ?kd ?ku ?_; (case k1 => k_asm); (case k2 => k_asm); (case k3 => k_asm); (case k4 => k_asm); (case k5 => k_asm); (case kK => rfl); (case h0 => assumption); (case h1 => assumption); (case h2 => exact digN_lt _); (case kd => decide); (case ku => decide)); intro r9 tl9 h9 tk9 F9 N9 hl9 hR9; (obtain ⟨e9, t9, e8⟩ := hR9); subst e9; subst e8; clear hl9; (try simp only [List.nil_append] at N9); (try dsimp only); (try k_fold)) | ((with_reducible first | show wpAny _ _ (eval (PySem.Expr.Name (PySem.Str.ofString "int") _) (compEnvC _ _ _ _)) _ _ _ | show wpAny _ _ (eval (PySem.Expr.Name (PySem.Str.ofString "sum") _) (compEnvC _ _ _ _)) _ _ _); k_dflt (refine LCgL.ld_built (by k_asm) (by k_asm) (by k_asm) (by k_is) (by boot_by_name) (by decide) ?_); try dsimp only) | ((with_reducible show wpAny _ _ (eval (PySem.Expr.Name (PySem.Str.ofString "_law_spelling") _) (compEnvC _ _ _ _)) _ _ _); k_dflt (refine LCgL.ld_global (by k_asm) (by k_asm) (by k_asm) (by k_is) ?_); try dsimp only) | ((with_reducible show wpAny _ _ (eval (PySem.Expr.ListComp (PySem.Expr.Call (PySem.Expr.Name _ _) _ _ _) _ _ _) _) _ _ _); k_here; lcg_calm; k_dflt (refine LCg.ListComp_U (F₀ := by k_asm) (by with_unfolding_all rfl) (by decide) (by rfl) (by decide) (by rfl) ?_)) | ((with_reducible refine at_src ?_); k_dflt (refine LCg.CompSrc.ledger (by rfl) (by k_asm) (by k_asm) (by k_mem) (by first | size_fits | exact Nat.le_of_ble_eq_true rfl) ?_); intro g'; lcg_lit) | ((with_reducible refine at_rest ?_); (with_unfolding_all first | (refine LCg.CompRest.succ ?_; intro v' I' oI' C' oC' D' m' h' tk' E' hv' hC' hx' F' N' off' ne'; (first | lcg_open hv' | (obtain ⟨t9', hv9'⟩ := hv'; subst hv9')); (try simp only [LCg.Off3, and_true] at off'); (clear ne')) | refine LCg.CompRest.zero ?_)) | ((with_reducible refine at_finE ?_); (unfold LCg.FinE); intro D' h' tk' F' N' o1'; (try simp only [LCg.Off1, and_true] at o1'); (try simp only [List.nil_append, List.cons_append] at N'); (repeat ((with_reducible rename (_ ≠ _ ∧ _ ≠ _ ∧ _ ≠ _) ∧ _ => z9); clear z9)); (repeat ((with_reducible rename _ ≠ _ ∧ _ => z9); (have z8 := And.left z9); (have z7 := And.right z9); clear z9)); (try dsimp only)) | ((with_reducible refine at_end ?_); (with_reducible rename Fr _ _ _ _ => F9); (with_reducible rename News _ _ _ (_ :: _ :: _ :: _) => N9); refine comp_end F9 N9 ?off (by lcg_src) ?_; (case off => first | assumption | (simp only [LCg.Off3, and_true]; assumption))) | ((with_reducible refine abs_st ?_); intro _ _; walk1; try dsimp only) | ((with_reducible refine use_post (by assumption) ?_); try dsimp only) | (k_unfold; (try dsimp only)) | (k_end; wrow_close) | (walk1; try dsimp only) | (dsimp only; walk1) | (leave1; walk_say "STEP leave1"; try dsimp only) | fail "no step")))
    rename Fr _ _ _ _ => lF
    rename News _ _ _ _ => lN
    refine' saysN_use (says_apart _ _ _ _ _ _ _ _ _ _ _ _ _ _ _ _ _ rfl rfl rfl rfl (dM m0 m1 m2 m3) (lev_all4 cs.sum m0 m1 m2 m3)) ?k1 ?k2 ?k3 (pick4 lN) ?k5 ?kK ?kd ?ku ?_
    case k1 => k_asm
    case k2 => k_asm
    case k3 => k_asm
    case k5 => k_asm
    case kK => rfl
    case kd => decide
    case ku => decide
    clear lF lN
    intro r9 tl9 h9 tk9 F9 N9 hl9 hR9
    obtain ⟨R, r0, r1, r2, r3, nR, n0, n1, n2, n3, v0, v1, v2, v3, e9, e8, i0, i1, i2, i3⟩ := hR9
    subst e9
    subst e8
    clear hl9
    simp only [List.cons_append, List.nil_append] at N9
    dsimp only
    (repeat' ((fail_if_success (with_reducible first | show wpAny _ _ (exec (Stmt.Assign _ _ _) _) _ _ _ | show wpAny _ _ (call (Value.type "enumerate") _) _ _ _ | show wpAny _ _ (call (Value.ref 88) _) _ _ _ | show wpAny _ _ (call (Value.ref 100) _) _ _ _ | show wpAny _ _ (call (Value.ref 112) _) _ _ _ | show wpAny _ _ (call (Value.ref 117) _) _ _ _ | show GoodW _ _ _ _ _ _ _ | show EnEnd _ _ _ _ _ _ _ _ | show wpAny _ _ (subscriptTail _ (PySem.Expr.Slice _ _ (some _) _) _ _) _ _ _)); (first | (with_reducible first | fail "none") | ((with_reducible show wpAny _ _ (call (Value.ref 95) [Value.bytes _ _, Value.int _ _]) _ _ _); (refine' says_use (says_spell _ _ _ ?h0 ?h1 ?h2 _ _ _) ?k1 ?k2 ?k3 ?k4 ?k5 ?kK ?kd ?ku ?_; (case k1 => k_asm); (case k2 => k_asm); (case k3 => k_asm); (case k4 => k_asm); (case k5 => k_asm); (case kK => rfl); (case h0 => assumption); (case h1 => assumption); (case h2 => exact digN_lt _); (case kd => decide); (case ku => decide)); intro r9 tl9 h9 tk9 F9 N9 hl9 hR9; (obtain ⟨e9, t9, e8⟩ := hR9); subst e9; subst e8; clear hl9; (try simp only [List.nil_append] at N9); (try dsimp only); (try k_fold)) | ((with_reducible first | show wpAny _ _ (eval (PySem.Expr.Name (PySem.Str.ofString "int") _) (compEnvC _ _ _ _)) _ _ _ | show wpAny _ _ (eval (PySem.Expr.Name (PySem.Str.ofString "sum") _) (compEnvC _ _ _ _)) _ _ _); k_dflt (refine LCgL.ld_built (by k_asm) (by k_asm) (by k_asm) (by k_is) (by boot_by_name) (by decide) ?_); try dsimp only) | ((with_reducible show wpAny _ _ (eval (PySem.Expr.Name (PySem.Str.ofString "_law_spelling") _) (compEnvC _ _ _ _)) _ _ _); k_dflt (refine LCgL.ld_global (by k_asm) (by k_asm) (by k_asm) (by k_is) ?_); try dsimp only) | ((with_reducible show wpAny _ _ (eval (PySem.Expr.ListComp (PySem.Expr.Call (PySem.Expr.Name _ _) _ _ _) _ _ _) _) _ _ _); k_here; lcg_calm; k_dflt (refine LCg.ListComp_U (F₀ := by k_asm) (by with_unfolding_all rfl) (by decide) (by rfl) (by decide) (by rfl) ?_)) | ((with_reducible refine at_src ?_); k_dflt (refine LCg.CompSrc.ledger (by rfl) (by k_asm) (by k_asm) (by k_mem) (by first | size_fits | exact Nat.le_of_ble_eq_true rfl) ?_); intro g'; lcg_lit) | ((with_reducible refine at_rest ?_); (with_unfolding_all first | (refine LCg.CompRest.succ ?_; intro v' I' oI' C' oC' D' m' h' tk' E' hv' hC' hx' F' N' off' ne'; (first | lcg_open hv' | (obtain ⟨t9', hv9'⟩ := hv'; subst hv9')); (try simp only [LCg.Off3, and_true] at off'); (clear ne')) | refine LCg.CompRest.zero ?_)) | ((with_reducible refine at_finE ?_); (unfold LCg.FinE); intro D' h' tk' F' N' o1'; (try simp only [LCg.Off1, and_true] at o1'); (try simp only [List.nil_append, List.cons_append] at N'); (repeat ((with_reducible rename (_ ≠ _ ∧ _ ≠ _ ∧ _ ≠ _) ∧ _ => z9); clear z9)); (repeat ((with_reducible rename _ ≠ _ ∧ _ => z9); (have z8 := And.left z9); (have z7 := And.right z9); clear z9)); (try dsimp only)) | ((with_reducible refine at_end ?_); (with_reducible rename Fr _ _ _ _ => F9); (with_reducible rename News _ _ _ (_ :: _ :: _ :: _) => N9); refine comp_end F9 N9 ?off (by lcg_src) ?_; (case off => first | assumption | (simp only [LCg.Off3, and_true]; assumption))) | ((with_reducible refine abs_st ?_); intro _ _; walk1; try dsimp only) | ((with_reducible refine use_post (by assumption) ?_); try dsimp only) | (k_unfold; (try dsimp only)) | (k_end; wrow_close) | (walk1; try dsimp only) | (dsimp only; walk1) | (leave1; walk_say "STEP leave1"; try dsimp only) | fail "no step")))
    rename Fr _ _ _ _ => lF
    rename News _ _ _ _ => lN
    refine' says_use (says_room _ _ _ _ _ _ _ _ _ _ _ _ _ _ _ (fmod_lo _ (by decide)) (fmod_hi _ (by decide)) _ _ _ _ _ _ _ _ i0 i1 i2 i3 (xr_len _ _ _ _) (xr_len _ _ _ _) (xr_len _ _ _ _) (xr_len _ _ _ _) (dd_small m0 m1 m2 m3)) ?k1 ?k2 ?k3 (pick6 lN) ?k5 ?kK ?kd ?ku ?_
    case k1 => k_asm
    case k2 => k_asm
    case k3 => k_asm
    case k5 => k_asm
    case kK => rfl
    case kd => decide
    case ku => decide
    clear lF lN
    intro r9 tl9 h9 tk9 F9 N9 hl9 hR9
    obtain ⟨e9, t9, o0, o1, o2, hP, e8⟩ := hR9
    rw [room_all m0 m1 m2 m3 hP] at e8
    subst e9
    subst e8
    clear hl9
    simp only [List.nil_append] at N9
    dsimp only
    (repeat' ((fail_if_success (with_reducible first | show wpAny _ _ (exec (Stmt.Assign _ _ _) _) _ _ _ | show wpAny _ _ (call (Value.type "enumerate") _) _ _ _ | show wpAny _ _ (call (Value.ref 88) _) _ _ _ | show wpAny _ _ (call (Value.ref 100) _) _ _ _ | show wpAny _ _ (call (Value.ref 112) _) _ _ _ | show wpAny _ _ (call (Value.ref 117) _) _ _ _ | show GoodW _ _ _ _ _ _ _ | show EnEnd _ _ _ _ _ _ _ _ | show wpAny _ _ (subscriptTail _ (PySem.Expr.Slice _ _ (some _) _) _ _) _ _ _)); (first | (with_reducible first | fail "none") | ((with_reducible show wpAny _ _ (call (Value.ref 95) [Value.bytes _ _, Value.int _ _]) _ _ _); (refine' says_use (says_spell _ _ _ ?h0 ?h1 ?h2 _ _ _) ?k1 ?k2 ?k3 ?k4 ?k5 ?kK ?kd ?ku ?_; (case k1 => k_asm); (case k2 => k_asm); (case k3 => k_asm); (case k4 => k_asm); (case k5 => k_asm); (case kK => rfl); (case h0 => assumption); (case h1 => assumption); (case h2 => exact digN_lt _); (case kd => decide); (case ku => decide)); intro r9 tl9 h9 tk9 F9 N9 hl9 hR9; (obtain ⟨e9, t9, e8⟩ := hR9); subst e9; subst e8; clear hl9; (try simp only [List.nil_append] at N9); (try dsimp only); (try k_fold)) | ((with_reducible first | show wpAny _ _ (eval (PySem.Expr.Name (PySem.Str.ofString "int") _) (compEnvC _ _ _ _)) _ _ _ | show wpAny _ _ (eval (PySem.Expr.Name (PySem.Str.ofString "sum") _) (compEnvC _ _ _ _)) _ _ _); k_dflt (refine LCgL.ld_built (by k_asm) (by k_asm) (by k_asm) (by k_is) (by boot_by_name) (by decide) ?_); try dsimp only) | ((with_reducible show wpAny _ _ (eval (PySem.Expr.Name (PySem.Str.ofString "_law_spelling") _) (compEnvC _ _ _ _)) _ _ _); k_dflt (refine LCgL.ld_global (by k_asm) (by k_asm) (by k_asm) (by k_is) ?_); try dsimp only) | ((with_reducible show wpAny _ _ (eval (PySem.Expr.ListComp (PySem.Expr.Call (PySem.Expr.Name _ _) _ _ _) _ _ _) _) _ _ _); k_here; lcg_calm; k_dflt (refine LCg.ListComp_U (F₀ := by k_asm) (by with_unfolding_all rfl) (by decide) (by rfl) (by decide) (by rfl) ?_)) | ((with_reducible refine at_src ?_); k_dflt (refine LCg.CompSrc.ledger (by rfl) (by k_asm) (by k_asm) (by k_mem) (by first | size_fits | exact Nat.le_of_ble_eq_true rfl) ?_); intro g'; lcg_lit) | ((with_reducible refine at_rest ?_); (with_unfolding_all first | (refine LCg.CompRest.succ ?_; intro v' I' oI' C' oC' D' m' h' tk' E' hv' hC' hx' F' N' off' ne'; (first | lcg_open hv' | (obtain ⟨t9', hv9'⟩ := hv'; subst hv9')); (try simp only [LCg.Off3, and_true] at off'); (clear ne')) | refine LCg.CompRest.zero ?_)) | ((with_reducible refine at_finE ?_); (unfold LCg.FinE); intro D' h' tk' F' N' o1'; (try simp only [LCg.Off1, and_true] at o1'); (try simp only [List.nil_append, List.cons_append] at N'); (repeat ((with_reducible rename (_ ≠ _ ∧ _ ≠ _ ∧ _ ≠ _) ∧ _ => z9); clear z9)); (repeat ((with_reducible rename _ ≠ _ ∧ _ => z9); (have z8 := And.left z9); (have z7 := And.right z9); clear z9)); (try dsimp only)) | ((with_reducible refine at_end ?_); (with_reducible rename Fr _ _ _ _ => F9); (with_reducible rename News _ _ _ (_ :: _ :: _ :: _) => N9); refine comp_end F9 N9 ?off (by lcg_src) ?_; (case off => first | assumption | (simp only [LCg.Off3, and_true]; assumption))) | ((with_reducible refine abs_st ?_); intro _ _; walk1; try dsimp only) | ((with_reducible refine use_post (by assumption) ?_); try dsimp only) | (k_unfold; (try dsimp only)) | (k_end; wrow_close) | (walk1; try dsimp only) | (dsimp only; walk1) | (leave1; walk_say "STEP leave1"; try dsimp only) | fail "no step")))
    rename Fr _ _ _ _ => lF
    rename News _ _ _ _ => lN
    refine' says_use (says_squares _ _ _ _ _ _ _ m0 m1 m2 m3 ⟨a0, b0⟩ ⟨a1, b1⟩ ⟨a2, b2⟩ ⟨a3, b3⟩) ?k1 ?k2 ?k3 (pick1 lN) ?k5 ?kK ?kd ?ku ?_
    case k1 => k_asm
    case k2 => k_asm
    case k3 => k_asm
    case k5 => k_asm
    case kK => rfl
    case kd => decide
    case ku => decide
    clear lF lN
    intro r9 tl9 h9 tk9 F9 N9 hl9 hR9
    obtain ⟨e9, t9, e8⟩ := hR9
    subst e9
    subst e8
    clear hl9
    simp only [List.nil_append] at N9
    dsimp only
    (repeat' ((fail_if_success (with_reducible first | show wpAny _ _ (exec (Stmt.Assign _ _ _) _) _ _ _ | show wpAny _ _ (call (Value.type "enumerate") _) _ _ _ | show wpAny _ _ (call (Value.ref 88) _) _ _ _ | show wpAny _ _ (call (Value.ref 100) _) _ _ _ | show wpAny _ _ (call (Value.ref 112) _) _ _ _ | show wpAny _ _ (call (Value.ref 117) _) _ _ _ | show GoodW _ _ _ _ _ _ _ | show EnEnd _ _ _ _ _ _ _ _ | show wpAny _ _ (subscriptTail _ (PySem.Expr.Slice _ _ (some _) _) _ _) _ _ _)); (first | (with_reducible first | fail "none") | ((with_reducible show wpAny _ _ (call (Value.ref 95) [Value.bytes _ _, Value.int _ _]) _ _ _); (refine' says_use (says_spell _ _ _ ?h0 ?h1 ?h2 _ _ _) ?k1 ?k2 ?k3 ?k4 ?k5 ?kK ?kd ?ku ?_; (case k1 => k_asm); (case k2 => k_asm); (case k3 => k_asm); (case k4 => k_asm); (case k5 => k_asm); (case kK => rfl); (case h0 => assumption); (case h1 => assumption); (case h2 => exact digN_lt _); (case kd => decide); (case ku => decide)); intro r9 tl9 h9 tk9 F9 N9 hl9 hR9; (obtain ⟨e9, t9, e8⟩ := hR9); subst e9; subst e8; clear hl9; (try simp only [List.nil_append] at N9); (try dsimp only); (try k_fold)) | ((with_reducible first | show wpAny _ _ (eval (PySem.Expr.Name (PySem.Str.ofString "int") _) (compEnvC _ _ _ _)) _ _ _ | show wpAny _ _ (eval (PySem.Expr.Name (PySem.Str.ofString "sum") _) (compEnvC _ _ _ _)) _ _ _); k_dflt (refine LCgL.ld_built (by k_asm) (by k_asm) (by k_asm) (by k_is) (by boot_by_name) (by decide) ?_); try dsimp only) | ((with_reducible show wpAny _ _ (eval (PySem.Expr.Name (PySem.Str.ofString "_law_spelling") _) (compEnvC _ _ _ _)) _ _ _); k_dflt (refine LCgL.ld_global (by k_asm) (by k_asm) (by k_asm) (by k_is) ?_); try dsimp only) | ((with_reducible show wpAny _ _ (eval (PySem.Expr.ListComp (PySem.Expr.Call (PySem.Expr.Name _ _) _ _ _) _ _ _) _) _ _ _); k_here; lcg_calm; k_dflt (refine LCg.ListComp_U (F₀ := by k_asm) (by with_unfolding_all rfl) (by decide) (by rfl) (by decide) (by rfl) ?_)) | ((with_reducible refine at_src ?_); k_dflt (refine LCg.CompSrc.ledger (by rfl) (by k_asm) (by k_asm) (by k_mem) (by first | size_fits | exact Nat.le_of_ble_eq_true rfl) ?_); intro g'; lcg_lit) | ((with_reducible refine at_rest ?_); (with_unfolding_all first | (refine LCg.CompRest.succ ?_; intro v' I' oI' C' oC' D' m' h' tk' E' hv' hC' hx' F' N' off' ne'; (first | lcg_open hv' | (obtain ⟨t9', hv9'⟩ := hv'; subst hv9')); (try simp only [LCg.Off3, and_true] at off'); (clear ne')) | refine LCg.CompRest.zero ?_)) | ((with_reducible refine at_finE ?_); (unfold LCg.FinE); intro D' h' tk' F' N' o1'; (try simp only [LCg.Off1, and_true] at o1'); (try simp only [List.nil_append, List.cons_append] at N'); (repeat ((with_reducible rename (_ ≠ _ ∧ _ ≠ _ ∧ _ ≠ _) ∧ _ => z9); clear z9)); (repeat ((with_reducible rename _ ≠ _ ∧ _ => z9); (have z8 := And.left z9); (have z7 := And.right z9); clear z9)); (try dsimp only)) | ((with_reducible refine at_end ?_); (with_reducible rename Fr _ _ _ _ => F9); (with_reducible rename News _ _ _ (_ :: _ :: _ :: _) => N9); refine comp_end F9 N9 ?off (by lcg_src) ?_; (case off => first | assumption | (simp only [LCg.Off3, and_true]; assumption))) | ((with_reducible refine abs_st ?_); intro _ _; walk1; try dsimp only) | ((with_reducible refine use_post (by assumption) ?_); try dsimp only) | (k_unfold; (try dsimp only)) | (k_end; wrow_close) | (walk1; try dsimp only) | (dsimp only; walk1) | (leave1; walk_say "STEP leave1"; try dsimp only) | fail "no step")))
    rw [beq_self_eq_true]
    (k_end; wrow_close)
end Mine
end
theorem PySem.Challenge.cw_tr0059_01_holds : PySem.Challenge.rw_tr0059_01.Holds := by
  exact Mine.W0
