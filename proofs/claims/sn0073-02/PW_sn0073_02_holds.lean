import PyProof.Rows.All
import Wide.All
import OpenK.AllK
import Wide.FinOn
import PySem.Challenge.RW_sn0073_02
set_option Elab.async false
set_option linter.all false
section
set_option maxRecDepth 100000
namespace Mine.Hd
open PySem PySem.W PyProof.Rows
structure Pl where
  p : Program
  w : World
  n₀ : Nat
  ann : Option Value
  b : List Stmt
  env : Env
  q : Pos
noncomputable abbrev Pl.seg (Z : Pl) (n : Nat) (s : Shared) (cur : Sem Fin) (pos : Pos) : Option (Shared × Thread) :=
  segGo treeTable Z.p Z.w Z.n₀ Z.ann 1 n s ⟨cur, .body Z.b Z.env, pos, [topFrame Z.q]⟩
noncomputable abbrev Pl.at (Z : Pl) (s : Shared) (cur : Sem Fin) (pos : Pos) : Option (Shared × Thread) :=
  some (s, ⟨cur, .body Z.b Z.env, pos, [topFrame Z.q]⟩)
noncomputable def Go (Z : Pl) (b : Nat) {α : Type} (x : Sem α) (s : Shared) (pos : Pos) (a : α) (s' : Shared) (pos' : Pos) : Prop :=
  ∃ n, n ≤ b ∧ ∀ (K : α → Sem Fin) (H : Value → Sem Fin) (gd : Bool → Bool) (lv : List Value → List Value), Z.seg n s (x.wrap K H gd lv) pos = Z.at s' (K a) pos'
theorem segGo_add {tb : String → Option Builtin} {p : Program} {w : World} {n₀ : Nat} {ann : Option Value} {b : Nat} (n m : Nat) : ∀ (s : Shared) (t : Thread) (s₁ : Shared) (t₁ : Thread),
    segGo tb p w n₀ ann b n s t = some (s₁, t₁) → segGo tb p w n₀ ann b (n + m) s t = segGo tb p w n₀ ann b m s₁ t₁ := by
  induction n with
  | zero =>
    intro s t s₁ t₁ h
    obtain ⟨⟩ : (s, t) = (s₁, t₁) := Option.some.inj h
    rw [Nat.zero_add]
  | succ n ih =>
    intro s t s₁ t₁ h
    rw [Nat.add_right_comm]
    revert h
    simp only [segGo]
    cases endAt b t <;> cases stepOk n₀ ann t <;> cases step (denote tb) p w s t <;> intro h <;> first | exact ih _ _ _ _ h | cases h
variable {Z : Pl} {α β : Type} {s s₁ s₂ s' : Shared} {pos pos₁ pos₂ pos' : Pos}
theorem seg_one {cur cur₁ : Sem Fin} {n : Nat} {r : Option (Shared × Thread)}
    (he : endAt 1 ⟨cur, .body Z.b Z.env, pos, [topFrame Z.q]⟩ = none) (hk : stepOk Z.n₀ Z.ann ⟨cur, .body Z.b Z.env, pos, [topFrame Z.q]⟩ = true)
    (hs : step (denote treeTable) Z.p Z.w s ⟨cur, .body Z.b Z.env, pos, [topFrame Z.q]⟩ = .go s₁ ⟨cur₁, .body Z.b Z.env, pos₁, [topFrame Z.q]⟩)
    (h : Z.seg n s₁ cur₁ pos₁ = r) : Z.seg (n + 1) s cur pos = r := by
  unfold Pl.seg segGo
  rw [he]
  dsimp only
  rw [hk]
  dsimp only
  rw [hs]
  exact h
variable {b b' : Nat}
theorem go_le {x : Sem α} {a : α} (h : Go Z b x s pos a s₁ pos₁) (le : b ≤ b') : Go Z b' x s pos a s₁ pos₁ := let ⟨n, hn, h⟩ := h; ⟨n, Nat.le_trans hn le, h⟩
theorem go_pure {a : α} : Go Z b (pure a) s pos a s pos := ⟨0, Nat.zero_le _, fun _ _ _ _ => rfl⟩
theorem go_bind {x : Sem α} {f : α → Sem β} {a : α} {c : β} (h : Go Z b x s pos a s₁ pos₁) (k : Go Z (b' - b) (f a) s₁ pos₁ c s₂ pos₂) (le : b ≤ b' := by omega) : Go Z b' (x >>= f) s pos c s₂ pos₂ := by
  obtain ⟨n, hn, h⟩ := h
  obtain ⟨m, hm, k⟩ := k
  refine ⟨n + m, by omega, fun K H gd lv => ?_⟩
  rw [Sem.bind_eq_wrap', Sem.wrap_wrap]
  exact (segGo_add n m _ _ _ _ (h _ _ _ _)).trans (k K H gd lv)
theorem go_keep {x : Sem α} {vs : List Value} {a : α} (h : Go Z b x s pos a s₁ pos₁) : Go Z b (x.keep vs) s pos a s₁ pos₁ := by
  obtain ⟨n, hn, h⟩ := h
  refine ⟨n, hn, fun K H gd lv => ?_⟩
  rw [Sem.keep_eq_wrap, Sem.wrap_wrap]
  exact h _ _ _ _
theorem go_holding {x : Sem α} {vs : List Value} {a : α} (h : Go Z b x s pos a s₁ pos₁) : Go Z b (holding vs x) s pos a s₁ pos₁ := by
  unfold holding
  split
  · exact h
  · exact go_keep h
theorem go_onRaise {x : Sem α} {k : Value → Sem Unit} {a : α} (h : Go Z b x s pos a s₁ pos₁) : Go Z b (x.onRaise k) s pos a s₁ pos₁ := by
  obtain ⟨n, hn, h⟩ := h
  refine ⟨n, hn, fun K H gd lv => ?_⟩
  rw [Sem.onRaise_eq_wrap, Sem.wrap_wrap]
  exact h _ _ _ _
theorem go_tryCatch {x : Sem α} {k : Value → Sem α} {a : α} (h : Go Z b x s pos a s₁ pos₁) : Go Z b (x.tryCatch k) s pos a s₁ pos₁ := by
  obtain ⟨n, hn, h⟩ := h
  refine ⟨n, hn, fun K H gd lv => ?_⟩
  rw [Sem.tryCatch_eq_wrap, Sem.wrap_wrap]
  exact h _ _ _ _
theorem go_rule {t : String} : Go Z 1 (rule t) s pos () s pos := ⟨1, Nat.le_refl _, fun K H gd lv => seg_one (cur₁ := K ()) rfl rfl rfl rfl⟩
theorem go_at {p' : Pos} : Go Z 1 (standAt p') s pos () s p' := ⟨1, Nat.le_refl _, fun K H gd lv => seg_one (cur₁ := K ()) rfl rfl rfl rfl⟩
theorem go_fresh : Go Z 1 fresh s pos s.toks { s with toks := s.toks + 1 } pos := ⟨1, Nat.le_refl _, fun K H gd lv => seg_one (cur₁ := K s.toks) rfl rfl rfl rfl⟩
theorem go_ask : Go Z 1 ask s pos ⟨Z.p, Z.w.params⟩ s pos := ⟨1, Nat.le_refl _, fun K H gd lv => seg_one (cur₁ := K ⟨Z.p, Z.w.params⟩) rfl rfl rfl rfl⟩
theorem go_loadPart {a : Addr} {part : Option Value} {o : Obj} (ho : s.heap.get? a = some o) : Go Z 1 (loadPart a part) s pos o s pos :=
  ⟨1, Nat.le_refl _, fun K H gd lv => seg_one (cur₁ := K o) rfl rfl (by
    obtain ⟨heap, gens, drawn, toks, os⟩ := s
    show (match heap.get? a with | some o => _ | none => _) = _
    dsimp only at ho
    rw [ho]
    rfl) rfl⟩
theorem go_updatePart {a : Addr} {part : Option Value} {f : Obj → Obj} {o : Obj} (ho : s.heap.get? a = some o) (ha : Nat.ble Z.n₀ a = true) :
    Go Z 1 (updatePart a part f) s pos () { s with heap := s.heap.update a f } pos :=
  ⟨1, Nat.le_refl _, fun K H gd lv => seg_one (cur₁ := K ()) rfl (by
    show (true && (Nat.ble Z.n₀ a || a == mainNs || a == cStatics || Z.ann == some (.ref a))) = true
    rw [ha]; rfl) (by
    obtain ⟨heap, gens, drawn, toks, os⟩ := s
    show (if (heap.get? a).isSome then _ else _) = _
    dsimp only at ho
    rw [ho]
    rfl) rfl⟩
theorem go_alloc {o : Obj} : Go Z 1 (alloc o) s pos s.heap.objs.size { s with heap := s.heap.push o } pos :=
  ⟨1, Nat.le_refl _, fun K H gd lv => seg_one (cur₁ := K s.heap.objs.size) rfl rfl rfl rfl⟩
theorem go_callHash {k : Int} {t : Tok} : Go Z 4 (call (.builtin "int.__hash__") [.int k t]) s pos (.int (rawHash k) s.toks) { s with toks := s.toks + 1 } pos := by
  refine ⟨4, Nat.le_refl _, fun K H gd lv => ?_⟩
  obtain ⟨p, w, n₀, ann, b, env, q⟩ := Z
  obtain ⟨heap, gens, drawn, toks, os⟩ := s
  kernel_rfl
end Mine.Hd
end
section
set_option maxRecDepth 100000
namespace Mine.Hd
open PySem PySem.W PyProof.Rows
variable {Z : Pl} {α β : Type} {s s₁ s₂ s' : Shared} {pos pos₁ pos₂ pos' : Pos}
theorem spec_hash (k : Int) (t : Tok) : specialOf (.int k t) (Str.ofString "__hash__") = pure (some (.builtin "int.__hash__")) := by kernel_rfl
theorem bind_hash (k : Int) (t : Tok) : bindSpecial (.builtin "int.__hash__") (.int k t) = pure (.builtin "int.__hash__", [.int k t]) := by kernel_rfl
theorem go_bindIf {k : Int} {t : Tok} : Go Z 1 (bindSpecialIfBound? (.int k t) (Str.ofString "__hash__")) s pos (some (.builtin "int.__hash__", [.int k t])) s pos := by
  unfold bindSpecialIfBound?
  rw [spec_hash, pure_bind]
  dsimp only
  refine go_bind go_ask ?_
  rw [bind_hash]
  split
  · exact go_pure
  · refine go_tryCatch ?_
    exact go_pure
theorem go_hash {k : Int} {t : Tok} : Go Z 5 (pyHash (.int k t)) s pos (hashInt k) { s with toks := s.toks + 1 } pos := by
  show Go Z 5 (pyHashByItsType (.int k t)) s pos _ _ pos
  unfold pyHashByItsType
  rw [show cRoomFor "hash" [Value.int k t] = pure () from rfl, spec_hash]
  refine go_bind (b := 0) go_pure (go_bind (b := 0) go_pure ?_)
  rw [show (some (Value.builtin "int.__hash__") == some Value.none) = false from by decide]
  refine go_bind (b := 0) go_pure ?_
  have hc : ∀ refuse : Sem Value, Go Z 5 (callSpecialIfBoundUnlessNone? (.int k t) (Str.ofString "__hash__") refuse) s pos (some (.int (rawHash k) s.toks)) { s with toks := s.toks + 1 } pos := by
    intro refuse
    unfold callSpecialIfBoundUnlessNone?
    refine go_holding (go_bind go_bindIf ?_)
    dsimp only
    rw [show (Value.builtin "int.__hash__" == Value.none) = false from by decide]
    exact go_bind go_callHash go_pure
  refine go_bind (hc _) ?_
  dsimp only
  unfold pyHashByItsType.reduced
  have hr := rawHash_range k
  rw [if_pos (by simp only [Bool.and_eq_true, decide_eq_true_eq]; exact hr)]
  exact go_pure
structure Below (es : List DictEntry) (k : Int) : Prop where
  hash : ∀ e ∈ es, e.hash ≠ hashInt k
theorem places_none {es : Array DictEntry} {h : Int} (hb : ∀ e ∈ es, e.hash ≠ h) : placesWithHash es.size (fun i => es[i]?.map (·.hash)) h = [] := by
  unfold placesWithHash
  rw [List.filter_eq_nil_iff]
  intro i hi
  have hlt : i < es.size := List.mem_range.mp hi
  simp only [Array.getElem?_eq_getElem hlt, Option.map_some, beq_iff_eq, Option.some.injEq]
  exact hb _ (Array.getElem_mem hlt)
noncomputable abbrev dobj (es : List DictEntry) (n : Nat) : Obj := { cls := .type "dict", data := .dict es.toArray n }
theorem go_entries {a : Addr} {part : Option Value} {es : List DictEntry} {n : Nat} (ho : s.heap.get? a = some (dobj es n)) : Go Z 1 (dictEntries a part) s pos es.toArray s pos := by
  unfold dictEntries
  exact go_bind (go_loadPart ho) go_pure
theorem go_epoch {a : Addr} {part : Option Value} {es : List DictEntry} {n : Nat} (ho : s.heap.get? a = some (dobj es n)) : Go Z 1 (dictEpoch a part) s pos n s pos := by
  unfold dictEpoch
  exact go_bind (go_loadPart ho) go_pure
theorem go_find {a : Addr} {es : List DictEntry} {n : Nat} {k : Int} {t : Tok} {h : Int} (ho : s.heap.get? a = some (dobj es n)) (hb : ∀ e ∈ es, e.hash ≠ h) :
    Go Z 1 (dictFind a (.int k t) h) s pos none s pos := by
  unfold dictFind
  refine go_holding (go_bind (go_entries ho) ?_)
  dsimp only
  rw [places_none (by simpa using hb)]
  unfold dictWalkPlain
  exact go_bind (b := 0) go_pure (go_bind (b := 0) go_pure go_pure)
theorem go_updateKeys {a : Addr} {part : Option Value} {f : Array DictEntry → Array DictEntry} {es es' : List DictEntry} {n : Nat} (ho : s.heap.get? a = some (dobj es n)) (ha : Nat.ble Z.n₀ a = true) (hf : f es.toArray = es'.toArray)
    (hz : es'.length ≤ 100000) : Go Z 3 (updateDictKeys a f part) s pos () { s with heap := s.heap.update a (Obj.mapDictKeys f) } pos := by
  unfold updateDictKeys
  refine go_bind (go_loadPart ho) ?_
  dsimp only
  refine go_bind (go_updatePart ho ha) ?_
  unfold lookBehind
  have ho' : (s.heap.update a (Obj.mapDictKeys f)).get? a = some (dobj es' (n + 1)) := by
    have := Heap.get?_update_self (Obj.mapDictKeys f) ho (by rfl)
    rw [this]
    show some (Obj.mapDictKeys f (dobj es n)) = _
    unfold Obj.mapDictKeys dobj
    dsimp only
    rw [hf]
  refine go_bind (go_loadPart ho') ?_
  rw [show (dobj es' (n + 1)).data.pastItsLine = none from pastItsLine_dict (by rw [List.size_toArray]; unfold sizeLine; omega)]
  exact go_pure
theorem go_set {a : Addr} {es : List DictEntry} {n : Nat} {k : Int} {t : Tok} {v : Value} (ho : s.heap.get? a = some (dobj es n)) (ha : Nat.ble Z.n₀ a = true) (hb : ∀ e ∈ es, e.hash ≠ hashInt k) (hz : es.length < 100000) :
    Go Z 10 (dictSet a (.int k t) v) s pos () { s with heap := s.heap.update a (Obj.mapDictKeys (·.push ⟨hashInt k, .int k t, v⟩)), toks := s.toks + 1 } pos := by
  unfold dictSet
  refine go_holding (go_bind go_hash ?_)
  unfold dictSetHashed
  refine go_holding (go_bind (go_find ho hb) ?_)
  refine go_bind go_rule ?_
  exact go_le (go_updateKeys (es' := es ++ [⟨hashInt k, .int k t, v⟩]) ho ha (by simp) (by simp; omega)) (by omega)
theorem go_put {a : Addr} {es : List DictEntry} {n : Nat} {k : Int} {t : Tok} {h : Int} {v : Value} (ho : s.heap.get? a = some (dobj es n)) (ha : Nat.ble Z.n₀ a = true) (hb : ∀ e ∈ es, e.hash ≠ h) (hz : es.length < 100000) :
    Go Z 4 (dictPut a h (.int k t) v) s pos () { s with heap := s.heap.update a (Obj.mapDictKeys (·.push ⟨h, .int k t, v⟩)) } pos := by
  unfold dictPut
  refine go_bind (go_find ho hb) ?_
  exact go_le (go_updateKeys (es' := es ++ [⟨h, .int k t, v⟩]) ho ha (by simp) (by simp; omega)) (by omega)
end Mine.Hd
end
section
set_option maxRecDepth 100000
namespace Mine.Hd
open PySem PySem.W PyProof.Rows
variable {Z : Pl} {α β : Type} {s s₁ s₂ s' : Shared} {pos pos₁ pos₂ pos' : Pos}
structure It where
  k : Int
  s : Str
  kp : Pos
  vp : Pos
noncomputable def H (h : Heap) (os : List Obj) : Heap := ⟨h.objs ++ os.toArray, h.life⟩
theorem H_size (h : Heap) (os : List Obj) : (H h os).objs.size = h.objs.size + os.length := by simp [H]
theorem H_push (h : Heap) (os : List Obj) (o : Obj) : (H h os).push o = H h (os ++ [o]) := by
  obtain ⟨a, l⟩ := h
  show Heap.mk ((a ++ os.toArray).push o) l = Heap.mk (a ++ (os ++ [o]).toArray) l
  congr 1
  apply Array.ext'
  simp
theorem H_update (h : Heap) (os : List Obj) (i : Nat) (f : Obj → Obj) : (H h os).update (h.objs.size + i) f = H h (os.modify i f) := by
  obtain ⟨a, l⟩ := h
  show Heap.mk ((a ++ os.toArray).modify (a.size + i) f) l = Heap.mk (a ++ (os.modify i f).toArray) l
  congr 1
  apply Array.ext_getElem?
  intro j
  rw [Array.getElem?_modify]
  simp only [Array.getElem?_append, List.getElem?_toArray, List.getElem?_modify]
  by_cases h1 : j < a.size
  · have : ¬ a.size + i = j := by omega
    simp [h1, this]
  · simp only [h1, if_false]
    by_cases h2 : a.size + i = j
    · subst h2
      simp
    · have : ¬ i = j - a.size := by omega
      simp [h2, this]
theorem H_get {h : Heap} {os : List Obj} {i : Nat} {es : List DictEntry} {n : Nat} (e : os[i]? = some (dobj es n)) : (H h os).get? (h.objs.size + i) = some (dobj es n) := by
  unfold Heap.get? H
  have : (h.objs ++ os.toArray)[h.objs.size + i]? = some (dobj es n) := by
    rw [Array.getElem?_append_right (by omega)]
    simpa using e
  dsimp only
  rw [this]
noncomputable abbrev St (h : Heap) (os : List Obj) (g : Array GenState) (d : Drawn) (T : Nat) (o : OsState) : Shared := ⟨H h os, g, d, T, o⟩
variable {h : Heap} {os : List Obj} {g : Array GenState} {dr : Drawn} {T : Nat} {ost : OsState}
noncomputable def kS (env : Env) (i : It) : Sem Value := eval (.Constant (.int i.k) 0 i.kp) env
noncomputable def vS (env : Env) (dp : Pos) (i : It) : Sem Value := do let x ← eval (.Constant (.str i.s) 0 i.vp) env; standAt dp; pure x
noncomputable def pr (env : Env) (dp : Pos) (l : List It) : List (Sem Value × Sem Value) := l.map fun i => (kS env i, vS env dp i)
theorem go_key {env : Env} {i : It} : Go Z 1 (kS env i) s pos (.int i.k s.toks) { s with toks := s.toks + 1 } pos := by
  show Go Z 1 (mkInt i.k) s pos _ _ pos
  exact go_bind go_fresh go_pure
theorem go_val {env : Env} {dp : Pos} {i : It} : Go Z 2 (vS env dp i) s pos (.str i.s s.toks) { s with toks := s.toks + 1 } dp := by
  unfold vS
  refine go_bind (b := 1) (s₁ := { s with toks := s.toks + 1 }) (pos₁ := pos) (a := .str i.s s.toks) ?_ (go_bind go_at go_pure)
  show Go Z 1 (mkText i.s) s pos _ _ pos
  exact go_bind go_fresh go_pure
noncomputable def entL (T : Nat) : List It → List DictEntry
  | [] => []
  | i :: r => ⟨hashInt i.k, .int i.k T, .str i.s (T + 1)⟩ :: entL (T + 3) r
noncomputable def entS (T : Nat) : List It → List DictEntry
  | [] => []
  | i :: r => ⟨hashInt i.k, .int i.k T, .str i.s (T + 1)⟩ :: entS (T + 2) r
theorem entL_length : ∀ (l : List It) (T : Nat), (entL T l).length = l.length
  | [], _ => rfl
  | _ :: r, T => by simp [entL, entL_length r]
theorem entS_length : ∀ (l : List It) (T : Nat), (entS T l).length = l.length
  | [], _ => rfl
  | _ :: r, T => by simp [entS, entS_length r]
theorem entL_hash : ∀ (l : List It) (T : Nat), (entL T l).map (·.hash) = l.map fun i => hashInt i.k
  | [], _ => rfl
  | _ :: r, T => by simp [entL, entL_hash r]
theorem entS_hash : ∀ (l : List It) (T : Nat), (entS T l).map (·.hash) = l.map fun i => hashInt i.k
  | [], _ => rfl
  | _ :: r, T => by simp [entS, entS_hash r]
noncomputable abbrev Apart (l : List Int) : Prop := l.Pairwise (· ≠ ·)
theorem modify_last {os : List Obj} {o : Obj} {f : Obj → Obj} : (os ++ [o]).modify os.length f = os ++ [f o] := by
  apply List.ext_getElem?
  intro j
  rw [List.getElem?_modify]
  by_cases h1 : j < os.length
  · simp [List.getElem?_append_left h1, Nat.ne_of_gt h1]
  · by_cases h2 : j = os.length
    · subst h2; simp
    · have : os.length < j := by omega
      have h3 : (os ++ [o])[j]? = none := List.getElem?_eq_none (by simp; omega)
      have h4 : (os ++ [f o])[j]? = none := List.getElem?_eq_none (by simp; omega)
      rw [h3, h4]; simp
theorem mapKeys_push {es : List DictEntry} {n : Nat} {e : DictEntry} : Obj.mapDictKeys (·.push e) (dobj es n) = dobj (es ++ [e]) (n + 1) := by
  show (⟨.type "dict", none, .dict (es.toArray.push e) (n + 1), #[]⟩ : Obj) = ⟨.type "dict", none, .dict (es ++ [e]).toArray (n + 1), #[]⟩
  congr 2
  simp
theorem go_setLast {es : List DictEntry} {n : Nat} {k : Int} {t : Tok} {v : Value} (ha : Nat.ble Z.n₀ (h.objs.size + os.length) = true) (hb : ∀ e ∈ es, e.hash ≠ hashInt k) (hz : es.length < 100000) :
    Go Z 10 (dictSet (h.objs.size + os.length) (.int k t) v) (St h (os ++ [dobj es n]) g dr T ost) pos () (St h (os ++ [dobj (es ++ [⟨hashInt k, .int k t, v⟩]) (n + 1)]) g dr (T + 1) ost) pos := by
  have ho : (H h (os ++ [dobj es n])).get? (h.objs.size + os.length) = some (dobj es n) := H_get (by simp)
  have := go_set (Z := Z) (s := St h (os ++ [dobj es n]) g dr T ost) (pos := pos) (t := t) (v := v) ho ha hb hz
  simpa only [H_update, modify_last, mapKeys_push] using this
theorem not_mem_hash {es : List DictEntry} {l : List Int} {x : Int} (h : Apart (es.map (·.hash) ++ x :: l)) : ∀ e ∈ es, e.hash ≠ x := by
  intro e he q
  have := (List.pairwise_append.mp h).2.2 e.hash (List.mem_map_of_mem he) x (by simp)
  exact this q
theorem go_long {env : Env} {dp : Pos} (ha : Nat.ble Z.n₀ (h.objs.size + os.length) = true) (f : Sem Value × Sem Value → PUnit → Sem (ForInStep PUnit))
    (hf : ∀ k v u, f (k, v) u = (do let kv ← k; let vv ← holding [kv] v; holding [kv, vv] (dictSet (h.objs.size + os.length) kv vv); pure (.yield ⟨⟩))) : ∀ (l : List It) (es : List DictEntry) (T : Nat) (pos : Pos), l ≠ [] →
      Apart (es.map (·.hash) ++ l.map fun i => hashInt i.k) → es.length + l.length < 100000 →
      Go Z (14 * l.length) (forIn (pr env dp l) ⟨⟩ f) (St h (os ++ [dobj es es.length]) g dr T ost) pos ⟨⟩ (St h (os ++ [dobj (es ++ entL T l) (es.length + l.length)]) g dr (T + 3 * l.length) ost) dp
  | [], _, _, _, h0, _, _ => absurd rfl h0
  | i :: r, es, T, pos, _, hA, hz => by
    simp only [List.length_cons] at hz
    unfold pr
    rw [List.map_cons, List.forIn_cons, hf]
    have step : Go Z 14 (do let kv ← kS env i; let vv ← holding [kv] (vS env dp i); holding [kv, vv] (dictSet (h.objs.size + os.length) kv vv); pure (ForInStep.yield (⟨⟩ : PUnit))) (St h (os ++ [dobj es es.length]) g dr T ost) pos
        (.yield ⟨⟩) (St h (os ++ [dobj (es ++ [⟨hashInt i.k, .int i.k T, .str i.s (T + 1)⟩]) (es.length + 1)]) g dr (T + 3) ost) dp := by
      refine go_bind go_key (go_bind (go_holding go_val) (go_bind (go_holding (go_setLast (n := es.length) ha (not_mem_hash hA) (by omega))) ?_))
      exact go_pure
    simp only [List.length_cons]
    refine go_bind step ?_
    dsimp only
    cases r with
    | nil =>
      simp only [List.map_nil, List.forIn_nil, entL, List.length_cons, List.length_nil]
      exact go_pure
    | cons j r =>
      have ih := go_long (env := env) (dp := dp) ha f hf (j :: r) (es ++ [⟨hashInt i.k, .int i.k T, .str i.s (T + 1)⟩]) (T + 3) dp (by simp) (by simpa using hA) (by simp only [List.length_append, List.length_cons, List.length_nil] at hz ⊢; omega)
      simp only [List.length_append, List.length_cons, List.length_nil, Nat.zero_add, List.append_assoc, List.singleton_append] at ih
      have e1 : es.length + 1 + (r.length + 1) = es.length + (j :: r).length.succ := by simp; omega
      have e2 : T + 3 + 3 * (r.length + 1) = T + 3 * (i :: j :: r).length := by simp; omega
      rw [e1, e2] at ih
      exact go_le ih (by simp only [List.length_cons]; omega)
theorem go_long0 {env : Env} {dp : Pos} (ha : Nat.ble Z.n₀ (h.objs.size + os.length) = true) (f : Sem Value × Sem Value → PUnit → Sem (ForInStep PUnit))
    (hf : ∀ k v u, f (k, v) u = (do let kv ← k; let vv ← holding [kv] v; holding [kv, vv] (dictSet (h.objs.size + os.length) kv vv); pure (.yield ⟨⟩))) (l : List It) (T : Nat) (pos : Pos) (h0 : l ≠ [])
    (hA : Apart (l.map fun i => hashInt i.k)) (hz : l.length < 100000) :
      Go Z (14 * l.length) (forIn (pr env dp l) ⟨⟩ f) (St h (os ++ [dobj [] 0]) g dr T ost) pos ⟨⟩ (St h (os ++ [dobj (entL T l) l.length]) g dr (T + 3 * l.length) ost) dp := by
  have := go_long (Z := Z) (env := env) (dp := dp) (g := g) (dr := dr) (ost := ost) ha f hf l [] T pos h0 (by simpa using hA) (by simpa using hz)
  simpa only [List.nil_append, List.length_nil, Nat.zero_add] using this
theorem go_subLong {env : Env} {dp : Pos} {l : List It} (ha : Nat.ble Z.n₀ (h.objs.size + os.length) = true) (hl : 15 < l.length) (hA : Apart (l.map fun i => hashInt i.k)) (hz : l.length < 100000) :
    Go Z (14 * l.length + 2) (subDict (pr env dp l)) (St h os g dr T ost) pos (h.objs.size + os.length) (St h (os ++ [dobj (entL T l) l.length]) g dr (T + 3 * l.length) ost) dp := by
  unfold subDict
  refine go_bind (b := 1) (s₁ := St h (os ++ [dobj [] 0]) g dr T ost) (a := h.objs.size + os.length) (pos₁ := pos) ?_ ?_
  · have := go_alloc (Z := Z) (s := St h os g dr T ost) (pos := pos) (o := dobj [] 0)
    simpa only [H_size, H_push] using this
  refine go_bind (b := 14 * l.length + 1) (a := ⟨⟩) (go_holding ?_) go_pure
  rw [if_neg (by simp [pr]; omega)]
  refine go_bind go_rule ?_
  exact go_bind (go_long0 ha _ (fun _ _ _ => rfl) l T pos (by intro e; subst e; simp at hl) hA hz) go_pure
end Mine.Hd
end
section
set_option maxRecDepth 100000
namespace Mine.Hd
open PySem PySem.W PyProof.Rows
variable {Z : Pl} {α β : Type} {s s₁ s₂ s' : Shared} {pos pos₁ pos₂ pos' : Pos} {h : Heap} {os : List Obj} {g : Array GenState} {dr : Drawn} {T : Nat} {ost : OsState}
noncomputable def valS (T : Nat) : List It → List (Value × Value)
  | [] => []
  | i :: r => (.int i.k T, .str i.s (T + 1)) :: valS (T + 2) r
theorem go_pairs {env : Env} {dp : Pos} : ∀ (l : List It) (T : Nat) (pos : Pos), l ≠ [] →
    Go Z (3 * l.length) (evalPairs (pr env dp l)) (St h os g dr T ost) pos (valS T l) (St h os g dr (T + 2 * l.length) ost) dp
  | [], _, _, h0 => absurd rfl h0
  | i :: r, T, pos, _ => by
    unfold pr
    rw [List.map_cons]
    unfold evalPairs
    simp only [List.length_cons]
    refine go_bind go_key (go_bind (go_holding go_val) ?_)
    cases r with
    | nil => exact go_bind (b := 0) (go_holding (by rw [List.map_nil]; unfold evalPairs; exact go_pure)) go_pure
    | cons j r =>
      have ih := go_pairs (env := env) (dp := dp) (j :: r) (T + 2) dp (by simp)
      rw [show T + 2 + 2 * (j :: r).length = T + 2 * (i :: j :: r).length by simp; omega] at ih
      exact go_bind (go_holding ih) go_pure (by simp only [List.length_cons]; omega)
theorem go_sets (ha : Nat.ble Z.n₀ (h.objs.size + os.length) = true) (f : Value × Value → PUnit → Sem (ForInStep PUnit))
    (hf : ∀ k v u, f (k, v) u = (do dictSet (h.objs.size + os.length) k v; pure (.yield ⟨⟩))) : ∀ (l : List It) (es : List DictEntry) (T U : Nat) (pos : Pos),
      Apart (es.map (·.hash) ++ l.map fun i => hashInt i.k) → es.length + l.length < 100000 →
      Go Z (11 * l.length) (forIn (valS T l) ⟨⟩ f) (St h (os ++ [dobj es es.length]) g dr U ost) pos ⟨⟩ (St h (os ++ [dobj (es ++ entS T l) (es.length + l.length)]) g dr (U + l.length) ost) pos
  | [], es, T, U, pos, _, _ => by
    simp only [valS, List.forIn_nil, entS, List.append_nil, List.length_nil, Nat.add_zero]
    exact go_pure
  | i :: r, es, T, U, pos, hA, hz => by
    simp only [List.length_cons] at hz
    unfold valS
    rw [List.forIn_cons, hf]
    have step : Go Z 10 (do dictSet (h.objs.size + os.length) (.int i.k T) (.str i.s (T + 1)); pure (ForInStep.yield (⟨⟩ : PUnit))) (St h (os ++ [dobj es es.length]) g dr U ost) pos
        (.yield ⟨⟩) (St h (os ++ [dobj (es ++ [⟨hashInt i.k, .int i.k T, .str i.s (T + 1)⟩]) (es.length + 1)]) g dr (U + 1) ost) pos :=
      go_bind (go_setLast (n := es.length) ha (not_mem_hash hA) (by omega)) go_pure
    simp only [List.length_cons]
    refine go_bind step ?_
    dsimp only
    have ih := go_sets ha f hf r (es ++ [⟨hashInt i.k, .int i.k T, .str i.s (T + 1)⟩]) (T + 2) (U + 1) pos (by simpa using hA) (by simp only [List.length_append, List.length_cons, List.length_nil] at hz ⊢; omega)
    simp only [List.length_append, List.length_cons, List.length_nil, Nat.zero_add, List.append_assoc, List.singleton_append] at ih
    rw [show es.length + 1 + r.length = es.length + (i :: r).length by simp; omega, show U + 1 + r.length = U + (i :: r).length by simp; omega] at ih
    exact go_le ih (by omega)
theorem go_subShort {env : Env} {dp : Pos} {l : List It} (h0 : l ≠ []) (ha : Nat.ble Z.n₀ (h.objs.size + os.length) = true) (hl : l.length ≤ 15) (hA : Apart (l.map fun i => hashInt i.k)) :
    Go Z (14 * l.length + 2) (subDict (pr env dp l)) (St h os g dr T ost) pos (h.objs.size + os.length) (St h (os ++ [dobj (entS T l) l.length]) g dr (T + 3 * l.length) ost) dp := by
  unfold subDict
  refine go_bind (b := 1) (s₁ := St h (os ++ [dobj [] 0]) g dr T ost) (a := h.objs.size + os.length) (pos₁ := pos) ?_ ?_
  · have := go_alloc (Z := Z) (s := St h os g dr T ost) (pos := pos) (o := dobj [] 0)
    simpa only [H_size, H_push] using this
  refine go_bind (b := 14 * l.length + 1) (a := ⟨⟩) (go_holding ?_) go_pure
  rw [if_pos (by simpa [pr] using hl)]
  refine go_bind (go_pairs l T pos h0) (go_holding ?_)
  have := go_sets (Z := Z) (g := g) (dr := dr) (ost := ost) (h := h) (os := os) ha (fun x _ => match x with | (k, v) => (do dictSet (h.objs.size + os.length) k v; pure (.yield ⟨⟩))) (fun _ _ _ => rfl) l [] T (T + 2 * l.length) dp (by simpa using hA) (by simp; omega)
  simp only [List.nil_append, List.length_nil, Nat.zero_add] at this
  rw [show T + 2 * l.length + l.length = T + 3 * l.length by omega] at this
  exact go_bind this go_pure
theorem sub_dict : isSubtype (.type "dict") (.type "dict") = pure true := by kernel_rfl
theorem iter_dict : typeLookup (.type "dict") (Str.ofString "__iter__") = pure (some (.builtin "dict.__iter__")) := by kernel_rfl
theorem go_isDict {a : Addr} {es : List DictEntry} {n : Nat} (ho : s.heap.get? a = some (dobj es n)) : Go Z 1 (isInstance (.ref a) (.type "dict")) s pos true s pos := by
  unfold isInstance
  refine go_bind (b := 1) (a := .type "dict") (s₁ := s) (pos₁ := pos) ?_ ?_
  · show Go Z 1 (do return (← loadPart a (some headPart)).cls) s pos _ _ _
    exact go_bind (go_loadPart ho) go_pure
  · rw [sub_dict]; exact go_pure
theorem go_iterDict {a : Addr} {es : List DictEntry} {n : Nat} (ho : s.heap.get? a = some (dobj es n)) : Go Z 1 (specialOf (.ref a) (Str.ofString "__iter__")) s pos (some (.builtin "dict.__iter__")) s pos := by
  unfold specialOf
  refine go_bind (b := 1) (a := .type "dict") (s₁ := s) (pos₁ := pos) ?_ ?_
  · show Go Z 1 (do return (← loadPart a (some headPart)).cls) s pos _ _ _
    exact go_bind (go_loadPart ho) go_pure
  · rw [iter_dict]; exact go_pure
noncomputable def IntEnt (e : DictEntry) : Prop := ∃ k t, e.key = .int k t
theorem modify_head {o : Obj} {r : List Obj} {f : Obj → Obj} : (o :: r).modify 0 f = f o :: r := rfl
theorem go_merge {mid : List Obj} {E : List DictEntry} {en : Nat} (ha : Nat.ble Z.n₀ h.objs.size = true) (hI : ∀ e ∈ E, IntEnt e)
    (f : Nat → PUnit → Sem (ForInStep PUnit))
    (hf : ∀ i (hlt : i < E.length) u M mn M' mn' pos, Go Z 4 (dictPut h.objs.size E[i].hash E[i].key E[i].val) (St h (dobj M mn :: (mid ++ [dobj E en])) g dr T ost) pos () (St h (dobj M' mn' :: (mid ++ [dobj E en])) g dr T ost) pos →
      Go Z 6 (f i u) (St h (dobj M mn :: (mid ++ [dobj E en])) g dr T ost) pos (.yield ⟨⟩) (St h (dobj M' mn' :: (mid ++ [dobj E en])) g dr T ost) pos) : ∀ (m i : Nat) (M : List DictEntry) (mn : Nat) (pos : Pos), i + m = E.length → Apart (M.map (·.hash) ++ (E.drop i).map (·.hash)) → M.length + m < 100000 →
      Go Z (6 * m) (forIn (List.range' i m) ⟨⟩ f) (St h (dobj M mn :: (mid ++ [dobj E en])) g dr T ost) pos ⟨⟩ (St h (dobj (M ++ E.drop i) (mn + m) :: (mid ++ [dobj E en])) g dr T ost) pos
  | 0, i, M, mn, pos, hi, hA, hz => by
    have : E.drop i = [] := List.drop_eq_nil_of_le (by omega)
    rw [this]
    simp only [List.range'_zero, List.forIn_nil, List.append_nil, Nat.add_zero]
    exact go_pure
  | m + 1, i, M, mn, pos, hi, hA, hz => by
    have hlt : i < E.length := by omega
    have hd : E.drop i = E[i] :: E.drop (i + 1) := List.drop_eq_getElem_cons hlt
    rw [List.range'_succ, List.forIn_cons]
    obtain ⟨k, t, hk⟩ := hI E[i] (List.getElem_mem hlt)
    have gs : ∀ M' mn', (St h (dobj M' mn' :: (mid ++ [dobj E en])) g dr T ost).heap.get? (h.objs.size + (mid.length + 1)) = some (dobj E en) := fun M' mn' => H_get (by simp)
    have gm : (St h (dobj M mn :: (mid ++ [dobj E en])) g dr T ost).heap.get? h.objs.size = some (dobj M mn) := H_get (i := 0) rfl
    have hA' : Apart (M.map (·.hash) ++ E[i].hash :: (E.drop (i + 1)).map (·.hash)) := by rw [hd, List.map_cons] at hA; exact hA
    have hput : Go Z 4 (dictPut h.objs.size E[i].hash E[i].key E[i].val) (St h (dobj M mn :: (mid ++ [dobj E en])) g dr T ost) pos () (St h (dobj (M ++ [E[i]]) (mn + 1) :: (mid ++ [dobj E en])) g dr T ost) pos := by
      have := go_put (Z := Z) (s := St h (dobj M mn :: (mid ++ [dobj E en])) g dr T ost) (pos := pos) (k := k) (t := t) (h := E[i].hash) (v := E[i].val) gm ha (not_mem_hash hA') (by omega)
      rw [← hk] at this
      have e0 : h.objs.size = h.objs.size + 0 := rfl
      have e1 : (H h (dobj M mn :: (mid ++ [dobj E en]))).update h.objs.size (Obj.mapDictKeys (·.push ⟨E[i].hash, E[i].key, E[i].val⟩)) = H h (dobj (M ++ [E[i]]) (mn + 1) :: (mid ++ [dobj E en])) := by
        conv => lhs; rw [e0, H_update, modify_head, mapKeys_push]
      rw [e1] at this
      exact this
    refine go_bind (b := 6) (a := .yield ⟨⟩) (s₁ := St h (dobj (M ++ [E[i]]) (mn + 1) :: (mid ++ [dobj E en])) g dr T ost) (pos₁ := pos) ?_ ?_
    · exact hf i hlt _ _ _ _ _ _ hput
    · dsimp only
      have ih := go_merge ha hI f hf m (i + 1) (M ++ [E[i]]) (mn + 1) pos (by omega) (by simpa using hA') (by simp; omega)
      rw [show M ++ [E[i]] ++ E.drop (i + 1) = M ++ E.drop i by rw [hd]; simp, show mn + 1 + m = mn + (m + 1) by omega] at ih
      exact go_le ih (by omega)
theorem go_mergeAll {mid : List Obj} {M E : List DictEntry} {mn en : Nat} (ha : Nat.ble Z.n₀ h.objs.size = true) (hm : M ≠ []) (hI : ∀ e ∈ E, IntEnt e) (hs : 1 < h.objs.size) (hA : Apart (M.map (·.hash) ++ E.map (·.hash))) (hz : M.length + E.length < 100000) :
    Go Z (6 * E.length + 8) (mergeMapping h.objs.size (.ref (h.objs.size + (mid.length + 1))) false) (St h (dobj M mn :: (mid ++ [dobj E en])) g dr T ost) pos ⟨⟩ (St h (dobj (M ++ E) (mn + E.length) :: (mid ++ [dobj E en])) g dr T ost) pos := by
  have gs : (St h (dobj M mn :: (mid ++ [dobj E en])) g dr T ost).heap.get? (h.objs.size + (mid.length + 1)) = some (dobj E en) := H_get (by simp)
  have gm : (St h (dobj M mn :: (mid ++ [dobj E en])) g dr T ost).heap.get? h.objs.size = some (dobj M mn) := H_get (i := 0) rfl
  unfold mergeMapping
  refine go_bind (x := isInstance (.ref (h.objs.size + (mid.length + 1))) (.type "dict")) (go_isDict gs) ?_
  rw [if_pos rfl]
  refine go_bind (x := specialOf (.ref (h.objs.size + (mid.length + 1))) (Str.ofString "__iter__")) (go_iterDict gs) ?_
  refine go_bind (b := 0) go_pure ?_
  rw [show (some (Value.builtin "dict.__iter__") == some (Value.builtin "dict.__iter__")) = true from by decide]
  dsimp only
  have hsys : (h.objs.size + (mid.length + 1) == sysModules) = false := beq_eq_false_iff_ne.mpr (by show _ ≠ 1; omega)
  rw [if_neg (by rw [hsys]; decide)]
  refine go_bind (go_entries gm) ?_
  rw [if_neg (by cases M <;> simp_all)]
  refine go_bind (go_entries gs) (go_bind (go_epoch gs) ?_)
  rw [List.range_eq_range', List.size_toArray]
  refine go_bind (b := 6 * E.length) (s₁ := St h (dobj (M ++ E) (mn + E.length) :: (mid ++ [dobj E en])) g dr T ost) (pos₁ := pos) (a := ⟨⟩) ?_ go_pure
  have := fun f hf => go_merge (Z := Z) (g := g) (dr := dr) (T := T) (ost := ost) (h := h) (mid := mid) (E := E) (en := en) ha hI f hf E.length 0 M mn pos (by omega) (by simpa using hA) hz
  rw [List.drop_zero] at this
  refine this _ fun i hlt u M mn M' mn' pos hp => ?_
  have gs' : ∀ M mn, (St h (dobj M mn :: (mid ++ [dobj E en])) g dr T ost).heap.get? (h.objs.size + (mid.length + 1)) = some (dobj E en) := fun M mn => H_get (by simp)
  refine go_bind (go_entries (gs' _ _)) ?_
  rw [show E.toArray[i]? = some E[i] by simp [hlt]]
  dsimp only
  refine go_bind (go_holding (by rw [if_neg (by decide)]; exact hp)) ?_
  refine go_bind (go_epoch (gs' _ _)) ?_
  rw [if_neg (by simp)]
  exact go_pure
end Mine.Hd
end
section
set_option maxRecDepth 100000
namespace Mine.Hd
open PySem PySem.W PyProof.Rows
variable {Z : Pl} {α β : Type} {s s₁ s₂ s' : Shared} {pos pos₁ pos₂ pos' : Pos} {h : Heap} {os : List Obj} {g : Array GenState} {dr : Drawn} {T : Nat} {ost : OsState}
noncomputable def its (env : Env) (dp : Pos) (l : List It) : List (Option (Sem Value) × Sem Value) := l.map fun i => (some (kS env i), vS env dp i)
noncomputable abbrev RunT := List (Sem Value × Sem Value)
noncomputable def flushD (run : RunT) (main : Option Addr) : Sem (Option Addr) :=
  if run.isEmpty = true then pure main
  else
    match main with
    | none => do
      let __do_lift ← subDict run
      pure (some __do_lift)
    | some d => do
      let sub ← holding [Value.ref d] (subDict run)
      (holding [Value.ref d, Value.ref sub] (mergeMapping d (Value.ref sub) false)).onRaise fun x => do
          let _ ← holding [Value.ref d, x] (runValue (Code.builtin "proto.let_go" { }))
          pure ()
      pure (some d)
noncomputable abbrev FTy := Option (Sem Value) × Sem Value → Option Addr × RunT → Sem (ForInStep (Option Addr × RunT))
noncomputable def FOk (f : FTy) : Prop := ∀ k v m r, f (some k, v) (m, r) = if ((r ++ [(k, v)]).length == 17) = true then (do let main ← flushD (r ++ [(k, v)]) m; pure (.yield (main, []))) else pure (.yield (m, r ++ [(k, v)]))
theorem acc1 {b : Nat} {env : Env} {dp : Pos} {f : FTy} (hf : FOk f) {m : Option Addr} {a : Option Addr × RunT} {rest : List It} : ∀ (l r : List It), r.length + l.length < 17 →
    Go Z b (forIn (its env dp rest) (m, pr env dp (r ++ l)) f) s pos a s' pos' → Go Z b (forIn (its env dp (l ++ rest)) (m, pr env dp r) f) s pos a s' pos'
  | [], r, _, k => by simpa using k
  | i :: l, r, hl, k => by
    simp only [List.length_cons] at hl
    unfold its
    rw [List.cons_append, List.map_cons, List.forIn_cons, hf]
    rw [if_neg (by simp [pr]; omega), pure_bind]
    dsimp only
    have e : pr env dp r ++ [(kS env i, vS env dp i)] = pr env dp (r ++ [i]) := by simp [pr]
    rw [e]
    exact acc1 hf l (r ++ [i]) (by simp; omega) (by simpa using k)
theorem chunk {b b' : Nat} {env : Env} {dp : Pos} {f : FTy} (hf : FOk f) {m m' : Option Addr} {a : Option Addr × RunT} {c rest : List It} (hc : c.length = 17)
    (k1 : Go Z b (flushD (pr env dp c) m) s pos m' s₁ pos₁) (k : Go Z (b' - b) (forIn (its env dp rest) (m', []) f) s₁ pos₁ a s' pos') (le : b ≤ b' := by omega) :
    Go Z b' (forIn (its env dp (c ++ rest)) (m, []) f) s pos a s' pos' := by
  obtain ⟨l, x, rfl⟩ : ∃ l x, c = l ++ [x] := ⟨c.dropLast, c.getLast (by intro e; subst e; simp at hc), (List.dropLast_concat_getLast _).symm⟩
  simp only [List.length_append, List.length_cons, List.length_nil] at hc
  rw [List.append_assoc]
  refine acc1 hf (r := []) l (by simp; omega) ?_
  unfold its
  rw [List.singleton_append, List.map_cons, List.forIn_cons, hf, List.nil_append]
  have e3 : pr env dp l ++ [(kS env x, vS env dp x)] = pr env dp (l ++ [x]) := by simp [pr]
  rw [e3, if_pos (by simp [pr]; omega)]
  refine go_bind (b := b) (a := .yield (m', [])) (s₁ := s₁) (pos₁ := pos₁) (go_bind k1 go_pure) ?_
  exact k
noncomputable def subsL (T : Nat) : List (List It) → List Obj
  | [] => []
  | c :: r => dobj (entL T c) c.length :: subsL (T + 3 * c.length) r
theorem entL_app : ∀ (a b : List It) (T : Nat), entL T (a ++ b) = entL T a ++ entL (T + 3 * a.length) b
  | [], b, T => by simp [entL]
  | i :: a, b, T => by
    have := entL_app a b (T + 3)
    simp only [List.cons_append, entL, this, List.length_cons]
    rw [show T + 3 + 3 * a.length = T + 3 * (a.length + 1) by omega]
theorem entL_int (l : List It) : ∀ (T : Nat), ∀ e ∈ entL T l, IntEnt e := by
  induction l with
  | nil => exact fun T e he => absurd he List.not_mem_nil
  | cons i r ih => exact fun T e he => (List.mem_cons.mp he).elim (fun h => h ▸ ⟨_, _, rfl⟩) (ih _ e)
theorem entS_int (l : List It) : ∀ (T : Nat), ∀ e ∈ entS T l, IntEnt e := by
  induction l with
  | nil => exact fun T e he => absurd he List.not_mem_nil
  | cons i r ih => exact fun T e he => (List.mem_cons.mp he).elim (fun h => h ▸ ⟨_, _, rfl⟩) (ih _ e)
noncomputable abbrev hs (l : List It) : List Int := l.map fun i => hashInt i.k
theorem go_flushLong {env : Env} {dp : Pos} {c : List It} {M : List DictEntry} {mn : Nat} {mid : List Obj} (hn : Nat.ble Z.n₀ h.objs.size = true) (h1 : 1 < h.objs.size) (hc : 15 < c.length) (hM : M ≠ []) (hA : Apart (M.map (·.hash) ++ hs c)) (hz : M.length + c.length < 100000) :
    Go Z (20 * c.length + 10) (flushD (pr env dp c) (some h.objs.size)) (St h (dobj M mn :: mid) g dr T ost) pos (some h.objs.size) (St h (dobj (M ++ entL T c) (mn + c.length) :: (mid ++ [dobj (entL T c) c.length])) g dr (T + 3 * c.length) ost) dp := by
  unfold flushD
  rw [if_neg (by cases c <;> simp_all [pr])]
  dsimp only
  have hn' := Nat.le_of_ble_eq_true hn
  have hcA : Apart (hs c) := (List.pairwise_append.mp hA).2.1
  have k1 := go_subLong (Z := Z) (h := h) (os := dobj M mn :: mid) (g := g) (dr := dr) (T := T) (ost := ost) (pos := pos) (env := env) (dp := dp) (l := c) (Nat.ble_eq_true_of_le (by omega)) hc hcA (by omega)
  refine go_bind (go_holding k1) ?_
  have k2 := go_mergeAll (Z := Z) (h := h) (mid := mid) (M := M) (E := entL T c) (mn := mn) (en := c.length) (g := g) (dr := dr) (T := T + 3 * c.length) (ost := ost) (pos := dp) hn hM (entL_int c T) h1 (by rw [entL_hash]; exact hA) (by rw [entL_length]; exact hz)
  rw [entL_length] at k2
  refine go_bind (go_onRaise (go_holding k2)) go_pure
theorem go_flushShort {env : Env} {dp : Pos} {c : List It} {M : List DictEntry} {mn : Nat} {mid : List Obj} (hn : Nat.ble Z.n₀ h.objs.size = true) (h1 : 1 < h.objs.size) (h0 : c ≠ []) (hc : c.length ≤ 15) (hM : M ≠ []) (hA : Apart (M.map (·.hash) ++ hs c)) (hz : M.length + c.length < 100000) :
    Go Z (20 * c.length + 10) (flushD (pr env dp c) (some h.objs.size)) (St h (dobj M mn :: mid) g dr T ost) pos (some h.objs.size) (St h (dobj (M ++ entS T c) (mn + c.length) :: (mid ++ [dobj (entS T c) c.length])) g dr (T + 3 * c.length) ost) dp := by
  unfold flushD
  rw [if_neg (by cases c <;> simp_all [pr])]
  dsimp only
  have hn' := Nat.le_of_ble_eq_true hn
  have hcA : Apart (hs c) := (List.pairwise_append.mp hA).2.1
  have k1 := go_subShort (Z := Z) (h := h) (os := dobj M mn :: mid) (g := g) (dr := dr) (T := T) (ost := ost) (pos := pos) (env := env) (dp := dp) (l := c) h0 (Nat.ble_eq_true_of_le (by omega)) hc hcA
  refine go_bind (go_holding k1) ?_
  have k2 := go_mergeAll (Z := Z) (h := h) (mid := mid) (M := M) (E := entS T c) (mn := mn) (en := c.length) (g := g) (dr := dr) (T := T + 3 * c.length) (ost := ost) (pos := dp) hn hM (entS_int c T) h1 (by rw [entS_hash]; exact hA) (by rw [entS_length]; exact hz)
  rw [entS_length] at k2
  refine go_bind (go_onRaise (go_holding k2)) go_pure
theorem go_flushFirst {env : Env} {dp : Pos} {c : List It} (hn : Nat.ble Z.n₀ h.objs.size = true) (hc : 15 < c.length) (hA : Apart (hs c)) (hz : c.length < 100000) :
    Go Z (20 * c.length + 10) (flushD (pr env dp c) none) (St h [] g dr T ost) pos (some h.objs.size) (St h [dobj (entL T c) c.length] g dr (T + 3 * c.length) ost) dp := by
  unfold flushD
  rw [if_neg (by cases c <;> simp_all [pr])]
  dsimp only
  have k1 := go_subLong (Z := Z) (h := h) (os := []) (g := g) (dr := dr) (T := T) (ost := ost) (pos := pos) (env := env) (dp := dp) (l := c) (by simpa using hn) hc hA hz
  exact go_bind k1 go_pure
theorem go_chunks {env : Env} {dp : Pos} {f : FTy} (hf : FOk f) (hn : Nat.ble Z.n₀ h.objs.size = true) (h1 : 1 < h.objs.size) {last : List It} (hl0 : last ≠ []) (hl : last.length ≤ 15) : ∀ (cs : List (List It)) (M : List DictEntry) (mid : List Obj) (T : Nat) (pos : Pos), M ≠ [] → (∀ c ∈ cs, c.length = 17) →
    Apart (M.map (·.hash) ++ hs (cs.flatten ++ last)) → M.length + (cs.flatten ++ last).length < 100000 →
    Go Z (30 * (cs.flatten ++ last).length) (forIn (its env dp (cs.flatten ++ last)) (some h.objs.size, []) f) (St h (dobj M M.length :: mid) g dr T ost) pos (some h.objs.size, pr env dp last)
      (St h (dobj (M ++ entL T cs.flatten) (M.length + cs.flatten.length) :: (mid ++ subsL T cs)) g dr (T + 3 * cs.flatten.length) ost) (if cs = [] then pos else dp)
  | [], M, mid, T, pos, hM, hc, hA, hz => by
    simp only [List.flatten_nil, List.nil_append, entL, List.append_nil, List.length_nil, Nat.add_zero, Nat.mul_zero, subsL, if_pos]
    have := acc1 (Z := Z) (b := 30 * last.length) (env := env) (dp := dp) hf (m := some h.objs.size) (rest := []) (s := St h (dobj M M.length :: mid) g dr T ost) (pos := pos) (a := (some h.objs.size, pr env dp last)) (s' := St h (dobj M M.length :: mid) g dr T ost) (pos' := pos) last [] (by simp; omega)
      (by simp only [its, List.map_nil, List.forIn_nil, List.nil_append]; exact go_pure)
    rw [List.append_nil] at this
    exact this
  | c :: cs, M, mid, T, pos, hM, hc, hA, hz => by
    have hc17 : c.length = 17 := hc c (by simp)
    have e : (c :: cs).flatten ++ last = c ++ (cs.flatten ++ last) := by simp
    rw [e] at hA hz ⊢
    have hA1 : Apart (M.map (·.hash) ++ hs c) := by
      rw [hs, List.map_append, ← List.append_assoc] at hA
      exact (List.pairwise_append.mp hA).1
    simp only [List.length_append] at hz
    have k1 := go_flushLong (Z := Z) (h := h) (env := env) (dp := dp) (c := c) (M := M) (mn := M.length) (mid := mid) (g := g) (dr := dr) (T := T) (ost := ost) (pos := pos) hn h1 (by omega) hM hA1 (by omega)
    have lz : (c ++ (cs.flatten ++ last)).length = 17 + (cs.flatten ++ last).length := by simp only [List.length_append]; omega
    rw [lz]
    refine chunk hf hc17 k1 ?_
    have ih := go_chunks (env := env) (dp := dp) hf hn h1 hl0 hl cs (M ++ entL T c) (mid ++ [dobj (entL T c) c.length]) (T + 3 * c.length) dp (by simp [hM]) (fun x hx => hc x (List.mem_cons_of_mem _ hx))
      (by rw [List.map_append, entL_hash, List.append_assoc]; rw [hs, List.map_append] at hA; exact hA) (by simp only [List.length_append, entL_length]; omega)
    simp only [List.length_append, entL_length, List.append_assoc, List.singleton_append] at ih
    rw [show (if cs = [] then dp else dp) = dp by split <;> rfl] at ih
    rw [if_neg (by simp)]
    simp only [List.flatten_cons, List.length_append, entL_app, subsL]
    rw [show M.length + (c.length + cs.flatten.length) = M.length + c.length + cs.flatten.length by omega, show T + 3 * (c.length + cs.flatten.length) = T + 3 * c.length + 3 * cs.flatten.length by omega]
    exact go_le ih (by omega)
theorem go_display {env : Env} {dp : Pos} (hn : Nat.ble Z.n₀ h.objs.size = true) (h1 : 1 < h.objs.size) {c last : List It} {cs : List (List It)} (hc : c.length = 17) (hcs : ∀ c ∈ cs, c.length = 17) (hl0 : last ≠ []) (hl : last.length ≤ 15)
    (hA : Apart (hs (c ++ (cs.flatten ++ last)))) (hz : (c ++ (cs.flatten ++ last)).length < 100000) :
    Go Z (30 * (c ++ (cs.flatten ++ last)).length + 30 * last.length) (dictDisplay (its env dp (c ++ (cs.flatten ++ last)))) (St h [] g dr T ost) pos (.ref h.objs.size)
      (St h (dobj (entL T (c ++ cs.flatten) ++ entS (T + 3 * (c ++ cs.flatten).length) last) ((c ++ cs.flatten).length + last.length) :: (subsL (T + 51) cs ++ [dobj (entS (T + 3 * (c ++ cs.flatten).length) last) last.length])) g dr (T + 3 * (c ++ (cs.flatten ++ last)).length) ost) dp := by
  have hcA : Apart (hs c) := by rw [hs, List.map_append] at hA; exact (List.pairwise_append.mp hA).1
  simp only [List.length_append] at hz
  unfold dictDisplay
  have hcne : c ≠ [] := by intro e; subst e; simp at hc
  refine go_bind (b := 30 * (c ++ (cs.flatten ++ last)).length) (a := (some h.objs.size, pr env dp last)) (s₁ := St h (dobj (entL T c ++ entL (T + 3 * c.length) cs.flatten) (c.length + cs.flatten.length) :: ([] ++ subsL (T + 3 * c.length) cs)) g dr (T + 3 * c.length + 3 * cs.flatten.length) ost) (pos₁ := dp) ?_ ?_
  · refine chunk (m' := some h.objs.size) (fun k v m r => ?_) hc (go_flushFirst (Z := Z) hn (by omega) hcA (by omega)) ?_ (by simp only [List.length_append]; omega)
    · rfl
    · have := fun f (hf : FOk f) => go_chunks (Z := Z) (env := env) (dp := dp) (g := g) (dr := dr) (ost := ost) hf hn h1 hl0 hl cs (entL T c) [] (T + 3 * c.length) dp (by cases c <;> simp_all [entL]) hcs (by rw [entL_hash]; rw [hs, List.map_append] at hA; exact hA) (by simp only [List.length_append, entL_length]; omega)
      rw [show (if cs = [] then dp else dp) = dp by split <;> rfl] at this
      simp only [entL_length] at this
      exact go_le (this _ fun k v m r => rfl) (by simp only [List.length_append]; omega)
  · dsimp only
    have hA2 : Apart ((entL T c ++ entL (T + 3 * c.length) cs.flatten).map (·.hash) ++ hs last) := by
      rw [List.map_append, entL_hash, entL_hash, List.append_assoc]
      rw [hs, List.map_append, List.map_append] at hA
      exact hA
    have k := go_flushShort (Z := Z) (h := h) (env := env) (dp := dp) (c := last) (M := entL T c ++ entL (T + 3 * c.length) cs.flatten) (mn := c.length + cs.flatten.length) (mid := [] ++ subsL (T + 3 * c.length) cs) (g := g) (dr := dr) (T := T + 3 * c.length + 3 * cs.flatten.length) (ost := ost) (pos := dp) hn h1 hl0 hl
      (by cases c <;> simp_all [entL]) hA2 (by simp only [List.length_append, entL_length]; omega)
    rw [hc] at k
    simp only [entL_app, List.length_append, hc]
    rw [show T + 3 * (17 + cs.flatten.length) = T + 3 * 17 + 3 * cs.flatten.length by omega, show T + 3 * (17 + (cs.flatten.length + last.length)) = T + 3 * 17 + 3 * cs.flatten.length + 3 * last.length by omega]
    have hlast : 0 < last.length := List.length_pos_iff.mpr hl0
    refine go_bind k ?_ (by omega)
    exact go_pure
end Mine.Hd
end
section
set_option maxRecDepth 100000
namespace Mine.Hd
open PySem PySem.W PyProof.Rows
variable {Z : Pl} {s s₁ s₂ s' : Shared} {pos pos₁ pos₂ pos' : Pos} {h : Heap} {g : Array GenState} {dr : Drawn} {T : Nat} {ost : OsState}
noncomputable def keysOf (l : List It) : List (Option Expr) := l.map fun i => some (.Constant (.int i.k) 0 i.kp)
noncomputable def valsOf (l : List It) : List Expr := l.map fun i => .Constant (.str i.s) 0 i.vp
theorem each_keys (env : Env) : ∀ l : List It, evalEachOpt (keysOf l) env = l.map fun i => some (kS env i)
  | [] => rfl
  | i :: r => by
    show some (kS env i) :: evalEachOpt (keysOf r) env = _
    rw [each_keys env r]; rfl
theorem each_vals (env : Env) : ∀ l : List It, evalEach (valsOf l) env = l.map fun i => eval (.Constant (.str i.s) 0 i.vp) env
  | [] => rfl
  | i :: r => by
    show eval _ env :: evalEach (valsOf r) env = _
    rw [each_vals env r]; rfl
theorem eval_dict (env : Env) (dp : Pos) (l : List It) : eval (.Dict (keysOf l) (valsOf l) dp) env = (do standAt dp; dictDisplay (its env dp l)) := by
  show (do standAt dp; dictDisplay ((evalEachOpt (keysOf l) env).zip ((evalEach (valsOf l) env).map fun v => do let x ← v; standAt dp; pure x))) = _
  rw [each_keys, each_vals]
  congr 1
  funext _
  congr 1
  unfold its
  rw [List.map_map, List.zip_map', ]
  rfl
noncomputable def tailOf (env : Env) (x : Str) (p' : Pos) (a : Addr) : Sem Flow := do standAt p'; bindName env x (.ref a); pure .next
theorem dict_stmt {x : Str} {p' dp sp : Pos} {pos0 : Pos} (hn : Nat.ble Z.n₀ h.objs.size = true) (h1 : 1 < h.objs.size) {c last : List It} {cs : List (List It)} (hc : c.length = 17) (hcs : ∀ c ∈ cs, c.length = 17) (hl0 : last ≠ []) (hl : last.length ≤ 15)
    (hA : Apart (hs (c ++ (cs.flatten ++ last)))) (hz : (c ++ (cs.flatten ++ last)).length < 100000) {N : Nat} {r : Flow × Shared × Code × Pos}
    (k : segRun treeTable Z.p Z.w Z.n₀ Z.ann 1 N
      (St h (dobj (entL T (c ++ cs.flatten) ++ entS (T + 3 * (c ++ cs.flatten).length) last) ((c ++ cs.flatten).length + last.length) :: (subsL (T + 51) cs ++ [dobj (entS (T + 3 * (c ++ cs.flatten).length) last) last.length])) g dr (T + 3 * (c ++ (cs.flatten ++ last)).length) ost)
      ⟨(tailOf Z.env x p' h.objs.size).wrap doneF deadEnd id id, .body Z.b Z.env, dp, [topFrame Z.q]⟩ = some r) :
    ∃ n, n ≤ 30 * (c ++ (cs.flatten ++ last)).length + 30 * last.length + 2 ∧
      segRun treeTable Z.p Z.w Z.n₀ Z.ann 1 (n + N) (St h [] g dr T ost) (piecesOf [.Assign [.Name x p'] (.Dict (keysOf (c ++ (cs.flatten ++ last))) (valsOf (c ++ (cs.flatten ++ last))) dp) sp] Z.env (.body Z.b Z.env) pos0 [topFrame Z.q]) = some r := by
  have G : Go Z (30 * (c ++ (cs.flatten ++ last)).length + 30 * last.length + 2) (do standAt sp; eval (.Dict (keysOf (c ++ (cs.flatten ++ last))) (valsOf (c ++ (cs.flatten ++ last))) dp) Z.env) (St h [] g dr T ost) pos0 _ _ dp :=
    go_bind go_at (by rw [eval_dict]; exact go_bind go_at (go_le (go_display hn h1 hc hcs hl0 hl hA hz) (by omega)))
  obtain ⟨n, hn, G⟩ := G
  refine ⟨n, hn, ?_⟩
  have e : execs [.Assign [.Name x p'] (.Dict (keysOf (c ++ (cs.flatten ++ last))) (valsOf (c ++ (cs.flatten ++ last))) dp) sp] Z.env =
      (do standAt sp; eval (.Dict (keysOf (c ++ (cs.flatten ++ last))) (valsOf (c ++ (cs.flatten ++ last))) dp) Z.env) >>= fun v => (do standAt p'; bindName Z.env x v; pure .next) := by
    rw [execs_cons, exec_Assign_Name Z.env x p' _ sp (by rfl), execs_nil]
    simp only [bind_assoc, pure_bind]
  have e2 : (execs [.Assign [.Name x p'] (.Dict (keysOf (c ++ (cs.flatten ++ last))) (valsOf (c ++ (cs.flatten ++ last))) dp) sp] Z.env).wrap doneF deadEnd id id =
      (do standAt sp; eval (.Dict (keysOf (c ++ (cs.flatten ++ last))) (valsOf (c ++ (cs.flatten ++ last))) dp) Z.env).wrap (fun v => (do standAt p'; bindName Z.env x v; pure Flow.next : Sem Flow).wrap doneF deadEnd id id) (fun e => (Sem.raise e).wrap doneF deadEnd id id) id id := by
    rw [e, Sem.bind_eq_wrap', Sem.wrap_wrap]; rfl
  show segRun _ _ _ _ _ 1 (n + N) _ ⟨_, _, _, _⟩ = _
  rw [e2]
  exact seg_go (G _ _ _ _) k
end Mine.Hd
namespace Mine.Hd
open PySem PySem.W
noncomputable def itemOf : Option Expr → Expr → It
  | some (.Constant (.int i) _ kp), .Constant (.str s) _ vp => ⟨i, s, kp, vp⟩
  | _, _ => ⟨0, Str.empty, ⟨0, 0, 0, 0⟩, ⟨0, 0, 0, 0⟩⟩
noncomputable def itemsOf : Stmt → List It
  | .Assign _ (.Dict ks vs _) _ => List.zipWith itemOf ks vs
  | _ => []
theorem hashInt_small {k : Int} (h0 : 0 ≤ k) (h1 : k < 2 ^ 60) : hashInt k = k := by
  unfold hashInt rawHash
  have e : (k.natAbs % (2 ^ 61 - 1) : Nat) = k.natAbs := Nat.mod_eq_of_lt (by omega)
  have e2 : ((k.natAbs : Nat) : Int) = k := Int.natAbs_of_nonneg h0
  dsimp only
  rw [show ((k.natAbs : Int) % ((2 ^ 61 - 1 : Nat) : Int)) = k by omega]
  have n1 : ¬ k < 0 := by omega
  have n2 : (k == -1) = false := by simp; omega
  simp [n1, n2]
noncomputable def climbs : Int → List Int → Bool
  | _, [] => true
  | a, b :: r => decide (a < b) && (decide (b < 2 ^ 60) && climbs b r)
theorem climbs_spec : ∀ (l : List Int) (a : Int), 0 ≤ a → climbs a l = true → (∀ x ∈ l, a < x ∧ x < 2 ^ 60) ∧ (l.map hashInt).Pairwise (· ≠ ·)
  | [], _, _, _ => ⟨fun x hx => (nomatch hx), .nil⟩
  | b :: r, a, h0, h => by
    simp only [climbs, Bool.and_eq_true, decide_eq_true_eq] at h
    obtain ⟨h1, h2, h3⟩ := h
    obtain ⟨i1, i2⟩ := climbs_spec r b (by omega) h3
    refine ⟨fun x hx => ?_, ?_⟩
    · rcases List.mem_cons.mp hx with rfl | hx
      · exact ⟨h1, h2⟩
      · have := i1 x hx; omega
    · rw [List.map_cons, List.pairwise_cons]
      refine ⟨fun y hy => ?_, i2⟩
      obtain ⟨x, hx, rfl⟩ := List.mem_map.mp hy
      have := i1 x hx
      rw [hashInt_small (by omega) h2, hashInt_small (by omega) this.2]
      omega
theorem apart_of {l : List It} (h : climbs 0 (l.map (·.k)) = true) : Apart (hs l) := by
  have := (climbs_spec (l.map (·.k)) 0 (Int.le_refl _) h).2
  rw [List.map_map] at this
  exact this
theorem H_nil (h : Heap) : H h [] = h := by
  obtain ⟨a, l⟩ := h
  simp [H]
end Mine.Hd
end
section
set_option maxRecDepth 100000
set_option maxHeartbeats 0
namespace Mine.H2
open PySem PySem.W PyProof.Rows Mine.Hd
noncomputable abbrev prog : Program := PySem.Challenge.pw_sn0073_02
noncomputable def body : List Stmt := behindTheImports prog
noncomputable def sts (i n : Nat) : List Stmt := (body.drop i).take n
noncomputable def stAt (i : Nat) : Stmt := match body.drop i with | s :: _ => s | [] => .Pass ⟨0, 0, 0, 0⟩
noncomputable def argsAt (i : Nat) : Arguments := match stAt i with | .FunctionDef _ a .. => a | _ => ⟨[], [], none, [], [], none, []⟩
noncomputable def bodyAt (i : Nat) : List Stmt := match stAt i with | .FunctionDef _ _ b .. => b | _ => []
noncomputable def scopeAt (i : Nat) : Scope := match stAt i with | .FunctionDef _ _ _ _ _ _ s .. => s | _ => default
noncomputable def env : Env := { scope := prog.main.scope, locals := mainNs, globals := mainNs, cells := [], code := (.ref 13), frame := some 14 }
noncomputable abbrev cE : Code := .body body env
noncomputable abbrev m0 : Nat := 11
noncomputable abbrev ann : Option Value := (some (.ref 6))
noncomputable abbrev qP : Pos := ⟨0, 0, 0, 0⟩
noncomputable abbrev sO := Str.ofString
noncomputable def tS (s : String) (n : Nat) : Value := .str (sO s) n
noncomputable def tC (n : Nat) : Value := tS "/claim/cut.py" n
noncomputable def eN (P : Params) (s : String) (n : Nat) (v : Value) : DictEntry := ⟨PyData.keyHash P (sO s), tS s n, v⟩
noncomputable def oT (l : List Value) : Obj := ⟨.type "tuple", none, .seq ⟨l⟩ 0, #[]⟩
noncomputable def oN (l : List Value) : Obj := ⟨.none, none, .fields ⟨l⟩, #[]⟩
noncomputable def oC (l : List Value) : Obj := ⟨.type "code", none, .fields ⟨l⟩, #[]⟩
noncomputable def oD (l : List DictEntry) (n : Nat) : Obj := ⟨.type "dict", none, .dict ⟨l⟩ n, #[]⟩
noncomputable def oF (c : Value) (s : String) (i g : Nat) (m k : Value) : Obj := ⟨c, none, .func { name := sO s, qualname := sO s, params := argsAt i, body := .stmts (bodyAt i), scope := scopeAt i, globals := g, closure := [], defaults := .none, kwdefaults := .none, doc := .none, pyModule := m, annotations := none, code := k, closureTuple := .none, builtins := 0 }, #[]⟩
noncomputable def oK (s : String) (n : Nat) (l k : Int) (a b : Nat) (x y z : Value) (t : Nat) : Obj := oC [tS s n, tS s (n + 1), tC (n + 2), .int l 0, .int k 0, .int 0 0, .int 0 0, .int 3 0, .ref a, .bool true, .int 181 0, .ref b, .none, x, y, z, .int t 0, .int l 0, tC (t + 1)]
noncomputable def hP (P : Params) (a b c : Obj) (l : List Obj) : Heap := ⟨⟨boot_o_0 P :: boot_o_1 P :: boot_o_2 P :: a :: boot_o_4 P :: boot_o_5 P :: boot_o_6 P :: boot_o_7 P :: boot_o_8 P :: boot_o_9 P :: boot_o_10 P :: b :: c :: l⟩, {}⟩
noncomputable def o11_1 (P : Params) : Obj := oT []
noncomputable def o12_2 (P : Params) : Obj := oN []
noncomputable def o13_3 (P : Params) : Obj := oC [(tS "<module>" 182), (tS "<module>" 183), (tC 184), (.int 1 0), (.int 0 0), (.int 0 0), (.int 0 0), (.int 0 0), (.ref 11), (.bool false), (.int 181 0), (.ref 12), .none, .none, .none, .none, (.int 185 0), (.int 1 0), (tC 186)]
noncomputable def o14_4 (P : Params) : Obj := ⟨(.type "frame"), none, .plain, (#[(some (.ref 13)), (some (.ref 3)), (some (.ref 3)), none, (some (tS "__main__" 164)), none, (some (.ref 0))])⟩
noncomputable def mE0 (P : Params) : List DictEntry := [eN P "__doc__" 166 .none, eN P "__package__" 167 .none, eN P "__loader__" 168 (.builtin "__main__.__loader__#opaque"), eN P "__spec__" 169 .none, eN P "__annotations__" 170 (.ref 6), eN P "__builtins__" 171 (.ref 4), eN P "__file__" 173 (tC 172), eN P "__cached__" 174 .none, eN P "_MAX_STRING_SIZE" 190 (.int 40 189), eN P "_MOVE_COST" 192 (.int 2 191), eN P "_CASE_COST" 194 (.int 1 193), eN P "_substitution_cost" 202 (.ref 21), eN P "_levenshtein_distance" 222 (.ref 28), eN P "_parse_varint" 233 (.ref 35)]
noncomputable def o3_5 (P : Params) : Obj := oD (eN P "__name__" 165 (tS "cpy313.stringprep" 234) :: mE0 P) 15
noncomputable def nE0 : List Value := [(.int 5 0), (.int 0 0), (.ref 20), (.int 11 0), (.int 0 0), (.ref 27), (.int 50 0), (.int 0 0), (.ref 34)]
noncomputable def o12_6 (P : Params) : Obj := oN nE0
noncomputable def o17_9 (P : Params) : Obj := oT [(tS "ch_a" 198), (tS "ch_b" 199)]
noncomputable def o19_11 (P : Params) : Obj := oF .none "_substitution_cost" 4 0 .none .none
noncomputable def o20_12 (P : Params) : Obj := oK "_substitution_cost" 195 5 2 15 16 (.ref 17) (.ref 18) (.ref 19) 200
noncomputable def o21_13 (P : Params) : Obj := oF (.type "function") "_substitution_cost" 4 3 (tS "cpy313.traceback" 187) (.ref 20)
noncomputable def o24_16 (P : Params) : Obj := oT [(tS "a" 206), (tS "b" 207), (tS "max_cost" 208), (tS "pre" 209), (tS "post" 210), (tS "row" 211), (tS "result" 212), (tS "bindex" 213), (tS "bchar" 214), (tS "distance" 215), (tS "minimum" 216), (tS "index" 217), (tS "substitute" 218), (tS "insert_delete" 219)]
noncomputable def o26_18 (P : Params) : Obj := oF .none "_levenshtein_distance" 5 0 .none .none
noncomputable def o27_19 (P : Params) : Obj := oC [(tS "_levenshtein_distance" 203), (tS "_levenshtein_distance" 204), (tC 205), (.int 11 0), (.int 3 0), (.int 0 0), (.int 0 0), (.int 3 0), (.ref 22), (.bool true), (.int 181 0), (.ref 23), .none, (.ref 24), (.ref 25), (.ref 26), (.int 220 0), (.int 11 0), (tC 221)]
noncomputable def o28_20 (P : Params) : Obj := oF (.type "function") "_levenshtein_distance" 5 3 (tS "cpy313.traceback" 187) (.ref 27)
noncomputable def o31_23 (P : Params) : Obj := oT [(tS "iterator" 228), (tS "b" 229), (tS "val" 230)]
noncomputable def o33_25 (P : Params) : Obj := oF .none "_parse_varint" 7 0 .none .none
noncomputable def o34_26 (P : Params) : Obj := oC [(tS "_parse_varint" 225), (tS "_parse_varint" 226), (tC 227), (.int 50 0), (.int 1 0), (.int 0 0), (.int 0 0), (.int 3 0), (.ref 29), (.bool true), (.int 181 0), (.ref 30), .none, (.ref 31), (.ref 32), (.ref 33), (.int 231 0), (.int 50 0), (tC 232)]
noncomputable def o35_27 (P : Params) : Obj := oF (.type "function") "_parse_varint" 7 3 (tS "cpy313.dis" 223) (.ref 34)
noncomputable def mE1 (P : Params) : List DictEntry := mE0 P ++ [eN P "b3_exceptions" 2186 (.ref 36)]
noncomputable def o3_28 (P : Params) : Obj := oD (eN P "__name__" 165 (tS "cpy313.stringprep" 234) :: mE1 P) 16
noncomputable def mE2 (P : Params) : List DictEntry := mE1 P ++ [eN P "map_table_b3" 2194 (.ref 81), eN P "ENDMARKER" 2198 (.int 0 2197), eN P "LPAR" 2200 (.int 7 2199), eN P "RPAR" 2202 (.int 8 2201), eN P "LSQB" 2204 (.int 9 2203), eN P "RSQB" 2206 (.int 10 2205), eN P "COLON" 2208 (.int 11 2207), eN P "COMMA" 2210 (.int 12 2209), eN P "SEMI" 2212 (.int 13 2211), eN P "PLUS" 2214 (.int 14 2213), eN P "MINUS" 2216 (.int 15 2215), eN P "STAR" 2218 (.int 16 2217), eN P "SLASH" 2220 (.int 17 2219), eN P "VBAR" 2222 (.int 18 2221), eN P "AMPER" 2224 (.int 19 2223), eN P "LESS" 2226 (.int 20 2225), eN P "GREATER" 2228 (.int 21 2227), eN P "EQUAL" 2230 (.int 22 2229), eN P "DOT" 2232 (.int 23 2231), eN P "PERCENT" 2234 (.int 24 2233), eN P "LBRACE" 2236 (.int 25 2235), eN P "RBRACE" 2238 (.int 26 2237), eN P "EQEQUAL" 2240 (.int 27 2239), eN P "NOTEQUAL" 2242 (.int 28 2241), eN P "LESSEQUAL" 2244 (.int 29 2243), eN P "GREATEREQUAL" 2246 (.int 30 2245), eN P "TILDE" 2248 (.int 31 2247), eN P "CIRCUMFLEX" 2250 (.int 32 2249), eN P "LEFTSHIFT" 2252 (.int 33 2251), eN P "RIGHTSHIFT" 2254 (.int 34 2253)]
noncomputable def o3_29 (P : Params) : Obj := oD (eN P "__name__" 165 (tS "cpy313.token" 2195) :: mE2 P) 46
noncomputable def nE1 : List Value := nE0 ++ [(.int 60 0), (.int 0 0), (.ref 80)]
noncomputable def o12_30 (P : Params) : Obj := oN nE1
noncomputable def o77_33 (P : Params) : Obj := oT [(tS "code" 2190), (tS "r" 2191)]
noncomputable def o79_35 (P : Params) : Obj := oF .none "map_table_b3" 10 0 .none .none
noncomputable def o80_36 (P : Params) : Obj := oK "map_table_b3" 2187 60 1 75 76 (.ref 77) (.ref 78) (.ref 79) 2192
noncomputable def o81_37 (P : Params) : Obj := oF (.type "function") "map_table_b3" 10 3 (tS "cpy313.stringprep" 234) (.ref 80)
noncomputable def mE3 (P : Params) : List DictEntry := mE2 P ++ [eN P "DOUBLESTAR" 2256 (.int 35 2255), eN P "PLUSEQUAL" 2258 (.int 36 2257), eN P "MINEQUAL" 2260 (.int 37 2259), eN P "STAREQUAL" 2262 (.int 38 2261), eN P "SLASHEQUAL" 2264 (.int 39 2263), eN P "PERCENTEQUAL" 2266 (.int 40 2265), eN P "AMPEREQUAL" 2268 (.int 41 2267), eN P "VBAREQUAL" 2270 (.int 42 2269), eN P "CIRCUMFLEXEQUAL" 2272 (.int 43 2271), eN P "LEFTSHIFTEQUAL" 2274 (.int 44 2273), eN P "RIGHTSHIFTEQUAL" 2276 (.int 45 2275), eN P "DOUBLESTAREQUAL" 2278 (.int 46 2277), eN P "DOUBLESLASH" 2280 (.int 47 2279), eN P "DOUBLESLASHEQUAL" 2282 (.int 48 2281), eN P "AT" 2284 (.int 49 2283), eN P "ATEQUAL" 2286 (.int 50 2285), eN P "RARROW" 2288 (.int 51 2287), eN P "ELLIPSIS" 2290 (.int 52 2289), eN P "COLONEQUAL" 2292 (.int 53 2291), eN P "EXCLAMATION" 2294 (.int 54 2293), eN P "NT_OFFSET" 2296 (.int 256 2295)]
noncomputable def o3_38 (P : Params) : Obj := oD (eN P "__name__" 165 (tS "cpy313.token" 2195) :: mE3 P) 67
noncomputable def mE4 (P : Params) : List DictEntry := mE3 P ++ [eN P "EXACT_TOKEN_TYPES" 2393 (.ref 82)]
noncomputable def o3_39 (P : Params) : Obj := oD (eN P "__name__" 165 (tS "cpy313.token" 2195) :: mE4 P) 68
noncomputable def o82_40 (P : Params) : Obj := oD [eN P "!" 2297 (.int 54 2293), eN P "!=" 2299 (.int 28 2241), eN P "%" 2301 (.int 24 2233), eN P "%=" 2303 (.int 40 2265), eN P "&" 2305 (.int 19 2223), eN P "&=" 2307 (.int 41 2267), eN P "(" 2309 (.int 7 2199), eN P ")" 2311 (.int 8 2201), eN P "*" 2313 (.int 16 2217), eN P "**" 2315 (.int 35 2255), eN P "**=" 2317 (.int 46 2277), eN P "*=" 2319 (.int 38 2261), eN P "+" 2321 (.int 14 2213), eN P "+=" 2323 (.int 36 2257), eN P "," 2325 (.int 12 2209), eN P "-" 2327 (.int 15 2215), eN P "-=" 2329 (.int 37 2259), eN P "->" 2331 (.int 51 2287), eN P "." 2333 (.int 23 2231), eN P "..." 2335 (.int 52 2289), eN P "/" 2337 (.int 17 2219), eN P "//" 2339 (.int 47 2279), eN P "//=" 2341 (.int 48 2281), eN P "/=" 2343 (.int 39 2263), eN P ":" 2345 (.int 11 2207), eN P ":=" 2347 (.int 53 2291), eN P ";" 2349 (.int 13 2211), eN P "<" 2351 (.int 20 2225), eN P "<<" 2353 (.int 33 2251), eN P "<<=" 2355 (.int 44 2273), eN P "<=" 2357 (.int 29 2243), eN P "=" 2359 (.int 22 2229), eN P "==" 2361 (.int 27 2239), eN P ">" 2363 (.int 21 2227), eN P ">=" 2365 (.int 30 2245), eN P ">>" 2366 (.int 34 2253), eN P ">>=" 2367 (.int 45 2275), eN P "@" 2368 (.int 49 2283), eN P "@=" 2369 (.int 50 2285), eN P "[" 2370 (.int 9 2203), eN P "]" 2371 (.int 10 2205), eN P "^" 2372 (.int 32 2249), eN P "^=" 2373 (.int 43 2271), eN P "{" 2374 (.int 25 2235), eN P "|" 2375 (.int 18 2221), eN P "|=" 2376 (.int 42 2269), eN P "}" 2377 (.int 26 2237), eN P "~" 2378 (.int 31 2247)] 48
noncomputable def o83_41 (P : Params) : Obj := oD [eN P "->" 2331 (.int 51 2287), eN P "." 2333 (.int 23 2231), eN P "..." 2335 (.int 52 2289), eN P "/" 2337 (.int 17 2219), eN P "//" 2339 (.int 47 2279), eN P "//=" 2341 (.int 48 2281), eN P "/=" 2343 (.int 39 2263), eN P ":" 2345 (.int 11 2207), eN P ":=" 2347 (.int 53 2291), eN P ";" 2349 (.int 13 2211), eN P "<" 2351 (.int 20 2225), eN P "<<" 2353 (.int 33 2251), eN P "<<=" 2355 (.int 44 2273), eN P "<=" 2357 (.int 29 2243), eN P "=" 2359 (.int 22 2229), eN P "==" 2361 (.int 27 2239), eN P ">" 2363 (.int 21 2227)] 17
noncomputable def o84_42 (P : Params) : Obj := oD [eN P ">=" 2365 (.int 30 2245), eN P ">>" 2366 (.int 34 2253), eN P ">>=" 2367 (.int 45 2275), eN P "@" 2368 (.int 49 2283), eN P "@=" 2369 (.int 50 2285), eN P "[" 2370 (.int 9 2203), eN P "]" 2371 (.int 10 2205), eN P "^" 2372 (.int 32 2249), eN P "^=" 2373 (.int 43 2271), eN P "{" 2374 (.int 25 2235), eN P "|" 2375 (.int 18 2221), eN P "|=" 2376 (.int 42 2269), eN P "}" 2377 (.int 26 2237), eN P "~" 2378 (.int 31 2247)] 14
noncomputable def mE5 (P : Params) : List DictEntry := mE4 P ++ [eN P "ISNONTERMINAL" 2400 (.ref 91), eN P "ISEOF" 2407 (.ref 98), eN P "_law_draw" 2415 (.ref 103), eN P "_law_symbols" 2421 (.ref 108), eN P "_law_octets" 2429 (.ref 115), eN P "_law_read" 2438 (.ref 122), eN P "_law_words" 2444 (.ref 127), eN P "_law_one" 2450 (.ref 132), eN P "_law_behind" 2456 (.ref 137), eN P "_law_either" 2462 (.ref 142)]
noncomputable def o3_43 (P : Params) : Obj := oD (eN P "__name__" 165 (tS "law_sn0073_02" 2408) :: mE5 P) 78
noncomputable def nE2 : List Value := nE1 ++ [(.int 117 0), (.int 0 0), (.ref 90), (.int 119 0), (.int 0 0), (.ref 97), (.int 122 0), (.int 0 0), (.ref 102), (.int 131 0), (.int 0 0), (.ref 107), (.int 137 0), (.int 0 0), (.ref 114), (.int 144 0), (.int 0 0), (.ref 121), (.int 151 0), (.int 0 0), (.ref 126), (.int 167 0), (.int 0 0), (.ref 131), (.int 171 0), (.int 0 0), (.ref 136), (.int 173 0), (.int 0 0), (.ref 141)]
noncomputable def o12_44 (P : Params) : Obj := oN nE2
noncomputable def o87_47 (P : Params) : Obj := oT [(tS "x" 2397)]
noncomputable def o89_49 (P : Params) : Obj := oF .none "ISNONTERMINAL" 63 0 .none .none
noncomputable def o90_50 (P : Params) : Obj := oC [(tS "ISNONTERMINAL" 2394), (tS "ISNONTERMINAL" 2395), (tC 2396), (.int 117 0), (.int 1 0), (.int 0 0), (.int 0 0), (.int 3 0), (.ref 85), (.bool true), (.int 181 0), (.ref 86), .none, (.ref 87), (.ref 88), (.ref 89), (.int 2398 0), (.int 117 0), (tC 2399)]
noncomputable def o91_51 (P : Params) : Obj := oF (.type "function") "ISNONTERMINAL" 63 3 (tS "cpy313.token" 2195) (.ref 90)
noncomputable def o94_54 (P : Params) : Obj := oT [(tS "x" 2404)]
noncomputable def o96_56 (P : Params) : Obj := oF .none "ISEOF" 64 0 .none .none
noncomputable def o97_57 (P : Params) : Obj := oC [(tS "ISEOF" 2401), (tS "ISEOF" 2402), (tC 2403), (.int 119 0), (.int 1 0), (.int 0 0), (.int 0 0), (.int 3 0), (.ref 92), (.bool true), (.int 181 0), (.ref 93), .none, (.ref 94), (.ref 95), (.ref 96), (.int 2405 0), (.int 119 0), (tC 2406)]
noncomputable def o98_58 (P : Params) : Obj := oF (.type "function") "ISEOF" 64 3 (tS "cpy313.token" 2195) (.ref 97)
noncomputable def o101_61 (P : Params) : Obj := oF .none "_law_draw" 66 0 .none .none
noncomputable def o102_62 (P : Params) : Obj := oC [(tS "_law_draw" 2410), (tS "_law_draw" 2411), (tC 2412), (.int 122 0), (.int 1 0), (.int 0 0), (.int 0 0), (.int 3 0), (.ref 99), (.bool true), (.int 181 0), (.ref 100), .none, .none, .none, (.ref 101), (.int 2413 0), (.int 122 0), (tC 2414)]
noncomputable def o103_63 (P : Params) : Obj := oF (.type "function") "_law_draw" 66 3 (tS "law_sn0073_02" 2408) (.ref 102)
noncomputable def o106_66 (P : Params) : Obj := oF .none "_law_symbols" 67 0 .none .none
noncomputable def o107_67 (P : Params) : Obj := oC [(tS "_law_symbols" 2416), (tS "_law_symbols" 2417), (tC 2418), (.int 131 0), (.int 4 0), (.int 0 0), (.int 0 0), (.int 3 0), (.ref 104), (.bool true), (.int 181 0), (.ref 105), .none, .none, .none, (.ref 106), (.int 2419 0), (.int 131 0), (tC 2420)]
noncomputable def o108_68 (P : Params) : Obj := oF (.type "function") "_law_symbols" 67 3 (tS "law_sn0073_02" 2408) (.ref 107)
noncomputable def o111_71 (P : Params) : Obj := oT [(tS "number" 2425), (tS "row" 2426)]
noncomputable def o113_73 (P : Params) : Obj := oF .none "_law_octets" 68 0 .none .none
noncomputable def o114_74 (P : Params) : Obj := oK "_law_octets" 2422 137 1 109 110 (.ref 111) (.ref 112) (.ref 113) 2427
noncomputable def o115_75 (P : Params) : Obj := oF (.type "function") "_law_octets" 68 3 (tS "law_sn0073_02" 2408) (.ref 114)
noncomputable def o118_78 (P : Params) : Obj := oT [(tS "reader" 2433), (tS "numbers" 2434), (tS "number" 2435)]
noncomputable def o120_80 (P : Params) : Obj := oF .none "_law_read" 69 0 .none .none
noncomputable def o121_81 (P : Params) : Obj := oC [(tS "_law_read" 2430), (tS "_law_read" 2431), (tC 2432), (.int 144 0), (.int 1 0), (.int 0 0), (.int 0 0), (.int 3 0), (.ref 116), (.bool true), (.int 181 0), (.ref 117), .none, (.ref 118), (.ref 119), (.ref 120), (.int 2436 0), (.int 144 0), (tC 2437)]
noncomputable def o122_82 (P : Params) : Obj := oF (.type "function") "_law_read" 69 3 (tS "law_sn0073_02" 2408) (.ref 121)
noncomputable def o125_85 (P : Params) : Obj := oF .none "_law_words" 70 0 .none .none
noncomputable def o126_86 (P : Params) : Obj := oC [(tS "_law_words" 2439), (tS "_law_words" 2440), (tC 2441), (.int 151 0), (.int 1 0), (.int 0 0), (.int 0 0), (.int 3 0), (.ref 123), (.bool true), (.int 181 0), (.ref 124), .none, .none, .none, (.ref 125), (.int 2442 0), (.int 151 0), (tC 2443)]
noncomputable def o127_87 (P : Params) : Obj := oF (.type "function") "_law_words" 70 3 (tS "law_sn0073_02" 2408) (.ref 126)
noncomputable def o130_90 (P : Params) : Obj := oF .none "_law_one" 71 0 .none .none
noncomputable def o131_91 (P : Params) : Obj := oC [(tS "_law_one" 2445), (tS "_law_one" 2446), (tC 2447), (.int 167 0), (.int 2 0), (.int 0 0), (.int 0 0), (.int 3 0), (.ref 128), (.bool true), (.int 181 0), (.ref 129), .none, .none, .none, (.ref 130), (.int 2448 0), (.int 167 0), (tC 2449)]
noncomputable def o132_92 (P : Params) : Obj := oF (.type "function") "_law_one" 71 3 (tS "law_sn0073_02" 2408) (.ref 131)
noncomputable def o135_95 (P : Params) : Obj := oF .none "_law_behind" 72 0 .none .none
noncomputable def o136_96 (P : Params) : Obj := oC [(tS "_law_behind" 2451), (tS "_law_behind" 2452), (tC 2453), (.int 171 0), (.int 2 0), (.int 0 0), (.int 0 0), (.int 3 0), (.ref 133), (.bool true), (.int 181 0), (.ref 134), .none, .none, .none, (.ref 135), (.int 2454 0), (.int 171 0), (tC 2455)]
noncomputable def o137_97 (P : Params) : Obj := oF (.type "function") "_law_behind" 72 3 (tS "law_sn0073_02" 2408) (.ref 136)
noncomputable def o140_100 (P : Params) : Obj := oF .none "_law_either" 73 0 .none .none
noncomputable def o141_101 (P : Params) : Obj := oC [(tS "_law_either" 2457), (tS "_law_either" 2458), (tC 2459), (.int 173 0), (.int 2 0), (.int 0 0), (.int 0 0), (.int 3 0), (.ref 138), (.bool true), (.int 181 0), (.ref 139), .none, .none, .none, (.ref 140), (.int 2460 0), (.int 173 0), (tC 2461)]
noncomputable def o142_102 (P : Params) : Obj := oF (.type "function") "_law_either" 73 3 (tS "law_sn0073_02" 2408) (.ref 141)
noncomputable def mE6 (P : Params) : List DictEntry := mE5 P ++ [eN P "_law_part" 2468 (.ref 147), eN P "_law_join" 2477 (.ref 154), eN P "_law_told" 2483 (.ref 159), eN P "law" 2489 (.ref 164)]
noncomputable def o3_103 (P : Params) : Obj := oD (eN P "__name__" 165 (tS "law_sn0073_02" 2408) :: mE6 P) 82
noncomputable def nE3 : List Value := nE2 ++ [(.int 175 0), (.int 0 0), (.ref 146), (.int 186 0), (.int 0 0), (.ref 153), (.int 188 0), (.int 0 0), (.ref 158), (.int 193 0), (.int 0 0), (.ref 163)]
noncomputable def o12_104 (P : Params) : Obj := oN nE3
noncomputable def o145_107 (P : Params) : Obj := oF .none "_law_part" 74 0 .none .none
noncomputable def o146_108 (P : Params) : Obj := oC [(tS "_law_part" 2463), (tS "_law_part" 2464), (tC 2465), (.int 175 0), (.int 3 0), (.int 0 0), (.int 0 0), (.int 3 0), (.ref 143), (.bool true), (.int 181 0), (.ref 144), .none, .none, .none, (.ref 145), (.int 2466 0), (.int 175 0), (tC 2467)]
noncomputable def o147_109 (P : Params) : Obj := oF (.type "function") "_law_part" 74 3 (tS "law_sn0073_02" 2408) (.ref 146)
noncomputable def o150_112 (P : Params) : Obj := oT [(tS "sign" 2472), (tS "one" 2473), (tS "two" 2474)]
noncomputable def o152_114 (P : Params) : Obj := oF .none "_law_join" 75 0 .none .none
noncomputable def o153_115 (P : Params) : Obj := oC [(tS "_law_join" 2469), (tS "_law_join" 2470), (tC 2471), (.int 186 0), (.int 3 0), (.int 0 0), (.int 0 0), (.int 3 0), (.ref 148), (.bool true), (.int 181 0), (.ref 149), .none, (.ref 150), (.ref 151), (.ref 152), (.int 2475 0), (.int 186 0), (tC 2476)]
noncomputable def o154_116 (P : Params) : Obj := oF (.type "function") "_law_join" 75 3 (tS "law_sn0073_02" 2408) (.ref 153)
noncomputable def o157_119 (P : Params) : Obj := oF .none "_law_told" 76 0 .none .none
noncomputable def o158_120 (P : Params) : Obj := oC [(tS "_law_told" 2478), (tS "_law_told" 2479), (tC 2480), (.int 188 0), (.int 5 0), (.int 0 0), (.int 0 0), (.int 3 0), (.ref 155), (.bool true), (.int 181 0), (.ref 156), .none, .none, .none, (.ref 157), (.int 2481 0), (.int 188 0), (tC 2482)]
noncomputable def o159_121 (P : Params) : Obj := oF (.type "function") "_law_told" 76 3 (tS "law_sn0073_02" 2408) (.ref 158)
noncomputable def o162_124 (P : Params) : Obj := oF .none "law" 77 0 .none .none
noncomputable def o163_125 (P : Params) : Obj := oC [(tS "law" 2484), (tS "law" 2485), (tC 2486), (.int 193 0), (.int 1 0), (.int 0 0), (.int 0 0), (.int 3 0), (.ref 160), (.bool true), (.int 181 0), (.ref 161), .none, .none, .none, (.ref 162), (.int 2487 0), (.int 193 0), (tC 2488)]
noncomputable def o164_126 (P : Params) : Obj := oF (.type "function") "law" 77 3 (tS "law_sn0073_02" 2408) (.ref 163)
noncomputable def items : List It := itemsOf (stAt 9)
noncomputable def c0 : List It := (items.drop 0).take 17
noncomputable def c1 : List It := (items.drop 17).take 17
noncomputable def c2 : List It := (items.drop 34).take 17
noncomputable def c3 : List It := (items.drop 51).take 17
noncomputable def c4 : List It := (items.drop 68).take 17
noncomputable def c5 : List It := (items.drop 85).take 17
noncomputable def c6 : List It := (items.drop 102).take 17
noncomputable def c7 : List It := (items.drop 119).take 17
noncomputable def c8 : List It := (items.drop 136).take 17
noncomputable def c9 : List It := (items.drop 153).take 17
noncomputable def c10 : List It := (items.drop 170).take 17
noncomputable def c11 : List It := (items.drop 187).take 17
noncomputable def c12 : List It := (items.drop 204).take 17
noncomputable def c13 : List It := (items.drop 221).take 17
noncomputable def c14 : List It := (items.drop 238).take 17
noncomputable def c15 : List It := (items.drop 255).take 17
noncomputable def c16 : List It := (items.drop 272).take 17
noncomputable def c17 : List It := (items.drop 289).take 17
noncomputable def c18 : List It := (items.drop 306).take 17
noncomputable def c19 : List It := (items.drop 323).take 17
noncomputable def c20 : List It := (items.drop 340).take 17
noncomputable def c21 : List It := (items.drop 357).take 17
noncomputable def c22 : List It := (items.drop 374).take 17
noncomputable def c23 : List It := (items.drop 391).take 17
noncomputable def c24 : List It := (items.drop 408).take 17
noncomputable def c25 : List It := (items.drop 425).take 17
noncomputable def c26 : List It := (items.drop 442).take 17
noncomputable def c27 : List It := (items.drop 459).take 17
noncomputable def c28 : List It := (items.drop 476).take 17
noncomputable def c29 : List It := (items.drop 493).take 17
noncomputable def c30 : List It := (items.drop 510).take 17
noncomputable def c31 : List It := (items.drop 527).take 17
noncomputable def c32 : List It := (items.drop 544).take 17
noncomputable def c33 : List It := (items.drop 561).take 17
noncomputable def c34 : List It := (items.drop 578).take 17
noncomputable def c35 : List It := (items.drop 595).take 17
noncomputable def c36 : List It := (items.drop 612).take 17
noncomputable def c37 : List It := (items.drop 629).take 17
noncomputable def last : List It := items.drop 646
noncomputable def chunks : List (List It) := [c1, c2, c3, c4, c5, c6, c7, c8, c9, c10, c11, c12, c13, c14, c15, c16, c17, c18, c19, c20, c21, c22, c23, c24, c25, c26, c27, c28, c29, c30, c31, c32, c33, c34, c35, c36, c37]
noncomputable def d0 : Obj := dobj (entL 236 (c0 ++ chunks.flatten) ++ entS 2174 last) 650
noncomputable def d1 : Obj := dobj (entL 287 c1) 17
noncomputable def d2 : Obj := dobj (entL 338 c2) 17
noncomputable def d3 : Obj := dobj (entL 389 c3) 17
noncomputable def d4 : Obj := dobj (entL 440 c4) 17
noncomputable def d5 : Obj := dobj (entL 491 c5) 17
noncomputable def d6 : Obj := dobj (entL 542 c6) 17
noncomputable def d7 : Obj := dobj (entL 593 c7) 17
noncomputable def d8 : Obj := dobj (entL 644 c8) 17
noncomputable def d9 : Obj := dobj (entL 695 c9) 17
noncomputable def d10 : Obj := dobj (entL 746 c10) 17
noncomputable def d11 : Obj := dobj (entL 797 c11) 17
noncomputable def d12 : Obj := dobj (entL 848 c12) 17
noncomputable def d13 : Obj := dobj (entL 899 c13) 17
noncomputable def d14 : Obj := dobj (entL 950 c14) 17
noncomputable def d15 : Obj := dobj (entL 1001 c15) 17
noncomputable def d16 : Obj := dobj (entL 1052 c16) 17
noncomputable def d17 : Obj := dobj (entL 1103 c17) 17
noncomputable def d18 : Obj := dobj (entL 1154 c18) 17
noncomputable def d19 : Obj := dobj (entL 1205 c19) 17
noncomputable def d20 : Obj := dobj (entL 1256 c20) 17
noncomputable def d21 : Obj := dobj (entL 1307 c21) 17
noncomputable def d22 : Obj := dobj (entL 1358 c22) 17
noncomputable def d23 : Obj := dobj (entL 1409 c23) 17
noncomputable def d24 : Obj := dobj (entL 1460 c24) 17
noncomputable def d25 : Obj := dobj (entL 1511 c25) 17
noncomputable def d26 : Obj := dobj (entL 1562 c26) 17
noncomputable def d27 : Obj := dobj (entL 1613 c27) 17
noncomputable def d28 : Obj := dobj (entL 1664 c28) 17
noncomputable def d29 : Obj := dobj (entL 1715 c29) 17
noncomputable def d30 : Obj := dobj (entL 1766 c30) 17
noncomputable def d31 : Obj := dobj (entL 1817 c31) 17
noncomputable def d32 : Obj := dobj (entL 1868 c32) 17
noncomputable def d33 : Obj := dobj (entL 1919 c33) 17
noncomputable def d34 : Obj := dobj (entL 1970 c34) 17
noncomputable def d35 : Obj := dobj (entL 2021 c35) 17
noncomputable def d36 : Obj := dobj (entL 2072 c36) 17
noncomputable def d37 : Obj := dobj (entL 2123 c37) 17
noncomputable def d38 : Obj := dobj (entS 2174 last) 4
noncomputable def dObjs : List Obj := [d0, d1, d2, d3, d4, d5, d6, d7, d8, d9, d10, d11, d12, d13, d14, d15, d16, d17, d18, d19, d20, d21, d22, d23, d24, d25, d26, d27, d28, d29, d30, d31, d32, d33, d34, d35, d36, d37, d38]
noncomputable def hE0 (P : Params) : List Obj := [o13_3 P, o14_4 P]
noncomputable def h_a (P : Params) : Heap := hP P (boot_o_3 P) (o11_1 P) (o12_2 P) (hE0 P)
noncomputable def h_b (P : Params) : Heap := hP P (boot_o_3 P) (o11_1 P) (o12_2 P) (hE0 P)
noncomputable def hE1 (P : Params) : List Obj := hE0 P ++ [o11_1 P, o12_2 P, o17_9 P, o11_1 P, o19_11 P, o20_12 P, o21_13 P, o11_1 P, o12_2 P, o24_16 P, o11_1 P, o26_18 P, o27_19 P, o28_20 P, o11_1 P, o12_2 P, o31_23 P, o11_1 P, o33_25 P, o34_26 P, o35_27 P]
noncomputable def h_0 (P : Params) : Heap := hP P (o3_5 P) (o11_1 P) (o12_6 P) (hE1 P)
noncomputable def hE2 (P : Params) : List Obj := hE1 P ++ dObjs
noncomputable def h_1 (P : Params) : Heap := hP P (o3_28 P) (o11_1 P) (o12_6 P) (hE2 P)
noncomputable def hE3 (P : Params) : List Obj := hE2 P ++ [o11_1 P, o12_2 P, o77_33 P, o11_1 P, o79_35 P, o80_36 P, o81_37 P]
noncomputable def h_2 (P : Params) : Heap := hP P (o3_29 P) (o11_1 P) (o12_30 P) (hE3 P)
noncomputable def h_3 (P : Params) : Heap := hP P (o3_38 P) (o11_1 P) (o12_30 P) (hE3 P)
noncomputable def hE4 (P : Params) : List Obj := hE3 P ++ [o82_40 P, o83_41 P, o84_42 P]
noncomputable def h_4 (P : Params) : Heap := hP P (o3_39 P) (o11_1 P) (o12_30 P) (hE4 P)
noncomputable def hE5 (P : Params) : List Obj := hE4 P ++ [o11_1 P, o12_2 P, o87_47 P, o11_1 P, o89_49 P, o90_50 P, o91_51 P, o11_1 P, o12_2 P, o94_54 P, o11_1 P, o96_56 P, o97_57 P, o98_58 P, o11_1 P, o12_2 P, o101_61 P, o102_62 P, o103_63 P, o11_1 P, o12_2 P, o106_66 P, o107_67 P, o108_68 P, o11_1 P, o12_2 P, o111_71 P, o11_1 P, o113_73 P, o114_74 P, o115_75 P, o11_1 P, o12_2 P, o118_78 P, o11_1 P, o120_80 P, o121_81 P, o122_82 P, o11_1 P, o12_2 P, o125_85 P, o126_86 P, o127_87 P, o11_1 P, o12_2 P, o130_90 P, o131_91 P, o132_92 P, o11_1 P, o12_2 P, o135_95 P, o136_96 P, o137_97 P, o11_1 P, o12_2 P, o140_100 P, o141_101 P, o142_102 P]
noncomputable def h_5 (P : Params) : Heap := hP P (o3_43 P) (o11_1 P) (o12_44 P) (hE5 P)
noncomputable def hE6 (P : Params) : List Obj := hE5 P ++ [o11_1 P, o12_2 P, o145_107 P, o146_108 P, o147_109 P, o11_1 P, o12_2 P, o150_112 P, o11_1 P, o152_114 P, o153_115 P, o154_116 P, o11_1 P, o12_2 P, o157_119 P, o158_120 P, o159_121 P, o11_1 P, o12_2 P, o162_124 P, o163_125 P, o164_126 P]
noncomputable def h_6 (P : Params) : Heap := hP P (o3_103 P) (o11_1 P) (o12_104 P) (hE6 P)
theorem pre (w : World) (os : OsState) : topGo treeTable prog w m0 ann 12 ⟨boot_heap w.params, Array.mk [], boot_drawn, boot_toks, os⟩ (topStub prog) = some (⟨h_a w.params, Array.mk [], {}, 187, os⟩, ⟨denote treeTable cE, cE, ⟨0, 0, 0, 0⟩, [topFrame qP]⟩) := by kernel_rfl
theorem blk (w : World) (os : OsState) : segRun treeTable prog w m0 ann 1 1 ⟨h_a w.params, Array.mk [], {}, 187, os⟩ (blockOf body env cE ⟨0, 0, 0, 0⟩ [topFrame qP]) = some (.next, ⟨h_b w.params, Array.mk [], {}, 187, os⟩, cE, ⟨0, 0, 0, 0⟩) := by kernel_rfl
theorem g0 (w : World) (os : OsState) : segRun treeTable prog w m0 ann 1 158 ⟨h_b w.params, Array.mk [], {}, 187, os⟩ (piecesOf (sts 0 9) env cE ⟨0, 0, 0, 0⟩ [topFrame qP]) = some (.next, ⟨h_0 w.params, Array.mk [], {}, 236, os⟩, cE, ⟨58, 0, 58, 8⟩) := by kernel_rfl
theorem dictSt : sts 9 1 = [.Assign [.Name (sO "b3_exceptions") ⟨59, 0, 59, 13⟩] (.Dict (keysOf (c0 ++ (chunks.flatten ++ last))) (valsOf (c0 ++ (chunks.flatten ++ last))) ⟨59, 16, 59, 8704⟩) ⟨59, 0, 59, 8704⟩] := by kernel_rfl
theorem dictObjs : dobj (entL 236 (c0 ++ chunks.flatten) ++ entS (236 + 3 * (c0 ++ chunks.flatten).length) last) ((c0 ++ chunks.flatten).length + last.length) :: (subsL (236 + 51) chunks ++ [dobj (entS (236 + 3 * (c0 ++ chunks.flatten).length) last) last.length]) = dObjs := by kernel_rfl
theorem tail1 (w : World) (os : OsState) : segRun treeTable prog w m0 ann 1 9 ⟨H (h_0 w.params) dObjs, Array.mk [], {}, 2186, os⟩ ⟨(tailOf env (sO "b3_exceptions") ⟨59, 0, 59, 13⟩ 36).wrap doneF deadEnd id id, cE, ⟨59, 16, 59, 8704⟩, [topFrame qP]⟩ = some (.next, ⟨h_1 w.params, Array.mk [], {}, 2187, os⟩, cE, ⟨59, 0, 59, 13⟩) := by kernel_rfl
theorem g2 (w : World) (os : OsState) : segRun treeTable prog w m0 ann 1 301 ⟨h_1 w.params, Array.mk [], {}, 2187, os⟩ (piecesOf (sts 10 31) env cE ⟨59, 0, 59, 13⟩ [topFrame qP]) = some (.next, ⟨h_2 w.params, Array.mk [], {}, 2255, os⟩, cE, ⟨94, 0, 94, 10⟩) := by kernel_rfl
theorem g3 (w : World) (os : OsState) : segRun treeTable prog w m0 ann 1 190 ⟨h_2 w.params, Array.mk [], {}, 2255, os⟩ (piecesOf (sts 41 21) env cE ⟨94, 0, 94, 10⟩ [topFrame qP]) = some (.next, ⟨h_3 w.params, Array.mk [], {}, 2297, os⟩, cE, ⟨115, 0, 115, 9⟩) := by kernel_rfl
theorem g4f (w : World) (os : OsState) : segRun treeTable prog (w.withFollow "special-get-raises" false) m0 ann 1 979 ⟨h_3 (w.withFollow "special-get-raises" false).params, Array.mk [], {}, 2297, os⟩ (piecesOf (sts 62 1) env cE ⟨115, 0, 115, 9⟩ [topFrame qP]) = some (.next, ⟨h_4 (w.withFollow "special-get-raises" false).params, Array.mk [], {}, 2394, os⟩, cE, ⟨116, 0, 116, 17⟩) := by kernel_rfl
theorem g4t (w : World) (os : OsState) : segRun treeTable prog (w.withFollow "special-get-raises" true) m0 ann 1 979 ⟨h_3 (w.withFollow "special-get-raises" true).params, Array.mk [], {}, 2297, os⟩ (piecesOf (sts 62 1) env cE ⟨115, 0, 115, 9⟩ [topFrame qP]) = some (.next, ⟨h_4 (w.withFollow "special-get-raises" true).params, Array.mk [], {}, 2394, os⟩, cE, ⟨116, 0, 116, 17⟩) := by kernel_rfl
theorem g4 (w : World) (os : OsState) : segRun treeTable prog w m0 ann 1 979 ⟨h_3 w.params, Array.mk [], {}, 2297, os⟩ (piecesOf (sts 62 1) env cE ⟨115, 0, 115, 9⟩ [topFrame qP]) = some (.next, ⟨h_4 w.params, Array.mk [], {}, 2394, os⟩, cE, ⟨116, 0, 116, 17⟩) :=
  byRow2 "special-get-raises" (P := fun w => segRun treeTable prog w m0 ann 1 979 ⟨h_3 w.params, Array.mk [], {}, 2297, os⟩ (piecesOf (sts 62 1) env cE ⟨115, 0, 115, 9⟩ [topFrame qP]) = some (.next, ⟨h_4 w.params, Array.mk [], {}, 2394, os⟩, cE, ⟨116, 0, 116, 17⟩)) (fun w => g4f w os) (fun w => g4t w os) w
theorem g5 (w : World) (os : OsState) : segRun treeTable prog w m0 ann 1 285 ⟨h_4 w.params, Array.mk [], {}, 2394, os⟩ (piecesOf (sts 63 11) env cE ⟨116, 0, 116, 17⟩ [topFrame qP]) = some (.next, ⟨h_5 w.params, Array.mk [], {}, 2463, os⟩, cE, ⟨173, 0, 174, 76⟩) := by kernel_rfl
theorem g6 (w : World) (os : OsState) : segRun treeTable prog w m0 ann 1 110 ⟨h_5 w.params, Array.mk [], {}, 2463, os⟩ (piecesOf (sts 74 4) env cE ⟨173, 0, 174, 76⟩ [topFrame qP]) = some (.next, ⟨h_6 w.params, Array.mk [], {}, 2490, os⟩, cE, ⟨193, 0, 209, 114⟩) := by kernel_rfl
theorem fin (w : World) (os : OsState) : topRun treeTable prog w m0 ann 2 ⟨h_6 w.params, Array.mk [], {}, 2490, os⟩ ⟨doneF .next, cE, ⟨193, 0, 209, 114⟩, [topFrame qP]⟩ = some ⟨h_6 w.params, Array.mk [], {}, 2490, os⟩ := by kernel_rfl
theorem climb : climbs 0 ((c0 ++ (chunks.flatten ++ last)).map (·.k)) = true := by kernel_rfl
theorem gd (w : World) (os : OsState) : ∃ n, n ≤ 19622 ∧ segRun treeTable prog w m0 ann 1 (n + 9) ⟨h_0 w.params, Array.mk [], {}, 236, os⟩ (piecesOf (sts 9 1) env cE ⟨58, 0, 58, 8⟩ [topFrame qP]) = some (.next, ⟨h_1 w.params, Array.mk [], {}, 2187, os⟩, cE, ⟨59, 0, 59, 13⟩) := by
  have hsz : (h_0 w.params).objs.size = 36 := rfl
  have z := dict_stmt (Z := ⟨prog, w, m0, ann, body, env, qP⟩) (h := h_0 w.params) (g := Array.mk []) (dr := {}) (T := 236) (ost := os) (x := (sO "b3_exceptions")) (p' := ⟨59, 0, 59, 13⟩) (dp := ⟨59, 16, 59, 8704⟩) (sp := ⟨59, 0, 59, 8704⟩) (pos0 := ⟨58, 0, 58, 8⟩) (c := c0) (last := last) (cs := chunks) (N := 9)
    (r := (.next, ⟨h_1 w.params, Array.mk [], {}, 2187, os⟩, cE, ⟨59, 0, 59, 13⟩)) (by rw [hsz]; rfl) (by rw [hsz]; decide) (by decide +kernel) (by decide +kernel) (by intro e; have := congrArg List.length e; revert this; decide +kernel) (by decide +kernel) (apart_of climb) (by decide +kernel)
    (by rw [dictObjs, hsz]; exact tail1 w os)
  rw [dictSt]
  have hb : 30 * (c0 ++ (chunks.flatten ++ last)).length + 30 * last.length + 2 = 19622 := by decide +kernel
  rw [hb] at z
  obtain ⟨n, hn, z⟩ := z
  refine ⟨n, hn, ?_⟩
  rw [show (St (h_0 w.params) [] (Array.mk []) {} 236 os) = ⟨h_0 w.params, Array.mk [], {}, 236, os⟩ from by show Shared.mk (H _ []) _ _ _ _ = _; rw [H_nil]] at z
  exact z
theorem bodyAll : body = sts 0 9 ++ (sts 9 1 ++ (sts 10 31 ++ (sts 41 21 ++ (sts 62 1 ++ (sts 63 11 ++ (sts 74 4 ++ [])))))) := by kernel_rfl
theorem run (w : World) (os : OsState) : topRun treeTable prog w m0 ann 21669 ⟨boot_heap w.params, Array.mk [], boot_drawn, boot_toks, os⟩ (topStub prog) = some ⟨h_6 w.params, Array.mk [], {}, 2490, os⟩ := by
  obtain ⟨n, hn, hd⟩ := gd w os
  have z := go_top (pre w os) (piece_block (blk w os) (by rw [show restOf body env cE ⟨0, 0, 0, 0⟩ [topFrame qP] = restOf (sts 0 9 ++ (sts 9 1 ++ (sts 10 31 ++ (sts 41 21 ++ (sts 62 1 ++ (sts 63 11 ++ (sts 74 4 ++ []))))))) env cE ⟨0, 0, 0, 0⟩ [topFrame qP] from congrArg (fun b => restOf b env cE ⟨0, 0, 0, 0⟩ [topFrame qP]) bodyAll]; exact (piece_app (g0 w os) (piece_app hd (piece_app (g2 w os) (piece_app (g3 w os) (piece_app (g4 w os) (piece_app (g5 w os) (piece_app (g6 w os) (fin w os))))))))))
  have z2 := topRun_mono (n₀ := m0) (ann := ann) (19622 - n) _ _ _ _ z
  exact (congrArg (fun N => topRun treeTable prog w m0 ann N ⟨boot_heap w.params, Array.mk [], boot_drawn, boot_toks, os⟩ (topStub prog)) (by omega)).trans z2
noncomputable def keepIx : List Nat := [77]
noncomputable def loose : List Str := [sO "_MAX_STRING_SIZE", sO "_MOVE_COST", sO "_CASE_COST", sO "_substitution_cost", sO "_levenshtein_distance", sO "_parse_varint", sO "b3_exceptions", sO "map_table_b3", sO "ENDMARKER", sO "LPAR", sO "RPAR", sO "LSQB", sO "RSQB", sO "COLON", sO "COMMA", sO "SEMI", sO "PLUS", sO "MINUS", sO "STAR", sO "SLASH", sO "VBAR", sO "AMPER", sO "LESS", sO "GREATER", sO "EQUAL", sO "DOT", sO "PERCENT", sO "LBRACE", sO "RBRACE", sO "EQEQUAL", sO "NOTEQUAL", sO "LESSEQUAL", sO "GREATEREQUAL", sO "TILDE", sO "CIRCUMFLEX", sO "LEFTSHIFT", sO "RIGHTSHIFT", sO "DOUBLESTAR", sO "PLUSEQUAL", sO "MINEQUAL", sO "STAREQUAL", sO "SLASHEQUAL", sO "PERCENTEQUAL", sO "AMPEREQUAL", sO "VBAREQUAL", sO "CIRCUMFLEXEQUAL", sO "LEFTSHIFTEQUAL", sO "RIGHTSHIFTEQUAL", sO "DOUBLESTAREQUAL", sO "DOUBLESLASH", sO "DOUBLESLASHEQUAL", sO "AT", sO "ATEQUAL", sO "RARROW", sO "ELLIPSIS", sO "COLONEQUAL", sO "EXCLAMATION", sO "NT_OFFSET", sO "EXACT_TOKEN_TYPES", sO "ISNONTERMINAL", sO "ISEOF", sO "_law_draw", sO "_law_symbols", sO "_law_octets", sO "_law_read", sO "_law_words", sO "_law_one", sO "_law_behind", sO "_law_either", sO "_law_part", sO "_law_join", sO "_law_told"]
noncomputable abbrev Nsteps : Nat := 21669
noncomputable abbrev hEnd := h_6
noncomputable abbrev tEnd : Nat := 2490
noncomputable def K (P : Params) : Frag := [(1, boot_o_1 P), (3, o3_103 P), (20, o20_12 P), (21, o21_13 P), (27, o27_19 P), (28, o28_20 P), (34, o34_26 P), (35, o35_27 P), (36, d0), (80, o80_36 P), (81, o81_37 P), (82, o82_40 P), (90, o90_50 P), (91, o91_51 P), (97, o97_57 P), (98, o98_58 P), (102, o102_62 P), (103, o103_63 P), (107, o107_67 P), (108, o108_68 P), (114, o114_74 P), (115, o115_75 P), (121, o121_81 P), (122, o122_82 P), (126, o126_86 P), (127, o127_87 P), (131, o131_91 P), (132, o132_92 P), (136, o136_96 P), (137, o137_97 P), (141, o141_101 P), (142, o142_102 P), (146, o146_108 P), (147, o147_109 P), (153, o153_115 P), (154, o154_116 P), (158, o158_120 P), (159, o159_121 P), (163, o163_125 P), (164, o164_126 P)]
noncomputable def Ks : List Addr := [1, 3, 20, 21, 27, 28, 34, 35, 36, 80, 81, 82, 90, 91, 97, 98, 102, 103, 107, 108, 114, 115, 121, 122, 126, 127, 131, 132, 136, 137, 141, 142, 146, 147, 153, 154, 158, 159, 163, 164]
theorem K_keys (P : Params) : Ks = (K P).map (·.1) := rfl
end Mine.H2
end
section
set_option maxRecDepth 100000
set_option maxHeartbeats 0
namespace Mine.H2
open PySem PySem.W PyProof.Rows Mine.Hd
noncomputable def q : Program := view prog keepIx
abbrev row : OpenRow := PySem.Challenge.rw_sn0073_02.row
noncomputable abbrev Xt : Shared → Bool := fun s => xlAt q [] s && recOk (RowW.records row.toRowW) s
noncomputable def hook : Hook := kHook K Ks K_keys
theorem size (w : World) : ((boot_heap w.params).isNs mainGlobals && (Array.mk [] : Array GenState).size == 0, (boot_heap w.params).objs.size, (boot_heap w.params).nsMap mainGlobals "__annotations__") = (true, m0, ann) := by kernel_rfl
theorem opens : opening prog = plainProg prog.main.scope.names := by kernel_rfl
theorem fence (s : Shared) : fenceModules? prog s = some s := by kernel_rfl
theorem looks1 (w : World) (os : OsState) : (staticsOk (importedModules prog.main.body) (boot_heap w.params) (hEnd w.params) && namesBound prog (hEnd w.params) && gensDone ⟨hEnd w.params, Array.mk [], {}, tEnd, os⟩ && laidKept (boot_heap w.params) (hEnd w.params)) = true := by kernel_rfl
theorem looks2 (w : World) (os : OsState) : openSeen q loose (importedModules prog.main.body) Xt true ⟨hEnd w.params, Array.mk [], {}, tEnd, os⟩ = openGood q loose := by kernel_rfl
theorem looks3 (w : World) (os : OsState) : hook.obs ⟨hEnd w.params, Array.mk [], {}, tEnd, os⟩ = hook.val w := by kernel_rfl
theorem left : LeftO prog q loose Xt hook.obs hook.val 40000 := LeftO.of_pieces (H₀ := boot_heap) (H₁ := hEnd) (gs₀ := Array.mk []) (gs₁ := Array.mk []) (d₀ := boot_drawn) (d₁ := {}) (k₀ := boot_toks) (k₁ := tEnd) (m₀ := m0) (ann := ann) (M := Nsteps)
  (boot_open opens rfl fence) size run rfl (fun w => funext fun os => by rw [looks1, looks2, looks3])
end Mine.H2
end
section
set_option backward.eqns.nonrecursive false
set_option genSizeOf false
namespace Mine
open PySem
inductive PV where
  | none
  | bool (b : Bool)
  | int (i : Int)
  | str (l : List Nat)
  | tuple (xs : List PV)
  | list (xs : List PV)
  | dict (es : List (PV × PV))
  | rng (lo : Int) (n : Nat) (st : Int)
  | ref (n : Nat)
inductive PObj where
  | list (xs : List PV)
  | dict (es : List (PV × PV))
  | iter (xs : List PV)
  | dead
noncomputable abbrev Store := List PObj
noncomputable abbrev PEnv := List (Nat × PV)
noncomputable def PEnv.get : PEnv → Nat → Option PV
  | [], _ => none
  | (j, v) :: r, i => bif Nat.beq j i then some v else PEnv.get r i
noncomputable def PEnv.set : PEnv → Nat → PV → PEnv
  | [], i, v => [(i, v)]
  | (j, u) :: r, i, v => bif Nat.beq j i then (j, v) :: r else (j, u) :: PEnv.set r i v
inductive BI where
  | len
  | min
  | sum
  | range
  | list
  | ord
  | chr
  | iter
  | next
inductive Me where
  | lower
  | join
  | append
  | extend
  | insert
  | pop
  | get
inductive Tgt where
  | one (i : Nat)
  | tup (is : List Nat)
  | item (v : Nat)
inductive PE where
  | var (i : Nat)
  | glob (i : Nat)
  | cint (v : Int)
  | cstr (s : List Nat)
  | cnone
  | cbool (b : Bool)
  | bin (op : Operator) (l r : PE)
  | cmp (op : CmpOp) (l r : PE)
  | boolop (isAnd : Bool) (es : List PE)
  | not (e : PE)
  | ite (t b o : PE)
  | list (es : List PE)
  | newlist (es : List PE)
  | tuple (es : List PE)
  | newdict (ks : List PE) (vs : List PE)
  | idx (v i : PE)
  | slice (v : PE) (lo hi st : Option PE)
  | call (f : Nat) (es : List PE)
  | bi (b : BI) (es : List PE)
  | meth (m : Me) (o : PE) (es : List PE)
  | comp (elt : PE) (gens : List (Tgt × PE × List PE)) (fv : List Nat)
  | dcomp (k v : PE) (gens : List (Tgt × PE × List PE)) (fv : List Nat)
inductive PS where
  | assign (t : Nat) (e : PE)
  | assign2 (t u : Nat) (e : PE)
  | assignTup (ts : List Nat) (e : PE)
  | setItem (v i e : PE)
  | aug (t : Nat) (op : Operator) (e : PE)
  | augItem (v i : PE) (op : Operator) (e : PE)
  | expr (e : PE)
  | ifS (t : PE) (b o : List PS)
  | whileS (t : PE) (b : List PS)
  | forS (t : Tgt) (it : PE) (b : List PS)
  | ret (e : PE)
noncomputable def alook (i : Nat) : List (Nat × PV) → Option PV
  | [] => none
  | p :: r => bif Nat.beq p.1 i then some p.2 else alook i r
structure PProg where
  G : Nat → Option PV
  F : Nat → Option (List Nat × List PS)
noncomputable def rd (st : Store) (v : PV) : PV := match v with
  | .ref n => match st[n]? with
    | some p => match p with
      | .list xs => .list xs
      | .dict es => .dict es
      | _ => .ref n
    | none => .ref n
  | v => v
noncomputable def eqF (a b : PV) : Option Bool := match a with
  | .none => match b with
    | .none => some true
    | _ => none
  | .bool x => match b with
    | .bool y => some (x == y)
    | _ => none
  | .int x => match b with
    | .int y => some (x == y)
    | _ => none
  | .str x => match b with
    | .str y => some (x == y)
    | _ => none
  | _ => none
noncomputable def eqs (f : PV → PV → Option Bool) : List PV → List PV → Option Bool
  | [], l => match l with
    | [] => some true
    | _ :: _ => none
  | x :: xs, l => match l with
    | [] => none
    | y :: ys => match f x y with
      | some a => match eqs f xs ys with
        | some b => some (a && b)
        | none => none
      | none => none
noncomputable def eq1 (a b : PV) : Option Bool := match a with
  | .tuple xs => match b with
    | .tuple ys => eqs eqF xs ys
    | _ => none
  | _ => eqF a b
noncomputable def PV.eqv (a b : PV) : Option Bool := match a with
  | .tuple xs => match b with
    | .tuple ys => eqs eq1 xs ys
    | _ => Option.none
  | .list xs => match b with
    | .list ys => bif xs.length == ys.length then eqs eq1 xs ys else some false
    | _ => Option.none
  | _ => eqF a b
noncomputable def small (i : Int) : Bool := Nat.ble i.natAbs 4611686018427387903
noncomputable abbrev lim : Nat := 100000
noncomputable def pbin (op : Operator) (a b : PV) : Option PV := match a with
  | .int x => match b with
    | .int y => match op with
      | .Add => some (.int (x + y))
      | .Sub => some (.int (x - y))
      | .Mult => bif small x && small y then some (.int (x * y)) else none
      | .FloorDiv => bif small x && (decide (0 < y)) && small y then some (.int (x / y)) else none
      | .Mod => bif decide (0 < y) then some (.int (x % y)) else none
      | .BitAnd => some (.int (Builtin.bitAnd x y))
      | .BitOr => some (.int (Builtin.bitOr x y))
      | .LShift => bif small x && decide (0 ≤ y) && decide (y ≤ 1000) then some (.int (x * 2 ^ y.toNat)) else none
      | .Pow => bif decide (0 ≤ x) && decide (x ≤ 16) && decide (0 ≤ y) && decide (y ≤ 100) then some (.int (x ^ y.toNat)) else none
      | _ => none
    | .bool y => match op with
      | .Mult => bif small x then some (.int (bif y then x else 0)) else none
      | _ => none
    | _ => none
  | .str x => match b with
    | .str y => match op with
      | .Add => bif decide (x.length + y.length ≤ lim) then some (.str (x ++ y)) else none
      | _ => none
    | .int y => match op with
      | .Mult => bif decide (0 ≤ y) && decide (y ≤ 1000) && decide (x.length * y.toNat ≤ lim) then some (.str (List.replicate y.toNat x).flatten) else none
      | _ => none
    | _ => none
  | .list x => match b with
    | .list y => match op with
      | .Add => bif decide (x.length + y.length ≤ lim) then some (.list (x ++ y)) else none
      | _ => none
    | _ => none
  | _ => none
noncomputable def paug (op : Operator) (a b : PV) : Option PV := match a with
  | .int x => match b with
    | .int y => match op with
      | .Add => pbin .Add (.int x) (.int y)
      | .Sub => pbin .Sub (.int x) (.int y)
      | .FloorDiv => pbin .FloorDiv (.int x) (.int y)
      | .BitOr => pbin .BitOr (.int x) (.int y)
      | .LShift => pbin .LShift (.int x) (.int y)
      | _ => none
    | _ => none
  | _ => none
noncomputable def hasInt (x : Int) : List PV → Option Bool
  | [] => some false
  | v :: r => match v with
    | .int y => (hasInt x r).map fun b => x == y || b
    | _ => none
noncomputable def pcmp (op : CmpOp) (a b : PV) : Option Bool := match op with
  | .Eq => PV.eqv a b
  | .NotEq => (PV.eqv a b).map (!·)
  | .In => match a with
    | .int x => match b with
      | .list ys => hasInt x ys
      | _ => none
    | _ => none
  | .NotIn => none
  | .Is => match a with
    | .bool x => match b with
      | .bool y => some (x == y)
      | _ => none
    | _ => none
  | .IsNot => match b with
    | .none => match a with
      | .none => some false
      | .str _ => some true
      | _ => none
    | _ => none
  | .Lt => match a with
    | .int x => match b with
      | .int y => some (decide (x < y))
      | _ => none
    | _ => none
  | .LtE => match a with
    | .int x => match b with
      | .int y => some (decide (x ≤ y))
      | _ => none
    | _ => none
  | .Gt => match a with
    | .int x => match b with
      | .int y => some (decide (y < x))
      | _ => none
    | _ => none
  | .GtE => match a with
    | .int x => match b with
      | .int y => some (decide (y ≤ x))
      | _ => none
    | _ => none
noncomputable def truthyV : PV → Option Bool
  | .bool b => some b
  | .int i => some (i != 0)
  | .str l => bif decide (l.length ≤ lim) then some (!l.isEmpty) else none
  | .none => some false
  | _ => none
noncomputable def intsOf : List PV → Option (List Int)
  | [] => some []
  | v :: r => match v with
    | .int i => (intsOf r).map (i :: ·)
    | _ => none
noncomputable def strsOf : List PV → Option (List (List Nat))
  | [] => some []
  | v :: r => match v with
    | .str i => (strsOf r).map (i :: ·)
    | _ => none
noncomputable def minL : List Int → Int
  | [] => 0
  | [a] => a
  | a :: r => min a (minL r)
noncomputable def maxL : List Int → Int
  | [] => 0
  | [a] => a
  | a :: r => max a (maxL r)
noncomputable def sumL : List Int → Int
  | [] => 0
  | a :: r => a + sumL r
noncomputable def assocI (k : Int) : List (PV × PV) → Option (Option PV)
  | [] => some none
  | p :: r => match p.1 with
    | .int j => bif k == j then some (some p.2) else assocI k r
    | _ => none
noncomputable def assocS (k : List Nat) : List (PV × PV) → Option (Option PV)
  | [] => some none
  | p :: r => match p.1 with
    | .str j => bif k == j then some (some p.2) else assocS k r
    | _ => none
noncomputable def assoc (k : PV) (es : List (PV × PV)) : Option (Option PV) := match k with
  | .int i => assocI i es
  | .str s => assocS s es
  | _ => none
noncomputable def putI (k : Int) (v : PV) : List (PV × PV) → List (PV × PV)
  | [] => [(.int k, v)]
  | p :: r => match p.1 with
    | .int j => bif k == j then (.int j, v) :: r else p :: putI k v r
    | _ => p :: putI k v r
noncomputable def putS (k : List Nat) (v : PV) : List (PV × PV) → List (PV × PV)
  | [] => [(.str k, v)]
  | p :: r => match p.1 with
    | .str j => bif k == j then (.str j, v) :: r else p :: putS k v r
    | _ => p :: putS k v r
noncomputable def flatV : PV → Bool
  | .int _ => true
  | .str _ => true
  | _ => false
noncomputable def put (k v : PV) (es : List (PV × PV)) : Option (List (PV × PV)) := bif flatV v then (match k with
  | .int i => (assocI i es).map fun _ => putI i v es
  | .str s => (assocS s es).map fun _ => putS s v es
  | _ => none) else none
noncomputable def pidx (a b : PV) : Option PV := match a with
  | .list xs => match b with
    | .int i => bif decide (0 ≤ i) && decide (i ≤ lim) then xs[i.toNat]? else none
    | _ => none
  | .tuple xs => match b with
    | .int i => bif decide (0 ≤ i) && decide (i ≤ lim) then xs[i.toNat]? else none
    | _ => none
  | .str l => match b with
    | .int i => bif decide (l.length ≤ lim) && decide (-lim ≤ i) && decide (i ≤ lim) then ((seqIndex? i l.length).bind (l[·]?)).map fun c => .str [c] else none
    | _ => none
  | .dict es => match assoc b es with
    | some o => o
    | none => none
  | _ => none
noncomputable def partO : PV → Option (Option Int)
  | .none => some none
  | .int i => some (some i)
  | _ => none
noncomputable def pick {α : Type} (l : List α) (lo hi : Option Int) (st : Int) : List α := (Builtin.Str.strSliceIndices lo hi st l.length).filterMap (l[·]?)
noncomputable def pslice (v lo hi st : PV) : Option PV := match partO lo with
  | some a => match partO hi with
    | some b => match partO st with
      | some c => match v with
        | .str l => match c with
          | none => bif decide (l.length ≤ lim) then some (.str (pick l a b 1)) else none
          | some _ => none
        | .list l => bif decide (c ≠ some 0) && decide (l.length ≤ lim) then some (.list (pick l a b (c.getD 1))) else none
        | _ => none
      | none => none
    | none => none
  | none => none
noncomputable def lowC (c : Nat) : Nat := bif Nat.ble 65 c && Nat.ble c 90 then c + 32 else c
noncomputable def plower (l : List Nat) : Option (List Nat) := bif l.all (fun c => decide (c < 128)) && decide (l.length ≤ lim) then some (l.map lowC) else none
noncomputable def psplit (l : List Nat) : Option (List (List Nat)) :=
  bif Builtin.Str.spaceWords ⟨l.toArray⟩ (l.length + 1) == [(0, l.length)] then none
  else bif decide (l.length ≤ lim) && decide ((Builtin.Str.spaceWords ⟨l.toArray⟩ (l.length + 1)).length ≤ lim) then some ((wordsOf ⟨l.toArray⟩).map (·.cps.toList)) else none
section
variable {α : Type}
noncomputable def a0 (args : List PV) (f : Option α) : Option α := match args with
  | [] => f
  | _ :: _ => none
noncomputable def a1 (args : List PV) (f : PV → Option α) : Option α := match args with
  | [] => none
  | v :: r => a0 r (f v)
noncomputable def a2 (args : List PV) (f : PV → PV → Option α) : Option α := match args with
  | [] => none
  | v :: r => a1 r (f v)
noncomputable def a3 (args : List PV) (f : PV → PV → PV → Option α) : Option α := match args with
  | [] => none
  | v :: r => a2 r (f v)
noncomputable def oI (v : PV) (f : Int → Option α) : Option α := match v with
  | .int i => f i
  | _ => none
noncomputable def oS (v : PV) (f : List Nat → Option α) : Option α := match v with
  | .str l => f l
  | _ => none
noncomputable def oL (v : PV) (f : List PV → Option α) : Option α := match v with
  | .list l => f l
  | _ => none
noncomputable def oD (v : PV) (f : List (PV × PV) → Option α) : Option α := match v with
  | .dict l => f l
  | _ => none
noncomputable def oR (v : PV) (f : Nat → Option α) : Option α := match v with
  | .ref n => f n
  | _ => none
noncomputable def oG (v : PV) (f : Int → Nat → Int → Option α) : Option α := match v with
  | .rng a n c => f a n c
  | _ => none
noncomputable def sL (st : Store) (n : Nat) (f : List PV → Option α) : Option α := match st[n]? with
  | some p => match p with
    | .list xs => f xs
    | _ => none
  | none => none
noncomputable def sT (st : Store) (n : Nat) (f : List PV → Option α) : Option α := match st[n]? with
  | some p => match p with
    | .iter xs => f xs
    | _ => none
  | none => none
noncomputable def oO {β : Type} (x : Option β) (f : β → Option α) : Option α := match x with
  | some a => f a
  | none => none
noncomputable def oC {β : Type} (l : List β) (f : β → List β → Option α) : Option α := match l with
  | [] => none
  | a :: r => f a r
end
noncomputable def rngItems (lo : Int) (n : Nat) (st : Int) : List PV := match n with
  | 0 => []
  | n + 1 => .int lo :: rngItems (lo + st) n st
noncomputable def itemsOf (st : Store) : PV → Option (List PV × Store)
  | .rng lo n s => some (rngItems lo n s, st)
  | .str l => bif decide (l.length ≤ lim) then some (l.map fun c => .str [c], st) else none
  | .dict es => some (es.map (·.1), st)
  | .list xs => bif decide (xs.length ≤ lim) then some (xs, st) else none
  | .ref n => sL st n fun xs => bif decide (xs.length ≤ lim) then some (xs, st.set n .dead) else none
  | _ => none
noncomputable def mkRng (a b c : Int) (st : Store) : Option (PV × Store) :=
  bif Builtin.Range.small a b c && decide (0 < c) && small c && decide (0 ≤ Builtin.Range.rangeSize a b c) then some (.rng a (Builtin.Range.rangeSize a b c).toNat c, st) else none
noncomputable def idxI (x : Int) : List Int → Option Nat
  | [] => none
  | y :: r => bif x == y then some 0 else (idxI x r).map (· + 1)
noncomputable def plen (st : Store) (v : PV) : Option (PV × Store) := match v with
  | .str l => bif decide (l.length ≤ lim) then some (.int l.length, st) else none
  | .list xs => bif decide (xs.length ≤ lim) then some (.int xs.length, st) else none
  | _ => none
noncomputable def pbi (b : BI) (args : List PV) (st : Store) : Option (PV × Store) := match b with
  | .len => a1 args fun v => plen st (rd st v)
  | .min => match args with
    | [] => none
    | v :: r => match r with
      | [] => oL (rd st v) fun xs => oO (intsOf xs) fun l => oC l fun i r => some (.int (minL (i :: r)), st)
      | u :: r => a0 r (oI v fun a => oI u fun b => some (.int (min a b), st))
  | .sum => a1 args fun v => oL (rd st v) fun xs => oO (intsOf xs) fun l => bif decide (xs.length ≤ lim) then some (.int (sumL l), st) else none
  | .range => match args with
    | [] => none
    | v :: r => match r with
      | [] => oI v fun n => mkRng 0 n 1 st
      | u :: r => a1 r fun w => oI v fun a => oI u fun b => oI w fun c => mkRng a b c st
  | .list => a1 args fun v => oG v fun a n c => bif decide (n ≤ lim) then some (.ref st.length, st ++ [.list (rngItems a n c)]) else none
  | .ord => a1 args fun v => oS v fun l => oC l fun c r => match r with
    | [] => some (.int c, st)
    | _ :: _ => none
  | .chr => a1 args fun v => oI v fun i => bif decide (0 ≤ i) && decide (i ≤ 0x10FFFF) then some (.str [i.toNat], st) else none
  | .iter => a1 args fun v => oR v fun n => sL st n fun xs => some (.ref st.length, st.set n .dead ++ [.iter xs])
  | .next => a1 args fun v => oR v fun n => sT st n fun l => oC l fun x r => some (x, st.set n (.iter r))
noncomputable def pmeth (m : Me) (o : PV) (args : List PV) (st : Store) : Option (PV × Store) := match m with
  | .lower => a0 args (oS o fun l => (plower l).map fun r => (.str r, st))
  | .join => a1 args fun v => oS o fun s => bif s.isEmpty then oL (rd st v) fun xs => oO (strsOf xs) fun l => bif decide (l.flatten.length ≤ lim) && decide (l.length ≤ lim) then some (.str l.flatten, st) else none else none
  | .append => a1 args fun v => oR o fun n => sL st n fun xs => bif decide (xs.length ≤ lim) then some (.none, st.set n (.list (xs ++ [v]))) else none
  | .extend => a1 args fun v => oR o fun n => sL st n fun xs => oL v fun ys => bif decide (xs.length + ys.length ≤ lim) then some (.none, st.set n (.list (xs ++ ys))) else none
  | .insert => a2 args fun i v => oR o fun n => oI i fun i => sL st n fun xs => bif decide (i = 0) && decide (xs.length ≤ lim) then some (.none, st.set n (.list (v :: xs))) else none
  | .pop => a0 args (oR o fun n => sL st n fun xs => oO xs.getLast? fun v => bif decide (xs.length ≤ lim) then some (v, st.set n (.list xs.dropLast)) else none)
  | .get => match args with
    | [] => none
    | k :: r => oD (rd st o) fun es => oO (assoc k es) fun u => match r with
      | [] => some (u.getD .none, st)
      | d :: r => a0 r (some (u.getD d, st))
noncomputable def isS : PV → Bool
  | .str _ => true
  | _ => false
noncomputable def isL : PV → Bool
  | .list _ => true
  | _ => false
noncomputable def isD : PV → Bool
  | .dict _ => true
  | _ => false
noncomputable def meOk (m : Me) (o : PV) (st : Store) : Bool := match m with
  | .lower => isS o
  | .join => isS o
  | .append => isL (rd st o)
  | .extend => isL (rd st o)
  | .insert => isL (rd st o)
  | .pop => isL (rd st o)
  | .get => isD (rd st o)
noncomputable def freeze (v : PV) (st : Store) : PV × Store := match v with
  | .ref n => match st[n]? with
    | some p => match p with
      | .list xs => (.list xs, st.set n .dead)
      | _ => (.ref n, st)
    | none => (.ref n, st)
  | v => (v, st)
inductive PFlow where
  | next
  | ret (v : PV)
noncomputable abbrev EvE := PE → PEnv → Store → Option (PV × Store)
noncomputable abbrev EvS := List PS → PEnv → Store → Option (PFlow × PEnv × Store)
noncomputable abbrev EvC := Nat → List PV → Store → Option (PV × Store)
noncomputable def evList (rec : EvE) : List PE → PEnv → Store → Option (List PV × Store)
  | [], _, st => some ([], st)
  | e :: r, env, st => match rec e env st with
    | some (v, st) => match evList rec r env st with
      | some (vs, st) => some (v :: vs, st)
      | none => none
    | none => none
noncomputable def putAll : List (PV × PV) → List (PV × PV) → Option (List (PV × PV))
  | [], acc => some acc
  | (a, b) :: r, acc => match put a b acc with
    | some acc' => bif decide (acc.length ≤ 1000) then putAll r acc' else none
    | none => none
noncomputable def evKVs (rec : EvE) : List PE → List PE → PEnv → Store → Option (List (PV × PV) × Store)
  | [], l, _, st => match l with
    | [] => some ([], st)
    | _ :: _ => none
  | k :: ks, l, env, st => match l with
    | [] => none
    | v :: vs => match rec k env st with
      | some (a, st) => match rec v env st with
        | some (b, st) => match evKVs rec ks vs env st with
          | some (ps, st) => some ((a, b) :: ps, st)
          | none => none
        | none => none
      | none => none
noncomputable def evTest (rec : EvE) (e : PE) (env : PEnv) (st : Store) : Option (Bool × Store) := match rec e env st with
  | some (v, st) => match truthyV v with
    | some b => some (b, st)
    | none => none
  | none => none
noncomputable def evTests (rec : EvE) : List PE → PEnv → Store → Option (Bool × Store)
  | [], _, st => some (true, st)
  | e :: r, env, st => match evTest rec e env st with
    | some (true, st) => evTests rec r env st
    | some (false, st) => some (false, st)
    | none => none
noncomputable def evBool (rec : EvE) (isAnd : Bool) : List PE → PEnv → Store → Option (PV × Store)
  | [], _, _ => none
  | [e], env, st => rec e env st
  | e :: r, env, st => match rec e env st with
    | some (v, st) => match truthyV v with
      | some b => bif b == isAnd then evBool rec isAnd r env st else some (v, st)
      | none => none
    | none => none
noncomputable def bindAll : List Nat → List PV → PEnv → Option PEnv
  | [], l, env => match l with
    | [] => some env
    | _ :: _ => none
  | i :: is, l, env => match l with
    | [] => none
    | v :: vs => bindAll is vs (env.set i v)
noncomputable def bindTgt (t : Tgt) (v : PV) (env : PEnv) : Option PEnv := match t with
  | .one i => some (env.set i v)
  | .tup is => match v with
    | .tuple vs => bindAll is vs env
    | _ => none
  | .item _ => none
noncomputable def evGen {α : Type} (emit : PEnv → Store → α → Option (α × PEnv × Store)) (t : Tgt) (ts : PEnv → Store → Option (Bool × Store)) :
    List PV → PEnv → Store → α → Option (α × PEnv × Store)
  | [], env, st, acc => some (acc, env, st)
  | v :: r, env, st, acc => match bindTgt t v env with
    | some env => match ts env st with
      | some (true, st) => match emit env st acc with
        | some (acc, env, st) => evGen emit t ts r env st acc
        | none => none
      | some (false, st) => evGen emit t ts r env st acc
      | none => none
    | none => none
noncomputable def evGens {α : Type} (rec : EvE) (emit : PEnv → Store → α → Option (α × PEnv × Store)) : List (Tgt × PE × List PE) → PEnv → Store → α → Option (α × PEnv × Store)
  | [], env, st, acc => emit env st acc
  | (t, e, ts) :: r, env, st, acc => match rec e env st with
    | some (v, st) => match itemsOf st v with
      | some (items, st) => evGen (evGens rec emit r) t (evTests rec ts) items env st acc
      | none => none
    | none => none
noncomputable def keep (fv : List Nat) : PEnv → PEnv
  | [] => []
  | (i, v) :: r => bif fv.any (Nat.beq i) then (i, v) :: keep fv r else keep fv r
noncomputable def evComp {α : Type} (rec : EvE) (emit : PEnv → Store → α → Option (α × PEnv × Store)) (fv : List Nat) (gens : List (Tgt × PE × List PE)) (env : PEnv) (st : Store) (acc : α) : Option (α × Store) := match gens with
  | [] => none
  | (t, e, ts) :: r => match rec e env st with
    | some (v, st) => match itemsOf st v with
      | some (items, st) => match evGen (evGens rec emit r) t (evTests rec ts) items (keep fv env) st acc with
        | some (acc, _, st) => some (acc, st)
        | none => none
      | none => none
    | none => none
noncomputable def emitL (rec : EvE) (elt : PE) (env : PEnv) (st : Store) (acc : List PV) : Option (List PV × PEnv × Store) := match rec elt env st with
  | some (v, st) => bif decide (acc.length ≤ lim) then some (acc ++ [v], env, st) else none
  | none => none
noncomputable def emitD (rec : EvE) (k v : PE) (env : PEnv) (st : Store) (acc : List (PV × PV)) : Option (List (PV × PV) × PEnv × Store) := match rec k env st with
  | some (a, st) => match rec v env st with
    | some (b, st) => match put a b acc with
      | some acc' => bif decide (acc.length ≤ 1000) then some (acc', env, st) else none
      | none => none
    | none => none
  | none => none
noncomputable def optE (rec : EvE) : Option PE → PEnv → Store → Option (PV × Store)
  | none, _, st => some (.none, st)
  | some e, env, st => rec e env st
noncomputable def stepE (P : PProg) (rec : EvE) (call : EvC) (e : PE) (env : PEnv) (st : Store) : Option (PV × Store) := match e with
  | .var i => match env.get i with
    | some v => some (v, st)
    | none => none
  | .glob i => match P.G i with
    | some v => some (v, st)
    | none => none
  | .cint v => some (.int v, st)
  | .cstr s => some (.str s, st)
  | .cnone => some (.none, st)
  | .cbool b => some (.bool b, st)
  | .bin op l r => match rec l env st with
    | some (a, st) => match rec r env st with
      | some (b, st) => match pbin op (rd st a) (rd st b) with
        | some v => some (v, st)
        | none => none
      | none => none
    | none => none
  | .cmp op l r => match rec l env st with
    | some (a, st) => match rec r env st with
      | some (b, st) => match pcmp op (rd st a) (rd st b) with
        | some v => some (.bool v, st)
        | none => none
      | none => none
    | none => none
  | .boolop isAnd es => evBool rec isAnd es env st
  | .not e => match evTest rec e env st with
    | some (b, st) => some (.bool !b, st)
    | none => none
  | .ite t b o => match evTest rec t env st with
    | some (true, st) => rec b env st
    | some (false, st) => rec o env st
    | none => none
  | .list es => match evList rec es env st with
    | some (vs, st) => bif decide (vs.length ≤ lim) then some (.list vs, st) else none
    | none => none
  | .newlist es => match evList rec es env st with
    | some (vs, st) => bif decide (vs.length ≤ lim) then some (.ref st.length, st ++ [.list vs]) else none
    | none => none
  | .tuple es => match evList rec es env st with
    | some (vs, st) => bif decide (vs.length ≤ lim) then some (.tuple vs, st) else none
    | none => none
  | .newdict ks vs => match evKVs rec ks vs env st with
    | some (ps, st) => match putAll ps [] with
      | some es => some (.ref st.length, st ++ [.dict es])
      | none => none
    | none => none
  | .idx v i => match rec v env st with
    | some (a, st) => match rec i env st with
      | some (b, st) => match pidx (rd st a) b with
        | some v => some (v, st)
        | none => none
      | none => none
    | none => none
  | .slice v lo hi s => match rec v env st with
    | some (a, st) => match optE rec lo env st with
      | some (l, st) => match optE rec hi env st with
        | some (h, st) => match optE rec s env st with
          | some (k, st) => match pslice (rd st a) l h k with
            | some v => some (v, st)
            | none => none
          | none => none
        | none => none
      | none => none
    | none => none
  | .call f es => match evList rec es env st with
    | some (vs, st) => call f vs st
    | none => none
  | .bi b es => match evList rec es env st with
    | some (vs, st) => pbi b vs st
    | none => none
  | .meth m o es => match rec o env st with
    | some (a, st) => bif meOk m a st then (match evList rec es env st with
      | some (vs, st) => pmeth m a vs st
      | none => none) else none
    | none => none
  | .comp elt gens fv => match evComp rec (emitL rec elt) fv gens env st [] with
    | some (vs, st) => some (.list vs, st)
    | none => none
  | .dcomp k v gens fv => match evComp rec (emitD rec k v) fv gens env st [] with
    | some (es, st) => some (.dict es, st)
    | none => none
noncomputable def forN (body : PEnv → Store → Option (PFlow × PEnv × Store)) (t : Tgt) : List PV → PEnv → Store → Option (PFlow × PEnv × Store)
  | [], env, st => some (.next, env, st)
  | v :: r, env, st => match bindTgt t v env with
    | some env => match body env st with
      | some (.next, env, st) => forN body t r env st
      | x => x
    | none => none
noncomputable def whileN (test : PEnv → Store → Option (Bool × Store)) (body : PEnv → Store → Option (PFlow × PEnv × Store)) : Nat → PEnv → Store → Option (PFlow × PEnv × Store)
  | 0, _, _ => none
  | n + 1, env, st => match test env st with
    | some (true, st) => match body env st with
      | some (.next, env, st) => whileN test body n env st
      | x => x
    | some (false, st) => some (.next, env, st)
    | none => none
noncomputable def unpackL (v : PV) : Option (List PV) := match v with
  | .tuple xs => some xs
  | .list xs => bif decide (xs.length ≤ lim) then some xs else none
  | _ => none
noncomputable def setAt (o i v : PV) (st : Store) : Option Store := oR o fun n => oO st[n]? fun p => match p with
  | .list xs => oI i fun i => bif decide (0 ≤ i) && decide (i.toNat < xs.length) && decide (xs.length ≤ lim) then some (st.set n (.list (xs.set i.toNat v))) else none
  | .dict es => oO (put i v es) fun es' => bif decide (es.length ≤ 1000) then some (st.set n (.dict es')) else none
  | _ => none
noncomputable def stepS1 (rec : EvE) (recS : EvS) (x : PS) (env : PEnv) (st : Store) : Option (PFlow × PEnv × Store) := match x with
  | .assign t e => match rec e env st with
    | some (v, st) => some (.next, env.set t v, st)
    | none => none
  | .assign2 t u e => match rec e env st with
    | some (v, st) => some (.next, (env.set t v).set u v, st)
    | none => none
  | .assignTup ts e => match rec e env st with
    | some (v, st) => match unpackL v with
      | some vs => match bindAll ts vs env with
        | some env => some (.next, env, st)
        | none => none
      | none => none
    | none => none
  | .setItem o i e => match rec e env st with
    | some (v, st) => match rec o env st with
      | some (a, st) => match rec i env st with
        | some (k, st) => match setAt a k v st with
          | some st => some (.next, env, st)
          | none => none
        | none => none
      | none => none
    | none => none
  | .aug t op e => match env.get t with
    | some a => match rec e env st with
      | some (b, st) => match paug op a b with
        | some v => some (.next, env.set t v, st)
        | none => none
      | none => none
    | none => none
  | .augItem o i op e => match rec o env st with
    | some (a, st) => match rec i env st with
      | some (k, st) => match pidx (rd st a) k with
        | some x => match rec e env st with
          | some (y, st) => match paug op x y with
            | some v => match setAt a k v st with
              | some st => some (.next, env, st)
              | none => none
            | none => none
          | none => none
        | none => none
      | none => none
    | none => none
  | .expr e => match rec e env st with
    | some (.none, st) => some (.next, env, st)
    | _ => none
  | .ifS t b o => match evTest rec t env st with
    | some (true, st) => recS b env st
    | some (false, st) => recS o env st
    | none => none
  | .whileS t b => whileN (evTest rec t) (recS b) 64 env st
  | .forS t it b => match rec it env st with
    | some (v, st) => match itemsOf st v with
      | some (items, st) => forN (recS b) t items env st
      | none => none
    | none => none
  | .ret e => match rec e env st with
    | some (v, st) => some (.ret v, env, st)
    | none => none
noncomputable def stepS (rec : EvE) (recS : EvS) : List PS → PEnv → Store → Option (PFlow × PEnv × Store)
  | [], env, st => some (.next, env, st)
  | x :: r, env, st => match stepS1 rec recS x env st with
    | some (.next, env, st) => stepS rec recS r env st
    | y => y
noncomputable def stepC (P : PProg) (recS : EvS) (f : Nat) (vs : List PV) (st : Store) : Option (PV × Store) := match P.F f with
  | some (ps, body) => match bindAll ps vs [] with
    | some env => match recS body env st with
      | some (.ret v, _, st) => some (freeze v st)
      | some (.next, _, st) => some (.none, st)
      | none => none
    | none => none
  | none => none
structure Evs where
  E : EvE
  S : EvS
  C : EvC
noncomputable def ev (P : PProg) : Nat → Evs
  | 0 => ⟨fun _ _ _ => none, fun _ _ _ => none, fun _ _ _ => none⟩
  | n + 1 => ⟨stepE P (ev P n).E (ev P n).C, stepS (ev P n).E (ev P n).S, stepC P (ev P n).S⟩
end Mine
end
section
namespace Mine
open PySem
noncomputable def LObj (o : Obj) (items : Array Value) : Prop := ∃ n, o = { cls := .type "list", dict := none, data := .seq items n, slots := #[] }
noncomputable def TObj (o : Obj) (items : Array Value) : Prop := ∃ n, o = { cls := .type "tuple", dict := none, data := .seq items n, slots := #[] }
theorem LObj.isList {h : Heap} {a : Addr} {o : Obj} {items : Array Value} (ho : h.get? a = some o) (x : LObj o items) : h.IsList a items := let ⟨n, e⟩ := x; ⟨o, ho, by rw [e], n, by rw [e]⟩
theorem TObj.isTuple {h : Heap} {a : Addr} {o : Obj} {items : Array Value} (ho : h.get? a = some o) (x : TObj o items) : h.IsTuple a items := let ⟨n, e⟩ := x; ⟨o, ho, by rw [e], n, by rw [e]⟩
theorem ff {P : Prop} (h : false = true) : P := absurd h Bool.false_ne_true
theorem nn {α : Type} {v : α} {P : Prop} (h : (none : Option α) = some v) : P := by cases h
theorem an {a b : Bool} {P : Prop} (h : (a && b) = true) (k : a = true → b = true → P) : P := k (Bool.and_eq_true_iff.mp h).1 (Bool.and_eq_true_iff.mp h).2
theorem nt {b : Bool} (h : (!b) = true) : b = false := (Bool.not_eq_true' b).mp h
theorem bif_el {α : Type} {c : Bool} {a : Option α} {v : α} {P : Prop} (h : (bif c then a else none) = some v) (k : c = true → a = some v → P) : P := by
  cases c with
  | true => exact k rfl h
  | false => exact nn h
noncomputable def FRel (v : PV) (x : Value) : Prop := match v with
  | .int i => match x with
    | .int j _ => i = j
    | _ => False
  | .str l => match x with
    | .str s _ => s.cps.toList = l
    | _ => False
  | _ => False
noncomputable def EI : List (PV × PV) → List (Int × Value) → Prop
  | [], l => match l with
    | [] => True
    | _ :: _ => False
  | p :: r, l => match l with
    | [] => False
    | q :: t => p.1 = .int q.1 ∧ FRel p.2 q.2 ∧ EI r t
noncomputable def ES : List (PV × PV) → List (Str × Value) → Prop
  | [], l => match l with
    | [] => True
    | _ :: _ => False
  | p :: r, l => match l with
    | [] => False
    | q :: t => p.1 = .str q.1.cps.toList ∧ FRel p.2 q.2 ∧ ES r t
noncomputable def DObj {K : Type} [DecidableEq K] {prog : Program} {w : World} (knd : KeyKind prog w K) (o : Obj) (kvs : List (K × Value)) : Prop := ∀ h : Heap, ∀ a, h.get? a = some o → h.DictOf knd a kvs
inductive DRel (prog : Program) (w : World) (es : List (PV × PV)) (o : Obj) : Prop
  | ik (kvs : List (Int × Value)) : DObj (intKind prog w) o kvs → EI es kvs → DRel prog w es o
  | sk (kvs : List (Str × Value)) : DObj (strKind prog w) o kvs → ES es kvs → DRel prog w es o
mutual
inductive VRel (prog : Program) (w : World) (σ : List Addr) (B : Addr → Option Obj) : PV → Value → Prop
  | none : VRel prog w σ B .none .none
  | bool (b : Bool) : VRel prog w σ B (.bool b) (.bool b)
  | int (i : Int) (t : Tok) : VRel prog w σ B (.int i) (.int i t)
  | str (l : List Nat) (s : Str) (t : Tok) : s.cps.toList = l → VRel prog w σ B (.str l) (.str s t)
  | tuple {xs : List PV} {a : Addr} {o : Obj} {items : Array Value} : B a = some o → TObj o items → VRels prog w σ B xs items.toList → VRel prog w σ B (.tuple xs) (.ref a)
  | list {xs : List PV} {a : Addr} {o : Obj} {items : Array Value} : B a = some o → LObj o items → VRels prog w σ B xs items.toList → VRel prog w σ B (.list xs) (.ref a)
  | dict {es : List (PV × PV)} {a : Addr} {o : Obj} : B a = some o → DRel prog w es o → (a == sysModules) = false → VRel prog w σ B (.dict es) (.ref a)
  | rng {lo hi st : Int} {n : Nat} {t u v : Tok} {a : Addr} : B a = some { cls := .type "range", dict := none, data := .fields #[.int lo t, .int hi u, .int st v], slots := #[] } →
      Builtin.Range.small lo hi st = true → Builtin.Range.rangeSize lo hi st = (n : Int) → VRel prog w σ B (.rng lo n st) (.ref a)
  | ref {n : Nat} {a : Addr} : σ[n]? = some a → VRel prog w σ B (.ref n) (.ref a)
inductive VRels (prog : Program) (w : World) (σ : List Addr) (B : Addr → Option Obj) : List PV → List Value → Prop
  | nil : VRels prog w σ B [] []
  | cons {x : PV} {v : Value} {xs : List PV} {vs : List Value} : VRel prog w σ B x v → VRels prog w σ B xs vs → VRels prog w σ B (x :: xs) (v :: vs)
end
section
variable {prog : Program} {w : World} {σ σ' : List Addr} {B B' : Addr → Option Obj}
theorem VRel.mono (hσ : ∀ (n : Nat) a, σ[n]? = some a → σ'[n]? = some a) (hB : ∀ a o, B a = some o → B' a = some o) {v : PV} {x : Value} (h : VRel prog w σ B v x) : VRel prog w σ' B' v x :=
  VRel.rec (motive_1 := fun v x _ => VRel prog w σ' B' v x) (motive_2 := fun v x _ => VRels prog w σ' B' v x) .none .bool .int .str (fun ha ho _ ih => .tuple (hB _ _ ha) ho ih) (fun ha ho _ ih => .list (hB _ _ ha) ho ih) (fun ha ho hs => .dict (hB _ _ ha) ho hs)
    (fun ha h1 h2 => .rng (hB _ _ ha) h1 h2) (fun h => .ref (hσ _ _ h)) .nil (fun _ _ h t => .cons h t) h
theorem VRels.ind {C : List PV → List Value → Prop} (n : C [] []) (c : ∀ {x : PV} {v : Value} {xs : List PV} {vs : List Value}, VRel prog w σ B x v → VRels prog w σ B xs vs → C xs vs → C (x :: xs) (v :: vs)) {xs : List PV} {vs : List Value} (h : VRels prog w σ B xs vs) : C xs vs :=
  VRels.rec (motive_1 := fun _ _ _ => True) (motive_2 := fun xs vs _ => C xs vs) trivial (fun _ => trivial) (fun _ _ => trivial) (fun _ _ _ _ => trivial) (fun _ _ _ _ => trivial) (fun _ _ _ _ => trivial) (fun _ _ _ => trivial) (fun _ _ _ => trivial) (fun _ => trivial) n (fun h t _ ih => c h t ih) h
theorem VRels.mono (hσ : ∀ (n : Nat) a, σ[n]? = some a → σ'[n]? = some a) (hB : ∀ a o, B a = some o → B' a = some o) {v : List PV} {x : List Value} (h : VRels prog w σ B v x) : VRels prog w σ' B' v x :=
  VRels.ind (C := VRels prog w σ' B') .nil (fun h _ t => .cons (h.mono hσ hB) t) h
theorem VRels.nil_el {C : List Value → Prop} {vs : List Value} (h : VRels prog w σ B [] vs) (k : C []) : C vs := by
  cases h; exact k
theorem VRels.cons_el {C : List Value → Prop} {x : PV} {xs : List PV} {vs : List Value} (h : VRels prog w σ B (x :: xs) vs) (k : ∀ v us, VRel prog w σ B x v → VRels prog w σ B xs us → C (v :: us)) : C vs := by
  cases h with
  | cons a b => exact k _ _ a b
theorem VRels.length {xs : List PV} {vs : List Value} (h : VRels prog w σ B xs vs) : xs.length = vs.length :=
  VRels.ind (C := fun xs vs => xs.length = vs.length) rfl (fun _ _ e => congrArg (· + 1) e) h
theorem VRels.get {xs : List PV} {vs : List Value} {i : Nat} {x : PV} (h : VRels prog w σ B xs vs) : xs[i]? = some x → ∃ v, vs[i]? = some v ∧ VRel prog w σ B x v :=
  VRels.ind (C := fun xs vs => ∀ i, xs[i]? = some x → ∃ v, vs[i]? = some v ∧ VRel prog w σ B x v) (fun _ e => nn e) (fun h _ t i => by
    cases i with
    | zero => exact fun e => ⟨_, rfl, Option.some.inj e ▸ h⟩
    | succ i => exact t i) h i
theorem VRels.append {xs ys : List PV} {vs us : List Value} (h : VRels prog w σ B xs vs) (b : VRels prog w σ B ys us) : VRels prog w σ B (xs ++ ys) (vs ++ us) :=
  VRels.ind (C := fun xs vs => VRels prog w σ B (xs ++ ys) (vs ++ us)) b (fun h _ t => .cons h t) h
theorem VRels.take {xs : List PV} {vs : List Value} (n : Nat) (h : VRels prog w σ B xs vs) : VRels prog w σ B (xs.take n) (vs.take n) :=
  VRels.ind (C := fun xs vs => ∀ n, VRels prog w σ B (xs.take n) (vs.take n)) (fun n => by cases n <;> exact .nil) (fun h _ t n => by
    cases n with
    | zero => exact .nil
    | succ n => exact .cons h (t n)) h n
theorem VRels.set {xs : List PV} {vs : List Value} (n : Nat) {x : PV} {v : Value} (h : VRels prog w σ B xs vs) (hx : VRel prog w σ B x v) : VRels prog w σ B (xs.set n x) (vs.set n v) :=
  VRels.ind (C := fun xs vs => ∀ n, VRels prog w σ B (xs.set n x) (vs.set n v)) (fun _ => .nil) (fun h r t n => by
    cases n with
    | zero => exact .cons hx r
    | succ n => exact .cons h (t n)) h n
end
structure Z where
  σ : List Addr
  B : Addr → Option Obj
  st : Store
  h : Heap
noncomputable def live (st : Store) (n : Nat) : Prop := ∃ p, st[n]? = some p ∧ p ≠ .dead
noncomputable def ORel (prog : Program) (w : World) (σ : List Addr) (B : Addr → Option Obj) (h : Heap) : PObj → Addr → Prop
  | .list xs, a => ∃ o items, h.get? a = some o ∧ LObj o items ∧ VRels prog w σ B xs items.toList
  | .dict es, a => ∃ o, h.get? a = some o ∧ DRel prog w es o ∧ (a == sysModules) = false
  | .iter xs, a => ∃ l i o items, h.IsListIter a l i ∧ B l = some o ∧ LObj o items ∧ VRels prog w σ B xs (items.toList.drop i)
  | .dead, _ => True
structure Ok (prog : Program) (w : World) (h₀ : Heap) (z : Z) : Prop where
  sm : ∃ o, h₀.get? sysModules = some o
  len : z.σ.length = z.st.length
  sub : ∀ a o, z.B a = some o → z.h.get? a = some o
  base : ∀ a o, h₀.get? a = some o → z.B a = some o
  obj : ∀ (n : Nat) p, z.st[n]? = some p → p ≠ .dead → ∃ a, z.σ[n]? = some a ∧ z.B a = none ∧ (∃ o, z.h.get? a = some o) ∧ ORel prog w z.σ z.B z.h p a
  inj : ∀ (n m : Nat) a, live z.st n → live z.st m → z.σ[n]? = some a → z.σ[m]? = some a → n = m
structure Free (z : Z) (a : Addr) : Prop where
  b : z.B a = none
  l : ∀ (n : Nat), live z.st n → z.σ[n]? ≠ some a
structure Ext (z z' : Z) : Prop where
  sig : ∀ (n : Nat) a, z.σ[n]? = some a → z'.σ[n]? = some a
  frz : ∀ a o, z.B a = some o → z'.B a = some o
  prv : ∀ a o, z.h.get? a = some o → Free z a → z'.h.get? a = some o ∧ Free z' a
theorem Ext.refl (z : Z) : Ext z z := ⟨fun _ _ h => h, fun _ _ h => h, fun _ _ h f => ⟨h, f⟩⟩
theorem Ext.trans {z z' z'' : Z} (a : Ext z z') (b : Ext z' z'') : Ext z z'' :=
  ⟨fun n x h => b.sig n x (a.sig n x h), fun x o h => b.frz x o (a.frz x o h), fun x o h f => let ⟨h', f'⟩ := a.prv x o h f; b.prv x o h' f'⟩
theorem VRel.ext {prog : Program} {w : World} {z z' : Z} (e : Ext z z') {v : PV} {x : Value} (h : VRel prog w z.σ z.B v x) : VRel prog w z'.σ z'.B v x := h.mono e.sig e.frz
theorem VRels.ext {prog : Program} {w : World} {z z' : Z} (e : Ext z z') {v : List PV} {x : List Value} (h : VRels prog w z.σ z.B v x) : VRels prog w z'.σ z'.B v x := h.mono e.sig e.frz
noncomputable def addB (B : Addr → Option Obj) (a : Addr) (o : Obj) : Addr → Option Obj := fun x => if x = a then some o else B x
theorem addB_of {B : Addr → Option Obj} {a b : Addr} {o x : Obj} (hn : B a = none) (e : B b = some x) : addB B a o b = some x := (if_neg fun h => nn (hn.symm.trans (h ▸ e))).trans e
theorem addB_none {B : Addr → Option Obj} {a b : Addr} {o : Obj} (hne : b ≠ a) (e : B b = none) : addB B a o b = none := (if_neg hne).trans e
theorem addB_inv {B : Addr → Option Obj} {a b : Addr} {o x : Obj} (e : addB B a o b = some x) : (b = a ∧ o = x) ∨ B b = some x := by
  unfold addB at e
  by_cases h : b = a
  · rw [if_pos h] at e; exact .inl ⟨h, Option.some.inj e⟩
  · rw [if_neg h] at e; exact .inr e
section
variable {prog : Program} {w : World} {h₀ : Heap} {z : Z}
theorem Ok.not_sm (k : Ok prog w h₀ z) {a : Addr} (h : z.h.get? a = none) : (a == sysModules) = false :=
  beq_eq_false_iff_ne.mpr fun e => k.sm.elim fun o ho => nn (h.symm.trans (e ▸ k.sub _ _ (k.base _ _ ho)))
theorem Ok.none_of_none (k : Ok prog w h₀ z) {a : Addr} (h : z.h.get? a = none) : z.B a = none := by
  cases e : z.B a with
  | none => rfl
  | some o => exact nn (h.symm.trans (k.sub a o e))
theorem Ok.free_of_none (k : Ok prog w h₀ z) {a : Addr} (h : z.h.get? a = none) : Free z a :=
  ⟨k.none_of_none h, fun n hl e => hl.elim fun p hp => (k.obj n p hp.1 hp.2).elim fun b hb => hb.2.2.1.elim fun o ho => nn (h.symm.trans (Option.some.inj (e.symm.trans hb.1) ▸ ho))⟩
theorem ORel.keep {σ σ' : List Addr} {B B' : Addr → Option Obj} {h h' : Heap} {p : PObj} {a : Addr} (x : ORel prog w σ B h p a)
    (hσ : ∀ (n : Nat) a, σ[n]? = some a → σ'[n]? = some a) (hB : ∀ a o, B a = some o → B' a = some o) (hk : ∀ o, h.get? a = some o → h'.get? a = some o) : ORel prog w σ' B' h' p a := by
  cases p with
  | list xs => obtain ⟨o, items, ho, hl, hv⟩ := x; exact ⟨o, items, hk o ho, hl, hv.mono hσ hB⟩
  | dict es => obtain ⟨o, ho, hd⟩ := x; exact ⟨o, hk o ho, hd⟩
  | iter xs => obtain ⟨l, i, o, items, ⟨oi, hi, r⟩, hl, ho, hv⟩ := x; exact ⟨l, i, o, items, ⟨oi, hk oi hi, r⟩, hB l o hl, ho, hv.mono hσ hB⟩
  | dead => trivial
theorem Ok.keep (k : Ok prog w h₀ z) {h' : Heap} (hk : ∀ a o, z.h.get? a = some o → ¬ Free z a → h'.get? a = some o) : Ok prog w h₀ { z with h := h' } := by
  refine ⟨k.sm, k.len, fun a o e => hk a o (k.sub a o e) fun f => ?_, k.base, fun n p hp hd => ?_, k.inj⟩
  · have := f.b; rw [e] at this; cases this
  · obtain ⟨a, ha, hb, ⟨o, ho⟩, r⟩ := k.obj n p hp hd
    have hk' : ∀ o, z.h.get? a = some o → h'.get? a = some o := fun o e => hk a o e fun f => f.l n ⟨p, hp, hd⟩ ha
    exact ⟨a, ha, hb, ⟨o, hk' o ho⟩, r.keep (fun _ _ e => e) (fun _ _ e => e) hk'⟩
theorem Ext.keep {h' : Heap} (hk : ∀ a o, z.h.get? a = some o → h'.get? a = some o) : Ext z { z with h := h' } :=
  ⟨fun _ _ e => e, fun _ _ e => e, fun a o e f => ⟨hk a o e, f.b, f.l⟩⟩
theorem Ok.addB (k : Ok prog w h₀ z) {h' : Heap} {a : Addr} {o : Obj} {st : Store} (hk : ∀ b x, z.h.get? b = some x → h'.get? b = some x) (hl : st.length = z.st.length) (hst : ∀ (n : Nat) p, st[n]? = some p → p ≠ .dead → z.st[n]? = some p ∧ z.σ[n]? ≠ some a) (ha : z.B a = none) (ho : h'.get? a = some o) :
    Ok prog w h₀ { z with B := Mine.addB z.B a o, st := st, h := h' } := by
  refine ⟨k.sm, k.len.trans hl.symm, fun b x e => (addB_inv e).elim (fun h => by rw [h.1, ← h.2]; exact ho) fun e => hk b x (k.sub b x e), fun b x e => addB_of ha (k.base b x e), fun n p hp hd => ?_, fun n m b h1 h2 => ?_⟩
  · obtain ⟨b, hb, hbn, ⟨x, hx⟩, r⟩ := k.obj n p (hst n p hp hd).1 hd
    exact ⟨b, hb, addB_none (fun e => (hst n p hp hd).2 (e ▸ hb)) hbn, ⟨x, hk _ _ hx⟩, r.keep (fun _ _ e => e) (fun _ _ e => addB_of ha e) fun x e => hk _ _ e⟩
  · exact k.inj n m b (h1.imp fun p h => ⟨(hst n p h.1 h.2).1, h.2⟩) (h2.imp fun p h => ⟨(hst m p h.1 h.2).1, h.2⟩)
theorem Ok.freeze (k : Ok prog w h₀ z) {h' : Heap} {a : Addr} {o : Obj} (hk : ∀ b x, z.h.get? b = some x → h'.get? b = some x) (hn : z.h.get? a = none) (ho : h'.get? a = some o) :
    Ok prog w h₀ { z with B := Mine.addB z.B a o, h := h' } :=
  k.addB hk rfl (fun n p hp hd => ⟨hp, (k.free_of_none hn).l n ⟨p, hp, hd⟩⟩) (k.none_of_none hn) ho
theorem Ok.freeze_ext (k : Ok prog w h₀ z) {h' : Heap} {a : Addr} {o : Obj} (hk : ∀ b x, z.h.get? b = some x → h'.get? b = some x) (hn : z.h.get? a = none) :
    Ext z { z with B := Mine.addB z.B a o, h := h' } :=
  ⟨fun _ _ e => e, fun b x e => addB_of (k.none_of_none hn) e, fun b x e f => ⟨hk b x e, addB_none (fun hb => nn (hn.symm.trans (hb ▸ e))) f.b, f.l⟩⟩
theorem get?_snoc_lt {α : Type} {l : List α} {x y : α} {n : Nat} (h : (l ++ [x])[n]? = some y) (hn : n < l.length) : l[n]? = some y := by
  rwa [List.getElem?_append_left hn] at h
theorem get?_snoc_of {α : Type} {l : List α} {x y : α} {n : Nat} (h : l[n]? = some y) : (l ++ [x])[n]? = some y := by
  rw [List.getElem?_append_left (List.getElem?_eq_some_iff.mp h).1]; exact h
theorem get?_snoc_cases {α : Type} {l : List α} {x y : α} {n : Nat} (h : (l ++ [x])[n]? = some y) : l[n]? = some y ∨ (n = l.length ∧ y = x) := by
  by_cases hn : n < l.length
  · exact .inl (get?_snoc_lt h hn)
  · rw [List.getElem?_append_right (Nat.not_lt.mp hn)] at h
    have h0 := (List.getElem?_eq_some_iff.mp h).1
    have h1 : n - l.length = 0 := Nat.lt_one_iff.mp h0
    rw [h1] at h
    exact .inr ⟨Nat.le_antisymm (Nat.sub_eq_zero_iff_le.mp h1) (Nat.not_lt.mp hn), (Option.some.inj h).symm⟩
theorem Ok.adopt (k : Ok prog w h₀ z) {h' : Heap} {a : Addr} {o : Obj} {p : PObj} (f : Free z a) (hk : ∀ b x, z.h.get? b = some x → h'.get? b = some x) (ho : h'.get? a = some o)
    (hp : ORel prog w z.σ z.B h' p a) : Ok prog w h₀ { z with σ := z.σ ++ [a], st := z.st ++ [p], h := h' } := by
  have hσ : ∀ (n : Nat) b, z.σ[n]? = some b → (z.σ ++ [a])[n]? = some b := fun n b e => get?_snoc_of e
  have lt : ∀ {n : Nat} {b}, z.σ[n]? = some b → n < z.st.length := fun e => k.len ▸ (List.getElem?_eq_some_iff.mp e).1
  have old : ∀ {n b}, live (z.st ++ [p]) n → z.σ[n]? = some b → live z.st n := fun h e => h.imp fun q h => ⟨get?_snoc_lt h.1 (lt e), h.2⟩
  refine ⟨k.sm, by rw [List.length_append, List.length_append, k.len]; rfl, fun b x e => hk _ _ (k.sub b x e), k.base, fun n q hq hd => ?_, fun n m b hl hm e1 e2 => ?_⟩
  · rcases get?_snoc_cases hq with hq | ⟨rfl, rfl⟩
    · obtain ⟨b, hb, hbn, ⟨x, hx⟩, r⟩ := k.obj n q hq hd
      exact ⟨b, hσ _ _ hb, hbn, ⟨x, hk _ _ hx⟩, r.keep hσ (fun _ _ e => e) fun x e => hk _ _ e⟩
    · exact ⟨a, by rw [← k.len]; exact List.getElem?_concat_length, f.b, ⟨o, ho⟩, hp.keep hσ (fun _ _ e => e) fun x e => e⟩
  · rcases get?_snoc_cases e1 with g1 | ⟨h1, k1⟩
    · rcases get?_snoc_cases e2 with g2 | ⟨h2, k2⟩
      · exact k.inj n m b (old hl g1) (old hm g2) g1 g2
      · exact absurd (k2 ▸ g1) (f.l n (old hl g1))
    · rcases get?_snoc_cases e2 with g2 | ⟨h2, k2⟩
      · exact absurd (k1 ▸ g2) (f.l m (old hm g2))
      · exact h1.trans h2.symm
theorem Ok.adopt_ext (k : Ok prog w h₀ z) {z0 : Z} (e : Ext z0 z) {h' : Heap} {a : Addr} {p : PObj} (hk : ∀ b x, z.h.get? b = some x → h'.get? b = some x) (hn : z0.h.get? a = none) :
    Ext z0 { z with σ := z.σ ++ [a], st := z.st ++ [p], h := h' } :=
  ⟨fun n b h => get?_snoc_of (e.sig n b h), e.frz, fun b x h g => have q := e.prv b x h g; ⟨hk b x q.1, q.2.b, fun n hl he => (get?_snoc_cases he).elim (fun he => hl.elim fun p h => q.2.l n ⟨p, get?_snoc_lt h.1 (k.len ▸ (List.getElem?_eq_some_iff.mp he).1), h.2⟩ he) fun h' => nn (hn.symm.trans (h'.2 ▸ h))⟩⟩
theorem Ok.store (k : Ok prog w h₀ z) {h' : Heap} {a : Addr} {o : Obj} {p : PObj} (hk : ∀ b x, z.h.get? b = some x → h'.get? b = some x) (hn : z.h.get? a = none) (ho : h'.get? a = some o)
    (hp : ORel prog w z.σ z.B h' p a) : Ok prog w h₀ { z with σ := z.σ ++ [a], st := z.st ++ [p], h := h' } := k.adopt (k.free_of_none hn) hk ho hp
theorem Ok.store_ext (k : Ok prog w h₀ z) {h' : Heap} {a : Addr} {p : PObj} (hk : ∀ b x, z.h.get? b = some x → h'.get? b = some x) (hn : z.h.get? a = none) :
    Ext z { z with σ := z.σ ++ [a], st := z.st ++ [p], h := h' } := k.adopt_ext (.refl z) hk hn
theorem get?_set_cases {α : Type} {l : List α} {x y : α} {n m : Nat} (h : (l.set n x)[m]? = some y) : (m = n ∧ y = x ∧ n < l.length) ∨ (m ≠ n ∧ l[m]? = some y) := by
  by_cases hm : m = n
  · subst hm
    have hlt : m < l.length := List.length_set (as := l) ▸ (List.getElem?_eq_some_iff.mp h).1
    rw [List.getElem?_set_self hlt] at h
    exact .inl ⟨rfl, (Option.some.inj h).symm, hlt⟩
  · rw [List.getElem?_set_ne (Ne.symm hm)] at h; exact .inr ⟨hm, h⟩
theorem live_set {st : Store} {n : Nat} {p₀ p : PObj} (hp₀ : st[n]? = some p₀) (hd₀ : p₀ ≠ .dead) {m : Nat} (h : live (st.set n p) m) : live st m :=
  h.elim fun q h => (get?_set_cases h.1).elim (fun e => e.1 ▸ ⟨p₀, hp₀, hd₀⟩) fun e => ⟨q, e.2, h.2⟩
theorem Ok.change (k : Ok prog w h₀ z) {h' : Heap} {a : Addr} {n : Nat} {p₀ p : PObj} (hp₀ : z.st[n]? = some p₀) (hd₀ : p₀ ≠ .dead) (ha : z.σ[n]? = some a)
    (hk : Heap.ExtBut a z.h h') (ho : ∃ o, h'.get? a = some o) (hp : ORel prog w z.σ z.B h' p a) : Ok prog w h₀ { z with st := z.st.set n p, h := h' } := by
  obtain ⟨a', ha', hb, _, _⟩ := k.obj n p₀ hp₀ hd₀
  cases Option.some.inj (ha.symm.trans ha')
  refine ⟨k.sm, k.len.trans (List.length_set ..).symm, fun b x e => hk b x (fun h => nn (hb.symm.trans (h ▸ e))) (k.sub b x e), k.base, fun m q hq hd => ?_, fun m m' b hl hm => k.inj m m' b (live_set hp₀ hd₀ hl) (live_set hp₀ hd₀ hm)⟩
  rcases get?_set_cases hq with ⟨rfl, rfl, _⟩ | ⟨hne, hq⟩
  · exact ⟨a, ha, hb, ho, hp⟩
  · obtain ⟨b, hb', hbn, ⟨x, hx⟩, r⟩ := k.obj m q hq hd
    have hba : b ≠ a := fun e => hne (k.inj m n a ⟨q, hq, hd⟩ ⟨p₀, hp₀, hd₀⟩ (e ▸ hb') ha)
    exact ⟨b, hb', hbn, ⟨x, hk _ _ hba hx⟩, r.keep (fun _ _ e => e) (fun _ _ e => e) fun x e => hk _ _ hba e⟩
theorem Ok.change_ext (k : Ok prog w h₀ z) {h' : Heap} {a : Addr} {n : Nat} {p₀ p : PObj} (hp₀ : z.st[n]? = some p₀) (hd₀ : p₀ ≠ .dead) (ha : z.σ[n]? = some a)
    (hk : Heap.ExtBut a z.h h') : Ext z { z with st := z.st.set n p, h := h' } :=
  ⟨fun _ _ e => e, fun _ _ e => e, fun b x e f => ⟨hk b x (fun h => f.l n ⟨p₀, hp₀, hd₀⟩ (h ▸ ha)) e, f.b, fun m hl he => f.l m (live_set hp₀ hd₀ hl) he⟩⟩
theorem Ok.die (k : Ok prog w h₀ z) {a : Addr} {n : Nat} {p₀ : PObj} {o : Obj} (hp₀ : z.st[n]? = some p₀) (hd₀ : p₀ ≠ .dead) (ha : z.σ[n]? = some a) (ho : z.h.get? a = some o) :
    Ok prog w h₀ { z with st := z.st.set n .dead, B := Mine.addB z.B a o } := by
  obtain ⟨a', ha', hb, _, _⟩ := k.obj n p₀ hp₀ hd₀
  cases Option.some.inj (ha.symm.trans ha')
  exact k.addB (fun _ _ e => e) (List.length_set ..) (fun m p hp hd => (get?_set_cases hp).elim (fun e => absurd e.2.1 hd) fun e => ⟨e.2, fun hm => e.1 (k.inj m n a ⟨p, e.2, hd⟩ ⟨p₀, hp₀, hd₀⟩ hm ha)⟩) hb ho
theorem Ok.die_ext (k : Ok prog w h₀ z) {a : Addr} {n : Nat} {p₀ : PObj} {o : Obj} (hp₀ : z.st[n]? = some p₀) (hd₀ : p₀ ≠ .dead) (ha : z.σ[n]? = some a) :
    Ext z { z with st := z.st.set n .dead, B := Mine.addB z.B a o } := by
  obtain ⟨a', ha', hb, _, _⟩ := k.obj n p₀ hp₀ hd₀
  cases Option.some.inj (ha.symm.trans ha')
  exact ⟨fun _ _ e => e, fun b x e => addB_of hb e, fun b x e f => ⟨e, addB_none (fun h => f.l n ⟨p₀, hp₀, hd₀⟩ (h ▸ ha)) f.b, fun m hl he => f.l m (live_set hp₀ hd₀ hl) he⟩⟩
end
end Mine
end
section
namespace Mine
open PySem
structure Cx where
  prog : Program
  w : World
  h₀ : Heap
  nm : List Str
  gA : Addr
  bA : Addr
  fa : Nat → Addr
noncomputable def Cx.name (cx : Cx) (i : Nat) : Str := cx.nm.getD i Str.empty
structure NmOk (cx : Cx) : Prop where
  inj : ∀ i j, i < cx.nm.length → j < cx.nm.length → cx.name i = cx.name j → i = j
  dbg : ∀ i, i < cx.nm.length → (cx.name i == ("__debug__" : Str)) = false
  cd : ∀ i, i < cx.nm.length → (cx.name i == ("__classdict__" : Str)) = false
noncomputable abbrev VR (cx : Cx) (z : Z) : PV → Value → Prop := VRel cx.prog cx.w z.σ z.B
noncomputable abbrev VRs (cx : Cx) (z : Z) : List PV → List Value → Prop := VRels cx.prog cx.w z.σ z.B
noncomputable abbrev OkZ (cx : Cx) (z : Z) : Prop := Ok cx.prog cx.w cx.h₀ z
noncomputable abbrev Names := List (Str × NameKind)
noncomputable def own (names : Names) (env : Env) (a : Addr) : Prop := a = env.locals ∨ ∃ n, names.lookup n = some .cell ∧ env.cells.lookup n = some a
structure ExtB (ow : Addr → Prop) (z z' : Z) : Prop where
  sig : ∀ (n : Nat) a, z.σ[n]? = some a → z'.σ[n]? = some a
  frz : ∀ a o, z.B a = some o → z'.B a = some o
  prv : ∀ a o, z.h.get? a = some o → Free z a → Free z' a ∧ (∃ o', z'.h.get? a = some o') ∧ (¬ ow a → z'.h.get? a = some o)
theorem ExtB.refl (ow) (z : Z) : ExtB ow z z := ⟨fun _ _ h => h, fun _ _ h => h, fun _ _ h f => ⟨f, ⟨_, h⟩, fun _ => h⟩⟩
theorem Ext.toB {z z' : Z} (e : Ext z z') (ow) : ExtB ow z z' := ⟨e.sig, e.frz, fun a o h f => let ⟨x, y⟩ := e.prv a o h f; ⟨y, ⟨_, x⟩, fun _ => x⟩⟩
structure Fr (cx : Cx) (names : Names) (z : Z) (env : Env) (penv : PEnv) : Prop where
  kind : env.scope.kind = .function
  glob : env.globals = cx.gA
  bui : env.builtins = cx.bA
  freeL : Free z env.locals
  ids : ∀ i v, penv.get i = some v → i < cx.nm.length
  raw : ∀ n k, names.lookup n = some k → (k ≠ .free → env.kindOf n = some k) ∧ (k = .free → env.kindOf n = some .cell ∨ env.kindOf n = some .free)
  kinds : ∀ i v, penv.get i = some v → env.kindOf (cx.name i) = some .local ∨ env.kindOf (cx.name i) = some .cell ∨ env.kindOf (cx.name i) = some .free
  hasL : ∃ m, z.h.Ns env.locals m ∧ ∀ i v, penv.get i = some v → env.kindOf (cx.name i) = some .local → ∃ x, m (cx.name i) = some x ∧ VR cx z v x
  cel : ∀ n c, env.cells.lookup n = some c → Free z c ∧ c ≠ env.locals ∧ ∃ ov, z.h.IsCell c ov
  apart : ∀ n n' c, env.cells.lookup n = some c → env.cells.lookup n' = some c → n = n'
  all : ∀ n, (env.kindOf n = some .cell ∨ env.kindOf n = some .free) → ∃ c, env.cells.lookup n = some c
  cellV : ∀ i v, penv.get i = some v → (env.kindOf (cx.name i) = some .cell ∨ env.kindOf (cx.name i) = some .free) →
    ∃ c x, env.cells.lookup (cx.name i) = some c ∧ z.h.IsCell c (some x) ∧ VR cx z v x
theorem get_set (penv : PEnv) (i : Nat) (v : PV) (j : Nat) : (PEnv.set penv i v).get j = if j = i then some v else penv.get j := by
  have one : ∀ (u : PV) (r : PEnv) (k : Nat), PEnv.get ((k, u) :: r) j = if j = k then some u else r.get j := fun u r k => by
    show (bif Nat.beq k j then _ else _) = _
    cases h : Nat.beq k j with
    | true => rw [if_pos (Nat.eq_of_beq_eq_true h).symm]; rfl
    | false => rw [if_neg (fun e => by subst e; rw [Nat.beq_refl] at h; exact ff h.symm)]; rfl
  induction penv with
  | nil => exact one v [] i
  | cons p r ih =>
    obtain ⟨k, u⟩ := p
    show PEnv.get (bif Nat.beq k i then _ else _) j = _
    cases h : Nat.beq k i with
    | true =>
      cases Nat.eq_of_beq_eq_true h
      rw [cond_true, one, one]
      split <;> rfl
    | false =>
      rw [cond_false, one, one, ih]
      by_cases hj : j = k
      · rw [if_pos hj, if_pos hj, if_neg (fun e => by rw [← hj, e, Nat.beq_refl] at h; exact ff h.symm)]
      · rw [if_neg hj, if_neg hj]
section
variable {cx : Cx} {names : Names} {z z' : Z} {env : Env} {penv : PEnv}
theorem Fr.ext (f : Fr cx names z env penv) (e : Ext z z') : Fr cx names z' env penv := by
  have hL : ∀ o, z.h.get? env.locals = some o → z'.h.get? env.locals = some o := fun o h => (e.prv _ o h f.freeL).1
  have hC : ∀ n c ov, env.cells.lookup n = some c → z.h.IsCell c ov → z'.h.IsCell c ov := fun n c ov h ⟨o, ho, hd⟩ => ⟨o, (e.prv _ o ho (f.cel n c h).1).1, hd⟩
  refine ⟨f.kind, f.glob, f.bui, ?_, f.ids, f.raw, f.kinds, ?_, fun n c h => ?_, f.apart, f.all, fun i v hi hk => ?_⟩
  · obtain ⟨m, ⟨o, _, _, ho, _⟩, _⟩ := f.hasL
    exact (e.prv _ o ho f.freeL).2
  · obtain ⟨m, ⟨o, es, ep, ho, r⟩, hm⟩ := f.hasL
    exact ⟨m, ⟨o, es, ep, hL o ho, r⟩, fun i v hi hk => let ⟨x, hx, hv⟩ := hm i v hi hk; ⟨x, hx, hv.ext e⟩⟩
  · obtain ⟨h1, h2, ov, o, ho, hd⟩ := f.cel n c h
    exact ⟨(e.prv _ o ho h1).2, h2, ov, hC n c ov h ⟨o, ho, hd⟩⟩
  · obtain ⟨c, x, hc, hx, hv⟩ := f.cellV i v hi hk
    exact ⟨c, x, hc, hC _ c _ hc hx, hv.ext e⟩
variable {M : Model} {A : Around} {E : Value → Shared → Prop} {s : Shared}
theorem Fr.load (no : NmOk cx) (f : Fr cx names z env penv) (hz : s.heap = z.h) {i : Nat} {v : PV} (hi : penv.get i = some v) {Q : Value → Shared → Prop} (h : ∀ x, VR cx z v x → Q x s) :
    wpAny M A (loadName env (cx.name i)) Q E s := by
  rcases f.kinds i v hi with hk | hk | hk
  · obtain ⟨m, hn, hm⟩ := f.hasL
    obtain ⟨x, hx, hv⟩ := hm i v hi hk
    exact wpAny_loadName_local f.kind hk (hz ▸ hn) hx (h x hv)
  · obtain ⟨c, x, hc, hx, hv⟩ := f.cellV i v hi (.inl hk)
    exact wpAny_loadName_cell f.kind hk hc (hz ▸ hx) (h x hv)
  · obtain ⟨c, x, hc, hx, hv⟩ := f.cellV i v hi (.inr hk)
    exact wpAny_loadName_free f.kind hk hc (hz ▸ hx) (h x hv) (no.cd i (f.ids i v hi))
theorem ok_sameBut {a : Addr} (k : OkZ cx z) (fa : Free z a) {h' : Heap} (hs : Heap.SameBut a z.h h') : OkZ cx { z with h := h' } :=
  k.keep fun b o e hf => by
    have hne : b ≠ a := fun h => hf (h ▸ fa)
    exact (hs.2 b hne).trans e
theorem extB_sameBut {ow : Addr → Prop} {a : Addr} (ha : ow a) {h' : Heap} (hs : Heap.SameBut a z.h h') (hx : ∃ o, h'.get? a = some o) : ExtB ow z { z with h := h' } :=
  ⟨fun _ _ e => e, fun _ _ e => e, fun b o e f => ⟨⟨f.b, f.l⟩, by
    by_cases hb : b = a
    · subst hb; exact hx
    · exact ⟨o, (hs.2 b hb).trans e⟩, fun hn => (hs.2 b (fun h => hn (h ▸ ha))).trans e⟩⟩
theorem Fr.store (no : NmOk cx) (k : OkZ cx z) (f : Fr cx names z env penv) (hz : s.heap = z.h) {i : Nat} {v : PV} {x : Value} (hi : i < cx.nm.length)
    (hk : names.lookup (cx.name i) = some .local ∨ names.lookup (cx.name i) = some .cell) (hv : VR cx z v x) {Q : Unit → Shared → Prop}
    (h : ∀ h' tk, OkZ cx { z with h := h' } → Fr cx names { z with h := h' } env (penv.set i v) → ExtB (own names env) z { z with h := h' } → Q () { s with heap := h', toks := tk }) :
    wpAny M A (storeName env (cx.name i) x) Q E s := by
  have hids : ∀ j u, (penv.set i v).get j = some u → j < cx.nm.length := fun j u e => by
    rw [get_set] at e
    split at e
    · rename_i hji; rw [hji]; exact hi
    · exact f.ids j u e
  rcases hk with hk | hk
  · have hkk := (f.raw _ _ hk).1 (by decide)
    obtain ⟨m, hn, hm⟩ := f.hasL
    refine wpAny_storeName_local hkk (hz ▸ hn) (fun h' hn' hs' => ?_) (by rw [f.kind]; rfl)
    rw [hz] at hs'
    refine h h' _ (ok_sameBut k f.freeL hs') ?_ (extB_sameBut (.inl rfl) hs' (let ⟨o, _, _, ho, _⟩ := hn'; ⟨o, ho⟩))
    have hC : ∀ n c ov, env.cells.lookup n = some c → z.h.IsCell c ov → h'.IsCell c ov := fun n c ov h hc => hc.sameBut hs' (f.cel n c h).2.1
    refine ⟨f.kind, f.glob, f.bui, ⟨f.freeL.b, f.freeL.l⟩, hids, f.raw, fun j u e => ?_, ⟨_, hn', fun j u e hj => ?_⟩, fun n c e => ?_, f.apart, f.all, fun j u e hj => ?_⟩
    · rw [get_set] at e
      split at e
      · rename_i hji; rw [hji]; exact .inl hkk
      · exact f.kinds j u e
    · rw [get_set] at e
      split at e
      · rename_i hji; cases e; rw [hji]; exact ⟨x, by simp, hv⟩
      · rename_i hji
        obtain ⟨y, hy, hvy⟩ := hm j u e hj
        refine ⟨y, ?_, hvy⟩
        rw [if_neg (fun hh => hji (no.inj j i (f.ids j u e) hi hh))]; exact hy
    · obtain ⟨h1, h2, ov, hc⟩ := f.cel n c e
      exact ⟨⟨h1.b, h1.l⟩, h2, ov, hC n c ov e hc⟩
    · rw [get_set] at e
      split at e
      · rename_i hji; rw [hji, hkk] at hj; rcases hj with hj | hj <;> cases hj
      · obtain ⟨c, y, hc, hy, hvy⟩ := f.cellV j u e hj
        exact ⟨c, y, hc, hC _ c _ hc hy, hvy⟩
  · have hkk := (f.raw _ _ hk).1 (by decide)
    obtain ⟨c, hc⟩ := f.all _ (.inl hkk)
    obtain ⟨h1, h2, ov, hcell⟩ := f.cel _ c hc
    refine wpAny_storeName_cell f.kind hkk hc (hz ▸ hcell) fun h' hc' hs' => ?_
    rw [hz] at hs'
    refine h h' _ (ok_sameBut k h1 hs') ?_ (extB_sameBut (.inr ⟨_, hk, hc⟩) hs' (let ⟨o, ho, _⟩ := hc'; ⟨o, ho⟩))
    have hC : ∀ n c₁ ov, c₁ ≠ c → env.cells.lookup n = some c₁ → z.h.IsCell c₁ ov → h'.IsCell c₁ ov := fun n c₁ ov hne h hc => hc.sameBut hs' hne
    refine ⟨f.kind, f.glob, f.bui, ⟨f.freeL.b, f.freeL.l⟩, hids, f.raw, fun j u e => ?_, ?_, fun n c₁ e => ?_, f.apart, f.all, fun j u e hj => ?_⟩
    · rw [get_set] at e
      split at e
      · rename_i hji; rw [hji]; exact .inr (.inl hkk)
      · exact f.kinds j u e
    · obtain ⟨m, hn, hm⟩ := f.hasL
      refine ⟨m, hn.sameBut hs' (Ne.symm h2), fun j u e hj => ?_⟩
      rw [get_set] at e
      split at e
      · rename_i hji; rw [hji, hkk] at hj; cases hj
      · exact hm j u e hj
    · obtain ⟨g1, g2, ov₁, hc₁⟩ := f.cel n c₁ e
      refine ⟨⟨g1.b, g1.l⟩, g2, ?_⟩
      by_cases hne : c₁ = c
      · subst hne; exact ⟨_, hc'⟩
      · exact ⟨ov₁, hC n c₁ ov₁ hne e hc₁⟩
    · rw [get_set] at e
      split at e
      · rename_i hji; cases e; rw [hji]; exact ⟨c, x, hc, hc', hv⟩
      · rename_i hji
        obtain ⟨c₁, y, hc₁, hy, hvy⟩ := f.cellV j u e hj
        have hne : c₁ ≠ c := fun hh => hji (no.inj j i (f.ids j u e) hi (f.apart _ _ c (hh ▸ hc₁) hc))
        exact ⟨c₁, y, hc₁, hC _ c₁ _ hne hc₁ hy, hvy⟩
end
end Mine
end
section
namespace Mine
open PySem
noncomputable def RV (cx : Cx) (z : Z) (v : PV) (x : Value) : Prop := match v with
  | .none => x = .none
  | .bool b => x = .bool b
  | .int i => ∃ t, x = .int i t
  | .str l => ∃ (s : Str) (t : Tok), x = .str s t ∧ s.cps.toList = l
  | .list xs => ∃ (a : Addr) (n : Nat) (items : Array Value), x = .ref a ∧ z.h.get? a = some { cls := .type "list", dict := none, data := .seq items n, slots := #[] } ∧ VRs cx z xs items.toList
  | .tuple xs => ∃ (a : Addr) (n : Nat) (items : Array Value), x = .ref a ∧ z.h.get? a = some { cls := .type "tuple", dict := none, data := .seq items n, slots := #[] } ∧ VRs cx z xs items.toList
  | .dict es => ∃ (a : Addr) (o : Obj), x = .ref a ∧ z.h.get? a = some o ∧ DRel cx.prog cx.w es o ∧ (a == sysModules) = false
  | .rng lo n st => ∃ (a : Addr) (hi : Int) (t u v : Tok), x = .ref a ∧ z.h.get? a = some { cls := .type "range", dict := none, data := .fields #[.int lo t, .int hi u, .int st v], slots := #[] } ∧
      Builtin.Range.small lo hi st = true ∧ Builtin.Range.rangeSize lo hi st = (n : Int)
  | .ref n => ∃ a, x = .ref a ∧ z.σ[n]? = some a
section
variable {cx : Cx} {z : Z}
theorem VRel.rv (k : OkZ cx z) {v : PV} {x : Value} (h : VR cx z v x) : RV cx z v x := by
  cases h with
  | none => rfl
  | bool b => rfl
  | int i t => exact ⟨t, rfl⟩
  | str l s t h => exact ⟨s, t, rfl, h⟩
  | tuple ha ho hs => obtain ⟨n, rfl⟩ := ho; exact ⟨_, n, _, rfl, k.sub _ _ ha, hs⟩
  | list ha ho hs => obtain ⟨n, rfl⟩ := ho; exact ⟨_, n, _, rfl, k.sub _ _ ha, hs⟩
  | dict ha ho hs => exact ⟨_, _, rfl, k.sub _ _ ha, ho, hs⟩
  | rng ha h1 h2 => exact ⟨_, _, _, _, _, rfl, k.sub _ _ ha, h1, h2⟩
  | ref h => exact ⟨_, rfl, h⟩
theorem VRel.rd (k : OkZ cx z) {v : PV} {x : Value} (h : VR cx z v x) : RV cx z (rd z.st v) x := by
  cases v with
  | ref n =>
    have base := h.rv k
    obtain ⟨a, rfl, hσ⟩ := base
    show RV cx z (match z.st[n]? with
      | some p => match p with
        | .list xs => PV.list xs
        | .dict es => .dict es
        | _ => .ref n
      | Option.none => .ref n) (.ref a)
    cases hp : z.st[n]? with
    | none => exact ⟨a, rfl, hσ⟩
    | some p =>
      cases p with
      | list xs =>
        obtain ⟨a', ha, _, _, o, items, ho, ⟨m, rfl⟩, hv⟩ := k.obj n _ hp nofun
        cases Option.some.inj (hσ.symm.trans ha)
        exact ⟨_, m, items, rfl, ho, hv⟩
      | dict es =>
        obtain ⟨a', ha, _, _, o, ho, hd, hs⟩ := k.obj n _ hp nofun
        cases Option.some.inj (hσ.symm.trans ha)
        exact ⟨_, o, rfl, ho, hd, hs⟩
      | _ => exact ⟨a, rfl, hσ⟩
  | _ => exact h.rv k
structure ArOk (A : Around) (n : Nat) : Prop where
  hh : A.handled = none
  dep : A.depth + n < recursionLimit
  uni : A.units + 10 * n + 20 < cLine
noncomputable def Runs (cx : Cx) (A : Around) (t : Sem Value) (z : Z) (v : PV) (st' : Store) (s : Shared) : Prop :=
  ∀ (E : Value → Shared → Prop) (Q : Value → Shared → Prop), (∀ x z' tk, OkZ cx z' → Ext z z' → z'.st = st' → VR cx z' v x → Q x { s with heap := z'.h, toks := tk }) → wpAny (model cx.prog cx.w) A t Q E s
noncomputable def RunsT (cx : Cx) (A : Around) (t : Sem Bool) (z : Z) (b : Bool) (st' : Store) (s : Shared) : Prop :=
  ∀ (E : Value → Shared → Prop) (Q : Bool → Shared → Prop), (∀ z' tk, OkZ cx z' → Ext z z' → z'.st = st' → Q b { s with heap := z'.h, toks := tk }) → wpAny (model cx.prog cx.w) A t Q E s
noncomputable def RunsL (cx : Cx) (A : Around) (t : Sem (List Value)) (z : Z) (vs : List PV) (st' : Store) (s : Shared) : Prop :=
  ∀ (E : Value → Shared → Prop) (Q : List Value → Shared → Prop), (∀ xs z' tk, OkZ cx z' → Ext z z' → z'.st = st' → VRs cx z' vs xs → Q xs { s with heap := z'.h, toks := tk }) → wpAny (model cx.prog cx.w) A t Q E s
variable {A : Around} {s : Shared} {t : Sem Value}
theorem Runs.pure (k : OkZ cx z) (hz : s.heap = z.h) {v : PV} (h : ∀ (E : Value → Shared → Prop) (Q : Value → Shared → Prop), (∀ x tk, VR cx z v x → Q x { s with toks := tk }) → wpAny (model cx.prog cx.w) A t Q E s) :
    Runs cx A t z v z.st s := fun E Q hQ => h E Q fun x tk hv => by
  have := hQ x z tk k (.refl z) rfl hv
  rwa [← hz] at this
theorem Runs.push (k : OkZ cx z) (hz : s.heap = z.h) {v : PV} {o : Obj} (hal : o.isFreed = false)
    (hv : ∀ a, VR cx { z with B := addB z.B a o, h := s.heap.push o } v (.ref a) ∨ a ≠ s.heap.objs.size)
    (h : ∀ (E : Value → Shared → Prop) (Q : Value → Shared → Prop), (∀ tk, Q (.ref s.heap.objs.size) { s with heap := s.heap.push o, toks := tk }) → wpAny (model cx.prog cx.w) A t Q E s) :
    Runs cx A t z v z.st s := fun E Q hQ => h E Q fun tk => by
  have hn : z.h.get? s.heap.objs.size = none := by
    rw [hz]
    cases e : z.h.get? z.h.objs.size with
    | none => rfl
    | some o' => exact absurd (Heap.lt_size e) (Nat.lt_irrefl _)
  have hk : ∀ b x, z.h.get? b = some x → (s.heap.push o).get? b = some x := fun b x e => by rw [hz]; exact Heap.get?_push_of_some _ e
  refine hQ _ { z with B := addB z.B s.heap.objs.size o, h := s.heap.push o } tk (k.freeze hk hn (Heap.get?_push_size _ hal)) (k.freeze_ext hk hn) rfl ?_
  rcases hv s.heap.objs.size with h | h
  · exact h
  · exact absurd rfl h
theorem addB_self (B : Addr → Option Obj) (a : Addr) (o : Obj) : addB B a o a = some o := by simp [addB]
theorem VRs.grow (k : OkZ cx z) {a : Addr} {o : Obj} {h' : Heap} (hn : z.h.get? a = none) {vs : List PV} {xs : List Value} (hv : VRs cx z vs xs) : VRs cx { z with B := addB z.B a o, h := h' } vs xs :=
  hv.mono (fun _ _ e => e) fun b x e => by
    show addB z.B a o b = some x
    unfold Mine.addB
    rw [if_neg (fun hb => by have := k.sub _ _ e; rw [hb, hn] at this; cases this)]; exact e
end
end Mine
end
section
namespace Mine
open PySem
theorem bif_some {α : Type} {c : Bool} {a v : α} (h : (bif c then some a else none) = some v) : c = true ∧ a = v := bif_el h fun h1 h2 => ⟨h1, Option.some.inj h2⟩
theorem bif_some' {α : Type} {c : Bool} {a : Option α} {v : α} (h : (bif c then a else none) = some v) : c = true ∧ a = some v := bif_el h fun h1 h2 => ⟨h1, h2⟩
theorem bs {cx : Cx} {z : Z} {A : Around} {s : Shared} {t : Sem Value} {st : Store} {c : Bool} {a v : PV} (h : (bif c then some a else none) = some v) (k : c = true → Runs cx A t z a st s) : Runs cx A t z v st s := bif_el h fun h1 h2 => Option.some.inj h2 ▸ k h1
theorem si {cx : Cx} {z : Z} {A : Around} {s : Shared} {t : Sem Value} {st : Store} {a v : PV} (h : some a = some v) (k : Runs cx A t z a st s) : Runs cx A t z v st s := Option.some.inj h ▸ k
theorem dt {p : Prop} [Decidable p] (h : decide p = true) : p := of_decide_eq_true h
theorem lim_lt {n : Nat} {m : Nat} (h : n ≤ lim) (hm : lim < m := by decide) : n < m := Nat.lt_of_le_of_lt h hm
theorem lim_not {n : Nat} {m : Int} (h : n ≤ lim) (hm : (lim : Int) < m := by decide) : ¬ (n : Int) ≥ m := Int.not_le.mpr (Int.lt_of_le_of_lt (Int.ofNat_le.mpr h) hm)
theorem lim_le {n : Nat} (h : n ≤ lim) : n ≤ sizeLine := Nat.le_trans h (by decide)
theorem small_iff {i : Int} (h : small i = true) : -(2 ^ 62) < i ∧ i < 2 ^ 62 := by
  have h' : i.natAbs ≤ 4611686018427387903 := Nat.le_of_ble_eq_true h
  omega
theorem small_bits {i : Int} (h : small i = true) : Builtin.Int.intBits i ≤ 64 := have h := small_iff h; intBits_le_64 (by omega) (by omega)
theorem small_abs {i : Int} (h : small i = true) : i.natAbs < 2 ^ 64 := Nat.lt_of_le_of_lt (Nat.le_of_ble_eq_true h) (by decide)
theorem small_log {i : Int} (h : small i = true) : i.natAbs.log2 < 9000 := by
  have h2 : i.natAbs < 2 ^ 62 := Nat.lt_of_le_of_lt (Nat.le_of_ble_eq_true h) (by decide)
  by_cases h0 : i.natAbs = 0
  · rw [h0]; decide
  · exact Nat.lt_of_lt_of_le ((Nat.log2_lt h0).mpr h2) (by decide)
theorem foldl_arr (l : List (Array Nat)) : ∀ acc : Array Nat, (List.foldl (fun a b => a ++ b) acc l).toList = acc.toList ++ (l.map (·.toList)).flatten := by
  induction l with
  | nil => intro acc; simp
  | cons x r ih => intro acc; rw [List.foldl_cons, ih]; simp [List.append_assoc]
theorem str_len (s : Str) : s.length = s.cps.toList.length := by cases s; simp [Str.length]
section
variable {cx : Cx} {z : Z} {A : Around} {s : Shared}
theorem truthy_sound {v : PV} {x : Value} {b : Bool} (h : truthyV v = some b) (hv : RV cx z v x) {E : Value → Shared → Prop} {Q : Bool → Shared → Prop} (hQ : ∀ tk, Q b { s with toks := tk }) :
    wpAny (model cx.prog cx.w) A (truthy x) Q E s := by
  have hQ' : Q b s := hQ s.toks
  cases v with
  | bool c => cases Option.some.inj h; cases (hv : x = .bool b); exact wpAny_truthy_bool hQ'
  | int i => obtain ⟨t, rfl⟩ := hv; exact P.truthy_int (Option.some.inj h ▸ hQ')
  | none => cases Option.some.inj h; cases (hv : x = .none); exact PyProof.Rows.truthy_none hQ'
  | str l =>
    obtain ⟨h1, rfl⟩ := bif_some h
    obtain ⟨y, t, rfl, rfl⟩ := hv
    have hlen := str_len y
    refine P.truthy_str (by rw [hlen]; exact lim_not (dt h1)) ?_
    have e : (((y.length : Nat) : Int) != 0) = !y.cps.toList.isEmpty := by
      rw [hlen]
      cases y.cps.toList with
      | nil => rfl
      | cons c r => exact bne_iff_ne.mpr fun h => Nat.succ_ne_zero _ (Int.ofNat.inj h)
    rw [e]; exact hQ _
  | _ => exact nn h
theorem Runs.val {t : Sem Value} (k : OkZ cx z) (hz : s.heap = z.h) {v : PV} {x : Value} (hv : VR cx z v x)
    (h : ∀ (E : Value → Shared → Prop) (Q : Value → Shared → Prop), (∀ tk, Q x { s with toks := tk }) → wpAny (model cx.prog cx.w) A t Q E s) : Runs cx A t z v z.st s :=
  .pure k hz fun E Q hQ => h E Q fun tk => hQ x tk hv
theorem Runs.int {t : Sem Value} (k : OkZ cx z) (hz : s.heap = z.h) {i : Int}
    (h : ∀ (E : Value → Shared → Prop) (Q : Value → Shared → Prop), (∀ u tk, Q (.int i u) { s with toks := tk }) → wpAny (model cx.prog cx.w) A t Q E s) : Runs cx A t z (.int i) z.st s :=
  .pure k hz fun E Q hQ => h E Q fun u tk => hQ _ tk (.int i u)
theorem Runs.str {t : Sem Value} (k : OkZ cx z) (hz : s.heap = z.h) {y : Str} {l : List Nat} (hl : y.cps.toList = l)
    (h : ∀ (E : Value → Shared → Prop) (Q : Value → Shared → Prop), (∀ u tk, Q (.str y u) { s with toks := tk }) → wpAny (model cx.prog cx.w) A t Q E s) : Runs cx A t z (.str l) z.st s :=
  .pure k hz fun E Q hQ => h E Q fun u tk => hQ _ tk (.str l y u hl)
theorem none_at_size (hz : s.heap = z.h) : z.h.get? s.heap.objs.size = none := by
  rw [hz]
  cases e : z.h.get? z.h.objs.size with
  | none => rfl
  | some o' => exact absurd (Heap.lt_size e) (Nat.lt_irrefl _)
theorem Runs.newList {t : Sem Value} (k : OkZ cx z) (hz : s.heap = z.h) {xs : List PV} {items : Array Value} {n : Nat} (hv : VRs cx z xs items.toList)
    (h : ∀ (E : Value → Shared → Prop) (Q : Value → Shared → Prop), (∀ tk, Q (.ref s.heap.objs.size) { s with heap := s.heap.push { cls := .type "list", data := .seq items n }, toks := tk }) → wpAny (model cx.prog cx.w) A t Q E s) :
    Runs cx A t z (.list xs) z.st s :=
  Runs.push k hz rfl (fun a => by
    by_cases ha : a = s.heap.objs.size
    · subst ha
      exact .inl (.list (addB_self _ _ _) ⟨n, rfl⟩ (VRs.grow k (none_at_size hz) hv))
    · exact .inr ha) h
theorem mul_str_sound {l : List Nat} {j : Int} {x y : Value} (h0 : 0 ≤ j) (hm : j ≤ 1000) (h1 : l.length * j.toNat ≤ lim) (k : OkZ cx z) (hz : s.heap = z.h) (ha : RV cx z (.str l) x) (hb : RV cx z (.int j) y) :
    Runs cx A (binaryOp .Mult x y) z (.str (List.replicate j.toNat l).flatten) z.st s := by
  obtain ⟨s1, t, rfl, rfl⟩ := ha; obtain ⟨u, rfl⟩ := hb
  have hlen := str_len s1
  have hr : (decide (j < -2 ^ 63) || decide (j ≥ 2 ^ 63)) = false := Bool.or_eq_false_iff.mpr ⟨decide_eq_false (by omega), decide_eq_false (by omega)⟩
  by_cases hj : j < 1
  · obtain rfl : j = 0 := Int.le_antisymm (Int.lt_add_one_iff.mp hj) h0
    refine .str (y := Str.empty) k hz rfl fun E Q hQ => P.mul_str (by decide) (fun h => absurd (by decide) h) (fun h => absurd (by decide) h) ?_
    rw [if_pos (by decide)]; exact ⟨by decide, hQ _ _⟩
  · have hj1 : 1 ≤ j := Int.not_lt.mp hj
    by_cases hs : (j == 1 || s1.length == 0) = true
    · refine .pure k hz fun E Q hQ => P.mul_str hr (fun _ h => ff (h.symm.trans hs)) (fun _ h => ff (h.symm.trans hs)) ?_
      rw [if_neg hj, if_pos hs]
      · refine hQ _ _ (.str _ s1 t ?_)
        rcases Bool.or_eq_true_iff.mp hs with hs | hs
        · obtain rfl : j = 1 := beq_iff_eq.mp hs
          exact (List.append_nil _).symm
        · have : s1.cps.toList = [] := List.length_eq_zero_iff.mp (hlen ▸ beq_iff_eq.mp hs)
          rw [this, List.flatten_replicate_nil]
    · refine .str (y := ⟨List.foldl (fun a b => a ++ b) #[] (List.replicate j.toNat s1.cps)⟩) k hz ?_ fun E Q hQ => P.mul_str hr (fun _ _ => ?_) (fun _ _ => ?_) ?_
      · show (List.foldl (fun a b => a ++ b) #[] (List.replicate j.toNat s1.cps)).toList = _
        rw [foldl_arr, List.map_replicate]; rfl
      · have hle : s1.cps.toList.length ≤ lim := Nat.le_trans (Nat.le_mul_of_pos_right _ (by omega)) h1
        have h100 : (100000 : Int) ≤ (2 ^ 63 - 1) / j := by
          apply Int.le_ediv_of_mul_le (by omega)
          have : (100000 : Int) * j ≤ 100000 * 1000 := Int.mul_le_mul_of_nonneg_left hm (by decide)
          omega
        rw [hlen]
        exact Int.not_lt.mpr (Int.le_trans (Int.ofNat_le.mpr hle) h100)
      · rw [hlen]
        exact decide_eq_false (Nat.not_lt.mpr (lim_le h1))
      · rw [if_neg hj, if_neg hs]
        refine ⟨?_, hQ _ _⟩
        rw [str_len]
        show (List.foldl (fun a b => a ++ b) #[] (List.replicate j.toNat s1.cps)).toList.length ≤ _
        rw [foldl_arr, List.map_replicate]
        show ((List.replicate j.toNat s1.cps.toList).flatten).length ≤ _
        rw [List.length_flatten, List.map_replicate, List.sum_replicate_nat, Nat.mul_comm]
        exact lim_le h1
theorem add_list_sound {xs ys : List PV} {x y : Value} (h1 : xs.length + ys.length ≤ lim) (k : OkZ cx z) (hz : s.heap = z.h) (ha : RV cx z (.list xs) x) (hb : RV cx z (.list ys) y) :
    Runs cx A (binaryOp .Add x y) z (.list (xs ++ ys)) z.st s := by
  obtain ⟨l1, n1, i1, rfl, e1, v1⟩ := ha
  obtain ⟨l2, n2, i2, rfl, e2, v2⟩ := hb
  have g1 := v1.length
  have g2 := v2.length
  refine Runs.newList (items := i1 ++ i2) (n := 0) k hz (by rw [Array.toList_append]; exact v1.append v2) fun E Q hQ => ?_
  rw [← hz] at e1 e2
  refine concat_meets ⟨_, e1, rfl⟩ ⟨_, e2, rfl⟩ noFill_list_add seq_list_add PySem.F.slot_list_add PySem.F.entry_list_add (PySem.F.args_list_add_2 _ _) (PyProof.Rows.list_addW l1 l2 i1 i2 n1 n2 none none #[] #[] ?_) ⟨e1, e2, hQ _⟩
  rw [g1, g2] at h1
  exact lim_le h1
theorem bin_ints {op : Operator} {i j : Int} {v : PV} {x y : Value} (h : pbin op (.int i) (.int j) = some v) (k : OkZ cx z) (hz : s.heap = z.h) (ha : RV cx z (.int i) x) (hb : RV cx z (.int j) y) :
    Runs cx A (binaryOp op x y) z v z.st s := by
  obtain ⟨t, rfl⟩ := ha; obtain ⟨u, rfl⟩ := hb
  cases op with
  | Add => exact si h (.int k hz fun E Q hQ => P.add_int (hQ _ _))
  | Sub => exact si h (.int k hz fun E Q hQ => P.sub_int (hQ _ _))
  | Mult => exact bs h fun h1 => an h1 fun h1 _ => .int k hz fun E Q hQ => P.mul_int (hQ _ _) (IntMulOk.of_left (small_bits h1))
  | FloorDiv => exact bs h fun h1 => an h1 fun h1 h3 => an h1 fun h1 h2 => .int k hz fun E Q hQ => PyProof.Rows.floordiv_int (Int.ne_of_gt (dt h2)) (Int.fdiv_eq_ediv_of_nonneg i (Int.le_of_lt (dt h2)) ▸ hQ _ _) (.inl (PyProof.noPylong_of_log2 (small_log h3)))
  | Mod => exact bs h fun h1 => .int k hz fun E Q hQ => PyProof.Rows.mod_int' (Int.ne_of_gt (dt h1)) (Int.fmod_eq_emod_of_nonneg i (Int.le_of_lt (dt h1)) ▸ hQ _ _)
  | BitAnd => exact si h (.int k hz fun E Q hQ => PyProof.Rows.and_int (hQ _ _))
  | BitOr => exact si h (.int k hz fun E Q hQ => PyProof.Rows.or_int (hQ _ _))
  | LShift => exact bs h fun h1 => an h1 fun h1 h3 => an h1 fun h1 h2 => .int k hz fun E Q hQ => PyProof.Rows.lshift_int_small (dt h2) (by have := dt h3; omega) (small_abs h1) (hQ _ _)
  | Pow => exact bs h fun h1 => an h1 fun h1 h4 => an h1 fun h1 h3 => an h1 fun h1 h2 => .int k hz fun E Q hQ => PyProof.Rows.pow_int_small (dt h3) (by have := dt h4; omega) (by have := dt h1; have := dt h2; omega) (hQ _ _)
  | _ => exact nn h
theorem bin_sound {op : Operator} {a b v : PV} {x y : Value} (h : pbin op a b = some v) (k : OkZ cx z) (hz : s.heap = z.h) (ha : RV cx z a x) (hb : RV cx z b y) :
    Runs cx A (binaryOp op x y) z v z.st s := by
  cases a with
  | int i => cases b with
    | int j => exact bin_ints h k hz ha hb
    | bool c => cases op with
      | Mult =>
        obtain ⟨t, rfl⟩ := ha
        cases (hb : y = .bool c)
        refine bs h fun h1 => .int k hz fun E Q hQ => PySem.IntBool.mul_int_bool ?_
        have e : (i * if c = true then (1 : Int) else 0) = bif c then i else 0 := by
          cases c with
          | true => exact Int.mul_one i
          | false => exact Int.mul_zero i
        rw [e]; exact hQ _ _
      | _ => exact nn h
    | _ => exact nn h
  | str l => cases b with
    | str m => cases op with
      | Add =>
        obtain ⟨s1, t, rfl, rfl⟩ := ha; obtain ⟨s2, u, rfl, rfl⟩ := hb
        refine bs h fun h1 => .str (y := s1 ++ s2) k hz (Array.toList_append ..) fun E Q hQ => PyProof.Rows.add_str (fun t' tk => hQ _ _) ?_
        rw [str_len, str_len]; exact lim_le (dt h1)
      | _ => exact nn h
    | int j => cases op with
      | Mult => exact bs h fun h1 => an h1 fun h1 h3 => an h1 fun h1 h2 => mul_str_sound (dt h1) (dt h2) (dt h3) k hz ha hb
      | _ => exact nn h
    | _ => exact nn h
  | list xs => cases b with
    | list ys => cases op with
      | Add => exact bs h fun h1 => add_list_sound (dt h1) k hz ha hb
      | _ => exact nn h
    | _ => exact nn h
  | _ => exact nn h
end
end Mine
end
section
namespace Mine
open PySem
section
variable {cx : Cx} {z : Z} {A : Around} {s : Shared}
theorem aug_sound {op : Operator} {a b v : PV} {x y : Value} (h : paug op a b = some v) (k : OkZ cx z) (hz : s.heap = z.h) (ha : RV cx z a x) (hb : RV cx z b y) :
    Runs cx A (inplaceOp op x y) z v z.st s := by
  cases a with
  | int i => cases b with
    | int j =>
      obtain ⟨t, rfl⟩ := ha; obtain ⟨u, rfl⟩ := hb
      cases op with
      | Add => exact si h (.int k hz fun E Q hQ => P.iadd_int (hQ _ _))
      | Sub => exact si h (.int k hz fun E Q hQ => P.isub_int (hQ _ _))
      | FloorDiv => exact bs h fun h1 => an h1 fun h1 h3 => an h1 fun h1 h2 => .int k hz fun E Q hQ => PyProof.Rows.ifloordiv_int (Int.ne_of_gt (dt h2)) (Int.fdiv_eq_ediv_of_nonneg i (Int.le_of_lt (dt h2)) ▸ hQ _ _) (.inl (PyProof.noPylong_of_log2 (small_log h3)))
      | BitOr => exact si h (.int k hz fun E Q hQ => PyProof.Rows.ior_int (hQ _ _))
      | LShift => exact bs h fun h1 => an h1 fun h1 h3 => an h1 fun h1 h2 => .int k hz fun E Q hQ => PyProof.Rows.ilshift_int_small (dt h2) (by have := dt h3; omega) (small_abs h1) (hQ _ _)
      | _ => exact nn h
    | _ => exact nn h
  | _ => exact nn h
theorem eqs_el {f : PV → PV → Option Bool} {x y : PV} {xs ys : List PV} {r : Bool} {P : Prop} (h : eqs f (x :: xs) (y :: ys) = some r) (k : ∀ p q, f x y = some p → eqs f xs ys = some q → (p && q) = r → P) : P := by
  have h : (match f x y with
    | some a => match eqs f xs ys with
      | some b => some (a && b)
      | none => none
    | none => none) = some r := h
  cases hp : f x y with
  | none => rw [hp] at h; exact nn h
  | some p => cases hq : eqs f xs ys with
    | none => rw [hp, hq] at h; exact nn h
    | some q => rw [hp, hq] at h; exact k p q hp hq (Option.some.inj h)
theorem eqs_sound {f : PV → PV → Option Bool} {A : Around} {s : Shared} (hf : ∀ x y r a b, f x y = some r → VR cx z x a → VR cx z y b → SeqAt.EqAt A s a b r) {xs : List PV} :
    ∀ {ys : List PV} {vs us : List Value} {r : Bool}, eqs f xs ys = some r → VRs cx z xs vs → VRs cx z ys us →
      vs.length = us.length ∧ ∃ e : Nat → Bool, (∀ (j : Nat) a b, vs[j]? = some a → us[j]? = some b → SeqAt.EqAt A s a b (e j)) ∧ (List.range vs.length).all e = r := by
  induction xs with
  | nil =>
    intro ys vs us r h h1 h2
    cases ys with
    | nil => exact VRels.nil_el (C := fun vs => vs.length = us.length ∧ ∃ e : Nat → Bool, (∀ (j : Nat) a b, vs[j]? = some a → us[j]? = some b → SeqAt.EqAt A s a b (e j)) ∧ (List.range vs.length).all e = r) h1 ⟨(VRels.length h2), fun _ => true, fun j a b h => nn h, Option.some.inj h⟩
    | cons => exact nn h
  | cons x xs ih =>
    intro ys vs us r h h1 h2
    cases ys with
    | nil => exact nn h
    | cons y ys =>
      refine h1.cons_el (C := fun vs => vs.length = us.length ∧ ∃ e : Nat → Bool, (∀ (j : Nat) a b, vs[j]? = some a → us[j]? = some b → SeqAt.EqAt A s a b (e j)) ∧ (List.range vs.length).all e = r) fun a vs ha hs => ?_
      refine h2.cons_el (C := fun us => (a :: vs).length = us.length ∧ ∃ e : Nat → Bool, (∀ (j : Nat) a' b, (a :: vs)[j]? = some a' → us[j]? = some b → SeqAt.EqAt A s a' b (e j)) ∧ (List.range (a :: vs).length).all e = r) fun b us hb ht => ?_
      refine eqs_el h fun p q hp hq h => ?_
      obtain ⟨hl, e, he, hr⟩ := ih hq hs ht
      refine ⟨congrArg (· + 1) hl, fun j => match j with | 0 => p | j + 1 => e j, fun j a' b' h1 h2 => ?_, ?_⟩
      · cases j with
        | zero => exact Option.some.inj h1 ▸ Option.some.inj h2 ▸ hf _ _ _ _ _ hp ha hb
        | succ j => exact he j a' b' h1 h2
      · rw [List.length_cons, List.range_succ_eq_map, List.all_cons, List.all_map, ← h, ← hr]; rfl
theorem str_beq (a b : Str) : (a == b) = (a.cps.toList == b.cps.toList) := by
  rw [Bool.eq_iff_iff, beq_iff_eq, beq_iff_eq]
  exact ⟨fun h => congrArg (fun s : Str => s.cps.toList) h, fun h => by cases a; cases b; exact congrArg Str.mk (Array.toList_inj.mp h)⟩
theorem eqF_el {x y : PV} {r : Bool} {a b : Value} {C : PV → PV → Bool → Value → Value → Prop} (h : eqF x y = some r) (ha : RV cx z x a) (hb : RV cx z y b) (kn : C .none .none true .none .none) (kb : ∀ p q, C (.bool p) (.bool q) (p == q) (.bool p) (.bool q))
    (ki : ∀ i j t u, C (.int i) (.int j) (i == j) (.int i t) (.int j u)) (ks : ∀ (s1 s2 : Str) t u, C (.str s1.cps.toList) (.str s2.cps.toList) (s1 == s2) (.str s1 t) (.str s2 u)) : C x y r a b := by
  cases x with
  | none => cases y with
    | none => cases Option.some.inj h; cases (ha : a = .none); cases (hb : b = .none); exact kn
    | _ => exact nn h
  | bool p => cases y with
    | bool q => cases Option.some.inj h; cases (ha : a = .bool p); cases (hb : b = .bool q); exact kb p q
    | _ => exact nn h
  | int i => cases y with
    | int j => cases Option.some.inj h; obtain ⟨t, rfl⟩ := ha; obtain ⟨u, rfl⟩ := hb; exact ki i j t u
    | _ => exact nn h
  | str l => cases y with
    | str m => cases Option.some.inj h; obtain ⟨s1, t, rfl, rfl⟩ := ha; obtain ⟨s2, u, rfl, rfl⟩ := hb; rw [← str_beq]; exact ks s1 s2 t u
    | _ => exact nn h
  | _ => exact nn h
theorem eqF_sound {x y : PV} {r : Bool} {a b : Value} {A : Around} {s : Shared} (h : eqF x y = some r) (ha : RV cx z x a) (hb : RV cx z y b) : SeqAt.EqAt A s a b r :=
  eqF_el (C := fun _ _ r a b => SeqAt.EqAt A s a b r) h ha hb (SeqAt.EqAt.same _) SeqAt.EqAt.bool_bool (fun i j t u => SeqAt.EqAt.int_int i t j u) (fun i j t u => SeqAt.EqAt.str_str i t j u)
theorem tup_at (hz : s.heap = z.h) {l : Addr} {n : Nat} {items : Array Value} (h : z.h.get? l = some { cls := .type "tuple", dict := none, data := .seq items n, slots := #[] }) : s.heap.IsTuple l items :=
  ⟨_, by rw [hz]; exact h, rfl, n, rfl⟩
theorem lst_at (hz : s.heap = z.h) {l : Addr} {n : Nat} {items : Array Value} (h : z.h.get? l = some { cls := .type "list", dict := none, data := .seq items n, slots := #[] }) : s.heap.IsList l items :=
  ⟨_, by rw [hz]; exact h, rfl, n, rfl⟩
theorem arr_pairs {is js : Array Value} {e : Nat → Bool} {A : Around} {s : Shared} (he : ∀ (j : Nat) a b, is.toList[j]? = some a → js.toList[j]? = some b → SeqAt.EqAt A s a b (e j)) :
    ∀ j (h1 : j < is.size) (h2 : j < js.size), SeqAt.EqAt A s is[j] js[j] (e j) := fun j h1 h2 => he j _ _ (by simp [h1]) (by simp [h2])
theorem eqF_same (k : OkZ cx z) {x y : PV} {r : Bool} {a : Value} (h : eqF x y = some r) (ha : VR cx z x a) (hb : VR cx z y a) : r = true :=
  eqF_el (C := fun _ _ r a b => a = b → r = true) h (ha.rv k) (hb.rv k) (fun _ => rfl) (fun p q e => beq_iff_eq.mpr (Value.bool.inj e)) (fun i j t u e => beq_iff_eq.mpr (Value.int.inj e).1) (fun s1 s2 t u e => beq_iff_eq.mpr (Value.str.inj e).1) rfl
theorem eqs_same {f : PV → PV → Option Bool} (hf : ∀ x y r a, f x y = some r → VR cx z x a → VR cx z y a → r = true) {xs : List PV} :
    ∀ {ys : List PV} {vs : List Value} {r : Bool}, eqs f xs ys = some r → VRs cx z xs vs → VRs cx z ys vs → r = true := by
  induction xs with
  | nil =>
    intro ys vs r h _ _
    cases ys with
    | nil => exact (Option.some.inj h).symm
    | cons => exact nn h
  | cons x xs ih =>
    intro ys vs r h h1 h2
    cases ys with
    | nil => exact nn h
    | cons y ys =>
      refine h1.cons_el (C := fun vs => VRs cx z (y :: ys) vs → r = true) (fun a us ha hs h2 => ?_) h2
      cases h2 with
      | cons hb ht =>
        refine eqs_el h fun p q hp hq h => ?_
        rw [hf _ _ _ _ hp ha hb, ih hq hs ht] at h
        exact h.symm
theorem tup_pair {xs ys : List PV} {r : Bool} {l1 l2 : Addr} {n1 n2 : Nat} {i1 i2 : Array Value} {A : Around} {s : Shared} {f : PV → PV → Option Bool} (hf : ∀ x y r a b, f x y = some r → VR cx z x a → VR cx z y b → SeqAt.EqAt A s a b r) (h : eqs f xs ys = some r)
    (v1 : VRs cx z xs i1.toList) (v2 : VRs cx z ys i2.toList) : i1.size = i2.size ∧ ∃ e : Nat → Bool, (∀ j (h1 : j < i1.size) (h2 : j < i2.size), SeqAt.EqAt A s i1[j] i2[j] (e j)) ∧ (List.range i1.size).all e = r ∧ ((List.range (min i1.size i2.size)).all e && i1.size == i2.size) = r := by
  obtain ⟨hl, e, he, hr⟩ := eqs_sound hf h v1 v2
  have hsz : i1.size = i2.size := hl
  refine ⟨hsz, e, arr_pairs he, hr, ?_⟩
  rw [← hsz, Nat.min_self, beq_self_eq_true, Bool.and_true]; exact hr
theorem eq1_sound {x y : PV} {r : Bool} {a b : Value} {A : Around} {s : Shared} (k : OkZ cx z) (hz : s.heap = z.h) (hu : A.units < cLine)
    (h : eq1 x y = some r) (ha : VR cx z x a) (hb : VR cx z y b) : SeqAt.EqAt A s a b r := by
  have rest : eqF x y = some r → SeqAt.EqAt A s a b r := fun h => eqF_sound h (ha.rv k) (hb.rv k)
  cases x with
  | tuple xs => cases y with
    | tuple ys =>
      obtain ⟨l1, n1, i1, rfl, e1, v1⟩ := ha.rv k
      obtain ⟨l2, n2, i2, rfl, e2, v2⟩ := hb.rv k
      obtain ⟨hsz, e, he, _, hrr⟩ := tup_pair (l1 := l1) (l2 := l2) (n1 := n1) (n2 := n2) (A := A.in1) (s := s) (fun x y r a b h ha hb => eqF_sound h (ha.rv k) (hb.rv k)) h v1 v2
      by_cases hne : l1 = l2
      · subst hne
        cases Option.some.inj (e1.symm.trans e2)
        cases eqs_same (fun x y r a h ha hb => eqF_same k h ha hb) h v1 v2
        exact SeqAt.EqAt.same _
      · exact SeqAt.EqAt.of_refs hne (hrr ▸ SeqAt.RcAt.tuples (tup_at hz e1) (tup_at hz e2) hu he)
    | _ => exact nn h
  | _ => exact rest h
theorem eqv_sound {x y : PV} {r : Bool} {a b : Value} {E : Value → Shared → Prop} {Q : Value → Shared → Prop} (k : OkZ cx z) (hz : s.heap = z.h) (hu : A.units + 2 < cLine)
    (h : PV.eqv x y = some r) (ha : RV cx z x a) (hb : RV cx z y b) (hQ : ∀ tk, Q (.bool r) { s with toks := tk }) : wpAny (model cx.prog cx.w) A (compareOp .Eq a b) Q E s := by
  have h1 : A.units < cLine := Nat.lt_of_le_of_lt (Nat.le_add_right _ 2) hu
  have hf : ∀ x y r a b, eq1 x y = some r → VR cx z x a → VR cx z y b → SeqAt.EqAt A.in1 s a b r := fun x y r a b h ha hb => eq1_sound k hz (Nat.lt_of_le_of_lt (Nat.le_succ _) hu) h ha hb
  have rest : eqF x y = some r → wpAny (model cx.prog cx.w) A (compareOp .Eq a b) Q E s := fun h =>
    eqF_el (C := fun _ _ r a b => (∀ tk, Q (.bool r) { s with toks := tk }) → wpAny (model cx.prog cx.w) A (compareOp .Eq a b) Q E s) h ha hb (fun hQ => PySem.EqNone.eq_none_none (hQ s.toks)) (fun _ _ hQ => PyProof.Rows.eq_bool (hQ s.toks)) (fun _ _ _ _ hQ => P.eq_int (hQ s.toks)) (fun _ _ _ _ hQ => PyProof.Rows.eq_str (hQ s.toks)) hQ
  cases x with
  | tuple xs => cases y with
    | tuple ys =>
      obtain ⟨l1, n1, i1, rfl, e1, v1⟩ := ha
      obtain ⟨l2, n2, i2, rfl, e2, v2⟩ := hb
      obtain ⟨hsz, e, he, _, hrr⟩ := tup_pair (l1 := l1) (l2 := l2) (n1 := n1) (n2 := n2) hf h v1 v2
      exact SeqAt.eq_tupleAt (e := e) (tup_at hz e1) (tup_at hz e2) h1 he (hrr ▸ hQ s.toks)
    | _ => exact rest h
  | list xs => cases y with
    | list ys =>
      obtain ⟨l1, n1, i1, rfl, e1, v1⟩ := ha
      obtain ⟨l2, n2, i2, rfl, e2, v2⟩ := hb
      have h : (bif xs.length == ys.length then eqs eq1 xs ys else some false) = some r := h
      rw [v1.length, v2.length] at h
      cases hlen : (i1.size == i2.size) with
      | false =>
        cases Option.some.inj ((congrArg (fun c => bif c then eqs eq1 xs ys else some false) hlen).symm.trans h)
        exact SeqAt.eq_list_lengthsAt (lst_at hz e1) (lst_at hz e2) (congrArg (!·) hlen) h1 (hQ s.toks)
      | true =>
        obtain ⟨hsz, e, he, hr, _⟩ := tup_pair (l1 := l1) (l2 := l2) (n1 := n1) (n2 := n2) hf ((congrArg (fun c => bif c then eqs eq1 xs ys else some false) hlen).symm.trans h) v1 v2
        exact SeqAt.eq_listAt (e := e) (lst_at hz e1) (lst_at hz e2) hsz h1 he (hr ▸ hQ s.toks)
    | _ => exact rest h
  | _ => exact rest h
theorem nev_sound {x y : PV} {r : Bool} {a b : Value} {E : Value → Shared → Prop} {Q : Value → Shared → Prop} (k : OkZ cx z) (hz : s.heap = z.h) (hu : A.units + 2 < cLine)
    (h : PV.eqv x y = some r) (ha : RV cx z x a) (hb : RV cx z y b) (hQ : ∀ tk, Q (.bool !r) { s with toks := tk }) : wpAny (model cx.prog cx.w) A (compareOp .NotEq a b) Q E s := by
  have h1 : A.units < cLine := Nat.lt_of_le_of_lt (Nat.le_add_right _ 2) hu
  have hf : ∀ x y r a b, eq1 x y = some r → VR cx z x a → VR cx z y b → SeqAt.EqAt A.in1 s a b r := fun x y r a b h ha hb => eq1_sound k hz (Nat.lt_of_le_of_lt (Nat.le_succ _) hu) h ha hb
  have rest : eqF x y = some r → wpAny (model cx.prog cx.w) A (compareOp .NotEq a b) Q E s := fun h =>
    eqF_el (C := fun _ _ r a b => (∀ tk, Q (.bool !r) { s with toks := tk }) → wpAny (model cx.prog cx.w) A (compareOp .NotEq a b) Q E s) h ha hb (fun hQ => SeqAt.RcNeAt.none_none cx.prog cx.w E Q (hQ s.toks)) (fun _ _ hQ => SeqAt.RcNeAt.bool_bool _ _ cx.prog cx.w E Q (hQ s.toks)) (fun _ _ _ _ hQ => P.ne_int (hQ s.toks)) (fun _ _ _ _ hQ => PyProof.Rows.ne_str (hQ s.toks)) hQ
  cases x with
  | tuple xs => cases y with
    | tuple ys =>
      obtain ⟨l1, n1, i1, rfl, e1, v1⟩ := ha
      obtain ⟨l2, n2, i2, rfl, e2, v2⟩ := hb
      obtain ⟨hsz, e, he, _, hrr⟩ := tup_pair (l1 := l1) (l2 := l2) (n1 := n1) (n2 := n2) hf h v1 v2
      exact SeqAt.RcNeAt.tuples (e := e) (tup_at hz e1) (tup_at hz e2) h1 he cx.prog cx.w E Q (hrr ▸ hQ s.toks)
    | _ => exact rest h
  | list xs => cases y with
    | list ys =>
      obtain ⟨l1, n1, i1, rfl, e1, v1⟩ := ha
      obtain ⟨l2, n2, i2, rfl, e2, v2⟩ := hb
      have h : (bif xs.length == ys.length then eqs eq1 xs ys else some false) = some r := h
      rw [v1.length, v2.length] at h
      cases hlen : (i1.size == i2.size) with
      | false =>
        cases Option.some.inj ((congrArg (fun c => bif c then eqs eq1 xs ys else some false) hlen).symm.trans h)
        exact SeqAt.RcNeAt.lists_lengths (lst_at hz e1) (lst_at hz e2) (congrArg (!·) hlen) h1 cx.prog cx.w E Q (hQ s.toks)
      | true =>
        obtain ⟨hsz, e, he, hr, _⟩ := tup_pair (l1 := l1) (l2 := l2) (n1 := n1) (n2 := n2) hf ((congrArg (fun c => bif c then eqs eq1 xs ys else some false) hlen).symm.trans h) v1 v2
        exact SeqAt.RcNeAt.lists (e := e) (lst_at hz e1) (lst_at hz e2) hsz h1 he cx.prog cx.w E Q (hr ▸ hQ s.toks)
    | _ => exact rest h
  | _ => exact rest h
theorem hasInt_sound {i : Int} {t : Tok} {xs : List PV} : ∀ {vs : List Value} {r : Bool}, hasInt i xs = some r → VRs cx z xs vs →
    ∃ e : Value → Bool, (∀ v ∈ vs, ∃ j u, v = .int j u ∧ e v = (j == i)) ∧ vs.any e = r := by
  intro vs r h hv
  have key : ∀ {vs : List Value} {r : Bool}, hasInt i xs = some r → VRs cx z xs vs → (∀ v ∈ vs, ∃ j u, v = .int j u) ∧ vs.any (fun v => match v with | .int j _ => j == i | _ => false) = r := by
    clear h hv vs r
    induction xs with
    | nil => exact fun {vs r} h hv => hv.nil_el (C := fun vs => (∀ v ∈ vs, ∃ j u, v = .int j u) ∧ vs.any (fun v => match v with | .int j _ => j == i | _ => false) = r) ⟨fun v hm => absurd hm List.not_mem_nil, Option.some.inj h⟩
    | cons x xs ih =>
      intro vs r h hv
      refine hv.cons_el (C := fun vs => (∀ v ∈ vs, ∃ j u, v = .int j u) ∧ vs.any (fun v => match v with | .int j _ => j == i | _ => false) = r) fun a us ha hs => ?_
      cases x with
      | int j =>
        cases ha with
        | int _ u =>
          obtain ⟨q, hq, rfl⟩ := Option.map_eq_some_iff.mp h
          obtain ⟨g1, g2⟩ := ih hq hs
          exact ⟨fun v hm => (List.mem_cons.mp hm).elim (fun e => ⟨j, u, e⟩) (g1 v), by rw [List.any_cons, g2]; exact congrArg (· || q) Bool.beq_comm⟩
      | _ => exact nn h
  obtain ⟨g1, g2⟩ := key h hv
  exact ⟨_, fun v hm => (g1 v hm).elim fun j e => e.elim fun u e => ⟨j, u, e, by rw [e]⟩, g2⟩
theorem ints_cmp {op : CmpOp} {g : Int → Int → Bool} {a b : PV} {r : Bool} {x y : Value} {E : Value → Shared → Prop} {Q : Value → Shared → Prop} (h : (match a with
      | .int x => match b with
        | .int y => some (g x y)
        | _ => none
      | _ => none) = some r) (ha : RV cx z a x) (hb : RV cx z b y) (k : ∀ i j t u, Q (.bool (g i j)) s → wpAny (model cx.prog cx.w) A (compareOp op (.int i t) (.int j u)) Q E s) (hQ : Q (.bool r) s) : wpAny (model cx.prog cx.w) A (compareOp op x y) Q E s := by
  cases a with
  | int i => cases b with
    | int j => obtain ⟨t, rfl⟩ := ha; obtain ⟨u, rfl⟩ := hb; exact k i j t u (Option.some.inj h ▸ hQ)
    | _ => exact nn h
  | _ => exact nn h
theorem cmp_sound {op : CmpOp} {a b : PV} {r : Bool} {x y : Value} (h : pcmp op a b = some r) (k : OkZ cx z) (hz : s.heap = z.h) (hu : A.units + 2 < cLine) (ha : RV cx z a x) (hb : RV cx z b y)
    {E : Value → Shared → Prop} {Q : Value → Shared → Prop} (hQ : ∀ tk, Q (.bool r) { s with toks := tk }) : wpAny (model cx.prog cx.w) A (compareOp op x y) Q E s := by
  cases op with
  | Eq => exact eqv_sound k hz hu h ha hb hQ
  | NotEq =>
    obtain ⟨c, he, rfl⟩ := Option.map_eq_some_iff.mp h
    exact nev_sound k hz hu he ha hb hQ
  | Lt => exact ints_cmp (g := fun x y => decide (x < y)) h ha hb (fun _ _ _ _ hQ => P.lt_int hQ) (hQ s.toks)
  | LtE => exact ints_cmp (g := fun x y => decide (x ≤ y)) h ha hb (fun _ _ _ _ hQ => P.le_int hQ) (hQ s.toks)
  | Gt => exact ints_cmp (g := fun x y => decide (y < x)) h ha hb (fun _ _ _ _ hQ => P.gt_int hQ) (hQ s.toks)
  | GtE => exact ints_cmp (g := fun x y => decide (y ≤ x)) h ha hb (fun _ _ _ _ hQ => P.ge_int hQ) (hQ s.toks)
  | Is => cases a with
    | bool p => cases b with
      | bool q => cases Option.some.inj h; cases (ha : x = .bool p); cases (hb : y = .bool q); exact PyProof.Rows.is_bool (hQ s.toks)
      | _ => exact nn h
    | _ => exact nn h
  | IsNot => cases b with
    | none =>
      cases (hb : y = .none)
      cases a with
      | none => cases Option.some.inj h; cases (ha : x = .none); exact isNot_none (hQ s.toks)
      | str l => cases Option.some.inj h; obtain ⟨s1, t, rfl, rfl⟩ := ha; exact isNot_none (hQ s.toks)
      | _ => exact nn h
    | _ => exact nn h
  | In => cases a with
    | int i => cases b with
      | list ys =>
        obtain ⟨t, rfl⟩ := ha
        obtain ⟨l1, n1, i1, rfl, e1, v1⟩ := hb
        obtain ⟨e, he, hr⟩ := hasInt_sound (t := t) h v1
        refine SeqAt.in_listAt e (lst_at hz e1) (fun v hv => ?_) ?_
        · obtain ⟨j, u, rfl, hj⟩ := he v (Array.mem_toList_iff.mpr hv)
          rw [hj]; exact SeqAt.EqAt.int_int _ _ _ _
        · rw [← Array.any_toList, hr]; exact hQ s.toks
      | _ => exact nn h
    | _ => exact nn h
  | NotIn => exact nn h
end
end Mine
end
section
namespace Mine
open PySem
theorem FRel.vr {prog : Program} {w : World} {σ : List Addr} {B : Addr → Option Obj} {v : PV} {x : Value} (h : FRel v x) : VRel prog w σ B v x := by
  cases v with
  | int i => cases x with
    | int j t => exact (show i = j from h) ▸ .int i t
    | _ => exact h.elim
  | str l => cases x with
    | str s t => exact .str l s t h
    | _ => exact h.elim
  | _ => exact h.elim
theorem valueAt_self {K : Type} [DecidableEq K] (k : K) (x : Value) (r : List (K × Value)) : valueAt ((k, x) :: r) k = some x := by simp [valueAt]
theorem valueAt_ne {K : Type} [DecidableEq K] {j k : K} (h : j ≠ k) (x : Value) (r : List (K × Value)) : valueAt ((j, x) :: r) k = valueAt r k := by simp [valueAt, List.find?_cons, h]
theorem EI.get {es : List (PV × PV)} : ∀ {kvs : List (Int × Value)} {i : Int} {r : Option PV}, EI es kvs → assocI i es = some r →
    (r = none ∧ valueAt kvs i = none) ∨ ∃ v x, r = some v ∧ valueAt kvs i = some x ∧ FRel v x := by
  induction es with
  | nil => exact fun {kvs i r} h e => by cases kvs with | nil => exact .inl ⟨(Option.some.inj e).symm, rfl⟩ | cons => exact h.elim
  | cons p es ih =>
    intro kvs i r h e
    cases kvs with
    | nil => exact h.elim
    | cons q kvs =>
      obtain ⟨k, v⟩ := p
      obtain ⟨j, x⟩ := q
      have hk : k = .int j := h.1
      subst hk
      have e : (bif i == j then some (some v) else assocI i es) = some r := e
      cases hb : i == j with
      | true =>
        rw [hb] at e
        rw [beq_iff_eq.mp hb, valueAt_self]
        exact .inr ⟨v, x, (Option.some.inj e).symm, rfl, h.2.1⟩
      | false =>
        rw [hb] at e
        rw [valueAt_ne (Ne.symm (beq_eq_false_iff_ne.mp hb))]
        exact ih h.2.2 e
theorem str_ext {a b : Str} (h : a.cps.toList = b.cps.toList) : a = b := by
  cases a; cases b; simp only [Str.mk.injEq]; exact Array.toList_inj.mp h
theorem ES.get {es : List (PV × PV)} : ∀ {kvs : List (Str × Value)} {i : Str} {r : Option PV}, ES es kvs → assocS i.cps.toList es = some r →
    (r = none ∧ valueAt kvs i = none) ∨ ∃ v x, r = some v ∧ valueAt kvs i = some x ∧ FRel v x := by
  induction es with
  | nil => exact fun {kvs i r} h e => by cases kvs with | nil => exact .inl ⟨(Option.some.inj e).symm, rfl⟩ | cons => exact h.elim
  | cons p es ih =>
    intro kvs i r h e
    cases kvs with
    | nil => exact h.elim
    | cons q kvs =>
      obtain ⟨k, v⟩ := p
      obtain ⟨j, x⟩ := q
      have hk : k = .str j.cps.toList := h.1
      subst hk
      have e : (bif i.cps.toList == j.cps.toList then some (some v) else assocS i.cps.toList es) = some r := e
      cases hb : i.cps.toList == j.cps.toList with
      | true =>
        rw [hb] at e
        rw [str_ext (beq_iff_eq.mp hb), valueAt_self]
        exact .inr ⟨v, x, (Option.some.inj e).symm, rfl, h.2.1⟩
      | false =>
        rw [hb] at e
        rw [valueAt_ne fun hh => beq_eq_false_iff_ne.mp hb (congrArg (fun s : Str => s.cps.toList) hh.symm)]
        exact ih h.2.2 e
theorem stored_cons {K : Type} [DecidableEq K] (j k : K) (x y : Value) (r : List (K × Value)) (hn : (((j, y) :: r).map (·.1)).Nodup) :
    stored ((j, y) :: r) k x = if j = k then (j, x) :: r else (j, y) :: stored r k x := by
  by_cases h : j = k
  · subst h
    rw [List.map_cons, List.nodup_cons] at hn
    have : (r.map fun kv => if kv.1 = j then (kv.1, x) else kv) = r := by
      rw [List.map_congr_left (g := id)]
      · simp
      · intro a ha
        have : a.1 ≠ j := fun e => hn.1 (List.mem_map.mpr ⟨a, ha, e⟩)
        simp [this]
    simp [stored, this]
  · simp only [stored, List.any_cons, h, decide_false, Bool.false_or, if_false, List.map_cons]
    split <;> rfl
theorem EI.put {es : List (PV × PV)} : ∀ {kvs : List (Int × Value)} {i : Int} {v : PV} {x : Value}, EI es kvs → (kvs.map (·.1)).Nodup → FRel v x → EI (putI i v es) (stored kvs i x) := by
  induction es with
  | nil => exact fun {kvs i v x} h _ hv => by cases kvs with | nil => exact ⟨rfl, hv, trivial⟩ | cons => exact h.elim
  | cons p es ih =>
    intro kvs i v x h hn hv
    cases kvs with
    | nil => exact h.elim
    | cons q kvs =>
      obtain ⟨k, u⟩ := p
      obtain ⟨j, y⟩ := q
      have hk : k = .int j := h.1
      subst hk
      rw [stored_cons _ _ _ _ _ hn]
      show EI (bif i == j then _ else _) _
      cases hb : i == j with
      | true => rw [if_pos (beq_iff_eq.mp hb).symm]; exact ⟨rfl, hv, h.2.2⟩
      | false => rw [if_neg (Ne.symm (beq_eq_false_iff_ne.mp hb))]; exact ⟨rfl, h.2.1, ih h.2.2 (List.nodup_cons.mp hn).2 hv⟩
theorem ES.put {es : List (PV × PV)} : ∀ {kvs : List (Str × Value)} {i : Str} {v : PV} {x : Value}, ES es kvs → (kvs.map (·.1)).Nodup → FRel v x → ES (putS i.cps.toList v es) (stored kvs i x) := by
  induction es with
  | nil => exact fun {kvs i v x} h _ hv => by cases kvs with | nil => exact ⟨rfl, hv, trivial⟩ | cons => exact h.elim
  | cons p es ih =>
    intro kvs i v x h hn hv
    cases kvs with
    | nil => exact h.elim
    | cons q kvs =>
      obtain ⟨k, u⟩ := p
      obtain ⟨j, y⟩ := q
      have hk : k = .str j.cps.toList := h.1
      subst hk
      rw [stored_cons _ _ _ _ _ hn]
      show ES (bif i.cps.toList == j.cps.toList then _ else _) _
      cases hb : i.cps.toList == j.cps.toList with
      | true => rw [if_pos (str_ext (beq_iff_eq.mp hb)).symm]; exact ⟨rfl, hv, h.2.2⟩
      | false => rw [if_neg fun hh => beq_eq_false_iff_ne.mp hb (congrArg (fun s : Str => s.cps.toList) hh.symm)]; exact ⟨rfl, h.2.1, ih h.2.2 (List.nodup_cons.mp hn).2 hv⟩
theorem EI.length {es : List (PV × PV)} : ∀ {kvs : List (Int × Value)}, EI es kvs → es.length = kvs.length := by
  induction es with
  | nil => exact fun {kvs} h => by cases kvs with | nil => rfl | cons => exact h.elim
  | cons p es ih => exact fun {kvs} h => by cases kvs with | nil => exact h.elim | cons q kvs => exact congrArg (· + 1) (ih h.2.2)
theorem ES.length {es : List (PV × PV)} : ∀ {kvs : List (Str × Value)}, ES es kvs → es.length = kvs.length := by
  induction es with
  | nil => exact fun {kvs} h => by cases kvs with | nil => rfl | cons => exact h.elim
  | cons p es ih => exact fun {kvs} h => by cases kvs with | nil => exact h.elim | cons q kvs => exact congrArg (· + 1) (ih h.2.2)
theorem DictOf.nodup {K : Type} [DecidableEq K] {prog : Program} {w : World} {knd : KeyKind prog w K} {h : Heap} {a : Addr} {kvs : List (K × Value)} (x : h.DictOf knd a kvs) : (kvs.map (·.1)).Nodup :=
  x.elim fun _ x => x.elim fun _ x => x.elim fun _ x => x.2.2.2.2.2
theorem DictOf.other {K L : Type} [DecidableEq K] [DecidableEq L] {prog : Program} {w : World} {knd : KeyKind prog w K} (knd' : KeyKind prog w L) {h : Heap} {a : Addr} (x : h.DictOf knd a []) : h.DictOf knd' a [] := by
  obtain ⟨o, es, ep, ho, hc, hd, hk, hp, hn⟩ := x
  have hes : es.toList = [] := by cases hp' : es.toList with | nil => rfl | cons _ _ => rw [hp'] at hp; cases hp
  have hes' : es = #[] := by simpa using hes
  subst hes'
  exact ⟨o, #[], ep, ho, hc, hd, fun _ he => by simp at he, .nil, List.nodup_nil⟩
theorem DRel.int {prog : Program} {w : World} {es : List (PV × PV)} {o : Obj} {i : Int} {r : Option PV} (h : DRel prog w es o) (e : assocI i es = some r) :
    ∃ kvs, DObj (intKind prog w) o kvs ∧ EI es kvs := by
  cases h with
  | ik kvs hd he => exact ⟨kvs, hd, he⟩
  | sk kvs hd he =>
    cases es with
    | nil => cases kvs with | nil => exact ⟨[], fun h a ho => DictOf.other _ (hd h a ho), trivial⟩ | cons => exact he.elim
    | cons p es => cases kvs with
      | nil => exact he.elim
      | cons q kvs =>
        have e : (match p.1 with
          | .int j => bif i == j then some (some p.2) else assocI i es
          | _ => none) = some r := e
        rw [he.1] at e; exact nn e
theorem DRel.str {prog : Program} {w : World} {es : List (PV × PV)} {o : Obj} {l : List Nat} {r : Option PV} (h : DRel prog w es o) (e : assocS l es = some r) :
    ∃ kvs, DObj (strKind prog w) o kvs ∧ ES es kvs := by
  cases h with
  | sk kvs hd he => exact ⟨kvs, hd, he⟩
  | ik kvs hd he =>
    cases es with
    | nil => cases kvs with | nil => exact ⟨[], fun h a ho => DictOf.other _ (hd h a ho), trivial⟩ | cons => exact he.elim
    | cons p es => cases kvs with
      | nil => exact he.elim
      | cons q kvs =>
        have e : (match p.1 with
          | .str j => bif l == j then some (some p.2) else assocS l es
          | _ => none) = some r := e
        rw [he.1] at e; exact nn e
section
variable {cx : Cx} {z : Z} {A : Around} {s : Shared}
theorem seqIndex_nat {i : Int} {n : Nat} (h0 : 0 ≤ i) (h1 : i.toNat < n) : seqIndex? i n = some i.toNat := by
  unfold seqIndex?
  simp only [if_neg (Int.not_lt.mpr h0)]
  exact if_pos (by rw [decide_eq_true h0, decide_eq_true ((Int.toNat_lt h0).mp h1)]; rfl)
theorem getElem_arr {items : Array Value} {i : Nat} {x : Value} (h : items.toList[i]? = some x) : items[i]? = some x := (Array.getElem?_toList ..).symm.trans h
theorem lim_int {i : Int} (h : i ≤ lim) : i < 2 ^ 63 := Int.lt_of_le_of_lt h (by decide)
theorem dict_look {k' : PV} {es : List (PV × PV)} {r : Option PV} {y : Value} {o : Obj} (hd : DRel cx.prog cx.w es o) (hb : RV cx z k' y) (h : assoc k' es = some r) :
    ∃ (K : Type) (_ : DecidableEq K) (knd : KeyKind cx.prog cx.w K) (k : K) (f : K → Option Value), knd.is k y = true ∧ (∀ (s' : Shared) d, s'.heap.get? d = some o → s'.heap.MapOf knd d f ∧ s'.TypeIs (.ref d) "dict") ∧ ((r = none ∧ f k = none) ∨ ∃ v x, r = some v ∧ f k = some x ∧ FRel v x) := by
  cases k' with
  | int i =>
    obtain ⟨t, rfl⟩ := hb
    obtain ⟨kvs, hD, hE⟩ := hd.int h
    exact ⟨_, _, intKind cx.prog cx.w, i, _, beq_self_eq_true i, fun s' d e => ⟨Heap.DictOf.mapOf (hD _ _ e), (hD s'.heap _ e : s'.heap.DictOf _ _ _).typeIs⟩, hE.get h⟩
  | str l =>
    obtain ⟨s1, t, rfl, rfl⟩ := hb
    obtain ⟨kvs, hD, hE⟩ := hd.str h
    exact ⟨_, _, strKind cx.prog cx.w, s1, _, beq_self_eq_true s1, fun s' d e => ⟨Heap.DictOf.mapOf (hD _ _ e), (hD s'.heap _ e : s'.heap.DictOf _ _ _).typeIs⟩, hE.get h⟩
  | _ => exact nn h
theorem idx_sound {a b v : PV} {x y : Value} (h : pidx a b = some v) (k : OkZ cx z) (hz : s.heap = z.h) (ha : RV cx z a x) (hb : RV cx z b y) :
    Runs cx A (getItem x y) z v z.st s := by
  cases a with
  | list xs => cases b with
    | int i =>
      obtain ⟨l, n, items, rfl, e1, v1⟩ := ha
      obtain ⟨t, rfl⟩ := hb
      refine bif_el h fun hc h => an hc fun h0 h1 => ?_
      obtain ⟨u, hu, hv⟩ := v1.get (i := i.toNat) h
      exact .val k hz hv fun E Q hQ => wpAny_getItem_list (lst_at hz e1) (dt h0) (lim_int (dt h1)) (getElem_arr hu) (hQ s.toks)
    | _ => exact nn h
  | tuple xs => cases b with
    | int i =>
      obtain ⟨l, n, items, rfl, e1, v1⟩ := ha
      obtain ⟨t, rfl⟩ := hb
      refine bif_el h fun hc h => an hc fun h0 h1 => ?_
      obtain ⟨u, hu, hv⟩ := v1.get (i := i.toNat) h
      exact .val k hz hv fun E Q hQ => PyProof.Rows.getItem_tuple (tup_at hz e1) (Int.le_trans (by decide) (dt h0)) (lim_int (dt h1)) (seqIndex_nat (dt h0) (List.getElem?_eq_some_iff.mp hu).1) (getElem_arr hu) (hQ s.toks)
    | _ => exact nn h
  | str l => cases b with
    | int i =>
      obtain ⟨s1, t, rfl, rfl⟩ := ha
      obtain ⟨u, rfl⟩ := hb
      refine bif_el h fun hc h => an hc fun hc h1 => an hc fun _ h0 => ?_
      obtain ⟨c, hc', rfl⟩ := Option.map_eq_some_iff.mp h
      refine .str (y := ⟨#[c]⟩) k hz rfl fun E Q hQ => PyProof.Rows.getItem_str ?_ ?_ (hQ _ _)
      · exact Bool.or_eq_false_iff.mpr ⟨decide_eq_false (Int.not_lt.mpr (Int.le_trans (by decide) (dt h0))), decide_eq_false (Int.not_le.mpr (lim_int (dt h1)))⟩
      · rw [str_len]; exact (Option.bind_congr fun _ _ => (Array.getElem?_toList ..).symm).trans hc'
    | _ => exact nn h
  | dict es =>
    obtain ⟨d, o, rfl, ho, hd, _⟩ := ha
    cases he : assoc b es with
    | none => exact nn ((show (match assoc b es with | some o => o | none => none) = some v from h).symm.trans (by rw [he])).symm
    | some r =>
      cases ((show (match assoc b es with | some o => o | none => none) = r by rw [he]).symm.trans h)
      obtain ⟨K, inst, knd, kk, f, h1, h2, h3⟩ := dict_look hd hb he
      rcases h3 with ⟨e, _⟩ | ⟨v1, x1, e1, e2, hF⟩
      · exact nn e.symm
      · cases Option.some.inj e1
        exact .val k hz (FRel.vr hF) fun E Q hQ => wpAny_getItem_of (knd := knd) (k := kk) h1 (h2 s d (by rw [hz]; exact ho)).1 e2 (hQ _)
  | _ => exact nn h
end
end Mine
end
section
namespace Mine
open PySem
section
variable {cx : Cx} {z : Z} {A : Around} {s : Shared}
theorem RV.grow {v : PV} {x : Value} {h' : Heap} (h : RV cx z v x) (hk : ∀ a o, z.h.get? a = some o → h'.get? a = some o) : RV cx { z with h := h' } v x := by
  cases v with
  | list xs => exact h.imp fun a h => h.imp fun n h => h.imp fun i h => ⟨h.1, hk _ _ h.2.1, h.2.2⟩
  | tuple xs => exact h.imp fun a h => h.imp fun n h => h.imp fun i h => ⟨h.1, hk _ _ h.2.1, h.2.2⟩
  | dict es => exact h.imp fun a h => h.imp fun o h => ⟨h.1, hk _ _ h.2.1, h.2.2⟩
  | rng lo n st => exact h.imp fun a h => h.imp fun hi h => h.imp fun t h => h.imp fun u h => h.imp fun v h => ⟨h.1, hk _ _ h.2.1, h.2.2⟩
  | _ => exact h
theorem VRs.pick {xs : List PV} {vs : List Value} (h : VRs cx z xs vs) (ids : List Nat) : VRs cx z (ids.filterMap (xs[·]?)) (ids.filterMap (vs[·]?)) := by
  induction ids with
  | nil => exact .nil
  | cons i ids ih =>
    cases hx : xs[i]? with
    | some x =>
      obtain ⟨v, hv, hr⟩ := VRels.get (i := i) h hx
      rw [List.filterMap_cons_some hx, List.filterMap_cons_some hv]
      exact .cons hr ih
    | none =>
      rw [List.filterMap_cons_none hx, List.filterMap_cons_none (List.getElem?_eq_none_iff.mpr (VRels.length h ▸ List.getElem?_eq_none_iff.mp hx))]
      exact ih
theorem bounds_eq (lo hi st : Option Int) (n : Nat) : sliceRange (sliceBounds lo hi st n).1 (sliceBounds lo hi st n).2.1 (sliceBounds lo hi st n).2.2 = Builtin.Str.strSliceIndices lo hi (st.getD 1) n := by
  cases lo <;> cases hi <;> rfl
theorem clip (n : Nat) (i : Int) : ∃ a : Nat, a ≤ n ∧ max 0 (min (if i < 0 then i + n else i) (n : Int)) = (a : Int) :=
  have h0 := Int.le_max_left 0 (min (if i < 0 then i + n else i) (n : Int))
  have h1 : max 0 (min (if i < 0 then i + n else i) (n : Int)) ≤ n := Int.max_le.mpr ⟨Int.natCast_nonneg n, Int.min_le_right ..⟩
  ⟨_, Int.toNat_le.mpr h1, (Int.toNat_of_nonneg h0).symm⟩
noncomputable def cutAt (n : Nat) (d : Nat) (o : Option Int) : Int := match o with
  | some i => max 0 (min (if i < 0 then i + n else i) (n : Int))
  | none => d
theorem cutAt_nat (n d : Nat) (hd : d ≤ n) (o : Option Int) : ∃ a : Nat, a ≤ n ∧ cutAt n d o = (a : Int) := by
  cases o with
  | none => exact ⟨d, hd, rfl⟩
  | some i => exact clip n i
theorem ssi_one (lo hi : Option Int) (n : Nat) : Builtin.Str.strSliceIndices lo hi 1 n = sliceRange (cutAt n 0 lo) (cutAt n n hi) 1 := by
  cases lo <;> cases hi <;> rfl
theorem ssi_ends (lo hi : Option Int) (n : Nat) : ∃ a b : Nat, b ≤ n ∧ Builtin.Str.strSliceIndices lo hi 1 n = sliceRange (a : Int) (b : Int) 1 := by
  obtain ⟨a, _, e⟩ := cutAt_nat n 0 (Nat.zero_le _) lo
  obtain ⟨b, hb, e'⟩ := cutAt_nat n n (Nat.le_refl _) hi
  exact ⟨a, b, hb, by rw [ssi_one, e, e']⟩
theorem indices_whole {lo hi : Option Int} {n : Nat} (h : (Builtin.Str.strSliceIndices lo hi 1 n).length = n) : Builtin.Str.strSliceIndices lo hi 1 n = List.range n := by
  obtain ⟨a, b, hb, e⟩ := ssi_ends lo hi n
  rw [e, sliceRange_one] at h ⊢
  rw [List.length_map, List.length_range] at h
  have h1 : b - a = n := h
  rw [h1]
  have h0 : a = 0 ∨ n = 0 := by omega
  rcases h0 with rfl | rfl
  · exact (List.map_congr_left fun x _ => Nat.zero_add x).trans (List.map_id' _)
  · rfl
theorem pick_range {α : Type} (l : List α) : (List.range l.length).filterMap (l[·]?) = l := by
  induction l with
  | nil => rfl
  | cons x r ih =>
    rw [List.length_cons, List.range_succ_eq_map, List.filterMap_cons_some (f := fun j => (x :: r)[j]?) (a := 0) (b := x) rfl, List.filterMap_map]
    exact congrArg (x :: ·) ih
noncomputable def sliceObj (l u c : Value) : Obj := { cls := .type "slice", data := .fields #[l, u, c] }
theorem partO_sound {l : PV} {x : Value} {r : Option Int} (h : partO l = some r) (hl : RV cx z l x) : ∃ q : Option (Int × Tok), x = partValue q ∧ q.map (·.1) = r ∧ IsPart x r := by
  cases l with
  | none => cases Option.some.inj h; cases (hl : x = .none); exact ⟨none, rfl, rfl, .none⟩
  | int i => cases Option.some.inj h; obtain ⟨t, rfl⟩ := hl; exact ⟨some (_, t), rfl, rfl, .int _ t⟩
  | _ => exact nn h
theorem pslice_el {v lo hi st r : PV} {P : Prop} (h : pslice v lo hi st = some r) (ks : ∀ l a b, v = .str l → partO lo = some a → partO hi = some b → partO st = some none → l.length ≤ lim → .str (Mine.pick l a b 1) = r → P)
    (kl : ∀ l a b c, v = .list l → partO lo = some a → partO hi = some b → partO st = some c → c ≠ some 0 → l.length ≤ lim → .list (Mine.pick l a b (c.getD 1)) = r → P) : P := by
  unfold pslice at h
  cases h1 : partO lo with
  | none => rw [h1] at h; exact nn h
  | some a => cases h2 : partO hi with
    | none => rw [h1, h2] at h; exact nn h
    | some b => cases h3 : partO st with
      | none => rw [h1, h2, h3] at h; exact nn h
      | some c =>
        rw [h1, h2, h3] at h
        cases v with
        | str l => cases c with
          | none => exact bif_el h fun h4 h5 => ks l a b rfl h1 h2 h3 (dt h4) (Option.some.inj h5)
          | some c => exact nn h
        | list l => exact bif_el h fun h4 h5 => an h4 fun h4 h6 => kl l a b c rfl h1 h2 h3 (dt h4) (dt h6) (Option.some.inj h5)
        | _ => exact nn h
theorem slice_str {l : List Nat} {p' q' : Option (Int × Tok)} {x : Value} (hle : l.length ≤ lim) (k : OkZ cx z) (hz : s.heap = z.h) (ha : RV cx z (.str l) x) {i : Addr} (hsl : s.heap.IsSlice i p' q' none) :
    Runs cx A (getItem x (.ref i)) z (.str (Mine.pick l (p'.map (·.1)) (q'.map (·.1)) 1)) z.st s := by
  obtain ⟨s1, t, rfl, rfl⟩ := ha
  have hlen := str_len s1
  have epk : (slicePicked s1 p' q' none).filterMap (s1.cps[·]?) = Mine.pick s1.cps.toList (p'.map (·.1)) (q'.map (·.1)) 1 := by
    unfold Mine.pick
    rw [← hlen]
    exact congrArg (fun f => List.filterMap f (slicePicked s1 p' q' none)) (funext fun j => (Array.getElem?_toList ..).symm)
  by_cases hf : (((Option.map (fun x : Int × Tok => x.1) none).getD 1 == 1 && (slicePicked s1 p' q' none).length == s1.length)) = true
  · refine .pure k hz fun E Q hQ => wpAny_getItem_str_slice hsl (by decide) ?_
    unfold sliceMade
    rw [if_pos hf]
    refine hQ _ _ (.str _ s1 t ?_)
    have h2 : (slicePicked s1 p' q' none).length = s1.length := beq_iff_eq.mp (Bool.and_eq_true_iff.mp hf).2
    unfold Mine.pick
    rw [← hlen, show Builtin.Str.strSliceIndices (p'.map (·.1)) (q'.map (·.1)) 1 s1.length = List.range s1.length from indices_whole h2, hlen]
    exact (pick_range _).symm
  · refine .str (y := ⟨((slicePicked s1 p' q' none).filterMap (s1.cps[·]?)).toArray⟩) k hz epk fun E Q hQ => wpAny_getItem_str_slice hsl (by decide) ?_
    unfold sliceMade
    rw [if_neg hf]
    refine ⟨?_, hQ _ _⟩
    show ((slicePicked s1 p' q' none).filterMap (s1.cps[·]?)).toArray.size ≤ _
    rw [List.size_toArray]
    exact Nat.le_trans (List.length_filterMap_le _ _) (Nat.le_trans (PyProof.Rows.indices_len_le (p'.map (·.1)) (q'.map (·.1)) s1.length) (lim_le (hlen ▸ hle)))
theorem slice_sound {a l u c v : PV} {x vl vu vc : Value} (h : pslice a l u c = some v) (k : OkZ cx z) (hz : s.heap = z.h) (ha : RV cx z a x) (hl : RV cx z l vl) (hu : RV cx z u vu) (hc : RV cx z c vc) :
    Runs cx A (getItem x (.ref s.heap.objs.size)) { z with h := s.heap.push (sliceObj vl vu vc) } v z.st { s with heap := s.heap.push (sliceObj vl vu vc) } := by
  have hk : ∀ b o, z.h.get? b = some o → (s.heap.push (sliceObj vl vu vc)).get? b = some o := fun b o e => by rw [hz]; exact Heap.get?_push_of_some _ e
  have k1 : OkZ cx { z with h := s.heap.push (sliceObj vl vu vc) } := k.keep fun b o e _ => hk b o e
  have ha1 : RV cx { z with h := s.heap.push (sliceObj vl vu vc) } a x := ha.grow hk
  refine pslice_el h (fun w p q e hp hq hr hle ev => ?_) fun w p q r e hp hq hr h0 hle ev => ?_
  · obtain ⟨p', ep, rfl, _⟩ := partO_sound hp hl
    obtain ⟨q', eq, rfl, _⟩ := partO_sound hq hu
    obtain ⟨r', er, er', _⟩ := partO_sound hr hc
    subst ev; subst e
    have er : vc = partValue none := by cases r' with | none => exact er | some => cases er'
    exact slice_str (A := A) hle k1 rfl ha1 ⟨_, Heap.get?_push_size _ rfl, rfl, by rw [ep, eq, er]; rfl⟩
  · obtain ⟨_, _, _, ip⟩ := partO_sound hp hl
    obtain ⟨_, _, _, iq⟩ := partO_sound hq hu
    obtain ⟨_, _, _, ir⟩ := partO_sound hr hc
    subst ev; subst e
    obtain ⟨l1, n1, items, rfl, e1, v1⟩ := ha1
    have g1 : w.length = items.size := v1.length
    refine Runs.newList (items := slicePick items p q r) (n := 0) k1 rfl ?_ fun E Q hQ => ?_
    · have e2 : (slicePick items p q r).toList = (Builtin.Str.strSliceIndices p q (r.getD 1) w.length).filterMap (items.toList[·]?) := by
        unfold slicePick
        rw [bounds_eq, g1]
        exact congrArg (fun f => List.filterMap f (Builtin.Str.strSliceIndices p q (r.getD 1) items.size)) (funext fun j => (Array.getElem?_toList ..).symm)
      rw [e2]; exact VRs.pick v1 _
    · exact wpAny_getItem_list_slice (lst_at rfl e1) (Heap.IsSliceOf.new ..) ip iq ir h0 (hQ _) (lim_le (g1 ▸ hle))
theorem thenW {M : Model} {A : Around} {E : Value → Shared → Prop} {s : Shared} {α β : Type} {x : Sem α} {f : α → Sem β} {P : α → Shared → Prop} {Q : β → Shared → Prop} (hx : wpAny M A x P E s)
    (hf : ∀ a t, P a t → wpAny M A (f a) Q E t) : wpAny M A (x >>= f) Q E s := wpAny_bind (wpAny_mono hx hf fun _ _ e => e)
theorem subscripted_f (slice : Expr) (o i : Value) : ∃ vs, subscripted slice false o i = operate vs (getItem o i) := by
  cases slice with
  | Slice l u s p => cases s <;> exact ⟨_, rfl⟩
  | _ => exact ⟨_, rfl⟩
noncomputable abbrev Subs (s : Shared) (o : Value) : Prop := ∃ T id, s.TypeIs o T ∧ typeLookup (.type T) "__getitem__" = pure (some (.builtin id))
theorem wpAny_Sub {env : Env} {value slice : Expr} {pos : Pos} {E Q : Value → Shared → Prop} {prog : Program} {w : World}
    (h : wpAny (model prog w) A (eval value env) (fun o => wpAny (model prog w) A (eval slice env) (fun i t => Subs t o ∧ wpAny (model prog w) A (getItem o i) Q E t) E) E s) :
    wpAny (model prog w) A (eval (.Subscript value slice pos) env) Q E s := by
  have own : ∀ {o t}, Subs t o → wpAny (model prog w) A (getitemInPython o) (fun py t' => py = false ∧ t' = t) E t := fun ⟨T, id, hT, hl⟩ =>
    getitemInPython_of_ne hT.not_modules ▸ wpAny_bind (wpAny_specialOf hT hl (wpAny_pure ⟨rfl, rfl⟩))
  refine eval_Subscript (env := env) value slice pos ▸ thenW h fun o t g => thenW (wpAny_holding g) fun i t g => wpAny_bind (wpAny_standAt (thenW (own g.1) ?_))
  rintro _ _ ⟨rfl, rfl⟩
  obtain ⟨vs, e⟩ := subscripted_f slice o i
  exact e ▸ thenW (wpAny_operating g.2) fun r t g => wpAny_bind (wpAny_letTemporaryGo (wpAny_pure g))
theorem item_type {a : PV} {x : Value} (hz : s.heap = z.h) (h : RV cx z a x) (ha : (∃ l, a = .str l) ∨ (∃ l, a = .list l) ∨ (∃ l, a = .tuple l) ∨ (∃ l, a = .dict l)) :
    ∃ T id, s.TypeIs x T ∧ typeLookup (.type T) "__getitem__" = pure (some (.builtin id)) := by
  rcases ha with ⟨l, rfl⟩ | ⟨l, rfl⟩ | ⟨l, rfl⟩ | ⟨l, rfl⟩
  · obtain ⟨y, t, rfl, _⟩ := h; exact ⟨"str", _, rfl, F.slot_str_getitem.lookup⟩
  · obtain ⟨a, n, items, rfl, e, _⟩ := h; exact ⟨"list", _, (lst_at hz e).typeIs, list_getitem_lookup⟩
  · obtain ⟨a, n, items, rfl, e, _⟩ := h; exact ⟨"tuple", _, ⟨_, by rw [hz]; exact e, rfl⟩, F.slot_tuple_getitem.lookup⟩
  · obtain ⟨a, o, rfl, e, hd, _⟩ := h
    cases hd with
    | ik kvs hD _ => exact ⟨"dict", _, (hD _ _ (by rw [hz]; exact e) : s.heap.DictOf _ _ _).typeIs, F.slot_dict_getitem.lookup⟩
    | sk kvs hD _ => exact ⟨"dict", _, (hD _ _ (by rw [hz]; exact e) : s.heap.DictOf _ _ _).typeIs, F.slot_dict_getitem.lookup⟩
theorem pidx_kind {a b v : PV} (h : pidx a b = some v) : (∃ l, a = .str l) ∨ (∃ l, a = .list l) ∨ (∃ l, a = .tuple l) ∨ (∃ l, a = .dict l) := by
  cases a with
  | list l => exact .inr (.inl ⟨_, rfl⟩)
  | tuple l => exact .inr (.inr (.inl ⟨_, rfl⟩))
  | str l => exact .inl ⟨_, rfl⟩
  | dict l => exact .inr (.inr (.inr ⟨_, rfl⟩))
  | _ => exact nn h
theorem pslice_kind {a l u c v : PV} (h : pslice a l u c = some v) : (∃ l, a = .str l) ∨ (∃ l, a = .list l) ∨ (∃ l, a = .tuple l) ∨ (∃ l, a = .dict l) :=
  pslice_el h (fun l _ _ e _ _ _ _ _ => .inl ⟨l, e⟩) fun l _ _ _ e _ _ _ _ _ _ => .inr (.inl ⟨l, e⟩)
end
end Mine
end
section
namespace Mine
open PySem
section
variable {cx : Cx} {z : Z} {A : Around} {s : Shared}
theorem Runs.grow {t : Sem Value} (k : OkZ cx z) (hz : s.heap = z.h) {v : PV}
    (h : ∀ (E : Value → Shared → Prop) (Q : Value → Shared → Prop), (∀ x h' tk, (∀ b o, s.heap.get? b = some o → h'.get? b = some o) → VR cx z v x → Q x { s with heap := h', toks := tk }) → wpAny (model cx.prog cx.w) A t Q E s) :
    Runs cx A t z v z.st s := fun E Q hQ => h E Q fun x h' tk hk hv => by
  rw [hz] at hk
  exact hQ x { z with h := h' } tk (k.keep fun b o e _ => hk b o e) (.keep hk) rfl hv
theorem intsOf_are {xs : List PV} : ∀ {vs : List Value} {ns : List Int}, intsOf xs = some ns → VRs cx z xs vs → PyProof.Rows.IntsAre vs ns := by
  induction xs with
  | nil => exact fun {vs ns} h hv => hv.nil_el (C := fun vs => PyProof.Rows.IntsAre vs ns) (Option.some.inj h ▸ .nil)
  | cons x xs ih =>
    intro vs ns h hv
    refine hv.cons_el (C := fun vs => PyProof.Rows.IntsAre vs ns) fun a us ha hs => ?_
    cases x with
    | int i => cases ha with
      | int _ t =>
        obtain ⟨m, hm, rfl⟩ := Option.map_eq_some_iff.mp h
        exact .cons _ _ (ih hm hs)
    | _ => exact nn h
theorem best_spec {op : Int → Int → Int} {le : Int → Int → Prop} (rfl' : ∀ a, le a a) (tr : ∀ {a b c}, le a b → le b c → le a c) (l : ∀ a b, le (op a b) a) (r : ∀ a b, le (op a b) b) (ch : ∀ a b, op a b = a ∨ op a b = b) {f : List Int → Int} (h1 : ∀ a, f [a] = a) (h2 : ∀ a b r, f (a :: b :: r) = op a (f (b :: r))) (rs : List Int) :
    ∀ a : Int, f (a :: rs) ∈ a :: rs ∧ ∀ b ∈ a :: rs, le (f (a :: rs)) b := by
  induction rs with
  | nil => exact fun a => ⟨(h1 a).symm ▸ List.mem_cons_self, fun b hb => by rw [List.mem_singleton.mp hb, h1]; exact rfl' a⟩
  | cons c rs ih =>
    intro a
    obtain ⟨g1, g2⟩ := ih c
    rw [h2]
    exact ⟨(ch a (f (c :: rs))).elim (fun e => e.symm ▸ List.mem_cons_self) fun e => e.symm ▸ List.mem_cons_of_mem _ g1, fun b hb => (List.mem_cons.mp hb).elim (fun e => e ▸ l _ _) fun hb => tr (r _ _) (g2 b hb)⟩
theorem minL_spec (a : Int) (r : List Int) : minL (a :: r) ∈ a :: r ∧ ∀ b ∈ a :: r, minL (a :: r) ≤ b :=
  best_spec (le := fun a b => a ≤ b) Int.le_refl Int.le_trans Int.min_le_left Int.min_le_right (fun a b => (Int.le_total a b).elim (fun h => .inl (Int.min_eq_left h)) fun h => .inr (Int.min_eq_right h)) (fun _ => rfl) (fun _ _ _ => rfl) r a
theorem sumL_eq (ns : List Int) : sumL ns = ns.sum := by
  induction ns with
  | nil => rfl
  | cons a r ih => rw [List.sum_cons, ← ih]; rfl
end
section
open PyProof.Rows
variable {A : Around} {s : Shared} {l : Addr} {vs : List Value} {ns : List Int}
theorem ints_arr (hi : IntsAre vs ns) (hl : s.heap.IsList l vs.toArray) : ∃ xs, s.heap.IsList l (intItems xs) ∧ xs.toList.map (·.1) = ns := by
  obtain ⟨xs, e⟩ := hi.allInts.items
  exact ⟨xs, e ▸ hl, (nums_intItems xs).symm.trans (e ▸ hi.numsOf)⟩
variable {prog : Program} {w : World} {E Q : Value → Shared → Prop}
theorem sum_keep (hh : A.handled = none) (hl : s.heap.IsList l vs.toArray) (hi : IntsAre vs ns) (h : ∀ h' tk t, (∀ b o, s.heap.get? b = some o → h'.get? b = some o) → Q (.int ns.sum t) { s with heap := h', toks := tk }) :
    wpAny (model prog w) A (call (.builtin "sum") [.ref l]) Q E s := by
  obtain ⟨xs, hl, rfl⟩ := ints_arr hi hl
  have all : preSum (numAt xs) xs.size = (xs.toList.map (·.1)).sum := (preSum_eq xs _).trans (congrArg List.sum (List.take_of_length_le (Nat.le_of_eq (by rw [List.length_map, Array.length_toList]))))
  exact sum_intListG hh hl fun h' tk t k => all ▸ h h' tk t k
theorem at_num (xs : Array (Int × Tok)) {P : Int → Prop} : (∀ j, j ≤ xs.size - 1 → P (numAt xs j)) → ∀ a ∈ xs.toList.map (·.1), P a := fun h a ha => by
  obtain ⟨j, hj, e⟩ := List.getElem_of_mem ha
  have q := h j (by rw [List.length_map, Array.length_toList] at hj; exact Nat.le_sub_one_of_lt hj)
  rwa [numAt_eq, List.getD_eq_getElem?_getD, List.getElem?_eq_getElem hj, e] at q
theorem num_mem (xs : Array (Int × Tok)) {j : Nat} (hj : j ≤ xs.size - 1) (h0 : 0 < (xs.toList.map (·.1)).length) : numAt xs j ∈ xs.toList.map (·.1) := by
  have hj : j < (xs.toList.map (·.1)).length := by rw [List.length_map, Array.length_toList] at h0 ⊢; exact Nat.lt_of_le_of_lt hj (Nat.sub_lt h0 Nat.zero_lt_one)
  rw [numAt_eq, List.getD_eq_getElem?_getD, List.getElem?_eq_getElem hj]
  exact List.getElem_mem hj
theorem min_keep (hh : A.handled = none) (hl : s.heap.IsList l vs.toArray) (hi : IntsAre vs ns) (hne : 0 < ns.length)
    (h : ∀ h' M t tk, (∀ b o, s.heap.get? b = some o → h'.get? b = some o) → M ∈ ns → (∀ a, a ∈ ns → M ≤ a) → Q (.int M t) { s with heap := h', toks := tk }) : wpAny (model prog w) A (call (.builtin "min") [.ref l]) Q E s := by
  obtain ⟨xs, hl, rfl⟩ := ints_arr hi hl
  have best := argBest_lt (numAt xs) (xs.size - 1)
  refine min_intList hh hl (by rwa [List.length_map, Array.length_toList] at hne) fun v h' tk hv k => ?_
  obtain ⟨t, rfl⟩ := intItems_at hv
  exact h _ _ t tk k (num_mem xs best.1 hne) (at_num xs best.2)
end
end Mine
end
section
namespace Mine
open PySem
section
variable {prog : Program} {w : World} {A : Around} {E : Value → Shared → Prop} {s : Shared} {l it : Addr} {i : Nat} {items : Array Value} {x : Value} {Q : Value → Shared → Prop}
theorem call_iter_list (hl : s.heap.IsList l items) (h : Q (.ref s.heap.objs.size) { s with heap := s.heap.push { cls := .type "list_iterator", data := .fields #[.ref l, .int 0 0] } }) :
    wpAny (model prog w) A (call (.builtin "iter") [.ref l]) Q E s := by
  have got : wpAny (model prog w) A.in1 (pyIter (.ref l)) (fun v s' => wpAny (model prog w) A.in1 (ret v) (fun fin s' => ∃ v, fin = .done (.ret v) ∧ Q v s') E s') E s := wpAny_pyIter_list hl (wpAny_pure ⟨_, rfl, h⟩)
  exact Calls.call_function_entry (by decide +kernel) (by decide +kernel) W.kdk_entry_iter (W.kdk_args_iter _) (wpAny_bind (m := someArgs "iter" 1 2 _) (wpAny_of_eq (a := [.ref l]) (by kernel_rfl) (wpAny_bind got)))
theorem li_step (hit : s.heap.IsListIter it l i) (hl : s.heap.IsList l items) (hx : items[i]? = some x) {P : Fin → Shared → Prop}
    (hP : ∀ h', h'.IsListIter it l (i + 1) → Heap.SameBut it s.heap h' → P (.done (.ret x)) { s with heap := h' }) :
    wpAny (model prog w) A (Builtin.«list_iterator.__next__» ⟨[.ref it], []⟩) P E s := by
  obtain ⟨⟨_, _, _, _⟩, ho, rfl, rfl⟩ := hit
  obtain ⟨_, hol, _, _, hdl⟩ := hl
  have f0 : ∀ {R : Value → Shared → Prop}, R (.ref l) s → wpAny (model prog w) A (field (.ref it) 0) R E s := wpAny_field ho rfl rfl
  have f1 : ∀ {R : Value → Shared → Prop}, R (.int i 0) s → wpAny (model prog w) A (field (.ref it) 1) R E s := wpAny_field ho rfl rfl
  wp_walk using f0, f1, wpAny_seqItems hol hdl
  rw [Int.toNat_natCast, hx]
  exact wpAny_bind (wpAny_setField ho rfl (Nat.lt_succ_self 1) (wpAny_pure (hP _ ⟨_, Heap.get?_update_self _ ho rfl, rfl, rfl⟩ (Heap.SameBut.update ..))))
theorem call_next_list (hit : s.heap.IsListIter it l i) (hl : s.heap.IsList l items) (hx : items[i]? = some x) (hQ : ∀ h', h'.IsListIter it l (i + 1) → Heap.SameBut it s.heap h' → Q x { s with heap := h' }) :
    wpAny (model prog w) A (call (.builtin "next") [.ref it]) Q E s := by
  have T := hit.typeIs
  have step : wpAny (model prog w) A.in1 (callSpecial? (.ref it) (Str.ofString "__next__")) (fun r s' => ∃ y, r = some y ∧ Q y s') E s :=
    wpAny_callSpecial?_slot T slot_listiter_next (wpAny_call_entry slot_listiter_next T entry_listiter_next (li_step hit hl hx fun h' a b => ⟨x, rfl, x, rfl, hQ h' a b⟩) (args_listiter_next _))
  refine Calls.call_function_entry (by decide +kernel) (by decide +kernel) W.kdk_entry_next (W.kdk_args_next _) (wpAny_bind (m := someArgs ..) (wpAny_of_eq (a := [.ref it]) (by kernel_rfl) ?_))
  refine wpAny_bind (wpAny_specialOf T slot_listiter_next.lookup (wpAny_ite_split (fun h => nomatch h) fun _ => wpAny_bind (wpAny_mono step ?_ fun _ _ e => e)))
  rintro _ s' ⟨y, rfl, q⟩
  exact wpAny_pure ⟨y, rfl, q⟩
end
end Mine
end
section
namespace Mine
open PySem
noncomputable def biVal : BI → Value
  | .len => .builtin "len"
  | .min => .builtin "min"
  | .sum => .builtin "sum"
  | .range => .type "range"
  | .list => .type "list"
  | .ord => .builtin "ord"
  | .chr => .builtin "chr"
  | .iter => .builtin "iter"
  | .next => .builtin "next"
noncomputable def notZip : BI → Bool
  | _ => true
section
variable {cx : Cx} {z : Z} {A : Around} {s : Shared}
theorem rs {t : Sem Value} {a v : PV} {st st' : Store} (h : some (a, st) = some (v, st')) (k : Runs cx A t z a st s) : Runs cx A t z v st' s := by cases h; exact k
theorem rbs {t : Sem Value} {c : Bool} {a v : PV} {st st' : Store} (h : (bif c then some (a, st) else none) = some (v, st')) (k : c = true → Runs cx A t z a st s) : Runs cx A t z v st' s := bif_el h fun hc h => rs h (k hc)
theorem rng_sound {a b c : Int} {st' : Store} {p : PV} (k : OkZ cx z) (hz : s.heap = z.h) (h : mkRng a b c z.st = some (p, st')) {tr : Sem Value}
    (hr : small c = true → 0 < c → ∀ (E Q : Value → Shared → Prop), (∀ t u v tk, Q (.ref s.heap.objs.size) { s with heap := s.heap.push { cls := .type "range", data := .fields #[.int a t, .int b u, .int c v] }, toks := tk }) → wpAny (model cx.prog cx.w) A tr Q E s) :
    Runs cx A tr z p st' s := by
  refine rbs h fun hc => an hc fun hc h4 => an hc fun hc h3 => an hc fun h1 h2 => ?_
  intro E Q hQ
  refine hr h3 (dt h2) E Q fun t u v tk => ?_
  have hn := none_at_size hz
  have hk : ∀ b' x, z.h.get? b' = some x → (s.heap.push { cls := .type "range", data := .fields #[.int a t, .int b u, .int c v] }).get? b' = some x := fun b x e => by rw [hz]; exact Heap.get?_push_of_some _ e
  exact hQ _ { z with B := addB z.B s.heap.objs.size { cls := .type "range", data := .fields #[.int a t, .int b u, .int c v] }, h := s.heap.push { cls := .type "range", data := .fields #[.int a t, .int b u, .int c v] } } tk
    (k.freeze hk hn (Heap.get?_push_size _ rfl)) (k.freeze_ext hk hn) rfl (.rng (addB_self _ _ _) h1 (Int.toNat_of_nonneg (dt h4)).symm)
theorem rngItems_get (n : Nat) : ∀ (a c : Int) (j : Nat), j < n → (rngItems a n c)[j]? = some (.int (a + j * c)) := by
  induction n with
  | zero => exact fun _ _ _ h => absurd h (Nat.not_lt_zero _)
  | succ n ih =>
    intro a c j h
    cases j with
    | zero => exact congrArg (fun x => some (PV.int x)) (by rw [Int.natCast_zero, Int.zero_mul, Int.add_zero])
    | succ j => exact (ih (a + c) c j (Nat.lt_of_succ_lt_succ h)).trans (congrArg (fun x => some (PV.int x)) (by rw [Int.natCast_succ, Int.add_mul, Int.one_mul, Int.add_assoc, Int.add_comm c]))
theorem rngItems_length (n : Nat) : ∀ (a c : Int), (rngItems a n c).length = n := by
  induction n with
  | zero => exact fun _ _ => rfl
  | succ n ih => exact fun a c => congrArg (· + 1) (ih (a + c) c)
theorem VRs.of_get {xs : List PV} : ∀ {vs : List Value}, xs.length = vs.length → (∀ (j : Nat) x v, xs[j]? = some x → vs[j]? = some v → VR cx z x v) → VRs cx z xs vs := by
  induction xs with
  | nil => exact fun {vs} hl _ => by cases vs with | nil => exact .nil | cons => cases hl
  | cons x xs ih => exact fun {vs} hl h => by cases vs with | nil => cases hl | cons v vs => exact .cons (h 0 x v rfl rfl) (ih (Nat.succ.inj hl) fun j a b h1 h2 => h (j + 1) a b h1 h2)
theorem VRs.one {p : PV} {vals : List Value} (ha : VRs cx z [p] vals) : ∃ x, vals = [x] ∧ VR cx z p x :=
  ha.cons_el (C := fun vals => ∃ x, vals = [x] ∧ VR cx z p x) fun x us h t => t.nil_el (C := fun us => ∃ y, x :: us = [y] ∧ VR cx z p y) ⟨x, rfl, h⟩
theorem lst_arr {l : Addr} {items : Array Value} (h : s.heap.IsList l items) : s.heap.IsList l items.toList.toArray := by rw [Array.toArray_toList]; exact h
section
variable {α β : Type} {r : α} {args : List PV} {vals : List Value} {P : List Value → Prop} {p : PV} {x : Value} {R : Value → Prop} {T : Prop}
theorem a0_vr {f : Option α} (h : a0 args f = some r) (ha : VRs cx z args vals) (k : f = some r → P []) : P vals := by
  cases args with
  | nil => exact ha.nil_el (C := P) (k h)
  | cons => exact nn h
theorem a1_vr {f : PV → Option α} (h : a1 args f = some r) (ha : VRs cx z args vals) (k : ∀ v x, f v = some r → VR cx z v x → P [x]) : P vals := by
  cases args with
  | nil => exact nn h
  | cons a t => exact ha.cons_el (C := P) fun x us hx hs => a0_vr (P := fun us => P (x :: us)) h hs fun h => k a x h hx
theorem a2_vr {f : PV → PV → Option α} (h : a2 args f = some r) (ha : VRs cx z args vals) (k : ∀ v u x y, f v u = some r → VR cx z v x → VR cx z u y → P [x, y]) : P vals := by
  cases args with
  | nil => exact nn h
  | cons a t => exact ha.cons_el (C := P) fun x us hx hs => a1_vr (P := fun us => P (x :: us)) h hs fun u y h hy => k a u x y h hx hy
theorem oI_vr {f : Int → Option α} (h : oI p f = some r) (hx : VR cx z p x) (k : ∀ i t, f i = some r → R (.int i t)) : R x := by
  cases p with
  | int i => cases hx with
    | int _ t => exact k i t h
  | _ => exact nn h
theorem oS_vr {f : List Nat → Option α} (h : oS p f = some r) (hx : VR cx z p x) (k : ∀ (y : Str) t, f y.cps.toList = some r → R (.str y t)) : R x := by
  cases p with
  | str l => cases hx with
    | str _ y t e => subst e; exact k y t h
  | _ => exact nn h
theorem oL_rv {f : List PV → Option α} (h : oL p f = some r) (hx : RV cx z p x) (k : ∀ xs, f xs = some r → RV cx z (.list xs) x → T) : T := by
  cases p with
  | list xs => exact k xs h hx
  | _ => exact nn h
theorem oD_rv {f : List (PV × PV) → Option α} (h : oD p f = some r) (hx : RV cx z p x) (k : ∀ xs, f xs = some r → RV cx z (.dict xs) x → T) : T := by
  cases p with
  | dict xs => exact k xs h hx
  | _ => exact nn h
theorem oR_rv {f : Nat → Option α} (k' : OkZ cx z) (h : oR p f = some r) (hx : VR cx z p x) (k : ∀ n, f n = some r → RV cx z (.ref n) x → T) : T := by
  cases p with
  | ref n => exact k n h (hx.rv k')
  | _ => exact nn h
theorem oG_rv {f : Int → Nat → Int → Option α} (k' : OkZ cx z) (h : oG p f = some r) (hx : VR cx z p x) (k : ∀ a n c, f a n c = some r → RV cx z (.rng a n c) x → T) : T := by
  cases p with
  | rng a n c => exact k a n c h (hx.rv k')
  | _ => exact nn h
theorem sL_el {st : Store} {n : Nat} {f : List PV → Option α} (h : sL st n f = some r) (k : ∀ xs, st[n]? = some (.list xs) → f xs = some r → T) : T := by
  unfold sL at h
  cases hp : st[n]? with
  | none => rw [hp] at h; exact nn h
  | some p =>
    rw [hp] at h
    cases p with
    | list xs => exact k xs hp h
    | _ => exact nn h
theorem sT_el {st : Store} {n : Nat} {f : List PV → Option α} (h : sT st n f = some r) (k : ∀ xs, st[n]? = some (.iter xs) → f xs = some r → T) : T := by
  unfold sT at h
  cases hp : st[n]? with
  | none => rw [hp] at h; exact nn h
  | some p =>
    rw [hp] at h
    cases p with
    | iter xs => exact k xs hp h
    | _ => exact nn h
theorem oO_el {x : Option β} {f : β → Option α} (h : oO x f = some r) (k : ∀ a, x = some a → f a = some r → T) : T := by
  cases x with
  | none => exact nn h
  | some a => exact k a rfl h
theorem oC_el {l : List β} {f : β → List β → Option α} (h : oC l f = some r) (k : ∀ a t, l = a :: t → f a t = some r → T) : T := by
  cases l with
  | nil => exact nn h
  | cons a t => exact k a t rfl h
end
section
variable {args : List PV} {vals : List Value} {v : PV} {st' : Store} {n : Nat} (k : OkZ cx z) (hz : s.heap = z.h) (hA : ArOk A n) (ha : VRs cx z args vals)
include k hz hA ha
theorem bi_len (h : pbi .len args z.st = some (v, st')) : Runs cx A (call (.builtin "len") vals) z v st' s := by
  refine a1_vr (P := fun vals => Runs cx A (call (.builtin "len") vals) z v st' s) h ha fun p x h hx => ?_
  have hr := hx.rd k
  generalize hp : rd z.st p = q at h hr
  cases q with
  | str l =>
    refine rbs h fun hc => ?_
    obtain ⟨s1, t, rfl, rfl⟩ := hr
    rw [← str_len] at hc ⊢
    exact .int k hz fun E Q hQ => PyProof.Rows.len_str (lim_not (dt hc)) (hQ _ _)
  | list xs =>
    refine rbs h fun hc => ?_
    obtain ⟨a, m, items, rfl, e1, v1⟩ := hr
    have hl : xs.length = items.size := v1.length
    rw [hl] at hc ⊢
    exact .int k hz fun E Q hQ => Calls.call_len_list (lst_at hz e1) (Int.not_le.mp (lim_not (dt hc))) (hQ _ _)
  | _ => exact nn h
theorem bi_min (h : pbi .min args z.st = some (v, st')) : Runs cx A (call (.builtin "min") vals) z v st' s := by
  cases args with
  | nil => exact nn h
  | cons p r =>
    refine ha.cons_el (C := fun vals => Runs cx A (call (.builtin "min") vals) z v st' s) fun x us hx hs => ?_
    cases r with
    | nil =>
      refine hs.nil_el (C := fun us => Runs cx A (call (.builtin "min") (x :: us)) z v st' s) ?_
      refine oL_rv h (hx.rd k) fun xs h hr => oO_el h fun l hi h => oC_el h fun i r hl h => rs h ?_
      subst hl
      obtain ⟨a, m, items, rfl, e1, v1⟩ := hr
      refine .grow k hz fun E Q hQ => min_keep hA.hh (lst_arr (lst_at hz e1)) (intsOf_are hi v1) (Nat.succ_pos _) fun h' M t tk hk h1 h2 => hQ _ h' tk hk ?_
      obtain ⟨g1, g2⟩ := minL_spec i r
      cases Int.le_antisymm (h2 _ g1) (g2 _ h1)
      exact .int _ _
    | cons q r =>
      refine hs.cons_el (C := fun us => Runs cx A (call (.builtin "min") (x :: us)) z v st' s) fun y us hy hs => ?_
      refine a0_vr (P := fun us => Runs cx A (call (.builtin "min") (x :: y :: us)) z v st' s) h hs fun h => ?_
      refine oI_vr (R := fun x => Runs cx A (call (.builtin "min") [x, y]) z v st' s) h hx fun a t h => oI_vr (R := fun y => Runs cx A (call (.builtin "min") [.int a t, y]) z v st' s) h hy fun b u h => rs h ?_
      refine .grow k hz fun E Q hQ => min_two_ints hA.hh fun h' tk hk => hQ _ h' tk hk ?_
      by_cases hab : b < a
      · rw [if_pos hab, Int.min_eq_right (Int.le_of_lt hab)]; exact .int _ _
      · rw [if_neg hab, Int.min_eq_left (Int.not_lt.mp hab)]; exact .int _ _
theorem bi_sum (h : pbi .sum args z.st = some (v, st')) : Runs cx A (call (.builtin "sum") vals) z v st' s := by
  refine a1_vr (P := fun vals => Runs cx A (call (.builtin "sum") vals) z v st' s) h ha fun p x h hx => oL_rv h (hx.rd k) fun xs h hr => oO_el h fun ns hi h => rbs h fun _ => ?_
  obtain ⟨a, m, items, rfl, e1, v1⟩ := hr
  exact .grow k hz fun E Q hQ => sum_keep hA.hh (lst_arr (lst_at hz e1)) (intsOf_are hi v1) fun h' tk t hk => hQ _ h' tk hk (sumL_eq ns ▸ .int _ _)
omit hA in
theorem bi_range (h : pbi .range args z.st = some (v, st')) : Runs cx A (call (.type "range") vals) z v st' s := by
  cases args with
  | nil => exact nn h
  | cons p r =>
    refine ha.cons_el (C := fun vals => Runs cx A (call (.type "range") vals) z v st' s) fun x us hx hs => ?_
    cases r with
    | nil =>
      refine hs.nil_el (C := fun us => Runs cx A (call (.type "range") (x :: us)) z v st' s) ?_
      exact oI_vr (R := fun x => Runs cx A (call (.type "range") [x]) z v st' s) h hx fun i t h => rng_sound k hz h fun _ _ E Q hQ => call_range_1 (hQ _ _ _ _)
    | cons q r =>
      refine hs.cons_el (C := fun us => Runs cx A (call (.type "range") (x :: us)) z v st' s) fun y us hy hs => ?_
      refine a1_vr (P := fun us => Runs cx A (call (.type "range") (x :: y :: us)) z v st' s) h hs fun w u h hu => ?_
      exact oI_vr (R := fun x => Runs cx A (call (.type "range") [x, y, u]) z v st' s) h hx fun a t h => oI_vr (R := fun y => Runs cx A (call (.type "range") [.int a t, y, u]) z v st' s) h hy fun b t' h => oI_vr (R := fun u => Runs cx A (call (.type "range") [.int a t, .int b t', u]) z v st' s) h hu fun c t'' h => rng_sound k hz h fun h1 h2 E Q hQ => call_range_3 (Int.ne_of_gt h2) (hQ _ _ _ _) (.inl (PyProof.noPylong_of_log2 (small_log h1)))
theorem bi_list (h : pbi .list args z.st = some (v, st')) : Runs cx A (call (.type "list") vals) z v st' s := by
  refine a1_vr (P := fun vals => Runs cx A (call (.type "list") vals) z v st' s) h ha fun p x h hx => oG_rv k h hx fun a m c h hx => rbs h fun hc => ?_
  obtain ⟨ad, hi, t, u, w, rfl, e1, h1, h2⟩ := hx
  intro E Q hQ
  refine call_list_range hA.hh (hz ▸ e1) h1 h2 (lim_le (dt hc)) fun h' tk acc' c' hk ho hI => ?_
  have hn := none_at_size hz
  rw [hz] at hk
  refine hQ _ { z with σ := z.σ ++ [s.heap.objs.size], st := z.st ++ [.list (rngItems a m c)], h := h' } tk (k.store hk hn ho ⟨_, acc', ho, ⟨c', rfl⟩, ?_⟩) (k.store_ext hk hn) rfl (.ref ?_)
  · refine VRs.of_get (cx := cx) (z := z) ((rngItems_length ..).trans hI.1.symm) fun j x v h1 h2 => ?_
    have hj : j < m := rngItems_length m a c ▸ (List.getElem?_eq_some_iff.mp h1).1
    cases Option.some.inj ((rngItems_get m a c j hj).symm.trans h1)
    obtain ⟨t', rfl⟩ := hI.2 j v (getElem_arr h2)
    exact .int _ _
  · rw [← k.len]; exact List.getElem?_concat_length
omit hA in
theorem bi_ord (h : pbi .ord args z.st = some (v, st')) : Runs cx A (call (.builtin "ord") vals) z v st' s := by
  refine a1_vr (P := fun vals => Runs cx A (call (.builtin "ord") vals) z v st' s) h ha fun p x h hx => oS_vr (R := fun x => Runs cx A (call (.builtin "ord") [x]) z v st' s) h hx fun y t h => oC_el h fun c r hy h => ?_
  cases r with
  | nil =>
    obtain rfl : y = ⟨#[c]⟩ := str_ext hy
    exact rs h (.int k hz fun E Q hQ => P.ord_of_char (hQ _ _))
  | cons => exact nn h
omit hA in
theorem bi_chr (h : pbi .chr args z.st = some (v, st')) : Runs cx A (call (.builtin "chr") vals) z v st' s := by
  refine a1_vr (P := fun vals => Runs cx A (call (.builtin "chr") vals) z v st' s) h ha fun p x h hx => oI_vr (R := fun x => Runs cx A (call (.builtin "chr") [x]) z v st' s) h hx fun i t h => rbs h fun hc => an hc fun h1 h2 => ?_
  exact .str (y := ⟨#[i.toNat]⟩) k hz rfl fun E Q hQ => P.chr_of_int (Bool.or_eq_false_iff.mpr ⟨decide_eq_false (Int.not_lt.mpr (dt h1)), decide_eq_false (Int.not_lt.mpr (dt h2))⟩) (hQ _ _)
omit hA in
theorem bi_iter (h : pbi .iter args z.st = some (v, st')) : Runs cx A (call (.builtin "iter") vals) z v st' s := by
  refine a1_vr (P := fun vals => Runs cx A (call (.builtin "iter") vals) z v st' s) h ha fun p x h hx => oR_rv k h hx fun m h hx => sL_el h fun xs hp h => rs h ?_
  obtain ⟨l, rfl, hσ⟩ := hx
  obtain ⟨l', hl', hB, _, o, items, ho, hlo, hv⟩ := k.obj m _ hp nofun
  cases Option.some.inj (hσ.symm.trans hl')
  intro E Q hQ
  have hn := none_at_size hz
  have hp0 : (PObj.list xs) ≠ .dead := nofun
  have k1 := k.die hp hp0 hσ ho
  have x1 := k.die_ext (o := o) hp hp0 hσ
  refine call_iter_list (hlo.isList (by rw [hz]; exact ho)) ?_
  have hk : ∀ b x, z.h.get? b = some x → (s.heap.push { cls := .type "list_iterator", data := .fields #[.ref l, .int 0 0] }).get? b = some x := fun b x e => by rw [hz]; exact Heap.get?_push_of_some _ e
  have hnew : (s.heap.push { cls := .type "list_iterator", data := .fields #[.ref l, .int 0 0] }).get? s.heap.objs.size = some { cls := .type "list_iterator", data := .fields #[.ref l, .int 0 0] } := Heap.get?_push_size _ rfl
  refine hQ _ { σ := z.σ ++ [s.heap.objs.size], B := addB z.B l o, st := z.st.set m .dead ++ [.iter xs], h := s.heap.push { cls := .type "list_iterator", data := .fields #[.ref l, .int 0 0] } } s.toks
    (k1.store hk hn hnew ⟨l, 0, o, items, ⟨_, hnew, rfl, rfl⟩, addB_self _ _ _, hlo, ?_⟩) (x1.trans (k1.store_ext hk hn)) rfl (.ref ?_)
  · rw [List.drop_zero]; exact hv.ext x1
  · rw [← k.len]; exact List.getElem?_concat_length
omit hA in
theorem bi_next (h : pbi .next args z.st = some (v, st')) : Runs cx A (call (.builtin "next") vals) z v st' s := by
  refine a1_vr (P := fun vals => Runs cx A (call (.builtin "next") vals) z v st' s) h ha fun p x h hx => oR_rv k h hx fun m h hx => sT_el h fun l hp h => oC_el h fun q r hl h => rs h ?_
  subst hl
  obtain ⟨it, rfl, hσ⟩ := hx
  obtain ⟨it', hit', hB, _, l, i, o, items, hit, hBl, hlo, hv⟩ := k.obj m _ hp nofun
  cases Option.some.inj (hσ.symm.trans hit')
  have hp0 : (PObj.iter (q :: r)) ≠ .dead := nofun
  intro E Q hQ
  obtain ⟨y, ys, hd, h1, h2⟩ : ∃ y ys, items.toList.drop i = y :: ys ∧ VR cx z q y ∧ VRs cx z r ys := hv.cons_el (C := fun d => ∃ y ys, d = y :: ys ∧ VR cx z q y ∧ VRs cx z r ys) fun y ys h1 h2 => ⟨y, ys, rfl, h1, h2⟩
  have hy : items[i]? = some y := getElem_arr (List.head?_drop.symm.trans (congrArg List.head? hd))
  have hys : items.toList.drop (i + 1) = ys := List.tail_drop.symm.trans (congrArg List.tail hd)
  have hlh : z.h.get? l = some o := k.sub _ _ hBl
  refine call_next_list (by rw [hz]; exact hit) (hlo.isList (by rw [hz]; exact hlh)) hy fun h' hit' hs => ?_
  rw [hz] at hs
  obtain ⟨oi, hoi, _⟩ := id hit'
  exact hQ _ { z with st := z.st.set m (.iter r), h := h' } s.toks (k.change hp hp0 hσ hs.extBut ⟨oi, hoi⟩ ⟨l, i + 1, o, items, hit', hBl, hlo, hys ▸ h2⟩) (k.change_ext hp hp0 hσ hs.extBut) rfl h1
theorem bi_sound {b : BI} (h : pbi b args z.st = some (v, st')) (hb : notZip b = true) : Runs cx A (call (biVal b) vals) z v st' s := by
  cases b with
  | len => exact bi_len k hz hA ha h
  | min => exact bi_min k hz hA ha h
  | sum => exact bi_sum k hz hA ha h
  | range => exact bi_range k hz ha h
  | list => exact bi_list k hz hA ha h
  | ord => exact bi_ord k hz ha h
  | chr => exact bi_chr k hz ha h
  | iter => exact bi_iter k hz ha h
  | next => exact bi_next k hz ha h
end
end
end Mine
end
section
namespace Mine
open PySem
noncomputable def meId : Me → String
  | .lower => "str.lower"
  | .join => "str.join"
  | .append => "list.append"
  | .extend => "list.extend"
  | .insert => "list.insert"
  | .pop => "list.pop"
  | .get => "dict.get"
section
variable {cx : Cx} {z : Z} {A : Around} {s : Shared}
theorem store_list (k : OkZ cx z) {m : Nat} {xs : List PV} {x : Value} (hp : z.st[m]? = some (.list xs)) (hx : RV cx z (.ref m) x) :
    ∃ a n items, x = .ref a ∧ z.σ[m]? = some a ∧ z.h.get? a = some { cls := .type "list", dict := none, data := .seq items n, slots := #[] } ∧ VRs cx z xs items.toList := by
  obtain ⟨a, rfl, hσ⟩ := hx
  obtain ⟨a', ha', _, _, o, items, ho, ⟨n, rfl⟩, hv⟩ := k.obj m _ hp nofun
  cases Option.some.inj (hσ.symm.trans ha')
  exact ⟨a, n, items, rfl, hσ, ho, hv⟩
theorem Runs.upd {t : Sem Value} (k : OkZ cx z) (hz : s.heap = z.h) {m : Nat} {xs ys : List PV} {a : Addr} {n : Nat} {items : Array Value} {f : Array Value → Array Value} {v : PV} {x : Value}
    (hp : z.st[m]? = some (.list xs)) (hσ : z.σ[m]? = some a) (ho : z.h.get? a = some { cls := .type "list", dict := none, data := .seq items n, slots := #[] })
    (hy : VRs cx z ys (f items).toList) (hv : VR cx z v x)
    (h : ∀ (E : Value → Shared → Prop) (Q : Value → Shared → Prop), (∀ tk, Q x { s with heap := s.heap.update a (Obj.mapSeq f), toks := tk }) → wpAny (model cx.prog cx.w) A t Q E s) :
    Runs cx A t z v (z.st.set m (.list ys)) s := fun E Q hQ => h E Q fun tk => by
  have hu := IsL.update (show IsL s.heap a items n by rw [hz]; exact ho) f
  have hs : Heap.ExtBut a z.h (s.heap.update a (Obj.mapSeq f)) := by rw [hz]; exact (Heap.SameBut.update ..).extBut
  have hp0 : PObj.list xs ≠ .dead := nofun
  exact hQ x { z with st := z.st.set m (.list ys), h := s.heap.update a (Obj.mapSeq f) } tk (k.change hp hp0 hσ hs ⟨_, hu⟩ ⟨_, f items, hu, ⟨_, rfl⟩, hy⟩) (k.change_ext hp hp0 hσ hs) rfl hv
theorem lowC_eq (c : Nat) : lowC c = PyProof.Rows.lo1 c := by
  unfold lowC PyProof.Rows.lo1
  by_cases h : 65 ≤ c ∧ c ≤ 90
  · rw [if_pos h, Nat.ble_eq_true_of_le h.1, Nat.ble_eq_true_of_le h.2]; rfl
  · have e : (Nat.ble 65 c && Nat.ble c 90) = false := Bool.eq_false_iff.mpr fun e => an e fun h1 h2 => h ⟨Nat.le_of_ble_eq_true h1, Nat.le_of_ble_eq_true h2⟩
    rw [if_neg h, e]; rfl
theorem lower_sound {y : Str} {t : Tok} {r : List Nat} (k : OkZ cx z) (hz : s.heap = z.h) (h : plower y.cps.toList = some r) : Runs cx A (call (.builtin "str.lower") [.str y t]) z (.str r) z.st s := by
  obtain ⟨hc, rfl⟩ := bif_some h
  refine an hc fun ha hb => ?_
  have hL : Txt.lower y = ⟨y.cps.map PyProof.Rows.lo1⟩ := PyProof.Rows.lower_ascii fun c hc => dt (List.all_eq_true.mp ha c hc)
  have e : (Txt.lower y).cps.toList = y.cps.toList.map lowC := by
    rw [hL, Array.toList_map]
    exact List.map_congr_left fun c _ => (lowC_eq c).symm
  have hlen : (Txt.lower y).cps.size = y.cps.toList.length := (congrArg List.length e).trans (List.length_map ..)
  have hle : (Txt.lower y).cps.size ≤ sizeLine := hlen ▸ lim_le (dt hb)
  exact .str (y := Txt.lower y) k hz e fun E Q hQ => call_gives F.slot_str_lower (typeIs_str s y t) F.entry_str_lower (F.args_str_lower_1 _) (gives_str_lower y t (decide_eq_false (Nat.not_lt.mpr hle))) ⟨hle, hQ _ _⟩
end
end Mine
end
section
namespace Mine
open PySem
section
variable {cx : Cx} {z : Z} {A : Around} {s : Shared}
theorem isList_typeIs {l : Addr} {n : Nat} {items : Array Value} (h : s.heap.get? l = some { cls := .type "list", dict := none, data := .seq items n, slots := #[] }) : s.TypeIs (.ref l) "list" := ⟨_, h, rfl⟩
theorem vrs_size {xs : List PV} {items : Array Value} (h : VRs cx z xs items.toList) : xs.length = items.size := h.length
theorem append_sound {m : Nat} {xs : List PV} {v : PV} {x y : Value} (k : OkZ cx z) (hz : s.heap = z.h) (hp : z.st[m]? = some (.list xs)) (hx : RV cx z (.ref m) x) (hy : VR cx z v y) (hl : xs.length ≤ lim) :
    Runs cx A (call (.builtin "list.append") [x, y]) z .none (z.st.set m (.list (xs ++ [v]))) s := by
  obtain ⟨a, n, items, rfl, hσ, ho, hv⟩ := store_list k hp hx
  have ho' := ho; rw [← hz] at ho'
  exact Runs.upd (f := fun its => its.push y) k hz hp hσ ho (by rw [Array.toList_push]; exact hv.append (.cons hy .nil)) .none fun E Q hQ =>
    call_meets F.slot_list_append (isList_typeIs ho') F.entry_list_append (F.args_list_append_2 _ _) (list_append a items n y (lim_le (vrs_size hv ▸ hl))) ⟨ho', hQ _⟩
theorem extend_sound {m : Nat} {xs ys : List PV} {x y : Value} (k : OkZ cx z) (hz : s.heap = z.h) (hp : z.st[m]? = some (.list xs)) (hx : RV cx z (.ref m) x) (hy : RV cx z (.list ys) y) (hl : xs.length + ys.length ≤ lim) :
    Runs cx A (call (.builtin "list.extend") [x, y]) z .none (z.st.set m (.list (xs ++ ys))) s := by
  obtain ⟨a, n, items, rfl, hσ, ho, hv⟩ := store_list k hp hx
  obtain ⟨b, n2, items2, rfl, ho2, hv2⟩ := hy
  have ho' := ho; rw [← hz] at ho'
  have ho2' := ho2; rw [← hz] at ho2'
  rw [vrs_size hv, vrs_size hv2] at hl
  have h1 : items.size + items2.size ≤ sizeLine := lim_le hl
  refine Runs.upd (f := fun its => its ++ items2) k hz hp hσ ho (by rw [Array.toList_append]; exact hv.append hv2) .none fun E Q hQ => ?_
  exact call_meets F.slot_list_extend (isList_typeIs ho') F.entry_list_extend (F.args_list_extend_2 _ _) (AutoSeq1.list_extend_list_list_0 a items n b items2 n2 (by
    rw [show Builtin.List.listTooLong (items.size + items2.size) = false from decide_eq_false (Nat.not_lt.mpr h1)]; rw [Bool.and_false]; exact Bool.false_ne_true) (Nat.le_trans (Nat.le_add_right ..) h1) (Nat.le_trans h1 (Nat.le_succ _))) ⟨ho', ho2', hQ _⟩
theorem insert_sound {m : Nat} {xs : List PV} {v : PV} {x y : Value} {t : Tok} (k : OkZ cx z) (hz : s.heap = z.h) (hp : z.st[m]? = some (.list xs)) (hx : RV cx z (.ref m) x) (hy : VR cx z v y) (hl : xs.length ≤ lim) :
    Runs cx A (call (.builtin "list.insert") [x, .int 0 t, y]) z .none (z.st.set m (.list (v :: xs))) s := by
  obtain ⟨a, n, items, rfl, hσ, ho, hv⟩ := store_list k hp hx
  have ho' := ho; rw [← hz] at ho'
  refine Runs.upd (f := fun xs => have k := if (0 : Int) < 0 then ((0 : Int) + (xs.size : Int)).toNat else min (0 : Int).toNat xs.size; (xs.extract 0 k).push y ++ xs.extract k) k hz hp hσ ho ?_ .none fun E Q hQ =>
    call_meets F.slot_list_insert (isList_typeIs ho') F.entry_list_insert (F.args_list_insert_3 _ _ _) (AutoSeq1.list_insert_list_int_val_1 a items n 0 t y (by decide) (lim_le (vrs_size hv ▸ hl))) ⟨ho', hQ _⟩
  have e0 : (if (0 : Int) < 0 then ((0 : Int) + (items.size : Int)).toNat else min (0 : Int).toNat items.size) = 0 := (if_neg (by decide)).trans (Nat.zero_min _)
  show VRs cx z (v :: xs) ((items.extract 0 (if (0 : Int) < 0 then ((0 : Int) + (items.size : Int)).toNat else min (0 : Int).toNat items.size)).push y ++ items.extract (if (0 : Int) < 0 then ((0 : Int) + (items.size : Int)).toNat else min (0 : Int).toNat items.size)).toList
  rw [e0, show ((items.extract 0 0).push y ++ items.extract 0).toList = y :: items.toList by simp]
  exact .cons hy hv
theorem pop_sound {m : Nat} {xs : List PV} {v : PV} {x : Value} (k : OkZ cx z) (hz : s.heap = z.h) (hp : z.st[m]? = some (.list xs)) (hx : RV cx z (.ref m) x) (hlast : xs.getLast? = some v) (hl : xs.length ≤ lim) :
    Runs cx A (call (.builtin "list.pop") [x]) z v (z.st.set m (.list xs.dropLast)) s := by
  obtain ⟨a, n, items, rfl, hσ, ho, hv⟩ := store_list k hp hx
  have h1 := vrs_size hv
  rw [List.getLast?_eq_getElem?] at hlast
  obtain ⟨y, hy, hvy⟩ := hv.get hlast
  rw [h1] at hy
  have ho' := ho; rw [← hz] at ho'
  refine Runs.upd (f := fun its => its.eraseIdxIfInBounds (items.size - 1)) k hz hp hσ ho ?_ hvy fun E Q hQ =>
    call_meets F.slot_list_pop (isList_typeIs ho') F.entry_list_pop (F.args_list_pop_1 _) (MeetsSeq.list_pop_last a items n y (getElem_arr hy) (lim_le (h1 ▸ hl))) ⟨ho', hQ _⟩
  rw [Array.toList_eraseIdxIfInBounds, List.eraseIdx_eq_take_drop_succ, List.drop_eq_nil_of_le (by rw [Array.length_toList]; omega), List.append_nil, List.dropLast_eq_take, h1]
  exact hv.take _
theorem get_sound {k' : PV} {es : List (PV × PV)} {r : Option PV} {x y : Value} (k : OkZ cx z) (hz : s.heap = z.h) (hx : RV cx z (.dict es) x) (hy : VR cx z k' y) (h : assoc k' es = some r) :
    Runs cx A (call (.builtin "dict.get") [x, y]) z (r.getD .none) z.st s := by
  obtain ⟨d, o, rfl, ho, hd, hsm⟩ := hx
  have ho' := ho; rw [← hz] at ho'
  obtain ⟨K, inst, knd, kk, f, h1, h2, h3⟩ := dict_look hd (hy.rv k) h
  obtain ⟨hm, hT⟩ := h2 _ d ho'
  have go : ∀ {u : Value}, VR cx z (r.getD .none) u → (f kk).getD .none = u → Runs cx A (call (.builtin "dict.get") [.ref d, y]) z (r.getD .none) z.st s := fun {u} hv e =>
    .val k hz hv fun E Q hQ => call_meetsIn F.slot_dict_get hT F.entry_dict_get (F.args_dict_get_2 _ _) (meets_dict_get knd d h1 hsm) ⟨f, hm, by
      show Q _ _; rw [e]; exact hQ _⟩
  rcases h3 with ⟨rfl, e⟩ | ⟨v, x, rfl, e, hF⟩
  · exact go (u := .none) .none (by rw [e]; rfl)
  · exact go (u := x) (FRel.vr hF) (by rw [e]; rfl)
theorem getD_sound {k' d' : PV} {es : List (PV × PV)} {r : Option PV} {x y w : Value} (k : OkZ cx z) (hz : s.heap = z.h) (hx : RV cx z (.dict es) x) (hy : VR cx z k' y) (hw : VR cx z d' w) (h : assoc k' es = some r) :
    Runs cx A (call (.builtin "dict.get") [x, y, w]) z (r.getD d') z.st s := by
  obtain ⟨d, o, rfl, ho, hd, hsm⟩ := hx
  have ho' := ho; rw [← hz] at ho'
  obtain ⟨K, inst, knd, kk, f, h1, h2, h3⟩ := dict_look hd (hy.rv k) h
  obtain ⟨hm, hT⟩ := h2 _ d ho'
  have go : ∀ {u : Value}, VR cx z (r.getD d') u → (f kk).getD w = u → Runs cx A (call (.builtin "dict.get") [.ref d, y, w]) z (r.getD d') z.st s := fun {u} hv e =>
    .val k hz hv fun E Q hQ => call_meetsIn F.slot_dict_get hT F.entry_dict_get (F.args_dict_get_3 _ _ _) (meets_dict_get_default knd d h1 hsm w) ⟨f, hm, by
      show Q _ _; rw [e]; exact hQ _⟩
  rcases h3 with ⟨rfl, e⟩ | ⟨v, x, rfl, e, hF⟩
  · exact go hw (by rw [e]; rfl)
  · exact go (u := x) (FRel.vr hF) (by rw [e]; rfl)
end
end Mine
end
section
namespace Mine
open PySem
theorem gluedEmpty (l : List Str) : (Builtin.Str.glued (PySem.Str.ofString "") l).cps.toList = (l.map (·.cps.toList)).flatten := by
  have key : ∀ (l : List Str) (acc : Array Nat), (l.foldl (fun acc p => acc ++ (PySem.Str.ofString "").cps ++ p.cps) acc).toList = acc.toList ++ (l.map (·.cps.toList)).flatten := by
    intro l
    induction l with
    | nil => exact fun acc => (List.append_nil _).symm
    | cons p r ih =>
      intro acc
      rw [List.foldl_cons, ih, Array.toList_append, Array.toList_append]
      show (acc.toList ++ [] ++ p.cps.toList) ++ _ = acc.toList ++ (p.cps.toList ++ _)
      rw [List.append_nil, List.append_assoc]
  cases l with
  | nil => rfl
  | cons p r => exact key r p.cps
section
variable {cx : Cx} {z : Z} {A : Around} {s : Shared}
theorem strsOf_are {xs : List PV} : ∀ {vs : List Value} {l : List (List Nat)}, strsOf xs = some l → VRs cx z xs vs → ∃ ps : List (Str × Tok), vs = strValues ps ∧ ps.map (·.1.cps.toList) = l := by
  induction xs with
  | nil => exact fun {vs l} h hv => hv.nil_el (C := fun vs => ∃ ps : List (Str × Tok), vs = strValues ps ∧ ps.map (·.1.cps.toList) = l) ⟨[], rfl, Option.some.inj h⟩
  | cons x xs ih =>
    intro vs l h hv
    refine hv.cons_el (C := fun vs => ∃ ps : List (Str × Tok), vs = strValues ps ∧ ps.map (·.1.cps.toList) = l) fun a us ha hs => ?_
    cases x with
    | str i => cases ha with
      | str _ y t e =>
        obtain ⟨m, hm, rfl⟩ := Option.map_eq_some_iff.mp h
        obtain ⟨ps, rfl, rfl⟩ := ih hm hs
        exact ⟨(y, t) :: ps, rfl, e ▸ rfl⟩
    | _ => exact nn h
theorem foldl_len (ps : List Str) : ∀ acc : Nat, ps.foldl (fun a p => a + p.length + 0) acc = acc + (ps.map (·.cps.toList)).flatten.length := by
  induction ps with
  | nil => exact fun _ => rfl
  | cons p r ih =>
    intro acc
    rw [List.foldl_cons, ih, List.map_cons, List.flatten_cons, List.length_append, str_len, Nat.add_zero, Nat.add_assoc]
theorem join_sound {l : List (List Nat)} {xs : List PV} {x y : Value} (k : OkZ cx z) (hz : s.heap = z.h) (hx : RV cx z (.str []) x) (hy : RV cx z (.list xs) y) (hl : strsOf xs = some l) (hle : l.flatten.length ≤ lim) :
    Runs cx A (call (.builtin "str.join") [x, y]) z (.str l.flatten) z.st s := by
  obtain ⟨sep, t, rfl, he⟩ := hx
  obtain rfl : sep = PySem.Str.ofString "" := str_ext he
  obtain ⟨a, n, items, rfl, ho, hv⟩ := hy
  obtain ⟨ps, e, rfl⟩ := strsOf_are hl hv
  have ho' := ho; rw [← hz] at ho'
  have hL : s.heap.IsList a (strValues ps).toArray := by
    rw [← e]; exact lst_arr (lst_at hz ho)
  have hfl : (List.foldl (fun (x1 : Nat) (x2 : Str) => x1 + x2.length + (PySem.Str.ofString "").length) 0 (ps.map (·.1))) = (ps.map (·.1.cps.toList)).flatten.length := by
    have := foldl_len (ps.map (·.1)) 0
    rw [List.map_map, Nat.zero_add] at this
    exact this
  have hjm : Builtin.Str.tooLong ((ps.map (·.1)).toArray.foldl (· + ·.length + (PySem.Str.ofString "").length) 0) = false := by
    refine decide_eq_false (Nat.not_lt.mpr ?_)
    rw [List.foldl_toArray, hfl]; exact lim_le hle
  have base : ∀ {v : PV} {Q E : Value → Shared → Prop}, (joinMade (PySem.Str.ofString "") ps).post Q s → wpAny (model cx.prog cx.w) A (call (.builtin "str.join") [.str (PySem.Str.ofString "") t, .ref a]) Q E s := fun {v Q E} h =>
    call_meets F.slot_str_join (typeIs_str s _ t) F.entry_str_join (F.args_str_join_2 _ _) (meets_str_join_list _ t a ps hjm) ⟨hL, h⟩
  have many : joinMade (PySem.Str.ofString "") ps = .str (Builtin.Str.glued (PySem.Str.ofString "") (ps.map (·.1))) → Runs cx A (call (.builtin "str.join") [.str (PySem.Str.ofString "") t, .ref a]) z (.str (ps.map (·.1.cps.toList)).flatten) z.st s := fun ej => by
    have eg : (Builtin.Str.glued (PySem.Str.ofString "") (ps.map (·.1))).cps.toList = (ps.map (·.1.cps.toList)).flatten := by
      rw [gluedEmpty, List.map_map]; rfl
    refine .str (y := Builtin.Str.glued (PySem.Str.ofString "") (ps.map (·.1))) k hz eg fun E Q hQ => base (v := .none) ?_
    rw [ej]
    refine ⟨?_, hQ _ _⟩
    rw [str_len, eg]; exact lim_le hle
  cases ps with
  | nil => exact many rfl
  | cons p r =>
    cases r with
    | nil =>
      refine .val (x := .str p.1 p.2) k hz (.str _ p.1 p.2 (List.append_nil _).symm) fun E Q hQ => base (v := .none) (hQ _)
    | cons q r => exact many rfl
theorem meth_sound {m : Me} {o : PV} {args : List PV} {x : Value} {vals : List Value} {v : PV} {st' : Store} (h : pmeth m o args z.st = some (v, st')) (k : OkZ cx z) (hz : s.heap = z.h) (hx : VR cx z o x) (ha : VRs cx z args vals) :
    Runs cx A (call (.builtin (meId m)) (x :: vals)) z v st' s := by
  cases m with
  | lower => exact a0_vr (P := fun vals => Runs cx A (call (.builtin "str.lower") (x :: vals)) z v st' s) h ha fun h => oS_vr (R := fun x => Runs cx A (call (.builtin "str.lower") [x]) z v st' s) h hx fun y t h => (Option.map_eq_some_iff.mp h).elim fun r h => rs (congrArg some h.2) (lower_sound k hz h.1)
  | join =>
    refine a1_vr (P := fun vals => Runs cx A (call (.builtin "str.join") (x :: vals)) z v st' s) h ha fun p y h hy => ?_
    cases o with
    | str l => exact bif_el h fun he h => oL_rv h (hy.rd k) fun xs h hr => oO_el h fun l' hl h => rbs h fun hc => an hc fun hc _ => join_sound k hz (List.isEmpty_iff.mp he ▸ hx.rv k) hr hl (dt hc)
    | _ => exact nn h
  | append => exact a1_vr (P := fun vals => Runs cx A (call (.builtin "list.append") (x :: vals)) z v st' s) h ha fun p y h hy => oR_rv k h hx fun n h hx => sL_el h fun xs hp h => rbs h fun hc => append_sound k hz hp hx hy (dt hc)
  | extend => exact a1_vr (P := fun vals => Runs cx A (call (.builtin "list.extend") (x :: vals)) z v st' s) h ha fun p y h hy => oR_rv k h hx fun n h hx => sL_el h fun xs hp h => oL_rv h (hy.rv k) fun ys h hy => rbs h fun hc => extend_sound k hz hp hx hy (dt hc)
  | insert => exact a2_vr (P := fun vals => Runs cx A (call (.builtin "list.insert") (x :: vals)) z v st' s) h ha fun p q y w h hy hw => oR_rv k h hx fun n h hx => oI_vr (R := fun y => Runs cx A (call (.builtin "list.insert") [x, y, w]) z v st' s) h hy fun i t h => sL_el h fun xs hp h => rbs h fun hc => an hc fun h0 hc => by cases dt h0; exact insert_sound k hz hp hx hw (dt hc)
  | pop => exact a0_vr (P := fun vals => Runs cx A (call (.builtin "list.pop") (x :: vals)) z v st' s) h ha fun h => oR_rv k h hx fun n h hx => sL_el h fun xs hp h => oO_el h fun u hl h => rbs h fun hc => pop_sound k hz hp hx hl (dt hc)
  | get => cases args with
    | nil => exact nn h
    | cons p r =>
      refine ha.cons_el (C := fun vals => Runs cx A (call (.builtin "dict.get") (x :: vals)) z v st' s) fun y us hy hs => oD_rv h (hx.rd k) fun es h hr => oO_el h fun u hu h => ?_
      cases r with
      | nil => exact hs.nil_el (C := fun us => Runs cx A (call (.builtin "dict.get") (x :: y :: us)) z v st' s) (rs h (get_sound k hz hr hy hu))
      | cons d r =>
        refine hs.cons_el (C := fun us => Runs cx A (call (.builtin "dict.get") (x :: y :: us)) z v st' s) fun w us hw hs => ?_
        exact a0_vr (P := fun us => Runs cx A (call (.builtin "dict.get") (x :: y :: w :: us)) z v st' s) h hs fun h => rs h (getD_sound k hz hr hy hw hu)
end
end Mine
end
section
namespace Mine
open PySem
section
variable {cx : Cx} {z z' z'' : Z}
theorem ExtB.trans {ow : Addr → Prop} (a : ExtB ow z z') (b : ExtB ow z' z'') : ExtB ow z z'' :=
  ⟨fun n x h => b.sig n x (a.sig n x h), fun x o h => b.frz x o (a.frz x o h), fun x o h f => by
    obtain ⟨f1, ⟨o1, e1⟩, h1⟩ := a.prv x o h f
    obtain ⟨f2, e2, h2⟩ := b.prv x o1 e1 f1
    refine ⟨f2, e2, fun hn => ?_⟩
    cases Option.some.inj (e1.symm.trans (h1 hn))
    exact h2 hn⟩
theorem ExtB.shrink {ow ow' : Addr → Prop} (a : ExtB ow z z') (h : ∀ x o, ow x → z.h.get? x = some o → ow' x) : ExtB ow' z z' :=
  ⟨a.sig, a.frz, fun x o hx f => let ⟨f1, e1, h1⟩ := a.prv x o hx f; ⟨f1, e1, fun hn => h1 fun hw => hn (h x o hw hx)⟩⟩
theorem ExtB.toExt {ow : Addr → Prop} (a : ExtB ow z z') (h : ∀ x o, ow x → z.h.get? x ≠ some o) : Ext z z' :=
  ⟨a.sig, a.frz, fun x o hx f => let ⟨f1, e1, h1⟩ := a.prv x o hx f; ⟨h1 fun hw => h x o hw hx, f1⟩⟩
theorem ExtB.thenB {ow ow' : Addr → Prop} (a : ExtB ow z z') (b : ExtB ow' z' z'') (h : ∀ x o, ow' x → z.h.get? x = some o → ow x) : ExtB ow z z'' :=
  ⟨fun n x h => b.sig n x (a.sig n x h), fun x o h => b.frz x o (a.frz x o h), fun x o hx f => by
    obtain ⟨f1, ⟨o1, e1⟩, h1⟩ := a.prv x o hx f
    obtain ⟨f2, e2, h2⟩ := b.prv x o1 e1 f1
    refine ⟨f2, e2, fun hn => ?_⟩
    cases Option.some.inj (e1.symm.trans (h1 hn))
    exact h2 fun hw => hn (h x _ hw hx)⟩
theorem ExtB.change {ow : Addr → Prop} (a : ExtB ow z z') {wr : List Addr} {h' : Heap} (hw : ∀ b ∈ wr, z.h.get? b = none) (hk : ∀ b o, b ∉ wr → z'.h.get? b = some o → h'.get? b = some o) : ExtB ow z { z' with h := h' } :=
  ⟨a.sig, a.frz, fun x o hx f => by
    obtain ⟨f1, ⟨o1, e1⟩, h1⟩ := a.prv x o hx f
    have hn : x ∉ wr := fun hm => by rw [hw x hm] at hx; cases hx
    exact ⟨⟨f1.b, f1.l⟩, ⟨o1, hk x o1 hn e1⟩, fun hn' => hk x o hn (h1 hn')⟩⟩
theorem Ext.trans' {z z' z'' : Z} (a : Ext z z') (b : Ext z' z'') : Ext z z'' := a.trans b
noncomputable def itNames : List String := ["list_iterator", "range_iterator", "dict_keyiterator", "str_iterator", "str_ascii_iterator"]
structure It (cx : Cx) (I : Addr) (items : List PV) (fp : List Addr) (P : Nat → Value → Prop) (St : Nat → Heap → Prop) : Prop where
  W : ∀ A : Around, A.handled = none → Walks cx.prog cx.w A I fp [I] items.length P St
  cls : ∀ k h, St k h → ∃ o n, h.get? I = some o ∧ o.cls = .type n ∧ n ∈ itNames
structure ItZ (cx : Cx) (I : Addr) (items : List PV) (fp : List Addr) (P : Nat → Value → Prop) (St : Nat → Heap → Prop) (z : Z) (k : Nat) : Prop where
  st : St k z.h
  mine : Free z I
  fz : ∀ b ∈ fp, (∃ o, z.h.get? b = some o) ∧ (b = I ∨ ∃ o, z.B b = some o)
  val : ∀ (i : Nat) v x, P i v → items[i]? = some x → VR cx z x v
theorem VRel.extB {ow} (e : ExtB ow z z') {v : PV} {x : Value} (h : VR cx z v x) : VR cx z' v x := h.mono e.sig e.frz
variable {I : Addr} {items : List PV} {fp : List Addr} {P : Nat → Value → Prop} {St : Nat → Heap → Prop}
theorem ItZ.extB {ow : Addr → Prop} {j : Nat} (it : It cx I items fp P St) (t : ItZ cx I items fp P St z j) (e : ExtB ow z z') (hw : ¬ ow I) (k : OkZ cx z) (k' : OkZ cx z') : ItZ cx I items fp P St z' j := by
  have keep : ∀ b ∈ fp, ∀ o, z.h.get? b = some o → z'.h.get? b = some o := fun b hb o ho => by
    rcases (t.fz b hb).2 with hm | ⟨o', ho'⟩
    · subst hm; exact (e.prv _ o ho t.mine).2.2 hw
    · have h1 := k.sub _ _ ho'
      rw [ho] at h1; cases h1
      exact k'.sub _ _ (e.frz _ _ ho')
  obtain ⟨o, _, ho, _⟩ := it.cls _ _ t.st
  refine ⟨(it.W {} rfl).frame j _ _ t.st keep, (e.prv _ o ho t.mine).1, fun b hb => ?_, fun i v x hP hi => (t.val i v x hP hi).extB e⟩
  · obtain ⟨⟨o, ho⟩, hr⟩ := t.fz b hb
    exact ⟨⟨o, keep b hb o ho⟩, hr.imp (fun h => h) fun ⟨o', ho'⟩ => ⟨o', e.frz _ _ ho'⟩⟩
variable {M : Model} {A : Around} {E : Value → Shared → Prop} {s : Shared}
theorem wpAny_noOwnedTuple {target : Expr} {I : Addr} {v : Value} {o : Obj} {n : String} {Q : Unit → Shared → Prop} (ho : s.heap.get? I = some o) (hc : o.cls = .type n)
    (hn : n ∈ itNames) (hQ : Q () s) : wpAny M A (letOwnedTupleGo target (.ref I) v) Q E s := by
  unfold letOwnedTupleGo
  cases target <;> try exact wpAny_pure hQ
  all_goals
    cases v <;> try exact wpAny_pure hQ
    refine wpAny_bind (wpAny_load ho ?_)
    rw [hc]
    have no : ∀ f : String → Bool, (∀ m ∈ itNames, f m = false) → f n = true → False := fun f hf h => by rw [hf n hn] at h; cases h
    cases o.data <;> first | exact wpAny_pure hQ | exact wpAny_ite_split (fun h => (no _ (by decide) (Bool.and_eq_true_iff.mp h).1).elim) fun _ => wpAny_pure hQ
theorem ItZ.next {j : Nat} (it : It cx I items fp P St) (t : ItZ cx I items fp P St z j) (k : OkZ cx z) (hz : s.heap = z.h) (hh : A.handled = none) {x : PV} (hx : items[j]? = some x)
    {Q : Option Value → Shared → Prop} (hQ : ∀ v h' tk, OkZ cx { z with h := h' } → ItZ cx I items fp P St { z with h := h' } (j + 1) → VR cx z x v → (∀ b o, b ∉ [I] → z.h.get? b = some o → h'.get? b = some o) → Q (some v) { s with heap := h', toks := tk }) :
    wpAny (model cx.prog cx.w) A (pyNext (.ref I)) Q E s := by
  refine (it.W A hh).item j s Q E (List.getElem?_eq_some_iff.mp hx).1 (by rw [hz]; exact t.st) fun v h' tk hP hst hk => ?_
  rw [hz] at hk
  have hne : ∀ b o, z.B b = some o → b ∉ [I] := fun b o e hm => by
    cases List.mem_singleton.mp hm; exact nn (t.mine.b.symm.trans e)
  have hk' : ∀ b o, z.h.get? b = some o → ¬ Free z b → h'.get? b = some o := fun b o e hf => hk b o (fun hm => hf (List.mem_singleton.mp hm ▸ t.mine)) e
  refine hQ v h' tk (k.keep hk') ⟨hst, ⟨t.mine.b, t.mine.l⟩, fun b hb => ?_, t.val⟩ (t.val j v x hP hx) hk
  obtain ⟨⟨o, ho⟩, hr⟩ := t.fz b hb
  rcases hr with rfl | ⟨o', ho'⟩
  · obtain ⟨o', _, ho', _⟩ := it.cls _ _ hst
    exact ⟨⟨o', ho'⟩, .inl rfl⟩
  · exact ⟨⟨o, hk b o (hne b o' ho') ho⟩, .inr ⟨o', ho'⟩⟩
theorem ItZ.done {j : Nat} (it : It cx I items fp P St) (t : ItZ cx I items fp P St z j) (k : OkZ cx z) (hz : s.heap = z.h) (hh : A.handled = none) (hj : j = items.length)
    {Q : Option Value → Shared → Prop} (hQ : ∀ h' tk, OkZ cx { z with h := h' } → (∀ b o, b ∉ [I] → z.h.get? b = some o → h'.get? b = some o) → Q none { s with heap := h', toks := tk }) :
    wpAny (model cx.prog cx.w) A (pyNext (.ref I)) Q E s := by
  subst hj
  refine (it.W A hh).done s Q E (by rw [hz]; exact t.st) fun h' tk hk => ?_
  rw [hz] at hk
  exact hQ h' tk (k.keep fun b o e hf => hk b o (fun hm => hf (List.mem_singleton.mp hm ▸ t.mine)) e) hk
theorem isInt_val {i : Int} {v : Value} (h : (intKind cx.prog cx.w).is i v = true) : VR cx z (.int i) v := by
  obtain ⟨t, rfl⟩ := Value.isInt_shape h; exact .int _ _
theorem isStr_val {i : Str} {v : Value} (h : (strKind cx.prog cx.w).is i v = true) : VR cx z (.str i.cps.toList) v := by
  obtain ⟨t, rfl⟩ := Value.isStrOf_shape h; exact .str _ _ _ rfl
theorem EI.key {es : List (PV × PV)} : ∀ {kvs : List (Int × Value)} {i : Nat} {k : PV} {p : Int × Value}, EI es kvs → (es.map (·.1))[i]? = some k → kvs[i]? = some p → k = .int p.1 := by
  induction es with
  | nil => exact fun _ h1 _ => nn h1
  | cons q r ih =>
    intro kvs i k p h h1 h2
    cases kvs with
    | nil => exact nn h2
    | cons y t => cases i with
      | zero => exact (Option.some.inj h1).symm.trans (h.1.trans (congrArg (fun p : Int × Value => PV.int p.1) (Option.some.inj h2)))
      | succ i => exact ih (i := i) h.2.2 h1 h2
theorem ES.key {es : List (PV × PV)} : ∀ {kvs : List (Str × Value)} {i : Nat} {k : PV} {p : Str × Value}, ES es kvs → (es.map (·.1))[i]? = some k → kvs[i]? = some p → k = .str p.1.cps.toList := by
  induction es with
  | nil => exact fun _ h1 _ => nn h1
  | cons q r ih =>
    intro kvs i k p h h1 h2
    cases kvs with
    | nil => exact nn h2
    | cons y t => cases i with
      | zero => exact (Option.some.inj h1).symm.trans (h.1.trans (congrArg (fun p : Str × Value => PV.str p.1.cps.toList) (Option.some.inj h2)))
      | succ i => exact ih (i := i) h.2.2 h1 h2
theorem dictAt_of {K : Type} [DecidableEq K] {knd : KeyKind cx.prog cx.w K} {h : Heap} {a : Addr} {kvs : List (K × Value)} (x : h.DictOf knd a kvs) : ∃ ep, h.DictAt knd a kvs ep :=
  x.elim fun o x => x.elim fun es x => x.elim fun ep x => ⟨ep, o, es, x⟩
noncomputable def IterPost (cx : Cx) (z : Z) (items : List PV) (st' : Store) (s : Shared) (Q : Value → Shared → Prop) : Prop :=
  ∀ I fp P St z' tk, It cx I items fp P St → ItZ cx I items fp P St z' 0 → OkZ cx z' → Ext z z' → z'.st = st' → z.h.get? I = none → Q (.ref I) { s with heap := z'.h, toks := tk }
theorem iter_list (k : OkZ cx z) (hz : s.heap = z.h) {l : Addr} {n : Nat} {its : Array Value} {xs : List PV} {st' : Store} {z0 : Z} (e0 : Ext z0 z) (hst : z.st = st') (hB : z.B l = some { cls := .type "list", dict := none, data := .seq its n, slots := #[] })
    (hv : VRs cx z xs its.toList) {Q : Value → Shared → Prop} (h0 : ∀ a, z.h.get? a = none → z0.h.get? a = none) (hQ : IterPost cx z0 xs st' s Q) :
    wpAny (model cx.prog cx.w) A (pyIter (.ref l)) Q E s := by
  have hl : s.heap.IsList l its := lst_at hz (k.sub _ _ hB)
  refine wpAny_pyIter_list hl ?_
  have hn := none_at_size hz
  have hk : ∀ b x, z.h.get? b = some x → (s.heap.push { cls := .type "list_iterator", data := .fields #[.ref l, .int 0 0] }).get? b = some x := fun b x e => by rw [hz]; exact Heap.get?_push_of_some _ e
  have hnew : (s.heap.push { cls := .type "list_iterator", data := .fields #[.ref l, .int 0 0] }).get? s.heap.objs.size = some { cls := .type "list_iterator", data := .fields #[.ref l, .int 0 0] } := Heap.get?_push_size _ rfl
  have hne : l ≠ s.heap.objs.size := fun e => nn (hn.symm.trans (e ▸ k.sub _ _ hB))
  have hf := k.free_of_none hn
  have hlen : xs.length = its.size := hv.length
  refine hQ s.heap.objs.size [s.heap.objs.size, l] (fun i v => its[i]? = some v) (fun i h => h.IsListIter s.heap.objs.size l i ∧ h.IsList l its) { z with h := s.heap.push { cls := .type "list_iterator", data := .fields #[.ref l, .int 0 0] } } s.toks
    ⟨fun A hA => by rw [hlen]; exact Walks.list hA _ _ hne its, fun k h hst => let ⟨o, ho, hc, _⟩ := hst.1; ⟨o, _, ho, hc, by decide⟩⟩
    ⟨⟨⟨_, hnew, rfl, rfl⟩, ⟨_, hk _ _ (k.sub _ _ hB), rfl, n, rfl⟩⟩, ⟨hf.b, hf.l⟩, fun b hb => ?_, fun i v x hP hx => ?_⟩ (k.keep fun b o e _ => hk b o e) (e0.trans (.keep hk)) hst (h0 _ hn)
  · simp only [List.mem_cons, List.not_mem_nil, or_false] at hb
    rcases hb with rfl | rfl
    · exact ⟨⟨_, hnew⟩, .inl rfl⟩
    · exact ⟨⟨_, hk _ _ (k.sub _ _ hB)⟩, .inr ⟨_, hB⟩⟩
  · obtain ⟨v', hv', hr⟩ := hv.get hx
    exact Option.some.inj (hv'.symm.trans ((Array.getElem?_toList ..).trans hP)) ▸ hr
theorem iter_dict {K : Type} [DecidableEq K] {knd : KeyKind cx.prog cx.w K} (k : OkZ cx z) (hz : s.heap = z.h) {d : Addr} {o : Obj} {kvs : List (K × Value)} {es : List (PV × PV)} (hB : z.B d = some o) (hsm : (d == sysModules) = false)
    (hD : DObj knd o kvs) (hlen : es.length = kvs.length) (hkey : ∀ (i : Nat) p x v, kvs[i]? = some p → (es.map (·.1))[i]? = some x → knd.is p.1 v = true → VR cx z x v) {Q : Value → Shared → Prop} (hQ : IterPost cx z (es.map (·.1)) z.st s Q) :
    wpAny (model cx.prog cx.w) A (pyIter (.ref d)) Q E s := by
  obtain ⟨ep, hat⟩ := dictAt_of (hD s.heap d (by rw [hz]; exact k.sub _ _ hB))
  refine wpAny_pyIter_dict hsm hat ?_
  have hn := none_at_size hz
  generalize ho' : ({ cls := .type "dict_keyiterator", data := .fields #[.ref d, .int 0 0, .int kvs.length 0, .int ep 0] } : Obj) = oi
  have hk : ∀ b x, z.h.get? b = some x → (s.heap.push oi).get? b = some x := fun b x e => by rw [hz]; exact Heap.get?_push_of_some _ e
  have hnew : (s.heap.push oi).get? s.heap.objs.size = some oi := Heap.get?_push_size _ (by rw [← ho']; rfl)
  have hne : d ≠ s.heap.objs.size := fun e => nn (hn.symm.trans (e ▸ k.sub _ _ hB))
  have hf := k.free_of_none hn
  refine hQ s.heap.objs.size [s.heap.objs.size, d] (fun i v => ∃ k x, kvs[i]? = some (k, x) ∧ knd.is k v = true) (fun i h => h.IsKeyIter s.heap.objs.size d i kvs.length ep ∧ h.DictAt knd d kvs ep) { z with h := s.heap.push oi } s.toks
    ⟨fun A hA => by rw [List.length_map, hlen]; exact Walks.dictKeys hA _ _ hne kvs ep, fun k h hst => let ⟨o, ho, hc, _⟩ := hst.1; ⟨o, _, ho, hc, by decide⟩⟩
    ⟨⟨⟨_, hnew, by rw [← ho'], by rw [← ho']; rfl⟩, hat.push _⟩, ⟨hf.b, hf.l⟩, fun b hb => ?_, fun i v x hP hx => ?_⟩ (k.keep fun b o e _ => hk b o e) (.keep hk) rfl hn
  · simp only [List.mem_cons, List.not_mem_nil, or_false] at hb
    rcases hb with rfl | rfl
    · exact ⟨⟨_, hnew⟩, .inl rfl⟩
    · exact ⟨⟨_, hk _ _ (k.sub _ _ hB)⟩, .inr ⟨_, hB⟩⟩
  · obtain ⟨kk, y, h1, h2⟩ := hP
    exact hkey i _ x v h1 hx h2
theorem iter_rng {lo st : Int} {n : Nat} {x : Value} (k : OkZ cx z) (hz : s.heap = z.h) (hv : VR cx z (.rng lo n st) x) {Q : Value → Shared → Prop} (hQ : IterPost cx z (rngItems lo n st) z.st s Q) :
    wpAny (model cx.prog cx.w) A (pyIter x) Q E s := by
  have hn := none_at_size hz
  have hf := k.free_of_none hn
  obtain ⟨a, hi, t, u, w, rfl, ha, h1, h2⟩ := hv.rv k
  have hr : IsRange s.heap a lo hi st t u w := by rw [hz]; exact ha
  refine wpAny_pyIter_range hr h1 ?_
  rw [h2]
  generalize ho : ({ cls := .type "range_iterator", data := .fields #[rawInt lo, rawInt (n : Int), rawInt st] } : Obj) = oi
  have hk : ∀ b x, z.h.get? b = some x → (s.heap.push oi).get? b = some x := fun b x e => by rw [hz]; exact Heap.get?_push_of_some _ e
  have hnew : (s.heap.push oi).get? s.heap.objs.size = some oi := Heap.get?_push_size _ (ho ▸ rfl)
  refine hQ s.heap.objs.size [s.heap.objs.size] (fun i v => ∃ t, v = .int (lo + i * st) t) (fun i h => IsRangeIter h s.heap.objs.size (lo + (i : Nat) * st) ((n : Int) - (i : Nat)) st) { z with h := s.heap.push oi } s.toks
    ⟨fun A hA => by rw [rngItems_length]; exact Walks.range hA _ _ _ _, fun k h hst => ⟨_, _, hst, rfl, by decide⟩⟩ ⟨?_, ⟨hf.b, hf.l⟩, fun b hb => by cases List.mem_singleton.mp hb; exact ⟨⟨_, hnew⟩, .inl rfl⟩, fun i v x hP hx => ?_⟩ (k.keep fun b o e _ => hk b o e) (.keep hk) rfl hn
  · show IsRangeIter _ _ (lo + ((0 : Nat) : Int) * st) ((n : Int) - ((0 : Nat) : Int)) st
    rw [Int.natCast_zero, Int.zero_mul, Int.add_zero, Int.sub_zero]
    exact hnew.trans (congrArg some ho.symm)
  · obtain ⟨t, rfl⟩ := hP
    have hi' := rngItems_length n lo st ▸ (List.getElem?_eq_some_iff.mp hx).1
    exact Option.some.inj ((rngItems_get _ _ _ _ hi').symm.trans hx) ▸ .int _ _
theorem iter_str {y : Str} {t : Tok} (k : OkZ cx z) (hz : s.heap = z.h) {Q : Value → Shared → Prop} (hQ : IterPost cx z (y.cps.toList.map fun c => .str [c]) z.st s Q) :
    wpAny (model cx.prog cx.w) A (pyIter (.str y t)) Q E s := by
  have hn := none_at_size hz
  have hf := k.free_of_none hn
  have fin : ∀ (ty : String) (hty : ty ∈ itNames)
      (hW : ∀ A' : Around, A'.handled = none → Walks cx.prog cx.w A' s.heap.objs.size [s.heap.objs.size] [s.heap.objs.size] y.cps.size (SignAt y) (fun i h => h.IsStrIter s.heap.objs.size ty y t i)),
      Q (.ref s.heap.objs.size) { s with heap := s.heap.push { cls := .type ty, data := .fields #[.str y t, .int 0 0] } } := fun ty hty hW => by
    generalize ho : ({ cls := .type ty, data := .fields #[.str y t, .int 0 0] } : Obj) = oi
    have hk : ∀ b x, z.h.get? b = some x → (s.heap.push oi).get? b = some x := fun b x e => by rw [hz]; exact Heap.get?_push_of_some _ e
    have hnew : (s.heap.push oi).get? s.heap.objs.size = some oi := Heap.get?_push_size _ (ho ▸ rfl)
    refine hQ s.heap.objs.size [s.heap.objs.size] (SignAt y) (fun i h => h.IsStrIter s.heap.objs.size ty y t i) { z with h := s.heap.push oi } s.toks
      ⟨fun A hA => by rw [List.length_map, Array.length_toList]; exact hW A hA, fun k h hst => hst.elim fun o h => ⟨o, _, h.1, h.2.1, hty⟩⟩ ⟨⟨_, hnew, ho ▸ rfl, ho ▸ rfl⟩, ⟨hf.b, hf.l⟩, fun b hb => by cases List.mem_singleton.mp hb; exact ⟨⟨_, hnew⟩, .inl rfl⟩, fun i v x hP hx => ?_⟩ (k.keep fun b o e _ => hk b o e) (.keep hk) rfl hn
    obtain ⟨c, u, h1, rfl⟩ := hP
    rw [List.getElem?_map, Array.getElem?_toList, h1] at hx
    exact Option.some.inj hx ▸ .str _ _ _ rfl
  cases ha : y.cps.all (· < 128)
  · exact wpAny_pyIter_wide ha (fin _ (by decide) fun A' hA => Walks.strWide hA _ y t)
  · exact wpAny_pyIter_ascii ha (fin _ (by decide) fun A' hA => Walks.strAscii hA _ y t)
theorem it_el {items l : List PV} {st st' : Store} {P : List PV → Store → Prop} (h : some (l, st) = some (items, st')) (k : P l st) : P items st' := by cases h; exact k
theorem iter_sound {v : PV} {x : Value} {items : List PV} {st' : Store} (h : itemsOf z.st v = some (items, st')) (k : OkZ cx z) (hz : s.heap = z.h) (hv : VR cx z v x) {Q : Value → Shared → Prop} (hQ : IterPost cx z items st' s Q) :
    wpAny (model cx.prog cx.w) A (pyIter x) Q E s := by
  revert hQ
  cases v with
  | rng lo n st => exact it_el (P := fun items st' => IterPost cx z items st' s Q → wpAny (model cx.prog cx.w) A (pyIter x) Q E s) h (iter_rng k hz hv)
  | str l =>
    refine bif_el h fun _ h => it_el (P := fun items st' => IterPost cx z items st' s Q → wpAny (model cx.prog cx.w) A (pyIter x) Q E s) h ?_
    obtain ⟨y, t, rfl, rfl⟩ := hv.rv k
    exact iter_str k hz
  | dict es =>
    refine it_el (P := fun items st' => IterPost cx z items st' s Q → wpAny (model cx.prog cx.w) A (pyIter x) Q E s) h ?_
    cases hv with
    | dict ha hd hsm =>
      cases hd with
      | ik kvs hD hE => exact iter_dict k hz ha hsm hD hE.length (fun i p x v h1 h2 h3 => by rw [hE.key h2 h1]; exact isInt_val h3)
      | sk kvs hD hE => exact iter_dict k hz ha hsm hD hE.length (fun i p x v h1 h2 h3 => by rw [hE.key h2 h1]; exact isStr_val h3)
  | list xs =>
    refine bif_el h fun _ h => it_el (P := fun items st' => IterPost cx z items st' s Q → wpAny (model cx.prog cx.w) A (pyIter x) Q E s) h ?_
    cases hv with
    | list ha ho hs => obtain ⟨n, e⟩ := ho; subst e; exact iter_list k hz (.refl _) rfl ha hs (fun _ h => h)
  | ref n =>
    refine sL_el h fun xs hp h => bif_el h fun _ h => it_el (P := fun items st' => IterPost cx z items st' s Q → wpAny (model cx.prog cx.w) A (pyIter x) Q E s) h ?_
    obtain ⟨a, m, its, rfl, hσ, ho, hvs⟩ := store_list k hp (hv.rv k)
    have hp0 : (PObj.list xs) ≠ .dead := nofun
    have k1 := k.die hp hp0 hσ ho
    have x1 := k.die_ext (o := { cls := .type "list", dict := none, data := .seq its m, slots := #[] }) hp hp0 hσ
    exact iter_list k1 hz x1 rfl (addB_self _ _ _) (hvs.ext x1) (fun _ h => h)
  | _ => exact nn h
end
end Mine
end
section
namespace Mine
open PySem
noncomputable def biNm : BI → Str
  | .len => "len"
  | .min => "min"
  | .sum => "sum"
  | .range => "range"
  | .list => "list"
  | .ord => "ord"
  | .chr => "chr"
  | .iter => "iter"
  | .next => "next"
noncomputable def meNm : Me → Str
  | .lower => "lower"
  | .join => "join"
  | .append => "append"
  | .extend => "extend"
  | .insert => "insert"
  | .pop => "pop"
  | .get => "get"
noncomputable def wrOk (cx : Cx) (names : Names) (i : Nat) : Bool := decide (i < cx.nm.length) && (names.lookup (cx.name i) == some .local || names.lookup (cx.name i) == some .cell)
noncomputable def glOk (names : Names) (x : Str) : Bool := names.lookup x == some .globalImplicit && !(x == ("__debug__" : Str))
noncomputable def nodupS : List Str → Bool
  | [] => true
  | x :: r => !r.contains x && nodupS r
noncomputable def compOk (cx : Cx) (names : Names) (scope : Scope) (fv : List Nat) : Bool :=
  scope.kind == .function && nodupS (scope.names.map (·.1)) && fv.all (fun i => decide (i < cx.nm.length) && scope.names.lookup (cx.name i) == some .free) &&
  scope.names.all (fun x => !(x.2 == .free) || names.lookup x.1 == some .cell || names.lookup x.1 == some .free)
inductive MtN (cx : Cx) (names : Names) : List Nat → List Expr → Prop
  | nil : MtN cx names [] []
  | cons (i : Nat) (p : Pos) {is : List Nat} {es : List Expr} : wrOk cx names i = true → MtN cx names is es → MtN cx names (i :: is) (.Name (cx.name i) p :: es)
inductive MtT (cx : Cx) (names : Names) : Tgt → Expr → Prop
  | one (i : Nat) (p : Pos) : wrOk cx names i = true → MtT cx names (.one i) (.Name (cx.name i) p)
  | tup {is : List Nat} {es : List Expr} (k : Nat) (p : Pos) : MtN cx names is es → MtT cx names (.tup is) (.Tuple es k p)
noncomputable def all2 {α β : Type} (f : α → β → Bool) : List α → List β → Bool
  | [], [] => true
  | x :: xs, y :: ys => f x y && all2 f xs ys
  | _, _ => false
noncomputable def opt2 {α β : Type} (f : α → β → Bool) : Option α → Option β → Bool
  | none, none => true
  | some x, some y => f x y
  | _, _ => false
noncomputable def seqB (x y : Str) : Bool := all2 Nat.beq x.cps.toList y.cps.toList
theorem all2_beq : ∀ {l m : List Nat}, all2 Nat.beq l m = true → l = m
  | [], [], _ => rfl
  | a :: l, b :: m, h => by
    simp only [all2, Bool.and_eq_true] at h
    rw [Nat.eq_of_beq_eq_true h.1, all2_beq h.2]
  | [], _ :: _, h => by cases h
  | _ :: _, [], h => by cases h
theorem seqB_eq {x y : Str} (h : seqB x y = true) : x = y := by
  cases x; cases y
  have := all2_beq h
  simpa [Array.toList_inj] using this
noncomputable def kindB : NameKind → NameKind → Bool
  | .local, .local => true
  | .cell, .cell => true
  | .free, .free => true
  | .globalImplicit, .globalImplicit => true
  | .globalExplicit, .globalExplicit => true
  | _, _ => false
theorem kindB_eq {a b : NameKind} (h : kindB a b = true) : a = b := by cases a <;> cases b <;> first | rfl | cases h
noncomputable def look (x : Str) : Names → Option NameKind
  | [] => none
  | (y, k) :: r => bif seqB x y then some k else look x r
theorem look_eq {x : Str} : ∀ {names : Names}, look x names = names.lookup x
  | [] => rfl
  | (y, k) :: r => by
    rw [look, List.lookup_cons]
    cases h : seqB x y with
    | true => rw [seqB_eq h]; simp
    | false =>
      have : (x == y) = false := by
        rw [beq_eq_false_iff_ne]; intro e; subst e
        have : seqB x x = true := by
          unfold seqB
          generalize x.cps.toList = l
          induction l with
          | nil => rfl
          | cons a l ih => simp [all2, ih]
        rw [h] at this; cases this
      rw [this]; exact look_eq
noncomputable def kOf (names : Names) (x : Str) (k : NameKind) : Bool := match look x names with
  | some k' => kindB k' k
  | none => false
theorem kOf_eq {names : Names} {x : Str} {k : NameKind} (h : kOf names x k = true) : names.lookup x = some k := by
  unfold kOf at h
  split at h
  · rename_i k' e
    rw [← look_eq, e, kindB_eq h]
  · cases h
noncomputable def wrB (cx : Cx) (names : Names) (i : Nat) (x : Str) : Bool := Nat.blt i cx.nm.length && seqB x (cx.name i) && (kOf names x .local || kOf names x .cell)
theorem wrB_ok {cx : Cx} {names : Names} {i : Nat} {x : Str} (h : wrB cx names i x = true) : x = cx.name i ∧ wrOk cx names i = true := by
  simp only [wrB, Bool.and_eq_true, Bool.or_eq_true] at h
  obtain ⟨⟨h1, h2⟩, h3⟩ := h
  have e := seqB_eq h2
  refine ⟨e, ?_⟩
  have h1' : i < cx.nm.length := Nat.le_of_ble_eq_true h1
  simp only [wrOk, Bool.and_eq_true, decide_eq_true_eq, Bool.or_eq_true, beq_iff_eq]
  rw [← e]
  exact ⟨h1', h3.imp kOf_eq kOf_eq⟩
noncomputable def dbg : Str := "__debug__"
noncomputable def glB (names : Names) (x : Str) : Bool := kOf names x .globalImplicit && !seqB x dbg
theorem seqB_self (x : Str) : seqB x x = true := by
  unfold seqB
  generalize x.cps.toList = l
  induction l with
  | nil => rfl
  | cons a l ih => simp [all2, ih]
theorem seqB_ne {x y : Str} (h : seqB x y = false) : (x == y) = false := by
  rw [beq_eq_false_iff_ne]; intro e; subst e
  rw [seqB_self] at h; cases h
theorem glB_ok {names : Names} {x : Str} (h : glB names x = true) : glOk names x = true := by
  simp only [glB, Bool.and_eq_true, Bool.not_eq_true'] at h
  simp only [glOk, Bool.and_eq_true, beq_iff_eq, Bool.not_eq_true']
  exact ⟨kOf_eq h.1, seqB_ne h.2⟩
noncomputable def memB (x : Str) : List Str → Bool
  | [] => false
  | y :: r => seqB x y || memB x r
noncomputable def ndB : List Str → Bool
  | [] => true
  | x :: r => !memB x r && ndB r
theorem memB_eq {x : Str} : ∀ {l : List Str}, memB x l = l.contains x
  | [] => rfl
  | y :: r => by
    rw [memB, List.contains_cons, memB_eq]
    cases h : seqB x y with
    | true => rw [seqB_eq h]; simp
    | false => rw [seqB_ne h]
theorem ndB_eq : ∀ {l : List Str}, ndB l = nodupS l
  | [] => rfl
  | x :: r => by rw [ndB, nodupS, memB_eq, ndB_eq]
noncomputable def fnB : ScopeKind → Bool
  | .function => true
  | _ => false
noncomputable def compB (cx : Cx) (names : Names) (scope : Scope) (fv : List Nat) : Bool :=
  fnB scope.kind && ndB (scope.names.map (·.1)) && fv.all (fun i => Nat.blt i cx.nm.length && kOf scope.names (cx.name i) .free) &&
  scope.names.all (fun x => !(kindB x.2 .free) || kOf names x.1 .cell || kOf names x.1 .free)
theorem compB_ok {cx : Cx} {names : Names} {scope : Scope} {fv : List Nat} (h : compB cx names scope fv = true) : compOk cx names scope fv = true := by
  simp only [compB, Bool.and_eq_true, List.all_eq_true] at h
  obtain ⟨⟨⟨h1, h2⟩, h3⟩, h4⟩ := h
  simp only [compOk, Bool.and_eq_true, List.all_eq_true, beq_iff_eq, decide_eq_true_eq]
  refine ⟨⟨⟨?_, by rw [← ndB_eq]; exact h2⟩, fun i hi => ?_⟩, fun x hx => ?_⟩
  · generalize scope.kind = k at h1
    cases k <;> first | rfl | cases h1
  · have := h3 i hi
    exact ⟨Nat.le_of_ble_eq_true this.1, kOf_eq this.2⟩
  · have := h4 x hx
    simp only [Bool.or_eq_true, Bool.not_eq_true'] at this
    simp only [Bool.or_eq_true, Bool.not_eq_true', beq_iff_eq]
    rcases this with (h | h) | h
    · refine .inl (.inl ?_)
      rw [beq_eq_false_iff_ne]; intro e; rw [e] at h; cases h
    · exact .inl (.inr (kOf_eq h))
    · exact .inr (kOf_eq h)
theorem dite_el {p : Prop} [Decidable p] {g : p → Bool} {P : Prop} (h : dite p g (fun _ => false) = true) (k : ∀ hp, g hp = true → P) : P := by
  by_cases hp : p
  · rw [dif_pos hp] at h; exact k hp h
  · rw [dif_neg hp] at h; exact ff h
theorem eq_el {α : Type} [DecidableEq α] {a b : α} {C : α → Prop} (h : decide (a = b) = true) (k : C b) : C a := of_decide_eq_true h ▸ k
theorem seq_el {a b : Str} {C : Str → Prop} (h : seqB a b = true) (k : C b) : C a := seqB_eq h ▸ k
theorem nbF {i j : Nat} (h : Nat.beq i j = false) : (i == j) = false := by
  rw [beq_eq_false_iff_ne]; intro e; subst e; rw [Nat.beq_refl] at h; cases h
theorem wr_el {cx : Cx} {names : Names} {i : Nat} {x : Str} {C : Str → Prop} (h : wrB cx names i x = true) (k : wrOk cx names i = true → C (cx.name i)) : C x := (wrB_ok h).1 ▸ k (wrB_ok h).2
noncomputable def plainRecv : Expr → Bool
  | .Call .. => false
  | _ => true
theorem plainRecv_ok {o : Expr} (h : plainRecv o = true) (a : Str) (env : Env) (t : Sem Value) : attributeBase o a env t = t := by cases o <;> first | rfl | exact ff h
noncomputable def intB (a b : Int) : Bool := decide (a = b)
noncomputable def onName (e : Expr) (f : Str → Pos → Bool) : Bool := dite (e.ctorIdx = 23) (fun h => Expr.Name.elim (motive_1 := fun _ => Bool) e h f) fun _ => false
theorem onName_el {e : Expr} {f : Str → Pos → Bool} {C : Expr → Prop} (h : onName e f = true) (k : ∀ (a0 : Str) (a1 : Pos), f a0 a1 = true → C (.Name a0 a1)) : C e :=
  dite_el h fun hp h => Expr.Name.elim (motive_1 := fun e => ∀ hp : e.ctorIdx = 23, Expr.Name.elim (motive_1 := fun _ => Bool) e hp f = true → C e) e hp (fun a0 a1 _ h => k a0 a1 h) hp h
noncomputable def onConst (e : Expr) (f : Const → Bool) : Bool := dite (e.ctorIdx = 19) (fun h => Expr.Constant.elim (motive_1 := fun _ => Bool) e h (fun a0 a1 a2 => f a0)) fun _ => false
theorem onConst_el {e : Expr} {f : Const → Bool} {C : Expr → Prop} (h : onConst e f = true) (k : ∀ (a0 : Const) (a1 : Nat) (a2 : Pos), f a0 = true → C (.Constant a0 a1 a2)) : C e :=
  dite_el h fun hp h => Expr.Constant.elim (motive_1 := fun e => ∀ hp : e.ctorIdx = 19, Expr.Constant.elim (motive_1 := fun _ => Bool) e hp (fun a0 a1 a2 => f a0) = true → C e) e hp (fun a0 a1 a2 _ h => k a0 a1 a2 h) hp h
noncomputable def onInt (e : Const) (f : Int → Bool) : Bool := dite (e.ctorIdx = 2) (fun h => Const.int.elim (motive := fun _ => Bool) e h f) fun _ => false
theorem onInt_el {e : Const} {f : Int → Bool} {C : Const → Prop} (h : onInt e f = true) (k : ∀ (a0 : Int), f a0 = true → C (.int a0)) : C e :=
  dite_el h fun hp h => Const.int.elim (motive := fun e => ∀ hp : e.ctorIdx = 2, Const.int.elim (motive := fun _ => Bool) e hp f = true → C e) e hp (fun a0 _ h => k a0 h) hp h
noncomputable def onStr (e : Const) (f : Str → Bool) : Bool := dite (e.ctorIdx = 5) (fun h => Const.str.elim (motive := fun _ => Bool) e h f) fun _ => false
theorem onStr_el {e : Const} {f : Str → Bool} {C : Const → Prop} (h : onStr e f = true) (k : ∀ (a0 : Str), f a0 = true → C (.str a0)) : C e :=
  dite_el h fun hp h => Const.str.elim (motive := fun e => ∀ hp : e.ctorIdx = 5, Const.str.elim (motive := fun _ => Bool) e hp f = true → C e) e hp (fun a0 _ h => k a0 h) hp h
noncomputable def onBool (e : Const) (f : Bool → Bool) : Bool := dite (e.ctorIdx = 1) (fun h => Const.bool.elim (motive := fun _ => Bool) e h f) fun _ => false
theorem onBool_el {e : Const} {f : Bool → Bool} {C : Const → Prop} (h : onBool e f = true) (k : ∀ (a0 : Bool), f a0 = true → C (.bool a0)) : C e :=
  dite_el h fun hp h => Const.bool.elim (motive := fun e => ∀ hp : e.ctorIdx = 1, Const.bool.elim (motive := fun _ => Bool) e hp f = true → C e) e hp (fun a0 _ h => k a0 h) hp h
noncomputable def onNone : Const → Bool
  | .none => true
  | _ => false
theorem onNone_el {c : Const} {C : Const → Prop} (h : onNone c = true) (k : C .none) : C c := by cases c <;> first | exact k | exact ff h
noncomputable def onBin (e : Expr) (f : Expr → Operator → Expr → Bool) : Bool := dite (e.ctorIdx = 2) (fun h => Expr.BinOp.elim (motive_1 := fun _ => Bool) e h (fun a0 a1 a2 a3 => f a0 a1 a2)) fun _ => false
theorem onBin_el {e : Expr} {f : Expr → Operator → Expr → Bool} {C : Expr → Prop} (h : onBin e f = true) (k : ∀ (a0 : Expr) (a1 : Operator) (a2 : Expr) (a3 : Pos), f a0 a1 a2 = true → C (.BinOp a0 a1 a2 a3)) : C e :=
  dite_el h fun hp h => Expr.BinOp.elim (motive_1 := fun e => ∀ hp : e.ctorIdx = 2, Expr.BinOp.elim (motive_1 := fun _ => Bool) e hp (fun a0 a1 a2 a3 => f a0 a1 a2) = true → C e) e hp (fun a0 a1 a2 a3 _ h => k a0 a1 a2 a3 h) hp h
noncomputable def onCmp (e : Expr) (f : Expr → List CmpOp → List Expr → Bool) : Bool := dite (e.ctorIdx = 15) (fun h => Expr.Compare.elim (motive_1 := fun _ => Bool) e h (fun a0 a1 a2 a3 => f a0 a1 a2)) fun _ => false
theorem onCmp_el {e : Expr} {f : Expr → List CmpOp → List Expr → Bool} {C : Expr → Prop} (h : onCmp e f = true) (k : ∀ (a0 : Expr) (a1 : List CmpOp) (a2 : List Expr) (a3 : Pos), f a0 a1 a2 = true → C (.Compare a0 a1 a2 a3)) : C e :=
  dite_el h fun hp h => Expr.Compare.elim (motive_1 := fun e => ∀ hp : e.ctorIdx = 15, Expr.Compare.elim (motive_1 := fun _ => Bool) e hp (fun a0 a1 a2 a3 => f a0 a1 a2) = true → C e) e hp (fun a0 a1 a2 a3 _ h => k a0 a1 a2 a3 h) hp h
noncomputable def onBop (e : Expr) (f : BoolOp → List Expr → Bool) : Bool := dite (e.ctorIdx = 0) (fun h => Expr.BoolOp.elim (motive_1 := fun _ => Bool) e h (fun a0 a1 a2 => f a0 a1)) fun _ => false
theorem onBop_el {e : Expr} {f : BoolOp → List Expr → Bool} {C : Expr → Prop} (h : onBop e f = true) (k : ∀ (a0 : BoolOp) (a1 : List Expr) (a2 : Pos), f a0 a1 = true → C (.BoolOp a0 a1 a2)) : C e :=
  dite_el h fun hp h => Expr.BoolOp.elim (motive_1 := fun e => ∀ hp : e.ctorIdx = 0, Expr.BoolOp.elim (motive_1 := fun _ => Bool) e hp (fun a0 a1 a2 => f a0 a1) = true → C e) e hp (fun a0 a1 a2 _ h => k a0 a1 a2 h) hp h
noncomputable def onUn (e : Expr) (f : UnaryOp → Expr → Bool) : Bool := dite (e.ctorIdx = 3) (fun h => Expr.UnaryOp.elim (motive_1 := fun _ => Bool) e h (fun a0 a1 a2 => f a0 a1)) fun _ => false
theorem onUn_el {e : Expr} {f : UnaryOp → Expr → Bool} {C : Expr → Prop} (h : onUn e f = true) (k : ∀ (a0 : UnaryOp) (a1 : Expr) (a2 : Pos), f a0 a1 = true → C (.UnaryOp a0 a1 a2)) : C e :=
  dite_el h fun hp h => Expr.UnaryOp.elim (motive_1 := fun e => ∀ hp : e.ctorIdx = 3, Expr.UnaryOp.elim (motive_1 := fun _ => Bool) e hp (fun a0 a1 a2 => f a0 a1) = true → C e) e hp (fun a0 a1 a2 _ h => k a0 a1 a2 h) hp h
noncomputable def onIf (e : Expr) (f : Expr → Expr → Expr → Bool) : Bool := dite (e.ctorIdx = 5) (fun h => Expr.IfExp.elim (motive_1 := fun _ => Bool) e h (fun a0 a1 a2 a3 => f a0 a1 a2)) fun _ => false
theorem onIf_el {e : Expr} {f : Expr → Expr → Expr → Bool} {C : Expr → Prop} (h : onIf e f = true) (k : ∀ (a0 : Expr) (a1 : Expr) (a2 : Expr) (a3 : Pos), f a0 a1 a2 = true → C (.IfExp a0 a1 a2 a3)) : C e :=
  dite_el h fun hp h => Expr.IfExp.elim (motive_1 := fun e => ∀ hp : e.ctorIdx = 5, Expr.IfExp.elim (motive_1 := fun _ => Bool) e hp (fun a0 a1 a2 a3 => f a0 a1 a2) = true → C e) e hp (fun a0 a1 a2 a3 _ h => k a0 a1 a2 a3 h) hp h
noncomputable def onList (e : Expr) (f : List Expr → Bool) : Bool := dite (e.ctorIdx = 24) (fun h => Expr.List.elim (motive_1 := fun _ => Bool) e h (fun a0 a1 => f a0)) fun _ => false
theorem onList_el {e : Expr} {f : List Expr → Bool} {C : Expr → Prop} (h : onList e f = true) (k : ∀ (a0 : List Expr) (a1 : Pos), f a0 = true → C (.List a0 a1)) : C e :=
  dite_el h fun hp h => Expr.List.elim (motive_1 := fun e => ∀ hp : e.ctorIdx = 24, Expr.List.elim (motive_1 := fun _ => Bool) e hp (fun a0 a1 => f a0) = true → C e) e hp (fun a0 a1 _ h => k a0 a1 h) hp h
noncomputable def onTuple (e : Expr) (f : List Expr → Bool) : Bool := dite (e.ctorIdx = 25) (fun h => Expr.Tuple.elim (motive_1 := fun _ => Bool) e h (fun a0 a1 a2 => f a0)) fun _ => false
theorem onTuple_el {e : Expr} {f : List Expr → Bool} {C : Expr → Prop} (h : onTuple e f = true) (k : ∀ (a0 : List Expr) (a1 : Nat) (a2 : Pos), f a0 = true → C (.Tuple a0 a1 a2)) : C e :=
  dite_el h fun hp h => Expr.Tuple.elim (motive_1 := fun e => ∀ hp : e.ctorIdx = 25, Expr.Tuple.elim (motive_1 := fun _ => Bool) e hp (fun a0 a1 a2 => f a0) = true → C e) e hp (fun a0 a1 a2 _ h => k a0 a1 a2 h) hp h
noncomputable def onDict (e : Expr) (f : List (Option Expr) → List Expr → Bool) : Bool := dite (e.ctorIdx = 6) (fun h => Expr.Dict.elim (motive_1 := fun _ => Bool) e h (fun a0 a1 a2 => f a0 a1)) fun _ => false
theorem onDict_el {e : Expr} {f : List (Option Expr) → List Expr → Bool} {C : Expr → Prop} (h : onDict e f = true) (k : ∀ (a0 : List (Option Expr)) (a1 : List Expr) (a2 : Pos), f a0 a1 = true → C (.Dict a0 a1 a2)) : C e :=
  dite_el h fun hp h => Expr.Dict.elim (motive_1 := fun e => ∀ hp : e.ctorIdx = 6, Expr.Dict.elim (motive_1 := fun _ => Bool) e hp (fun a0 a1 a2 => f a0 a1) = true → C e) e hp (fun a0 a1 a2 _ h => k a0 a1 a2 h) hp h
noncomputable def onSub (e : Expr) (f : Expr → Expr → Bool) : Bool := dite (e.ctorIdx = 21) (fun h => Expr.Subscript.elim (motive_1 := fun _ => Bool) e h (fun a0 a1 a2 => f a0 a1)) fun _ => false
theorem onSub_el {e : Expr} {f : Expr → Expr → Bool} {C : Expr → Prop} (h : onSub e f = true) (k : ∀ (a0 : Expr) (a1 : Expr) (a2 : Pos), f a0 a1 = true → C (.Subscript a0 a1 a2)) : C e :=
  dite_el h fun hp h => Expr.Subscript.elim (motive_1 := fun e => ∀ hp : e.ctorIdx = 21, Expr.Subscript.elim (motive_1 := fun _ => Bool) e hp (fun a0 a1 a2 => f a0 a1) = true → C e) e hp (fun a0 a1 a2 _ h => k a0 a1 a2 h) hp h
noncomputable def onSlice (e : Expr) (f : Option Expr → Option Expr → Option Expr → Bool) : Bool := dite (e.ctorIdx = 26) (fun h => Expr.Slice.elim (motive_1 := fun _ => Bool) e h (fun a0 a1 a2 a3 => f a0 a1 a2)) fun _ => false
theorem onSlice_el {e : Expr} {f : Option Expr → Option Expr → Option Expr → Bool} {C : Expr → Prop} (h : onSlice e f = true) (k : ∀ (a0 : Option Expr) (a1 : Option Expr) (a2 : Option Expr) (a3 : Pos), f a0 a1 a2 = true → C (.Slice a0 a1 a2 a3)) : C e :=
  dite_el h fun hp h => Expr.Slice.elim (motive_1 := fun e => ∀ hp : e.ctorIdx = 26, Expr.Slice.elim (motive_1 := fun _ => Bool) e hp (fun a0 a1 a2 a3 => f a0 a1 a2) = true → C e) e hp (fun a0 a1 a2 a3 _ h => k a0 a1 a2 a3 h) hp h
noncomputable def onCall (e : Expr) (f : Expr → List Expr → List Keyword → Pos → Bool) : Bool := dite (e.ctorIdx = 16) (fun h => Expr.Call.elim (motive_1 := fun _ => Bool) e h f) fun _ => false
theorem onCall_el {e : Expr} {f : Expr → List Expr → List Keyword → Pos → Bool} {C : Expr → Prop} (h : onCall e f = true) (k : ∀ (a0 : Expr) (a1 : List Expr) (a2 : List Keyword) (a3 : Pos), f a0 a1 a2 a3 = true → C (.Call a0 a1 a2 a3)) : C e :=
  dite_el h fun hp h => Expr.Call.elim (motive_1 := fun e => ∀ hp : e.ctorIdx = 16, Expr.Call.elim (motive_1 := fun _ => Bool) e hp f = true → C e) e hp (fun a0 a1 a2 a3 _ h => k a0 a1 a2 a3 h) hp h
noncomputable def onAttr (e : Expr) (f : Expr → Str → Pos → Bool) : Bool := dite (e.ctorIdx = 20) (fun h => Expr.Attribute.elim (motive_1 := fun _ => Bool) e h f) fun _ => false
theorem onAttr_el {e : Expr} {f : Expr → Str → Pos → Bool} {C : Expr → Prop} (h : onAttr e f = true) (k : ∀ (a0 : Expr) (a1 : Str) (a2 : Pos), f a0 a1 a2 = true → C (.Attribute a0 a1 a2)) : C e :=
  dite_el h fun hp h => Expr.Attribute.elim (motive_1 := fun e => ∀ hp : e.ctorIdx = 20, Expr.Attribute.elim (motive_1 := fun _ => Bool) e hp f = true → C e) e hp (fun a0 a1 a2 _ h => k a0 a1 a2 h) hp h
noncomputable def onLC (e : Expr) (f : Expr → List Comprehension → Scope → Bool) : Bool := dite (e.ctorIdx = 8) (fun h => Expr.ListComp.elim (motive_1 := fun _ => Bool) e h (fun a0 a1 a2 a3 => f a0 a1 a2)) fun _ => false
theorem onLC_el {e : Expr} {f : Expr → List Comprehension → Scope → Bool} {C : Expr → Prop} (h : onLC e f = true) (k : ∀ (a0 : Expr) (a1 : List Comprehension) (a2 : Scope) (a3 : Pos), f a0 a1 a2 = true → C (.ListComp a0 a1 a2 a3)) : C e :=
  dite_el h fun hp h => Expr.ListComp.elim (motive_1 := fun e => ∀ hp : e.ctorIdx = 8, Expr.ListComp.elim (motive_1 := fun _ => Bool) e hp (fun a0 a1 a2 a3 => f a0 a1 a2) = true → C e) e hp (fun a0 a1 a2 a3 _ h => k a0 a1 a2 a3 h) hp h
noncomputable def onDC (e : Expr) (f : Expr → Expr → List Comprehension → Scope → Bool) : Bool := dite (e.ctorIdx = 10) (fun h => Expr.DictComp.elim (motive_1 := fun _ => Bool) e h (fun a0 a1 a2 a3 a4 => f a0 a1 a2 a3)) fun _ => false
theorem onDC_el {e : Expr} {f : Expr → Expr → List Comprehension → Scope → Bool} {C : Expr → Prop} (h : onDC e f = true) (k : ∀ (a0 : Expr) (a1 : Expr) (a2 : List Comprehension) (a3 : Scope) (a4 : Pos), f a0 a1 a2 a3 = true → C (.DictComp a0 a1 a2 a3 a4)) : C e :=
  dite_el h fun hp h => Expr.DictComp.elim (motive_1 := fun e => ∀ hp : e.ctorIdx = 10, Expr.DictComp.elim (motive_1 := fun _ => Bool) e hp (fun a0 a1 a2 a3 a4 => f a0 a1 a2 a3) = true → C e) e hp (fun a0 a1 a2 a3 a4 _ h => k a0 a1 a2 a3 a4 h) hp h
noncomputable def onOne {α : Type} (l : List α) (f : α → Bool) : Bool := match l with
  | [] => false
  | a :: r => match r with
    | [] => f a
    | _ :: _ => false
theorem onOne_el {α : Type} {l : List α} {f : α → Bool} {C : List α → Prop} (h : onOne l f = true) (k : ∀ a, f a = true → C [a]) : C l := by
  cases l with
  | nil => exact ff h
  | cons a r => cases r with
    | nil => exact k a h
    | cons => exact ff h
noncomputable def onTwo {α : Type} (l : List α) (f : α → α → Bool) : Bool := match l with
  | [] => false
  | a :: r => onOne r (f a)
theorem onTwo_el {α : Type} {l : List α} {f : α → α → Bool} {C : List α → Prop} (h : onTwo l f = true) (k : ∀ a b, f a b = true → C [a, b]) : C l := by
  cases l with
  | nil => exact ff h
  | cons a r => exact onOne_el (C := fun r => C (a :: r)) h (k a)
noncomputable def onNil {α : Type} : List α → Bool
  | [] => true
  | _ :: _ => false
theorem onNil_el {α : Type} {l : List α} {C : List α → Prop} (h : onNil l = true) (k : C []) : C l := by
  cases l with
  | nil => exact k
  | cons => exact ff h
noncomputable def bopB : BoolOp → Bool → Bool
  | .And, b => b
  | .Or, b => !b
theorem bopB_el {o : BoolOp} {b : Bool} {C : Bool → BoolOp → Prop} (h : bopB o b = true) (k1 : C true .And) (k2 : C false .Or) : C b o := by
  cases o <;> cases b
  · exact ff h
  · exact k1
  · exact k2
  · exact ff h
noncomputable def notB : UnaryOp → Bool
  | .Not => true
  | _ => false
theorem notB_el {o : UnaryOp} {C : UnaryOp → Prop} (h : notB o = true) (k : C .Not) : C o := by cases o <;> first | exact k | exact ff h
noncomputable def someB {α : Type} (o : Option α) (f : α → Bool) : Bool := match o with
  | some e => f e
  | none => false
theorem someB_el {α : Type} {o : Option α} {f : α → Bool} {C : Option α → Prop} (h : someB o f = true) (k : ∀ a, f a = true → C (some a)) : C o := by
  cases o with
  | none => exact ff h
  | some a => exact k a h
noncomputable def namesB (cx : Cx) (names : Names) : List Nat → List Expr → Bool := all2 fun i e => onName e fun x _ => wrB cx names i x
theorem namesB_ok {cx : Cx} {names : Names} {is : List Nat} : ∀ {es : List Expr}, namesB cx names is es = true → MtN cx names is es := by
  induction is with
  | nil => exact fun {es} h => by cases es with | nil => exact .nil | cons => exact ff h
  | cons i is ih =>
    intro es h
    cases es with
    | nil => exact ff h
    | cons e es => exact an h fun h1 h2 => onName_el (C := fun e => MtN cx names (i :: is) (e :: es)) h1 fun x p h1 => wr_el (C := fun x => MtN cx names (i :: is) (.Name x p :: es)) h1 fun w => .cons i _ w (ih h2)
noncomputable def tgtB (cx : Cx) (names : Names) (t : Tgt) (e : Expr) : Bool := match t with
  | .one i => onName e fun x _ => wrB cx names i x
  | .tup is => onTuple e fun es => namesB cx names is es
  | .item _ => false
theorem tgtB_ok {cx : Cx} {names : Names} {t : Tgt} {e : Expr} (h : tgtB cx names t e = true) : MtT cx names t e := by
  cases t with
  | one i => exact onName_el (C := MtT cx names _) h fun x p h => wr_el (C := fun x => MtT cx names (.one i) (.Name x p)) h fun w => .one _ _ w
  | tup is => exact onTuple_el (C := MtT cx names _) h fun es k p h => .tup _ _ (namesB_ok h)
  | item => exact ff h
noncomputable def dictKeysB (f : PE → Expr → Bool) : List PE → List (Option Expr) → Bool := all2 fun p o => someB o (f p)
noncomputable def genB (cx : Cx) (f : Names → PE → Expr → Bool) : Names → Names → List (Tgt × PE × List PE) → List Comprehension → Bool
  | _, _, [], l => onNil l
  | o, n, g :: r, l => match l with
    | [] => false
    | c :: r' => tgtB cx n g.1 c.target && (f o g.2.1 c.iter && (all2 (f n) g.2.2 c.ifs && (decide (c.is_async = 0) && genB cx f n n r r')))
noncomputable def chkE (cx : Cx) : Nat → Names → PE → Expr → Bool
  | 0, _, _, _ => false
  | k + 1, names, pe, e => match pe with
    | .var i => onName e fun x _ => seqB x (cx.name i)
    | .glob i => onName e fun x _ => seqB x (cx.name i) && glB names x
    | .cint v => onConst e fun c => onInt c fun w => decide (v = w)
    | .cstr l => onConst e fun c => onStr c fun x => all2 Nat.beq l x.cps.toList
    | .cnone => onConst e onNone
    | .cbool b => onConst e fun c => onBool c fun d => decide (b = d)
    | .bin op l r => onBin e fun l' op' r' => decide (op = op') && (chkE cx k names l l' && chkE cx k names r r')
    | .cmp op l r => onCmp e fun l' ops rs => onOne ops fun op' => onOne rs fun r' => decide (op = op') && (chkE cx k names l l' && chkE cx k names r r')
    | .boolop b es => onBop e fun o es' => bopB o b && all2 (chkE cx k names) es es'
    | .not a => onUn e fun o a' => notB o && chkE cx k names a a'
    | .ite t b o => onIf e fun t' b' o' => chkE cx k names t t' && (chkE cx k names b b' && chkE cx k names o o')
    | .list es => onList e fun es' => all2 (chkE cx k names) es es'
    | .newlist es => onList e fun es' => all2 (chkE cx k names) es es'
    | .tuple es => onTuple e fun es' => all2 (chkE cx k names) es es'
    | .newdict ks vs => onDict e fun ks' vs' => decide (ks'.length ≤ 15) && (dictKeysB (chkE cx k names) ks ks' && all2 (chkE cx k names) vs vs')
    | .slice v lo hi st => onSub e fun v' s => onSlice s fun lo' hi' st' => chkE cx k names v v' && (opt2 (chkE cx k names) lo lo' && (opt2 (chkE cx k names) hi hi' && opt2 (chkE cx k names) st st'))
    | .idx v i => onSub e fun v' i' => chkE cx k names v v' && chkE cx k names i i'
    | .call f es => onCall e fun g es' kw _ => onNil kw && onName g fun x _ => seqB x (cx.name f) && (glB names x && all2 (chkE cx k names) es es')
    | .bi b es => onCall e fun g es' kw _ => onNil kw && onName g fun x _ => seqB x (biNm b) && (glB names x && (notZip b && all2 (chkE cx k names) es es'))
    | .meth m o es => onCall e fun g es' kw p => onNil kw && onAttr g fun o' a q => seqB a (meNm m) && (plainRecv o' && ((q.endLine == p.line) && (decide (es.length < 30) && (chkE cx k names o o' && all2 (chkE cx k names) es es'))))
    | .comp elt gens fv => onLC e fun elt' gens' scope => compB cx names scope fv && (chkE cx k scope.names elt elt' && genB cx (chkE cx k) names scope.names gens gens')
    | .dcomp a b gens fv => onDC e fun a' b' gens' scope => compB cx names scope fv && (chkE cx k scope.names a a' && (chkE cx k scope.names b b' && genB cx (chkE cx k) names scope.names gens gens'))
inductive Rs {α β : Type} (R : α → β → Prop) : List α → List β → Prop
  | nil : Rs R [] []
  | cons {a : α} {b : β} {as : List α} {bs : List β} : R a b → Rs R as bs → Rs R (a :: as) (b :: bs)
inductive RO {α β : Type} (R : α → β → Prop) : Option α → Option β → Prop
  | none : RO R none none
  | some {a : α} {b : β} : R a b → RO R (some a) (some b)
inductive MtG1 (cx : Cx) (R : Names → PE → Expr → Prop) : Names → Names → List (Tgt × PE × List PE) → List Comprehension → Prop
  | nil {o n : Names} : MtG1 cx R o n [] []
  | cons {o n : Names} {t : Tgt} {e : PE} {ts : List PE} {t' e' : Expr} {ts' : List Expr} {r : List (Tgt × PE × List PE)} {r' : List Comprehension} : MtT cx n t t' → R o e e' → Rs (R n) ts ts' → MtG1 cx R n n r r' →
      MtG1 cx R o n ((t, e, ts) :: r) (⟨t', e', ts', 0⟩ :: r')
inductive MtE1 (cx : Cx) (R : Names → PE → Expr → Prop) (names : Names) : PE → Expr → Prop
  | var (i : Nat) (p : Pos) : MtE1 cx R names (.var i) (.Name (cx.name i) p)
  | glob (i : Nat) (p : Pos) : glOk names (cx.name i) = true → MtE1 cx R names (.glob i) (.Name (cx.name i) p)
  | cint (v : Int) (k : Nat) (p : Pos) : MtE1 cx R names (.cint v) (.Constant (.int v) k p)
  | cstr (l : List Nat) (x : Str) (k : Nat) (p : Pos) : x.cps.toList = l → MtE1 cx R names (.cstr l) (.Constant (.str x) k p)
  | cnone (k : Nat) (p : Pos) : MtE1 cx R names .cnone (.Constant .none k p)
  | cbool (b : Bool) (k : Nat) (p : Pos) : MtE1 cx R names (.cbool b) (.Constant (.bool b) k p)
  | bin (op : Operator) {l r : PE} {l' r' : Expr} (p : Pos) : R names l l' → R names r r' → MtE1 cx R names (.bin op l r) (.BinOp l' op r' p)
  | cmp (op : CmpOp) {l r : PE} {l' r' : Expr} (p : Pos) : R names l l' → R names r r' → MtE1 cx R names (.cmp op l r) (.Compare l' [op] [r'] p)
  | and {es : List PE} {es' : List Expr} (p : Pos) : Rs (R names) es es' → MtE1 cx R names (.boolop true es) (.BoolOp .And es' p)
  | or {es : List PE} {es' : List Expr} (p : Pos) : Rs (R names) es es' → MtE1 cx R names (.boolop false es) (.BoolOp .Or es' p)
  | not {e : PE} {e' : Expr} (p : Pos) : R names e e' → MtE1 cx R names (.not e) (.UnaryOp .Not e' p)
  | ite {t b o : PE} {t' b' o' : Expr} (p : Pos) : R names t t' → R names b b' → R names o o' → MtE1 cx R names (.ite t b o) (.IfExp t' b' o' p)
  | list {es : List PE} {es' : List Expr} (p : Pos) : Rs (R names) es es' → MtE1 cx R names (.list es) (.List es' p)
  | newlist {es : List PE} {es' : List Expr} (p : Pos) : Rs (R names) es es' → MtE1 cx R names (.newlist es) (.List es' p)
  | tuple {es : List PE} {es' : List Expr} (k : Nat) (p : Pos) : Rs (R names) es es' → MtE1 cx R names (.tuple es) (.Tuple es' k p)
  | newdict {ks vs : List PE} {ks' vs' : List Expr} (p : Pos) : decide (ks'.length ≤ 15) = true → Rs (R names) ks ks' → Rs (R names) vs vs' → MtE1 cx R names (.newdict ks vs) (.Dict (ks'.map some) vs' p)
  | idx {v i : PE} {v' i' : Expr} (p : Pos) : R names v v' → R names i i' → MtE1 cx R names (.idx v i) (.Subscript v' i' p)
  | slice {v : PE} {lo hi st : Option PE} {v' : Expr} {lo' hi' st' : Option Expr} (q p : Pos) : R names v v' → RO (R names) lo lo' → RO (R names) hi hi' → RO (R names) st st' →
      MtE1 cx R names (.slice v lo hi st) (.Subscript v' (.Slice lo' hi' st' q) p)
  | call (f : Nat) {es : List PE} {es' : List Expr} (q p : Pos) : glOk names (cx.name f) = true → Rs (R names) es es' → MtE1 cx R names (.call f es) (.Call (.Name (cx.name f) q) es' [] p)
  | bi (b : BI) {es : List PE} {es' : List Expr} (q p : Pos) : notZip b = true → glOk names (biNm b) = true → Rs (R names) es es' → MtE1 cx R names (.bi b es) (.Call (.Name (biNm b) q) es' [] p)
  | meth (m : Me) {o : PE} {es : List PE} {o' : Expr} {es' : List Expr} (q p : Pos) : R names o o' → Rs (R names) es es' → (∀ env, attributeBase o' (meNm m) env (eval o' env) = eval o' env) →
      (q.endLine == p.line) = true → decide (es.length < 30) = true → MtE1 cx R names (.meth m o es) (.Call (.Attribute o' (meNm m) q) es' [] p)
  | comp {elt : PE} {gens : List (Tgt × PE × List PE)} {fv : List Nat} {elt' : Expr} {gens' : List Comprehension} {scope : Scope} (p : Pos) : compOk cx names scope fv = true → R scope.names elt elt' → MtG1 cx R names scope.names gens gens' →
      MtE1 cx R names (.comp elt gens fv) (.ListComp elt' gens' scope p)
  | dcomp {k v : PE} {gens : List (Tgt × PE × List PE)} {fv : List Nat} {k' v' : Expr} {gens' : List Comprehension} {scope : Scope} (p : Pos) : compOk cx names scope fv = true → R scope.names k k' → R scope.names v v' →
      MtG1 cx R names scope.names gens gens' → MtE1 cx R names (.dcomp k v gens fv) (.DictComp k' v' gens' scope p)
noncomputable def MtE (cx : Cx) (names : Names) (pe : PE) (e : Expr) : Prop := ∃ k, chkE cx k names pe e = true
noncomputable abbrev MtEs (cx : Cx) (names : Names) : List PE → List Expr → Prop := Rs (MtE cx names)
noncomputable abbrev MtO (cx : Cx) (names : Names) : Option PE → Option Expr → Prop := RO (MtE cx names)
noncomputable abbrev MtG (cx : Cx) : Names → Names → List (Tgt × PE × List PE) → List Comprehension → Prop := MtG1 cx (MtE cx)
section
variable {cx : Cx} {f : Names → PE → Expr → Bool} (hf : ∀ {names : Names} {pe : PE} {e : Expr}, f names pe e = true → MtE cx names pe e)
include hf
theorem all2_ok {names : Names} {es : List PE} : ∀ {es' : List Expr}, all2 (f names) es es' = true → MtEs cx names es es' := by
  induction es with
  | nil => exact fun {es'} h => by cases es' with | nil => exact .nil | cons => exact ff h
  | cons e es ih =>
    intro es' h
    cases es' with
    | nil => exact ff h
    | cons e' es' => exact an h fun h1 h2 => .cons (hf h1) (ih h2)
theorem opt2_ok {names : Names} {o : Option PE} {o' : Option Expr} (h : opt2 (f names) o o' = true) : MtO cx names o o' := by
  cases o <;> cases o' <;> first | exact .none | exact ff h | exact .some (hf h)
theorem dictKeysB_el {names : Names} {es : List PE} : ∀ {es' : List (Option Expr)}, dictKeysB (f names) es es' = true → ∃ ks, es' = ks.map some ∧ MtEs cx names es ks := by
  induction es with
  | nil => exact fun {es'} h => by cases es' with | nil => exact ⟨[], rfl, .nil⟩ | cons => exact ff h
  | cons e es ih =>
    intro es' h
    cases es' with
    | nil => exact ff h
    | cons o es' => exact an h fun h1 h2 => someB_el (C := fun o => ∃ ks, o :: es' = ks.map some ∧ MtEs cx names (e :: es) ks) h1 fun a h1 => (ih h2).elim fun ks hk => ⟨a :: ks, congrArg (some a :: ·) hk.1, .cons (hf h1) hk.2⟩
theorem genB_ok {g : List (Tgt × PE × List PE)} : ∀ {o n : Names} {g' : List Comprehension}, genB cx f o n g g' = true → MtG cx o n g g' := by
  induction g with
  | nil => exact fun {o n g'} h => onNil_el (C := MtG cx o n []) h .nil
  | cons c r ih =>
    intro o n g' h
    cases g' with
    | nil => exact ff h
    | cons c' r' =>
      obtain ⟨t', e', ts', a⟩ := c'
      exact an h fun h1 h => an h fun h2 h => an h fun h3 h => an h fun h4 h5 => eq_el (C := fun a => MtG cx o n (c :: r) (⟨t', e', ts', a⟩ :: r')) h4 (.cons (tgtB_ok h1) (hf h2) (all2_ok hf h3) (ih h5))
end
theorem MtE.inv {cx : Cx} {names : Names} {pe : PE} {e : Expr} (m : MtE cx names pe e) : MtE1 cx (MtE cx) names pe e := by
  obtain ⟨k, h⟩ := m
  cases k with
  | zero => exact ff h
  | succ k =>
    have wk := fun {names : Names} {pe : PE} {e : Expr} (h : chkE cx k names pe e = true) => (⟨k, h⟩ : MtE cx names pe e)
    cases pe with
    | var i => exact onName_el (C := MtE1 cx (MtE cx) names _) h fun x p h => seq_el (C := fun x => MtE1 cx (MtE cx) names (.var i) (.Name x p)) h (.var _ _)
    | glob i => exact onName_el (C := MtE1 cx (MtE cx) names _) h fun x p h => an h fun h => seq_el (C := fun x => glB names x = true → MtE1 cx (MtE cx) names (.glob i) (.Name x p)) h fun h => .glob _ _ (glB_ok h)
    | cint v => exact onConst_el (C := MtE1 cx (MtE cx) names _) h fun c n p h => onInt_el (C := fun c => MtE1 cx (MtE cx) names (.cint v) (.Constant c n p)) h fun w h => eq_el (C := fun v => MtE1 cx (MtE cx) names (.cint v) (.Constant (.int w) n p)) h (.cint _ _ _)
    | cstr l => exact onConst_el (C := MtE1 cx (MtE cx) names _) h fun c n p h => onStr_el (C := fun c => MtE1 cx (MtE cx) names (.cstr l) (.Constant c n p)) h fun x h => .cstr _ _ _ _ (all2_beq h).symm
    | cnone => exact onConst_el (C := MtE1 cx (MtE cx) names _) h fun c n p h => onNone_el (C := fun c => MtE1 cx (MtE cx) names .cnone (.Constant c n p)) h (.cnone _ _)
    | cbool b => exact onConst_el (C := MtE1 cx (MtE cx) names _) h fun c n p h => onBool_el (C := fun c => MtE1 cx (MtE cx) names (.cbool b) (.Constant c n p)) h fun d h => eq_el (C := fun b => MtE1 cx (MtE cx) names (.cbool b) (.Constant (.bool d) n p)) h (.cbool _ _ _)
    | bin op l r => exact onBin_el (C := MtE1 cx (MtE cx) names _) h fun l' op' r' p h => an h fun h h2 => eq_el (C := fun op => MtE1 cx (MtE cx) names (.bin op l r) (.BinOp l' op' r' p)) h (an h2 fun h1 h2 => .bin _ _ (wk h1) (wk h2))
    | cmp op l r => exact onCmp_el (C := MtE1 cx (MtE cx) names _) h fun l' ops rs p h => onOne_el (C := fun ops => MtE1 cx (MtE cx) names (.cmp op l r) (.Compare l' ops rs p)) h fun op' h => onOne_el (C := fun rs => MtE1 cx (MtE cx) names (.cmp op l r) (.Compare l' [op'] rs p)) h fun r' h => an h fun h h2 => eq_el (C := fun op => MtE1 cx (MtE cx) names (.cmp op l r) (.Compare l' [op'] [r'] p)) h (an h2 fun h1 h2 => .cmp _ _ (wk h1) (wk h2))
    | boolop b es => exact onBop_el (C := MtE1 cx (MtE cx) names _) h fun o es' p h => an h fun h1 h2 => bopB_el (C := fun b o => MtE1 cx (MtE cx) names (.boolop b es) (.BoolOp o es' p)) h1 (.and _ (all2_ok wk h2)) (.or _ (all2_ok wk h2))
    | not a => exact onUn_el (C := MtE1 cx (MtE cx) names _) h fun o a' p h => an h fun h1 h2 => notB_el (C := fun o => MtE1 cx (MtE cx) names (.not a) (.UnaryOp o a' p)) h1 (.not _ (wk h2))
    | ite t b o => exact onIf_el (C := MtE1 cx (MtE cx) names _) h fun t' b' o' p h => an h fun h1 h => an h fun h2 h3 => .ite _ (wk h1) (wk h2) (wk h3)
    | list es => exact onList_el (C := MtE1 cx (MtE cx) names _) h fun es' p h => .list _ (all2_ok wk h)
    | newlist es => exact onList_el (C := MtE1 cx (MtE cx) names _) h fun es' p h => .newlist _ (all2_ok wk h)
    | tuple es => exact onTuple_el (C := MtE1 cx (MtE cx) names _) h fun es' n p h => .tuple _ _ (all2_ok wk h)
    | newdict ks vs => exact onDict_el (C := MtE1 cx (MtE cx) names _) h fun ks' vs' p h => an h fun h1 h => an h fun h2 h3 => (dictKeysB_el wk h2).elim fun l hk => (hk.1 ▸ fun h1 => .newdict _ (by rwa [List.length_map] at h1) hk.2 (all2_ok wk h3) : decide (ks'.length ≤ 15) = true → MtE1 cx (MtE cx) names (.newdict ks vs) (.Dict ks' vs' p)) h1
    | slice v lo hi st => exact onSub_el (C := MtE1 cx (MtE cx) names _) h fun v' s p h => onSlice_el (C := fun s => MtE1 cx (MtE cx) names (.slice v lo hi st) (.Subscript v' s p)) h fun lo' hi' st' q h => an h fun h1 h => an h fun h2 h => an h fun h3 h4 => .slice _ _ (wk h1) (opt2_ok wk h2) (opt2_ok wk h3) (opt2_ok wk h4)
    | idx v i => exact onSub_el (C := MtE1 cx (MtE cx) names _) h fun v' i' p h => an h fun h1 h2 => .idx _ (wk h1) (wk h2)
    | call f es => exact onCall_el (C := MtE1 cx (MtE cx) names _) h fun g es' kw p h => an h fun h0 h => onNil_el (C := fun kw => MtE1 cx (MtE cx) names (.call f es) (.Call g es' kw p)) h0 (onName_el (C := fun g => MtE1 cx (MtE cx) names (.call f es) (.Call g es' [] p)) h fun x q h => an h fun h1 h => seq_el (C := fun x => (glB names x && all2 (chkE cx k names) es es') = true → MtE1 cx (MtE cx) names (.call f es) (.Call (.Name x q) es' [] p)) h1 (fun h => an h fun h2 h3 => .call _ _ _ (glB_ok h2) (all2_ok wk h3)) h)
    | bi b es => exact onCall_el (C := MtE1 cx (MtE cx) names _) h fun g es' kw p h => an h fun h0 h => onNil_el (C := fun kw => MtE1 cx (MtE cx) names (.bi b es) (.Call g es' kw p)) h0 (onName_el (C := fun g => MtE1 cx (MtE cx) names (.bi b es) (.Call g es' [] p)) h fun x q h => an h fun h1 h => seq_el (C := fun x => (glB names x && (notZip b && all2 (chkE cx k names) es es')) = true → MtE1 cx (MtE cx) names (.bi b es) (.Call (.Name x q) es' [] p)) h1 (fun h => an h fun h2 h => an h fun h3 h4 => .bi _ _ _ h3 (glB_ok h2) (all2_ok wk h4)) h)
    | meth m o es => exact onCall_el (C := MtE1 cx (MtE cx) names _) h fun g es' kw p h => an h fun h0 h => onNil_el (C := fun kw => MtE1 cx (MtE cx) names (.meth m o es) (.Call g es' kw p)) h0 (onAttr_el (C := fun g => MtE1 cx (MtE cx) names (.meth m o es) (.Call g es' [] p)) h fun o' a q h => an h fun h1 h => seq_el (C := fun a => MtE1 cx (MtE cx) names (.meth m o es) (.Call (.Attribute o' a q) es' [] p)) h1 (an h fun h2 h => an h fun h3 h => an h fun h4 h => an h fun h5 h6 => .meth _ _ _ (wk h5) (all2_ok wk h6) (fun env => plainRecv_ok h2 _ _ _) h3 h4))
    | comp elt gens fv => exact onLC_el (C := MtE1 cx (MtE cx) names _) h fun elt' gens' scope p h => an h fun h1 h => an h fun h2 h3 => .comp _ (compB_ok h1) (wk h2) (genB_ok wk h3)
    | dcomp a b gens fv => exact onDC_el (C := MtE1 cx (MtE cx) names _) h fun a' b' gens' scope p h => an h fun h1 h => an h fun h2 h => an h fun h3 h4 => .dcomp _ (compB_ok h1) (wk h2) (wk h3) (genB_ok wk h4)
section
variable {cx : Cx} {names : Names}
noncomputable def plain (e : Expr) : Bool := [0, 2, 3, 5, 6, 8, 10, 15, 16, 19, 21, 23, 24, 25].contains e.ctorIdx
theorem MtE.plain {e : PE} {e' : Expr} (m : MtE cx names e e') : plain e' = true := by
  have i := m.inv
  clear m
  induction i <;> rfl
theorem MtE.star {e : PE} {e' : Expr} (m : MtE cx names e e') (rest : List Expr) (env : Env) : starEach (e' :: rest) env = (false, eval e' env) :: starEach rest env := by
  have h := m.plain
  clear m
  cases e' <;> first | rfl | exact ff h
theorem MtE.noSet {e : PE} {e' : Expr} (m : MtE cx names e e') (env : Env) (x : Value) : foldedSetIterable e' env x = pure x := by
  have h := m.plain
  clear m
  cases e' <;> first | rfl | exact ff h
theorem MtE.noMarks {e : PE} {e' : Expr} (m : MtE cx names e e') (op : CmpOp) : behindInMarks op e' = false := by
  have i := m.inv
  clear m
  induction i <;> rfl
theorem MtEs.starred {es : List PE} {es' : List Expr} (m : MtEs cx names es es') (env : Env) : (starEach es' env).any (·.1) = false ∧ (starEach es' env).all (fun x => !x.1) = true := by
  induction m with
  | nil => exact ⟨rfl, rfl⟩
  | cons h t ih => rw [h.star]; exact ih
theorem MtEs.len {es : List PE} {es' : List Expr} (m : MtEs cx names es es') : es'.length = es.length := by
  induction m with
  | nil => rfl
  | cons _ _ ih => exact congrArg (· + 1) ih
theorem backTo_star {es : List PE} {es' : List Expr} (m : MtEs cx names es es') (pos : Pos) (env : Env) : (backTo pos (starEach es' env)).any (·.1) = false ∧ (backTo pos (starEach es' env)).all (fun x => !x.1) = true := by
  have h := MtEs.starred m env
  unfold backTo
  rw [List.any_map, List.all_map]
  exact h
end
end Mine
end
section
namespace Mine
open PySem
section
variable {cx : Cx}
theorem VRel.flat {prog : Program} {w : World} {σ : List Addr} {B : Addr → Option Obj} {v : PV} {x : Value} (h : VRel prog w σ B v x) (hf : flatV v = true) : FRel v x := by
  cases h with
  | int i t => exact rfl
  | str l s t e => exact e
  | _ => exact ff hf
theorem put_sound {z : Z} {s : Shared} {A : Around} {k v : PV} {es es' : List (PV × PV)} {d : Addr} {o : Obj} {kx vx : Value} {E : Value → Shared → Prop} {Q : Unit → Shared → Prop} {t : Sem Unit} (h : put k v es = some es')
    (ho : s.heap.get? d = some o) (hd : DRel cx.prog cx.w es o) (hk : VR cx z k kx) (hv : VR cx z v vx) (hl : es.length ≤ 1000)
    (hset : ∀ {K : Type} [DecidableEq K] {knd : KeyKind cx.prog cx.w K} {kk : K} {kvs : List (K × Value)}, knd.is kk kx = true → s.heap.DictOf knd d kvs → kvs.length ≤ sizeLine →
      (∀ h', h'.DictOf knd d (stored kvs kk vx) → Heap.SameBut d s.heap h' → Q () { s with heap := h', toks := s.toks + 1 }) → wpAny (model cx.prog cx.w) A t Q E s)
    (hQ : ∀ h' o', h'.get? d = some o' → DRel cx.prog cx.w es' o' → Heap.SameBut d s.heap h' → Q () { s with heap := h', toks := s.toks + 1 }) :
    wpAny (model cx.prog cx.w) A t Q E s := by
  refine bif_el h fun hfl h => ?_
  have hF := hv.flat hfl
  have h1000 : ∀ {n : Nat}, es.length = n → n ≤ sizeLine := fun e => Nat.le_trans (e ▸ hl) (by decide)
  have of : ∀ {K : Type} [DecidableEq K] {knd : KeyKind cx.prog cx.w K} {kvs : List (K × Value)} {h' : Heap}, h'.DictOf knd d kvs → ∃ o', h'.get? d = some o' ∧ DObj knd o' kvs := fun x => x.elim fun o x => x.elim fun es x => x.elim fun ep x => ⟨o, x.1, fun h' b e => ⟨o, es, ep, e, x.2⟩⟩
  cases k with
  | int i =>
    obtain ⟨r, hr, rfl⟩ := Option.map_eq_some_iff.mp h
    cases hk with
    | int _ t =>
      obtain ⟨kvs, hD, hE⟩ := hd.int hr
      refine hset (knd := intKind cx.prog cx.w) (kk := i) (beq_self_eq_true i) (hD _ _ ho) (h1000 hE.length) fun h' hD' hs => ?_
      obtain ⟨o', ho', hD''⟩ := of hD'
      exact hQ h' o' ho' (.ik _ hD'' (hE.put (DictOf.nodup (hD _ _ ho)) hF)) hs
  | str l =>
    obtain ⟨r, hr, rfl⟩ := Option.map_eq_some_iff.mp h
    cases hk with
    | str _ y t e =>
      subst e
      obtain ⟨kvs, hD, hE⟩ := hd.str hr
      refine hset (knd := strKind cx.prog cx.w) (kk := y) (beq_self_eq_true y) (hD _ _ ho) (h1000 hE.length) fun h' hD' hs => ?_
      obtain ⟨o', ho', hD''⟩ := of hD'
      exact hQ h' o' ho' (.sk _ hD'' (hE.put (DictOf.nodup (hD _ _ ho)) hF)) hs
  | _ => exact nn h
theorem dictSet_sound {z : Z} {s : Shared} {A : Around} {k v : PV} {es es' : List (PV × PV)} {d : Addr} {o : Obj} {kx vx : Value} {E : Value → Shared → Prop} {Q : Unit → Shared → Prop} (h : put k v es = some es')
    (ho : s.heap.get? d = some o) (hd : DRel cx.prog cx.w es o) (hk : VR cx z k kx) (hv : VR cx z v vx) (hl : es.length ≤ 1000)
    (hQ : ∀ h' o', h'.get? d = some o' → DRel cx.prog cx.w es' o' → Heap.SameBut d s.heap h' → Q () { s with heap := h', toks := s.toks + 1 }) :
    wpAny (model cx.prog cx.w) A (dictSet d kx vx) Q E s :=
  put_sound h ho hd hk hv hl (fun hk hD hsz hq => wpAny_dictSet_pairs hk hD hq hsz) hQ
structure Glob (cx : Cx) (P : PProg) : Prop where
  nm : NmOk cx
  ns : ∃ mg mb, cx.h₀.Ns cx.gA mg ∧ cx.h₀.Ns cx.bA mb ∧ (∀ b, mg (biNm b) = none ∧ mb (biNm b) = some (biVal b)) ∧
    (∀ i v, P.G i = some v → ∃ x, mg (cx.name i) = some x ∧ ∀ σ (B : Addr → Option Obj), (∀ a o, cx.h₀.get? a = some o → B a = some o) → VRel cx.prog cx.w σ B v x) ∧
    (∀ f p, P.F f = some p → mg (cx.name f) = some (.ref (cx.fa f)) ∧ ∃ o fd, cx.h₀.get? (cx.fa f) = some o ∧ o.data = .func fd)
  lim : cx.h₀.NoLimit
noncomputable def SndE (cx : Cx) (rec : EvE) (n : Nat) : Prop := ∀ {names : Names} {pe : PE} {e : Expr} {env : Env} {penv : PEnv} {z : Z} {s : Shared} {A : Around} {v : PV} {st' : Store}, MtE cx names pe e → Fr cx names z env penv → OkZ cx z → s.heap = z.h →
  ArOk A n → rec pe penv z.st = some (v, st') → Runs cx A (eval e env) z v st' s
noncomputable def SndT (cx : Cx) (rec : EvE) (n : Nat) : Prop := ∀ {names : Names} {pe : PE} {e : Expr} {env : Env} {penv : PEnv} {z : Z} {s : Shared} {A : Around} {b : Bool} {st' : Store}, MtE cx names pe e → Fr cx names z env penv → OkZ cx z → s.heap = z.h →
  ArOk A n → evTest rec pe penv z.st = some (b, st') → RunsT cx A (isTrue e env (eval e env)) z b st' s
noncomputable def SndC (cx : Cx) (P : PProg) (call : EvC) (n : Nat) : Prop := ∀ {f : Nat} {vs : List PV} {vals : List Value} {z : Z} {s : Shared} {A : Around} {v : PV} {st' : Store}, OkZ cx z → s.heap = z.h → ArOk A n → VRs cx z vs vals →
  call f vs z.st = some (v, st') → Runs cx A (PySem.call (.ref (cx.fa f)) vals) z v st' s
variable {rec : EvE} {n : Nat} {names : Names} {env : Env} {penv : PEnv} {A : Around} {P : PProg} {call : EvC}
theorem ArOk.mono {m : Nat} (h : ArOk A n) (hm : m ≤ n) : ArOk A m := ⟨h.hh, Nat.lt_of_le_of_lt (Nat.add_le_add_left hm _) h.dep, by have := h.uni; omega⟩
section
variable {γ : Type} {r : γ} {C : Prop}
theorem mV {x : Option (PV × Store)} {f : PV → Store → Option γ} (h : (match x with
    | some (a, b) => f a b
    | none => none) = some r) (k : ∀ a b, x = some (a, b) → f a b = some r → C) : C := by
  cases x with
  | none => exact nn h
  | some p => exact k p.1 p.2 rfl h
theorem mL {x : Option (List PV × Store)} {f : List PV → Store → Option γ} (h : (match x with
    | some (a, b) => f a b
    | none => none) = some r) (k : ∀ a b, x = some (a, b) → f a b = some r → C) : C := by
  cases x with
  | none => exact nn h
  | some p => exact k p.1 p.2 rfl h
theorem mT {x : Option (Bool × Store)} {f g : Store → Option γ} (h : (match x with
    | some (true, st) => f st
    | some (false, st) => g st
    | none => none) = some r) (k : ∀ b st, x = some (b, st) → (bif b then f st else g st) = some r → C) : C := by
  cases x with
  | none => exact nn h
  | some p =>
    obtain ⟨b, st⟩ := p
    cases b <;> exact k _ _ rfl h
theorem mO {x : Option PV} {f : PV → Option γ} (h : (match x with
    | some a => f a
    | none => none) = some r) (k : ∀ a, x = some a → f a = some r → C) : C := by
  cases x with
  | none => exact nn h
  | some a => exact k a rfl h
theorem mB {x : Option Bool} {f : Bool → Option γ} (h : (match x with
    | some a => f a
    | none => none) = some r) (k : ∀ a, x = some a → f a = some r → C) : C := by
  cases x with
  | none => exact nn h
  | some a => exact k a rfl h
theorem mE {x : Option PEnv} {f : PEnv → Option γ} (h : (match x with
    | some a => f a
    | none => none) = some r) (k : ∀ a, x = some a → f a = some r → C) : C := by
  cases x with
  | none => exact nn h
  | some a => exact k a rfl h
end
theorem list_sound (hE : SndE cx rec n) (hA : ArOk A n) (pos : Pos) {es : List PE} {es' : List Expr} (m : MtEs cx names es es') : ∀ {z : Z} {s : Shared} {vs : List PV} {st' : Store}, Fr cx names z env penv → OkZ cx z → s.heap = z.h →
    evList rec es penv z.st = some (vs, st') → RunsL cx A (spliced (backTo pos (starEach es' env))) z vs st' s := by
  induction m with
  | nil =>
    intro z s vs st' f k hz h
    cases h
    intro E Q hQ
    have := hQ [] z s.toks k (.refl z) rfl .nil
    rw [← hz] at this
    exact wpAny_items_nil this
  | cons he ht ih =>
    intro z s vs st' f k hz h
    refine mV h fun v st1 h1 h => mL h fun us st2 h2 h => ?_
    cases h
    intro E Q hQ
    refine wpAny_items_cons (hE he f k hz hA h1 E _ fun x z1 tk k1 e1 s1 v1 => ?_) (he.star _ env)
    refine ih (f.ext e1) k1 rfl (by rw [s1]; exact h2) E _ fun xs z2 tk2 k2 e2 s2 v2 => ?_
    exact hQ (x :: xs) z2 tk2 k2 (e1.trans e2) s2 (.cons (v1.ext e2) v2)
theorem part_sound (hE : SndE cx rec n) (hA : ArOk A n) {o : Option PE} {o' : Option Expr} {z : Z} {s : Shared} {v : PV} {st' : Store} (m : MtO cx names o o') (f : Fr cx names z env penv) (k : OkZ cx z) (hz : s.heap = z.h)
    (h : optE rec o penv z.st = some (v, st')) : Runs cx A (evalPart o' env) z v st' s := by
  cases m with
  | none =>
    cases h
    exact .val k hz .none fun E Q hQ => wpAny_pure (hQ s.toks)
  | some m => exact hE m f k hz hA h
theorem Runs.bool {z : Z} {s : Shared} {t : Sem Value} (k : OkZ cx z) (hz : s.heap = z.h) {b : Bool} (h : ∀ (E : Value → Shared → Prop) (Q : Value → Shared → Prop), (∀ tk, Q (.bool b) { s with toks := tk }) → wpAny (model cx.prog cx.w) A t Q E s) : Runs cx A t z (.bool b) z.st s :=
  .val k hz (.bool b) h
theorem truthy_bool {b : Bool} {s : Shared} {E : Value → Shared → Prop} {Q : Bool → Shared → Prop} {z : Z} (hQ : ∀ tk, Q b { s with toks := tk }) : wpAny (model cx.prog cx.w) A (truthy (.bool b)) Q E s :=
  truthy_sound (cx := cx) (z := z) (v := .bool b) rfl rfl hQ
theorem glOk_ok {x : Str} (h : glOk names x = true) : names.lookup x = some .globalImplicit ∧ (x == ("__debug__" : Str)) = false := an h fun h1 h2 => ⟨beq_iff_eq.mp h1, nt h2⟩
theorem glob_sound (G : Glob cx P) {z : Z} {s : Shared} {i : Nat} {v : PV} (h : P.G i = some v) (hn : glOk names (cx.name i) = true) (f : Fr cx names z env penv) (k : OkZ cx z) (hz : s.heap = z.h) (p : Pos) :
    Runs cx A (eval (.Name (cx.name i) p) env) z v z.st s := by
  obtain ⟨mg, mb, hg, hb, _, hv, _⟩ := G.ns
  obtain ⟨x, hx, hr⟩ := hv i v h
  have hn := glOk_ok hn
  refine .val k hz (hr _ _ fun a o e => k.base a o e) fun E Q hQ => Calls.Name_function_global f.kind ((f.raw _ _ hn.1).1 (by decide)) ?_ hn.2
  refine Calls.loadGlobal_global (mg := mg) ?_ hx (hQ s.toks)
  rw [f.glob, hz]; exact hg.keeps fun b o e => k.sub _ _ (k.base _ _ e)
theorem fn_load (G : Glob cx P) {z : Z} {s : Shared} {i : Nat} {pb : List Nat × List PS} (h : P.F i = some pb) (hn : glOk names (cx.name i) = true) (f : Fr cx names z env penv) (k : OkZ cx z) (hz : s.heap = z.h) (p : Pos) {E Q : Value → Shared → Prop} (hQ : Q (.ref (cx.fa i)) s) :
    wpAny (model cx.prog cx.w) A (eval (.Name (cx.name i) p) env) Q E s := by
  obtain ⟨mg, mb, hg, hb, _, _, hf⟩ := G.ns
  obtain ⟨hx, _⟩ := hf i pb h
  have hn := glOk_ok hn
  refine Calls.Name_function_global f.kind ((f.raw _ _ hn.1).1 (by decide)) ?_ hn.2
  refine Calls.loadGlobal_global (mg := mg) ?_ hx hQ
  rw [f.glob, hz]; exact hg.keeps fun b o e => k.sub _ _ (k.base _ _ e)
theorem bi_load (G : Glob cx P) {z : Z} {s : Shared} {b : BI} (hn : glOk names (biNm b) = true) (f : Fr cx names z env penv) (k : OkZ cx z) (hz : s.heap = z.h) (p : Pos) {E Q : Value → Shared → Prop} (hQ : Q (biVal b) s) :
    wpAny (model cx.prog cx.w) A (eval (.Name (biNm b) p) env) Q E s := by
  obtain ⟨mg, mb, hg, hb, hv, _, _⟩ := G.ns
  obtain ⟨h1, h2⟩ := hv b
  have hn := glOk_ok hn
  have up : ∀ b o, cx.h₀.get? b = some o → s.heap.get? b = some o := fun b o e => by rw [hz]; exact k.sub _ _ (k.base _ _ e)
  refine Calls.Name_function_global f.kind ((f.raw _ _ hn.1).1 (by decide)) ?_ hn.2
  exact Calls.loadGlobal_builtin (mg := mg) (mb := mb) (by rw [f.glob]; exact hg.keeps up) h1 (by rw [f.bui]; exact hb.keeps up) h2 hQ
end
end Mine
end
section
namespace Mine
open PySem
section
variable {cx : Cx} {rec : EvE} {n : Nat} {names : Names} {env : Env} {penv : PEnv} {A : Around} {P : PProg} {call : EvC} {z : Z} {s : Shared} {v : PV} {st' : Store} {b : Bool}
theorem ArOk.two (h : ArOk A n) : A.units + 2 < cLine := Nat.lt_of_le_of_lt (by rw [Nat.add_assoc]; exact Nat.add_le_add_left (Nat.le_trans (by decide) (Nat.le_add_left 20 _)) _) h.uni
noncomputable def bop (isAnd : Bool) : BoolOp := if isAnd then .And else .Or
theorem evTest_of {e : PE} {v : PV} {st1 : Store} {b : Bool} (h : rec e penv z.st = some (v, st1)) (ht : truthyV v = some b) : evTest rec e penv z.st = some (b, st1) := by
  show (match rec e penv z.st with
    | some (v, st) => match truthyV v with
      | some b => some (b, st)
      | none => none
    | none => none) = _
  rw [h]
  show (match truthyV v with
    | some b => some (b, st1)
    | none => none) = _
  rw [ht]
theorem evBool_el {isAnd : Bool} {e e2 : PE} {es : List PE} {st : Store} {r : PV × Store} {C : Prop} (h : evBool rec isAnd (e :: e2 :: es) penv st = some r)
    (kt : ∀ v st1, rec e penv st = some (v, st1) → truthyV v = some isAnd → evBool rec isAnd (e2 :: es) penv st1 = some r → C) (kf : ∀ v st1, rec e penv st = some (v, st1) → truthyV v = some (!isAnd) → (v, st1) = r → C) : C :=
  mV h fun v st1 h1 h => mB h fun b hb h => by
    cases b <;> cases isAnd
    · exact kt v st1 h1 hb h
    · exact kf v st1 h1 hb (Option.some.inj h)
    · exact kf v st1 h1 hb (Option.some.inj h)
    · exact kt v st1 h1 hb h
theorem boolop_sound (hE : SndE cx rec n) (hA : ArOk A n) (isAnd : Bool) (pos : Pos) {es : List PE} {es' : List Expr} (m : MtEs cx names es es') : ∀ {z : Z} {s : Shared} {v : PV} {st' : Store}, Fr cx names z env penv → OkZ cx z → s.heap = z.h →
    evBool rec isAnd es penv z.st = some (v, st') → Runs cx A (boolOp pos (bop isAnd) (evalEach es' env)) z v st' s := by
  induction m with
  | nil => exact fun _ _ _ h => nn h
  | cons he ht ih =>
    cases ht with
    | nil => exact fun f k hz h => hE he f k hz hA h
    | @cons e2 e2' es es' h2 ht =>
      intro z s v st' f k hz h E Q hQ
      show wpAny _ A (do
        let v ← eval _ env
        standAt pos
        let t ← holding [v] (truthy v)
        match bop isAnd, t with
        | .And, false | .Or, true => pure v
        | _, _ => boolOp pos (bop isAnd) (evalEach (e2' :: es') env)) Q E s
      refine evBool_el h (fun u st1 h1 hb h => ?_) fun u st1 h1 hb h => ?_
      · refine wpAny_bind (hE he f k hz hA h1 E _ fun x z1 tk k1 e1 s1 v1 => wpAny_bind (wpAny_standAt (wpAny_bind (wpAny_holding (truthy_sound hb (v1.rv k1) fun tk1 => ?_)))))
        have := ih (f.ext e1) k1 (s := { s with heap := z1.h, toks := tk1 }) rfl (by rw [s1]; exact h) E Q fun x z2 tk2 k2 e2 s2 v2 => hQ x z2 tk2 k2 (e1.trans e2) s2 v2
        cases isAnd <;> exact this
      · refine wpAny_bind (hE he f k hz hA h1 E _ fun x z1 tk k1 e1 s1 v1 => wpAny_bind (wpAny_standAt (wpAny_bind (wpAny_holding (truthy_sound hb (v1.rv k1) fun tk1 => ?_)))))
        cases h
        have hq := hQ x z1 tk1 k1 e1 s1 v1
        cases isAnd <;> exact wpAny_pure hq
theorem allTrue_step {isAnd : Bool} {e : Expr} {rest : List Expr} {E : Value → Shared → Prop} {Q : Bool → Shared → Prop} (h : wpAny (model cx.prog cx.w) A (isTrue e env (eval e env)) (fun b s => if b = isAnd then wpAny (model cx.prog cx.w) A (allTrue (bop isAnd) rest env) Q E s else Q (!isAnd) s) E s) :
    wpAny (model cx.prog cx.w) A (allTrue (bop isAnd) (e :: rest) env) Q E s := by
  cases isAnd
  · exact wpAny_allTrue_Or_cons (wpAny_mono h (fun b s h => by cases b <;> exact h) fun _ _ x => x)
  · exact wpAny_allTrue_And_cons (wpAny_mono h (fun b s h => by cases b <;> exact h) fun _ _ x => x)
theorem allTrue_end {isAnd : Bool} {E : Value → Shared → Prop} {Q : Bool → Shared → Prop} (h : Q isAnd s) : wpAny (model cx.prog cx.w) A (allTrue (bop isAnd) [] env) Q E s := by
  cases isAnd
  · exact wpAny_allTrue_Or_nil h
  · exact wpAny_allTrue_And_nil h
theorem allTrue_sound (hT : SndT cx rec n) (hA : ArOk A n) (isAnd : Bool) {es : List PE} {es' : List Expr} (m : MtEs cx names es es') : ∀ {z : Z} {s : Shared} {v : PV} {st' : Store} {b : Bool}, Fr cx names z env penv → OkZ cx z → s.heap = z.h →
    evBool rec isAnd es penv z.st = some (v, st') → truthyV v = some b → RunsT cx A (allTrue (bop isAnd) es' env) z b st' s := by
  induction m with
  | nil => exact fun _ _ _ h => nn h
  | cons he ht ih =>
    cases ht with
    | nil =>
      intro z s v st' b f k hz h ht E Q hQ
      refine allTrue_step (hT he f k hz hA (evTest_of (rec := rec) h ht) E _ fun z1 tk k1 e1 s1 => ?_)
      have hq := hQ z1 tk k1 e1 s1
      split
      · rename_i e; exact allTrue_end (e ▸ hq)
      · rename_i e; exact (Bool.eq_not.mpr e) ▸ hq
    | @cons e2 e2' es es' h2 ht =>
      intro z s v st' b f k hz h hb E Q hQ
      refine evBool_el h (fun u st1 h1 hb1 h => ?_) fun u st1 h1 hb1 h => ?_
      · refine allTrue_step (hT he f k hz hA (evTest_of (rec := rec) h1 hb1) E _ fun z1 tk k1 e1 s1 => ?_)
        rw [if_pos rfl]
        exact ih (f.ext e1) k1 (s := { s with heap := z1.h, toks := tk }) rfl (by rw [s1]; exact h) hb E Q fun z2 tk2 k2 e2 s2 => hQ z2 tk2 k2 (e1.trans e2) s2
      · cases h
        cases Option.some.inj (hb.symm.trans hb1)
        refine allTrue_step (hT he f k hz hA (evTest_of (rec := rec) h1 hb1) E _ fun z1 tk k1 e1 s1 => ?_)
        rw [if_neg (by cases isAnd <;> exact nofun)]
        exact hQ z1 tk k1 e1 s1
theorem var_sound (G : Glob cx P) {i : Nat} (p : Pos) (f : Fr cx names z env penv) (k : OkZ cx z) (hz : s.heap = z.h) (h : penv.get i = some v) : Runs cx A (eval (.Name (cx.name i) p) env) z v z.st s :=
  fun E Q hQ => wpAny_Name (f.load G.nm hz h fun x hx => by
    have := hQ x z s.toks k (.refl z) rfl hx
    rwa [← hz] at this) (G.nm.dbg i (f.ids i v h))
theorem bin_case (hE : SndE cx rec n) (hA : ArOk A n) {op : Operator} {l r : PE} {l' r' : Expr} (p : Pos) (ml : MtE cx names l l') (mr : MtE cx names r r') (f : Fr cx names z env penv) (k : OkZ cx z) (hz : s.heap = z.h)
    (h : stepE P rec call (.bin op l r) penv z.st = some (v, st')) : Runs cx A (eval (.BinOp l' op r' p) env) z v st' s := by
  refine mV h fun a st1 h1 h => mV h fun b st2 h2 h => mO h fun w h3 h => ?_
  refine rs h ?_
  intro E Q hQ
  refine wpAny_BinOp (hE ml f k hz hA h1 E _ fun x z1 tk k1 e1 s1 v1 => ?_)
  refine hE mr (f.ext e1) k1 rfl hA (by rw [s1]; exact h2) E _ fun y z2 tk2 k2 e2 s2 v2 => ?_
  refine bin_sound (z := z2) (by rw [s2]; exact h3) k2 rfl (VRel.rd k2 (v1.ext e2)) (VRel.rd k2 v2) E _ fun w z3 tk3 k3 e3 s3 v3 => ?_
  exact hQ w z3 tk3 k3 ((e1.trans e2).trans e3) (s3.trans s2) v3
theorem cmp_case (hE : SndE cx rec n) (hA : ArOk A n) {op : CmpOp} {l r : PE} {l' r' : Expr} (p : Pos) (ml : MtE cx names l l') (mr : MtE cx names r r') (f : Fr cx names z env penv) (k : OkZ cx z) (hz : s.heap = z.h)
    (h : stepE P rec call (.cmp op l r) penv z.st = some (v, st')) : ∃ b, v = .bool b ∧
      ∀ (E : Value → Shared → Prop) (Q : Value → Shared → Prop), (∀ z' tk, OkZ cx z' → Ext z z' → z'.st = st' → Q (.bool b) { s with heap := z'.h, toks := tk }) →
        wpAny (model cx.prog cx.w) A (eval l' env) (fun a s₁ => wpAny (model cx.prog cx.w) A (eval r' env) (fun b s₂ => wpAny (model cx.prog cx.w) A (compareOp op a b) Q E s₂) E s₁) E s := by
  refine mV h fun a st1 h1 h => mV h fun b st2 h2 h => mB h fun w h3 h => ?_
  cases h
  refine ⟨w, rfl, fun E Q hQ => ?_⟩
  refine hE ml f k hz hA h1 E _ fun x z1 tk k1 e1 s1 v1 => ?_
  refine hE mr (f.ext e1) k1 rfl hA (by rw [s1]; exact h2) E _ fun y z2 tk2 k2 e2 s2 v2 => ?_
  refine cmp_sound (z := z2) (A := A) (by rw [s2]; exact h3) k2 rfl hA.two (VRel.rd k2 (v1.ext e2)) (VRel.rd k2 v2) fun tk3 => ?_
  exact hQ z2 tk3 k2 (e1.trans e2) s2
theorem idx_case (hE : SndE cx rec n) (hA : ArOk A n) {l r : PE} {l' r' : Expr} (p : Pos) (ml : MtE cx names l l') (mr : MtE cx names r r') (f : Fr cx names z env penv) (k : OkZ cx z) (hz : s.heap = z.h)
    (h : stepE P rec call (.idx l r) penv z.st = some (v, st')) : Runs cx A (eval (.Subscript l' r' p) env) z v st' s := by
  refine mV h fun a st1 h1 h => mV h fun b st2 h2 h => mO h fun w h3 h => ?_
  refine rs h ?_
  intro E Q hQ
  refine wpAny_Sub (hE ml f k hz hA h1 E _ fun x z1 tk k1 e1 s1 v1 => ?_)
  refine hE mr (f.ext e1) k1 rfl hA (by rw [s1]; exact h2) E _ fun y z2 tk2 k2 e2 s2 v2 => ?_
  have hx := VRel.rd k2 (v1.ext e2)
  rw [s2] at hx
  refine ⟨item_type (z := z2) rfl hx (pidx_kind h3), ?_⟩
  refine idx_sound (z := z2) h3 k2 rfl hx (VRel.rv k2 v2) E _ fun w z3 tk3 k3 e3 s3 v3 => ?_
  exact hQ w z3 tk3 k3 ((e1.trans e2).trans e3) (s3.trans s2) v3
theorem slice_case (hE : SndE cx rec n) (hA : ArOk A n) {o : PE} {lo hi sp : Option PE} {o' : Expr} {lo' hi' sp' : Option Expr} (q p : Pos) (mo : MtE cx names o o') (ml : MtO cx names lo lo') (mh : MtO cx names hi hi') (ms : MtO cx names sp sp')
    (f : Fr cx names z env penv) (k : OkZ cx z) (hz : s.heap = z.h)
    (h : stepE P rec call (.slice o lo hi sp) penv z.st = some (v, st')) : Runs cx A (eval (.Subscript o' (.Slice lo' hi' sp' q) p) env) z v st' s := by
  refine mV h fun a st1 h1 h => mV h fun l st2 h2 h => mV h fun u st3 h3 h => mV h fun c st4 h4 h => mO h fun w h5 h => ?_
  refine rs h ?_
  intro E Q hQ
  refine wpAny_Sub (hE mo f k hz hA h1 E _ fun x z1 tk k1 e1 s1 v1 => ?_)
  refine wpAny_Slice ?_
  refine part_sound hE hA ml (f.ext e1) k1 rfl (by rw [s1]; exact h2) E _ fun vl z2 tk2 k2 e2 s2 v2 => ?_
  refine part_sound hE hA mh ((f.ext e1).ext e2) k2 rfl (by rw [s2]; exact h3) E _ fun vu z3 tk3 k3 e3 s3 v3 => ?_
  refine part_sound hE hA ms (((f.ext e1).ext e2).ext e3) k3 rfl (by rw [s3]; exact h4) E _ fun vc z4 tk4 k4 e4 s4 v4 => ?_
  have hx := VRel.rd k4 (((v1.ext e2).ext e3).ext e4)
  rw [s4] at hx
  have hgrow : ∀ b o, z4.h.get? b = some o → (z4.h.push (sliceObj vl vu vc)).get? b = some o := fun b o e => Heap.get?_push_of_some _ e
  refine ⟨item_type (z := { z4 with h := z4.h.push (sliceObj vl vu vc) }) rfl (hx.grow hgrow) (pslice_kind h5), ?_⟩
  refine slice_sound (z := z4) (s := { s with heap := z4.h, toks := tk4 }) h5 k4 rfl hx (VRel.rv k4 ((v2.ext e3).ext e4)) (VRel.rv k4 (v3.ext e4)) (VRel.rv k4 v4) E Q fun w z5 tk5 k5 e5 s5 v5 => ?_
  exact hQ w z5 tk5 k5 ((((e1.trans e2).trans e3).trans e4).trans ((Ext.keep hgrow).trans e5)) (s5.trans s4) v5
end
end Mine
end
section
namespace Mine
open PySem
noncomputable def meT : Me → String
  | .lower => "str"
  | .join => "str"
  | .append => "list"
  | .extend => "list"
  | .insert => "list"
  | .pop => "list"
  | .get => "dict"
theorem meSlot : ∀ m : Me, Slot (meT m) (meNm m) (meId m)
  | .lower => F.slot_str_lower
  | .join => F.slot_str_join
  | .append => F.slot_list_append
  | .extend => F.slot_list_extend
  | .insert => F.slot_list_insert
  | .pop => F.slot_list_pop
  | .get => F.slot_dict_get
theorem mePlain : ∀ m : Me, PlainAttrs (meT m)
  | .lower => F.plainAttrs_str
  | .join => F.plainAttrs_str
  | .append => F.plainAttrs_list
  | .extend => F.plainAttrs_list
  | .insert => F.plainAttrs_list
  | .pop => F.plainAttrs_list
  | .get => F.plainAttrs_dict
theorem meType : ∀ m : Me, typeOf (.builtin (meId m)) = pure (.type "method_descriptor")
  | .lower => F.type_str_lower
  | .join => F.type_str_join
  | .append => F.type_list_append
  | .extend => F.type_list_extend
  | .insert => F.type_list_insert
  | .pop => F.type_list_pop
  | .get => F.type_dict_get
section
variable {cx : Cx} {rec : EvE} {n : Nat} {names : Names} {env : Env} {penv : PEnv} {A : Around} {P : PProg} {call : EvC} {z : Z} {s : Shared} {v : PV} {st' : Store} {b : Bool}
theorem mBS {γ : Type} {r : γ} {C : Prop} {x : Option (Bool × Store)} {f : Bool → Store → Option γ} (h : (match x with
    | some (a, b) => f a b
    | none => none) = some r) (k : ∀ a b, x = some (a, b) → f a b = some r → C) : C := by
  cases x with
  | none => exact nn h
  | some p => exact k p.1 p.2 rfl h
theorem args_any {M : Model} {E : Value → Shared → Prop} {f : Value} {trees : List (Bool × Sem Value)} {Q : Args → Shared → Prop} (hp : trees.any (·.1) = false) (h : wpAny M A (spliced trees) (fun vs s' => Q ⟨vs, []⟩ s') E s) :
    wpAny M A (evalArgs f true trees []) Q E s := by
  cases trees with
  | nil => exact thenW (x := spliced []) h fun _ _ q => wpAny_holding (wpAny_bind (wpAny_pure (wpAny_bind (wpAny_pure (wpAny_pure q)))))
  | cons t r => exact (show t = (false, t.2) from Prod.ext (Bool.or_eq_false_iff.mp hp).1 rfl) ▸ Calls.evalArgs_plain ((show t = (false, t.2) from Prod.ext (Bool.or_eq_false_iff.mp hp).1 rfl) ▸ h)
noncomputable def Kind (s : Shared) (x : Value) (T : String) : Prop := s.TypeIs x T ∧ ∀ a, x = .ref a → ∃ ob, s.heap.get? a = some ob ∧ ob.dict = none
theorem kind_str {o : PV} {x : Value} (h : isS o = true) (k : OkZ cx z) (hx : VR cx z o x) : Kind s x "str" := by
  cases o with
  | str l => obtain ⟨y, t, rfl, _⟩ := hx.rv k; exact ⟨typeIs_str s y t, nofun⟩
  | _ => exact ff h
theorem kind_of {a : Addr} {ob : Obj} {T : String} (ho : s.heap.get? a = some ob) (hT : s.TypeIs (.ref a) T) (hd : ob.dict = none) : Kind s (.ref a) T := ⟨hT, fun b e => by cases e; exact ⟨_, ho, hd⟩⟩
theorem kind_list {p : PV} {x : Value} (h : isL p = true) (hz : s.heap = z.h) (hr : RV cx z p x) : Kind s x "list" := by
  cases p with
  | list l =>
    obtain ⟨a, n, items, rfl, ho, _⟩ := hr
    rw [← hz] at ho
    exact kind_of ho ⟨_, ho, rfl⟩ rfl
  | _ => exact ff h
theorem kind_dobj {K : Type} [DecidableEq K] {knd : KeyKind cx.prog cx.w K} {kvs : List (K × Value)} {ob : Obj} {a : Addr} (hD : DObj knd ob kvs) (ho : s.heap.get? a = some ob) : Kind s (.ref a) "dict" :=
  (hD _ _ ho).elim fun o' h => h.elim fun _ h => h.elim fun _ h => kind_of h.1 (hD s.heap _ ho : s.heap.DictOf _ _ _).typeIs h.2.1.2.1
theorem kind_dict {p : PV} {x : Value} (h : isD p = true) (hz : s.heap = z.h) (hr : RV cx z p x) : Kind s x "dict" := by
  cases p with
  | dict l =>
    obtain ⟨a, ob, rfl, ho, hd, _⟩ := hr
    rw [← hz] at ho
    cases hd with
    | ik kvs hD _ => exact kind_dobj hD ho
    | sk kvs hD _ => exact kind_dobj hD ho
  | _ => exact ff h
theorem me_kind {m : Me} {o : PV} {x : Value} (h : meOk m o z.st = true) (k : OkZ cx z) (hz : s.heap = z.h) (hx : VR cx z o x) : Kind s x (meT m) := by
  cases m with
  | lower => exact kind_str h k hx
  | join => exact kind_str h k hx
  | append => exact kind_list h hz (hx.rd k)
  | extend => exact kind_list h hz (hx.rd k)
  | insert => exact kind_list h hz (hx.rd k)
  | pop => exact kind_list h hz (hx.rd k)
  | get => exact kind_dict h hz (hx.rd k)
theorem meth_case (hE : SndE cx rec n) (hA : ArOk A n) {m : Me} {o : PE} {es : List PE} {o' : Expr} {es' : List Expr} (q p : Pos) (mo : MtE cx names o o') (me : MtEs cx names es es')
    (hbase : ∀ env, attributeBase o' (meNm m) env (eval o' env) = eval o' env) (hline : (q.endLine == p.line) = true) (hfew : decide (es.length < 30) = true) (f : Fr cx names z env penv) (k : OkZ cx z) (hz : s.heap = z.h)
    (h : stepE P rec call (.meth m o es) penv z.st = some (v, st')) : Runs cx A (eval (.Call (.Attribute o' (meNm m) q) es' [] p) env) z v st' s := by
  refine mV h fun a st1 h1 h => bif_el h fun hok h => mL h fun vs st2 h2 h => ?_
  intro E Q hQ
  obtain ⟨hs1, hs2⟩ := backTo_star me p env
  refine wpAny_Call_method (T := meT m) (id := meId m) (hbase env) ?_ hline (mePlain m) (meSlot m) (meType m) (hE mo f k hz hA h1 E _ fun x z1 tk k1 e1 s1 v1 => ?_)
  · rw [hs2]
    exact decide_eq_true (MtEs.len me ▸ dt hfew : es'.length + 0 + 0 < 30)
  · obtain ⟨hT, hd⟩ := me_kind (s := { s with heap := z1.h, toks := tk }) (by rw [s1]; exact hok) k1 rfl v1
    refine ⟨hT, hd, Calls.callWith_builtin hs1 (args_any hs1 ?_)⟩
    refine list_sound hE hA p me (f.ext e1) k1 rfl (by rw [s1]; exact h2) E _ fun xs z2 tk2 k2 e2 s2 v2 => ?_
    exact meth_sound (z := z2) (by rw [s2]; exact h) k2 rfl (v1.ext e2) v2 E Q fun x z3 tk3 k3 e3 s3 v3 => hQ x z3 tk3 k3 ((e1.trans e2).trans e3) s3 v3
theorem call_case (G : Glob cx P) (hE : SndE cx rec n) (hC : SndC cx P call n) (hF : ∀ f vs st r, call f vs st = some r → ∃ p, P.F f = some p) (hA : ArOk A n) {g : Nat} {es : List PE} {es' : List Expr} (q p : Pos) (hg : glOk names (cx.name g) = true)
    (me : MtEs cx names es es') (f : Fr cx names z env penv) (k : OkZ cx z) (hz : s.heap = z.h)
    (h : stepE P rec call (.call g es) penv z.st = some (v, st')) : Runs cx A (eval (.Call (.Name (cx.name g) q) es' [] p) env) z v st' s := by
  refine mL h fun vs st1 h1 h => ?_
  obtain ⟨pb, hp⟩ := hF _ _ _ _ h
  obtain ⟨mg, mb, _, _, _, _, hf⟩ := G.ns
  obtain ⟨_, o, fd, ho, hd⟩ := hf g pb hp
  obtain ⟨hs1, hs2⟩ := backTo_star me p env
  intro E Q hQ
  refine wpAny_Call_NameR (fn_load G hp hg f k hz q ?_)
  refine Calls.callWith_function (o := o) (fd := fd) (args_any hs1 ?_)
  refine list_sound hE hA p me f k hz h1 E _ fun xs z1 tk1 k1 e1 s1 v1 => ⟨⟨k1.sub _ _ (k1.base _ _ ho), hd⟩, ?_⟩
  exact hC (z := z1) k1 rfl hA v1 (by rw [s1]; exact h) E Q fun x z2 tk2 k2 e2 s2 v2 => hQ x z2 tk2 k2 (e1.trans e2) s2 v2
theorem bi_call {b : BI} {first : List Value} {pos : Pos} {trees : List (Bool × Sem Value)} {E Q : Value → Shared → Prop} (hp : trees.any (·.1) = false)
    (h : wpAny (model cx.prog cx.w) A (spliced trees) (fun vs s₁ => wpAny (model cx.prog cx.w) A (PySem.call (biVal b) vs) Q E s₁) E s) : wpAny (model cx.prog cx.w) A (callWith pos (biVal b) [] trees []) Q E s := by
  cases b
  all_goals first
    | exact Calls.callWith_builtin hp (args_any hp h)
    | exact PyProof.Rows.callWith_type hp (args_any hp h)
    | exact callWith_type hp (args_any hp h)
theorem bi_case (G : Glob cx P) (hE : SndE cx rec n) (hA : ArOk A n) {b : BI} {es : List PE} {es' : List Expr} (q p : Pos) (hb : notZip b = true) (hg : glOk names (biNm b) = true)
    (me : MtEs cx names es es') (f : Fr cx names z env penv) (k : OkZ cx z) (hz : s.heap = z.h)
    (h : stepE P rec call (.bi b es) penv z.st = some (v, st')) : Runs cx A (eval (.Call (.Name (biNm b) q) es' [] p) env) z v st' s := by
  refine mL h fun vs st1 h1 h => ?_
  obtain ⟨hs1, hs2⟩ := backTo_star me p env
  intro E Q hQ
  refine wpAny_Call_NameR (bi_load G hg f k hz q (bi_call (first := []) hs1 ?_))
  refine list_sound hE hA p me f k hz h1 E _ fun xs z1 tk1 k1 e1 s1 v1 => ?_
  exact bi_sound (z := z1) k1 rfl hA v1 (by rw [s1]; exact h) hb E Q fun x z2 tk2 k2 e2 s2 v2 => hQ x z2 tk2 k2 (e1.trans e2) s2 v2
theorem pushed (k : OkZ cx z) {o : Obj} (hal : o.isFreed = false) : OkZ cx { z with B := addB z.B z.h.objs.size o, h := z.h.push o } ∧ Ext z { z with B := addB z.B z.h.objs.size o, h := z.h.push o } := by
  have hn : z.h.get? z.h.objs.size = none := none_at_size (s := { heap := z.h }) rfl
  have hk : ∀ b x, z.h.get? b = some x → (z.h.push o).get? b = some x := fun b x e => Heap.get?_push_of_some _ e
  exact ⟨k.freeze hk hn (Heap.get?_push_size _ hal), k.freeze_ext hk hn⟩
theorem stored_new (k : OkZ cx z) {o : Obj} (hal : o.isFreed = false) {p : PObj} (hp : ORel cx.prog cx.w z.σ z.B (z.h.push o) p z.h.objs.size) :
    OkZ cx { z with σ := z.σ ++ [z.h.objs.size], st := z.st ++ [p], h := z.h.push o } ∧ Ext z { z with σ := z.σ ++ [z.h.objs.size], st := z.st ++ [p], h := z.h.push o } := by
  have hn : z.h.get? z.h.objs.size = none := none_at_size (s := { heap := z.h }) rfl
  have hk : ∀ b x, z.h.get? b = some x → (z.h.push o).get? b = some x := fun b x e => Heap.get?_push_of_some _ e
  exact ⟨k.store hk hn (Heap.get?_push_size _ hal) hp, k.store_ext hk hn⟩
theorem list_case (hE : SndE cx rec n) (hA : ArOk A n) {es : List PE} {es' : List Expr} (p : Pos) (me : MtEs cx names es es') (f : Fr cx names z env penv) (k : OkZ cx z) (hz : s.heap = z.h)
    (h : stepE P rec call (.list es) penv z.st = some (v, st')) : Runs cx A (eval (.List es' p) env) z v st' s := by
  refine mL h fun vs st1 h1 h => ?_
  refine bif_el h fun hl h => ?_
  refine rs h ?_
  intro E Q hQ
  refine wpAny_List (list_sound hE hA p me f k hz h1 E _ fun xs z1 tk1 k1 e1 s1 v1 => ⟨?_, ?_⟩)
  · rw [← v1.length]; exact lim_le (dt hl)
  · obtain ⟨k2, e2⟩ := pushed k1 (o := { cls := .type "list", data := .seq xs.toArray }) rfl
    exact hQ _ _ tk1 k2 (e1.trans e2) s1 (.list (items := xs.toArray) (addB_self _ _ _) ⟨0, rfl⟩ (v1.ext e2))
theorem tuple_case (hE : SndE cx rec n) (hA : ArOk A n) {es : List PE} {es' : List Expr} (kk : Nat) (p : Pos) (me : MtEs cx names es es') (f : Fr cx names z env penv) (k : OkZ cx z) (hz : s.heap = z.h)
    (h : stepE P rec call (.tuple es) penv z.st = some (v, st')) : Runs cx A (eval (.Tuple es' kk p) env) z v st' s := by
  refine mL h fun vs st1 h1 h => ?_
  refine bif_el h fun hl h => ?_
  refine rs h ?_
  intro E Q hQ
  refine wpAny_Tuple (list_sound hE hA p me f k hz h1 E _ fun xs z1 tk1 k1 e1 s1 v1 => ⟨?_, ?_⟩)
  · rw [← v1.length]; exact lim_le (dt hl)
  · obtain ⟨k2, e2⟩ := pushed k1 (o := { cls := .type "tuple", data := .seq xs.toArray }) rfl
    exact hQ _ _ tk1 k2 (e1.trans e2) s1 (.tuple (items := xs.toArray) (addB_self _ _ _) ⟨0, rfl⟩ (v1.ext e2))
theorem newlist_case (hE : SndE cx rec n) (hA : ArOk A n) {es : List PE} {es' : List Expr} (p : Pos) (me : MtEs cx names es es') (f : Fr cx names z env penv) (k : OkZ cx z) (hz : s.heap = z.h)
    (h : stepE P rec call (.newlist es) penv z.st = some (v, st')) : Runs cx A (eval (.List es' p) env) z v st' s := by
  refine mL h fun vs st1 h1 h => ?_
  refine bif_el h fun hl h => ?_
  refine rs h ?_
  intro E Q hQ
  refine wpAny_List (list_sound hE hA p me f k hz h1 E _ fun xs z1 tk1 k1 e1 s1 v1 => ⟨?_, ?_⟩)
  · rw [← v1.length]; exact lim_le (dt hl)
  · obtain ⟨k2, e2⟩ := stored_new k1 (o := { cls := .type "list", data := .seq xs.toArray }) (p := .list vs) rfl ⟨_, xs.toArray, Heap.get?_push_size _ rfl, ⟨0, rfl⟩, v1⟩
    refine hQ _ _ tk1 k2 (e1.trans e2) (by rw [s1]) (.ref ?_)
    show (z1.σ ++ [z1.h.objs.size])[st1.length]? = some z1.h.objs.size
    rw [← s1, ← k1.len]; exact List.getElem?_concat_length
theorem not_case (hT : SndT cx rec n) (hE : SndE cx rec n) (hA : ArOk A n) {e : PE} {e' : Expr} (p : Pos) (me : MtE cx names e e') (f : Fr cx names z env penv) (k : OkZ cx z) (hz : s.heap = z.h)
    (h : stepE P rec call (.not e) penv z.st = some (v, st')) : Runs cx A (eval (.UnaryOp .Not e' p) env) z v st' s := by
  refine mBS h fun b st1 h1 h => ?_
  cases h
  refine mV h1 fun u st2 h2 h1 => mB h1 fun b' hb h1 => ?_
  cases h1
  intro E Q hQ
  refine wpAny_UnaryOp (hE me f k hz hA h2 E _ fun x z1 tk k1 e1 s1 v1 => not_value (truthy_sound hb (v1.rv k1) fun tk1 => ?_))
  exact hQ _ z1 tk1 k1 e1 s1 (.bool _)
theorem ite_case (hT : SndT cx rec n) (hE : SndE cx rec n) (hA : ArOk A n) {t b o : PE} {t' b' o' : Expr} (p : Pos) (mt : MtE cx names t t') (mb : MtE cx names b b') (mo : MtE cx names o o') (f : Fr cx names z env penv) (k : OkZ cx z) (hz : s.heap = z.h)
    (h : stepE P rec call (.ite t b o) penv z.st = some (v, st')) : Runs cx A (eval (.IfExp t' b' o' p) env) z v st' s := by
  refine mT h fun c st1 h1 h => ?_
  intro E Q hQ
  refine wpAny_IfExp (hT mt f k hz hA h1 E _ fun z1 tk k1 e1 s1 => ?_)
  cases c with
  | true => exact hE mb (f.ext e1) k1 (s := { s with heap := z1.h, toks := tk }) rfl hA (by rw [s1]; exact h) E Q fun x z2 tk2 k2 e2 s2 v2 => hQ x z2 tk2 k2 (e1.trans e2) s2 v2
  | false => exact hE mo (f.ext e1) k1 (s := { s with heap := z1.h, toks := tk }) rfl hA (by rw [s1]; exact h) E Q fun x z2 tk2 k2 e2 s2 v2 => hQ x z2 tk2 k2 (e1.trans e2) s2 v2
end
end Mine
end
section
namespace Mine
open PySem
section
variable {cx : Cx} {z z0 : Z} {a : Addr} {o : Obj}
theorem adoptB (k : OkZ cx z) (f : Free z a) (ho : z.h.get? a = some o) : OkZ cx { z with B := addB z.B a o } :=
  k.addB (fun _ _ e => e) rfl (fun n p hp hd => ⟨hp, f.l n ⟨p, hp, hd⟩⟩) f.b ho
theorem adoptB_ext (e : Ext z0 z) (hn : z0.h.get? a = none) (f : Free z a) : Ext z0 { z with B := addB z.B a o } :=
  ⟨e.sig, fun b x h => addB_of f.b (e.frz _ _ h), fun b x h g => have q := e.prv b x h g; ⟨q.1, addB_none (fun hb => nn (hn.symm.trans (hb ▸ h))) q.2.b, q.2.l⟩⟩
theorem VRs.adopt (f : Free z a) {vs : List PV} {xs : List Value} (h : VRs cx z vs xs) : VRs cx { z with B := addB z.B a o } vs xs :=
  h.mono (fun _ _ e => e) fun b x e => addB_of f.b e
theorem adoptS (k : OkZ cx z) (f : Free z a) (ho : z.h.get? a = some o) {p : PObj} (hp : ORel cx.prog cx.w z.σ z.B z.h p a) : OkZ cx { z with σ := z.σ ++ [a], st := z.st ++ [p] } := k.adopt f (fun _ _ e => e) ho hp
theorem adoptS_ext (k : OkZ cx z) (e : Ext z0 z) (hn : z0.h.get? a = none) {p : PObj} : Ext z0 { z with σ := z.σ ++ [a], st := z.st ++ [p] } := k.adopt_ext e (fun _ _ e => e) hn
theorem emptyD {prog : Program} {w : World} : DRel prog w [] { cls := .type "dict", data := .dict #[] } :=
  .ik [] (fun h a e => ⟨_, #[], 0, e, ⟨rfl, rfl, rfl⟩, rfl, fun e h => absurd h (Array.not_mem_empty e), .nil, List.nodup_nil⟩) trivial
theorem change_free (k : OkZ cx z) (f : Free z a) {h' : Heap} (hs : Heap.SameBut a z.h h') : OkZ cx { z with h := h' } := ok_sameBut k f hs
theorem change_ext (e : Ext z0 z) (hn : z0.h.get? a = none) {h' : Heap} (hs : Heap.SameBut a z.h h') : Ext z0 { z with h := h' } :=
  ⟨e.sig, e.frz, fun b x h g => have q := e.prv b x h g; ⟨(hs.2 b (fun hb => nn (hn.symm.trans (hb ▸ h)))).trans q.1, q.2.b, q.2.l⟩⟩
theorem mD {γ : Type} {r : γ} {C : Prop} {x : Option (List (PV × PV))} {f : List (PV × PV) → Option γ} (h : (match x with
    | some a => f a
    | none => none) = some r) (k : ∀ a, x = some a → f a = some r → C) : C := by
  cases x with
  | none => exact nn h
  | some a => exact k a rfl h
theorem mK {γ : Type} {r : γ} {C : Prop} {x : Option (List (PV × PV) × Store)} {f : List (PV × PV) → Store → Option γ} (h : (match x with
    | some (a, b) => f a b
    | none => none) = some r) (k : ∀ a b, x = some (a, b) → f a b = some r → C) : C := by
  cases x with
  | none => exact nn h
  | some p => exact k p.1 p.2 rfl h
inductive PRs (cx : Cx) (z : Z) : List (PV × PV) → List (Value × Value) → Prop
  | nil : PRs cx z [] []
  | cons {a b : PV} {x y : Value} {r : List (PV × PV)} {t : List (Value × Value)} : VR cx z a x → VR cx z b y → PRs cx z r t → PRs cx z ((a, b) :: r) ((x, y) :: t)
variable {rec : EvE} {n : Nat} {names : Names} {env : Env} {penv : PEnv} {A : Around} {P : PProg} {call : EvC} {s : Shared} {v : PV} {st' : Store} {b : Bool} {E : Value → Shared → Prop}
theorem storeAll_sound {d : Addr} {ps : List (PV × PV)} {xs : List (Value × Value)} (m : PRs cx z ps xs) : ∀ {acc acc' : List (PV × PV)} {s : Shared} {o : Obj} {Q : PUnit → Shared → Prop}, s.heap.get? d = some o → DRel cx.prog cx.w acc o →
    putAll ps acc = some acc' → (∀ h' o' tk, h'.get? d = some o' → DRel cx.prog cx.w acc' o' → Heap.SameBut d s.heap h' → Q PUnit.unit { s with heap := h', toks := tk }) →
    wpAny (model cx.prog cx.w) A (forIn xs PUnit.unit fun (x : Value × Value) (_ : PUnit) => (do dictSet d x.1 x.2; pure (ForInStep.yield PUnit.unit) : Sem (ForInStep PUnit))) Q E s := by
  induction m with
  | nil =>
    intro acc acc' s o Q ho hd h hQ
    cases h
    rw [List.forIn_nil]
    exact wpAny_pure (hQ s.heap o s.toks ho hd (Heap.SameBut.refl _ _))
  | cons h1 h2 hr ih =>
    intro acc acc' s o Q ho hd h hQ
    refine mD h fun acc1 hp h => bif_el h fun hl h => ?_
    rw [List.forIn_cons]
    refine wpAny_bind (wpAny_bind (dictSet_sound hp ho hd h1 h2 (dt hl) fun h' o' ho' hd' hs => wpAny_pure ?_))
    exact ih ho' hd' h fun h'' o'' tk ho'' hd'' hs' => hQ h'' o'' tk ho'' hd'' (hs.trans hs')
noncomputable def pairTrees (pos : Pos) (env : Env) (ks vs : List Expr) : List (Sem Value × Sem Value) := (evalEach ks env).zip ((evalEach vs env).map fun v => do let x ← v; standAt pos; pure x)
theorem pairTrees_shape (pos : Pos) (env : Env) (ks : List Expr) : ∀ (vs : List Expr), (evalEachOpt (ks.map some) env).zip ((evalEach vs env).map fun v => do let x ← v; standAt pos; pure x) = (pairTrees pos env ks vs).map fun p => (some p.1, p.2) := by
  induction ks with
  | nil => exact fun vs => rfl
  | cons k ks ih =>
    intro vs
    cases vs with
    | nil => exact List.zip_nil_right
    | cons v vs => exact congrArg (List.cons _) (ih vs)
theorem pairTrees_len (pos : Pos) (env : Env) (ks : List Expr) : ∀ (vs : List Expr), (pairTrees pos env ks vs).length ≤ ks.length := by
  induction ks with
  | nil => exact fun vs => Nat.le_refl 0
  | cons k ks ih => exact fun vs => by cases vs with | nil => exact Nat.zero_le _ | cons v vs => exact Nat.succ_le_succ (ih vs)
theorem evKVs_el {k v : PE} {ks vs : List PE} {st : Store} {r : List (PV × PV) × Store} {C : Prop} (h : evKVs rec (k :: ks) (v :: vs) penv st = some r)
    (c : ∀ a st1 b st2 ps st3, rec k penv st = some (a, st1) → rec v penv st1 = some (b, st2) → evKVs rec ks vs penv st2 = some (ps, st3) → ((a, b) :: ps, st3) = r → C) : C :=
  mV h fun a st1 h1 h => mV h fun b st2 h2 h => mK h fun ps st3 h3 h => c a st1 b st2 ps st3 h1 h2 h3 (Option.some.inj h)
theorem pairs_sound (hE : SndE cx rec n) (hA : ArOk A n) (pos : Pos) {ks : List PE} {ks' : List Expr} (mk : MtEs cx names ks ks') : ∀ {vs : List PE} {vs' : List Expr} {z : Z} {s : Shared} {ps : List (PV × PV)} {st' : Store}, MtEs cx names vs vs' → Fr cx names z env penv → OkZ cx z → s.heap = z.h →
    evKVs rec ks vs penv z.st = some (ps, st') →
      ∀ (E : Value → Shared → Prop) (Q : List (Value × Value) → Shared → Prop), (∀ xs z' tk, OkZ cx z' → Ext z z' → z'.st = st' → PRs cx z' ps xs → Q xs { s with heap := z'.h, toks := tk }) →
        wpAny (model cx.prog cx.w) A (evalPairs (pairTrees pos env ks' vs')) Q E s := by
  induction mk with
  | nil =>
    intro vs vs' z s ps st' mv f k hz h E Q hQ
    cases mv with
    | nil =>
      cases h
      have := hQ [] z s.toks k (.refl z) rfl .nil
      rw [← hz] at this
      exact evalPairs_nil this
    | cons => exact nn h
  | cons hk hks ih =>
    intro vs vs' z s ps st' mv f k hz h E Q hQ
    cases mv with
    | nil => exact nn h
    | cons hv hvs =>
      refine evKVs_el h fun a st1 b st2 ps1 st3 h1 h2 h3 h => ?_
      cases h
      refine evalPairs_cons (hE hk f k hz hA h1 E _ fun x z1 tk1 k1 e1 s1 v1 => ?_)
      refine wpAny_bind (hE hv (f.ext e1) k1 rfl hA (by rw [s1]; exact h2) E _ fun y z2 tk2 k2 e2 s2 v2 => wpAny_bind (wpAny_standAt (wpAny_pure ?_)))
      refine ih hvs ((f.ext e1).ext e2) k2 rfl (by rw [s2]; exact h3) E _ fun xs z3 tk3 k3 e3 s3 v3 => ?_
      exact hQ _ z3 tk3 k3 ((e1.trans e2).trans e3) s3 (.cons ((v1.ext e2).ext e3) (v2.ext e3) v3)
theorem newdict_case (hE : SndE cx rec n) (hA : ArOk A n) {ks vs : List PE} {ks' vs' : List Expr} (p : Pos) (hlen : decide (ks'.length ≤ 15) = true) (mk : MtEs cx names ks ks') (mv : MtEs cx names vs vs') (f : Fr cx names z env penv) (k : OkZ cx z) (hz : s.heap = z.h)
    (h : stepE P rec call (.newdict ks vs) penv z.st = some (v, st')) : Runs cx A (eval (.Dict (ks'.map some) vs' p) env) z v st' s := by
  refine mK h fun ps st1 h1 h => mD h fun es h2 h => ?_
  refine rs h ?_
  intro E Q hQ
  have hn := none_at_size hz
  generalize ho : ({ cls := .type "dict", data := .dict #[] } : Obj) = od
  have hk : ∀ b x, z.h.get? b = some x → (s.heap.push od).get? b = some x := fun b x e => by rw [hz]; exact Heap.get?_push_of_some _ e
  have hnew : (s.heap.push od).get? s.heap.objs.size = some od := Heap.get?_push_size _ (ho ▸ rfl)
  have k0 : OkZ cx { z with h := s.heap.push od } := k.keep fun b o e _ => hk b o e
  have e0 : Ext z { z with h := s.heap.push od } := .keep hk
  have hf0 := k.free_of_none hn
  have hD0 : DRel cx.prog cx.w [] od := ho ▸ emptyD
  have hsm := k.not_sm hn
  rw [arm_eval_Dict, pairTrees_shape p env ks' vs']
  by_cases hp : pairTrees p env ks' vs' = []
  · cases mk with
    | nil =>
      cases mv with
      | nil =>
        cases h1; cases h2
        show wpAny _ A (do standAt p; newDict) Q E s
        refine wpAny_bind (wpAny_standAt (wpAny_newObj_type ?_))
        have := hQ (.ref s.heap.objs.size) _ s.toks (k.adopt hf0 (h' := s.heap.push od) hk hnew (p := .dict []) ⟨_, hnew, hD0, hsm⟩) (k.adopt_ext (.refl z) hk hn) rfl (.ref (by rw [← k.len]; exact List.getElem?_concat_length))
        rw [← ho] at this
        exact this
      | cons => exact nn h1
    | cons =>
      cases mv with
      | nil => exact nn h1
      | cons => cases hp
  · have hl := pairTrees_len p env ks' vs'
    have hle : (pairTrees p env ks' vs').length ≤ 15 := Nat.le_trans hl (dt hlen)
    rw [dictDisplay_pairs _ hp (Nat.lt_of_le_of_lt hle (by decide))]
    refine wpAny_bind (wpAny_standAt (wpAny_bind ?_))
    unfold subDict
    refine wpAny_bind (wpAny_alloc ?_)
    refine wpAny_bind (wpAny_holding ?_)
    rw [if_pos hle, ho]
    refine wpAny_bind ?_
    refine pairs_sound hE hA p mk mv (f.ext e0) k0 rfl h1 E _ fun xs z1 tk1 k1 e1 s1 v1 => ?_
    refine wpAny_holding (wpAny_bind ?_)
    obtain ⟨ho1, hf1⟩ := e1.prv _ _ hnew ⟨hf0.b, hf0.l⟩
    refine storeAll_sound v1 ho1 hD0 h2 fun h' o' tk' ho' hd' hs' => wpAny_pure (wpAny_pure (wpAny_pure ?_))
    have k2 := change_free k1 hf1 hs'
    have e2 := change_ext (e0.trans e1) hn hs'
    have hf2 : Free { z1 with h := h' } s.heap.objs.size := ⟨hf1.b, hf1.l⟩
    exact hQ _ _ tk' (adoptS k2 hf2 ho' (p := .dict es) ⟨o', ho', hd', hsm⟩) (adoptS_ext k2 e2 hn) (by rw [s1]) (.ref (by rw [← s1, ← k1.len]; exact List.getElem?_concat_length))
end
end Mine
end
section
namespace Mine
open PySem
section
variable {cx : Cx}
noncomputable def closed (env : Env) : List (Str × NameKind) → List (Str × Addr) → List (Str × Addr)
  | [], acc => acc
  | (n, k) :: r, acc => if k == .free then closed env r ((n, (env.cells.lookup n).getD 0) :: acc) else closed env r acc
theorem closureFor_pure {scope : Scope} {env : Env} (h : ∀ n, (n, NameKind.free) ∈ scope.names → ∃ c, env.cells.lookup n = some c) : closureFor scope env = pure (closed env scope.names []) := by
  have key : ∀ (names : List (Str × NameKind)) (acc : List (Str × Addr)), (∀ n, (n, NameKind.free) ∈ names → ∃ c, env.cells.lookup n = some c) →
      (forIn names acc (fun x r => if x.2 == NameKind.free then (do let a ← cellOf env x.1; pure (ForInStep.yield ((x.1, a) :: r))) else pure (ForInStep.yield r)) : Sem (List (Str × Addr))) = pure (closed env names acc) := by
    intro names
    induction names with
    | nil => exact fun acc _ => rfl
    | cons p r ih =>
      obtain ⟨n, k⟩ := p
      intro acc hm
      rw [List.forIn_cons]
      have hm' := fun n' h' => hm n' (List.mem_cons_of_mem _ h')
      by_cases hk : k = .free
      · subst hk
        obtain ⟨c, hc⟩ := hm n List.mem_cons_self
        have : cellOf env n = pure c := by unfold cellOf; rw [hc]
        show ((cellOf env n >>= fun a => pure (ForInStep.yield ((n, a) :: acc))) >>= _) = pure (closed env r ((n, (env.cells.lookup n).getD 0) :: acc))
        rw [this, pure_bind, pure_bind, hc]
        exact ih _ hm'
      · have hb : (k == NameKind.free) = false := beq_eq_false_iff_ne.mpr hk
        show ((if (k == NameKind.free) = true then _ else pure (ForInStep.yield acc)) >>= _) = pure (if (k == NameKind.free) = true then _ else closed env r acc)
        rw [hb, if_neg Bool.false_ne_true, if_neg Bool.false_ne_true, pure_bind]
        exact ih _ hm'
  have := key scope.names [] h
  unfold closureFor
  simp only [bind_pure]
  exact this
theorem lookup_if {α : Type} (n x : Str) (k : α) (r : List (Str × α)) : List.lookup x ((n, k) :: r) = if x = n then some k else r.lookup x := by
  rw [List.lookup_cons]
  cases h : x == n with
  | true => rw [if_pos (beq_iff_eq.mp h)]
  | false => rw [if_neg (beq_eq_false_iff_ne.mp h)]
theorem nodup_el {α : Type} {n : Str} {k : α} {r : List (Str × α)} (h : nodupS (((n, k) :: r).map (·.1)) = true) : (∀ q, (n, q) ∉ r) ∧ nodupS (r.map (·.1)) = true :=
  an h fun h1 h2 => ⟨fun q hm => ff ((nt h1).symm.trans (List.contains_iff_mem.mpr (List.mem_map.mpr ⟨_, hm, rfl⟩))), h2⟩
theorem lookup_of_mem_nodup {α : Type} {l : List (Str × α)} {n : Str} {c : α} (hn : nodupS (l.map (·.1)) = true) (h : (n, c) ∈ l) : l.lookup n = some c := by
  induction l with
  | nil => exact absurd h List.not_mem_nil
  | cons p r ih =>
    obtain ⟨m, d⟩ := p
    rw [lookup_if]
    rcases List.mem_cons.mp h with e | h'
    · cases e; exact if_pos rfl
    · rw [if_neg fun e : n = m => (nodup_el hn).1 c (e ▸ h')]; exact ih (nodup_el hn).2 h'
theorem closed_lookup {env : Env} {names : List (Str × NameKind)} : ∀ {acc : List (Str × Addr)} {x : Str}, nodupS (names.map (·.1)) = true → (∀ n, (n, NameKind.free) ∈ names → ∃ c, env.cells.lookup n = some c) →
    (closed env names acc).lookup x = if names.lookup x = some .free then env.cells.lookup x else acc.lookup x := by
  induction names with
  | nil => exact fun _ _ => (if_neg nofun).symm
  | cons p r ih =>
    intro acc x hn hm
    obtain ⟨n, k⟩ := p
    obtain ⟨h1, h2⟩ := nodup_el hn
    have hnr : ∀ {q}, r.lookup n ≠ some q := fun h => h1 _ (mem_of_lookup h)
    have ih' := fun acc => ih (acc := acc) (x := x) h2 fun n h => hm n (List.mem_cons_of_mem _ h)
    rw [lookup_if]
    by_cases hk : k = .free
    · subst hk
      obtain ⟨c, hc⟩ := hm n List.mem_cons_self
      show (closed env r ((n, (env.cells.lookup n).getD 0) :: acc)).lookup x = _
      rw [ih', lookup_if, hc]
      by_cases hx : x = n
      · subst hx
        rw [if_neg hnr, if_pos rfl, if_pos rfl, if_pos rfl, hc]; rfl
      · rw [if_neg hx, if_neg hx]
    · show (if (k == NameKind.free) = true then _ else closed env r acc).lookup x = _
      rw [if_neg (fun h => hk (beq_iff_eq.mp h)), ih']
      by_cases hx : x = n
      · subst hx
        rw [if_neg hnr, if_pos rfl, if_neg fun h => hk (Option.some.inj h)]
      · rw [if_neg hx]
structure CellsOk (h : Heap) (names : List (Str × NameKind)) (acc : List (Str × Addr)) : Prop where
  new : ∀ x, names.lookup x = some .cell → ∃ c, (cellsFrom h.objs.size names acc).lookup x = some c ∧ h.objs.size ≤ c ∧ (pushCells h names).IsCell c none
  old : ∀ x, names.lookup x ≠ some .cell → (cellsFrom h.objs.size names acc).lookup x = acc.lookup x
  inj : ∀ x y c, names.lookup x = some .cell → names.lookup y = some .cell → (cellsFrom h.objs.size names acc).lookup x = some c → (cellsFrom h.objs.size names acc).lookup y = some c → x = y
theorem cells_spec (names : List (Str × NameKind)) : ∀ (h : Heap) (acc : List (Str × Addr)), nodupS (names.map (·.1)) = true → CellsOk h names acc := by
  induction names with
  | nil => exact fun h acc _ => ⟨fun x e => nn e, fun x _ => rfl, fun x y c e => nn e⟩
  | cons p r ih =>
    intro h acc hn
    obtain ⟨n, k⟩ := p
    obtain ⟨h1, h2⟩ := nodup_el hn
    have hnr : ∀ {q}, r.lookup n ≠ some q := fun h => h1 _ (mem_of_lookup h)
    by_cases hk : k = .cell
    · subst hk
      have S := ih (h.push { cls := .type "cell", data := .cell none }) ((n, h.objs.size) :: acc) h2
      have ec : cellsFrom h.objs.size ((n, .cell) :: r) acc = cellsFrom (h.push { cls := .type "cell", data := .cell none }).objs.size r ((n, h.objs.size) :: acc) := by rw [Heap.size_push]; rfl
      have ep : pushCells h ((n, .cell) :: r) = pushCells (h.push { cls := .type "cell", data := .cell none }) r := rfl
      have hn' := S.old n hnr
      rw [lookup_if, if_pos rfl] at hn'
      have gt : ∀ {x c}, r.lookup x = some .cell → (cellsFrom h.objs.size ((n, .cell) :: r) acc).lookup x = some c → h.objs.size < c := fun hx e => by
        obtain ⟨c', g1, g2, _⟩ := S.new _ hx
        rw [ec, g1] at e
        rw [Heap.size_push] at g2
        exact Option.some.inj e ▸ g2
      constructor
      · intro x e
        rw [ec, ep]
        rw [lookup_if] at e
        by_cases hx : x = n
        · subst hx
          exact ⟨_, hn', Nat.le_refl _, ⟨_, pushCells_keeps r _ _ _ (Heap.get?_push_size _ rfl), rfl⟩⟩
        · rw [if_neg hx] at e
          obtain ⟨c, g1, g2, g3⟩ := S.new x e
          rw [Heap.size_push] at g2
          exact ⟨c, g1, Nat.le_of_succ_le g2, g3⟩
      · intro x e
        rw [lookup_if] at e
        by_cases hx : x = n
        · rw [if_pos hx] at e; exact absurd rfl e
        · rw [if_neg hx] at e
          rw [ec, S.old x e, lookup_if, if_neg hx]
      · intro x y c ex ey g1 g2
        rw [lookup_if] at ex ey
        by_cases hx : x = n
        · by_cases hy : y = n
          · rw [hx, hy]
          · rw [if_neg hy] at ey
            have h3 := gt ey g2
            rw [ec, hx, hn'] at g1
            exact absurd h3 (Option.some.inj g1 ▸ Nat.lt_irrefl _)
        · rw [if_neg hx] at ex
          by_cases hy : y = n
          · have h3 := gt ex g1
            rw [ec, hy, hn'] at g2
            exact absurd h3 (Option.some.inj g2 ▸ Nat.lt_irrefl _)
          · rw [if_neg hy] at ey
            rw [ec] at g1 g2
            exact S.inj x y c ex ey g1 g2
    · have S := ih h acc h2
      have hb : ¬ (k == NameKind.cell) = true := fun e => hk (beq_iff_eq.mp e)
      have ec : cellsFrom h.objs.size ((n, k) :: r) acc = cellsFrom h.objs.size r acc := if_neg hb
      have ep : pushCells h ((n, k) :: r) = pushCells h r := if_neg hb
      have cel : ∀ x, List.lookup x ((n, k) :: r) = some .cell → r.lookup x = some .cell := fun x e => by
        rw [lookup_if] at e
        by_cases hx : x = n
        · rw [if_pos hx] at e; exact absurd (Option.some.inj e) hk
        · rwa [if_neg hx] at e
      constructor
      · rw [ec, ep]; exact fun x e => S.new x (cel x e)
      · rw [ec]
        refine fun x e => S.old x fun e' => ?_
        rw [lookup_if] at e
        by_cases hx : x = n
        · exact hnr (hx ▸ e')
        · exact e ((if_neg hx).trans e')
      · rw [ec]; exact fun x y c ex ey => S.inj x y c (cel x ex) (cel y ey)
theorem lookup_map {β : Type} {f : Str × β → Str × β} {g : Str → β → β} (hf : ∀ p, f p = (p.1, g p.1 p.2)) (x : Str) (l : List (Str × β)) : (l.map f).lookup x = (l.lookup x).map (g x) := by
  induction l with
  | nil => rfl
  | cons p r ih =>
    rw [List.map_cons, hf, lookup_if, show p = (p.1, p.2) from rfl, lookup_if]
    by_cases hx : x = p.1
    · rw [if_pos hx, if_pos hx, hx]; rfl
    · rw [if_neg hx, if_neg hx]; exact ih
theorem relabel_lookup {scope : Scope} {env : Env} (hf : env.scope.kind = .function) (x : Str) :
    (relabel scope env).names.lookup x = (scope.names.lookup x).map fun k => if k = .free ∧ env.kindOf x = some .cell then .cell else k := by
  refine lookup_map (g := fun n k => if k = .free ∧ env.kindOf n = some .cell then .cell else k) (fun p => ?_) x scope.names
  have b : ∀ {c : Bool} {C : Prop} [Decidable C], (c = true ↔ C) → (if c = true then (p.1, NameKind.cell) else (p.1, p.2)) = (p.1, if C then NameKind.cell else p.2) := fun h => by
    split <;> split <;> first | rfl | exact absurd (h.mp ‹_›) ‹_› | exact absurd (h.mpr ‹_›) ‹_›
  exact b (by rw [hf, Bool.and_eq_true, Bool.and_eq_true, beq_iff_eq, beq_iff_eq, beq_iff_eq]; exact ⟨fun h => ⟨h.1.1, h.2⟩, fun h => ⟨⟨h.1, rfl⟩, h.2⟩⟩)
theorem keep_get {fv : List Nat} {penv : PEnv} {i : Nat} {v : PV} : (keep fv penv).get i = some v → i ∈ fv ∧ penv.get i = some v := by
  induction penv with
  | nil => exact fun h => nn h
  | cons p r ih =>
    obtain ⟨j, u⟩ := p
    intro h
    have h : PEnv.get (bif fv.any (Nat.beq j) then (j, u) :: keep fv r else keep fv r) i = some v := h
    show i ∈ fv ∧ (bif Nat.beq j i then some u else PEnv.get r i) = some v
    cases hj : Nat.beq j i with
    | true =>
      obtain rfl := (Nat.eq_of_beq_eq_true hj).symm
      cases hb : fv.any (Nat.beq i) with
      | true =>
        rw [hb] at h
        have h : (bif Nat.beq i i then some u else PEnv.get (keep fv r) i) = some v := h
        rw [hj] at h
        obtain ⟨m, hm, he⟩ := List.any_eq_true.mp hb
        exact ⟨Nat.eq_of_beq_eq_true he ▸ hm, h⟩
      | false =>
        rw [hb] at h
        exact ff (hb.symm.trans (List.any_eq_true.mpr ⟨i, (ih h).1, hj⟩))
    | false =>
      cases hb : fv.any (Nat.beq j) with
      | true =>
        rw [hb] at h
        have h : (bif Nat.beq j i then some u else PEnv.get (keep fv r) i) = some v := h
        rw [hj] at h; exact ih h
      | false => rw [hb] at h; exact ih h
structure CompOk (cx : Cx) (names : Names) (scope : Scope) (fv : List Nat) : Prop where
  kind : scope.kind = .function
  nodup : nodupS (scope.names.map (·.1)) = true
  fv : ∀ i ∈ fv, i < cx.nm.length ∧ scope.names.lookup (cx.name i) = some .free
  up : ∀ n, (n, NameKind.free) ∈ scope.names → names.lookup n = some .cell ∨ names.lookup n = some .free
theorem CompOk.of {names : Names} {scope : Scope} {fv : List Nat} (h : compOk cx names scope fv = true) : CompOk cx names scope fv :=
  an h fun h h4 => an h fun h h3 => an h fun h1 h2 => ⟨beq_iff_eq.mp h1, h2, fun i hi => an (List.all_eq_true.mp h3 i hi) fun a b => ⟨dt a, beq_iff_eq.mp b⟩, fun n hn => (Bool.or_eq_true_iff.mp (List.all_eq_true.mp h4 (n, .free) hn)).elim (fun h => (Bool.or_eq_true_iff.mp h).elim (fun h => ff h) fun h => .inl (beq_iff_eq.mp h)) fun h => .inr (beq_iff_eq.mp h)⟩
variable {names : Names} {env : Env} {penv : PEnv} {z : Z} {s : Shared} {A : Around} {E : Value → Shared → Prop} {M : Model}
theorem free_push {z : Z} (k : OkZ cx z) {a : Addr} (h : z.h.get? a = none) {h' : Heap} : Free { z with h := h' } a := ⟨(k.free_of_none h).b, (k.free_of_none h).l⟩
theorem comp_env (f : Fr cx names z env penv) (k : OkZ cx z) (hz : s.heap = z.h) {scope : Scope} {fv : List Nat} (c : CompOk cx names scope fv) {Q : Env → Shared → Prop}
    (hQ : ∀ cenv h1, OkZ cx { z with h := h1 } → Ext z { z with h := h1 } → Fr cx scope.names { z with h := h1 } { cenv with scope := relabel scope env } (keep fv penv) →
      (∀ a o, own scope.names { cenv with scope := relabel scope env } a → z.h.get? a ≠ some o) →
      (∀ n c, cenv.cells.lookup n = some c → own scope.names { cenv with scope := relabel scope env } c ∨ env.cells.lookup n = some c) → Q cenv { s with heap := h1 }) :
    wpAny M A (newFunctionEnv scope env.globals (closed env scope.names []) [] env.qual none .none (some env)) Q E s := by
  have hfree : ∀ x, scope.names.lookup x = some .free → env.kindOf x = some .cell ∨ env.kindOf x = some .free := fun x hx =>
    (c.up x (mem_of_lookup hx)).elim (fun h => .inl ((f.raw x _ h).1 nofun)) fun h => (f.raw x _ h).2 rfl
  have hcl : ∀ n, (n, NameKind.free) ∈ scope.names → ∃ c, env.cells.lookup n = some c := fun n hn => f.all n (hfree n (lookup_of_mem_nodup c.nodup hn))
  unfold newFunctionEnv
  simp only [Option.isSome_some, if_true]
  refine wpAny_bind (wpAny_alloc ?_)
  refine wpAny_bind (wpAny_layCells _ (fun name kind cells => by cases kind == NameKind.cell <;> simp) _ _ _ _ ?_)
  rw [List.forIn_nil]
  refine wpAny_bind (wpAny_pure (wpAny_pure ?_))
  have hn := none_at_size hz
  have S := cells_spec scope.names (s.heap.push { cls := .type "dict", data := .dict #[] }) (closed env scope.names []) c.nodup
  have S1 := S.new
  have S2 := S.old
  have S3 := S.inj
  clear S
  have hk0 := pushCells_keeps scope.names (s.heap.push { cls := .type "dict", data := .dict #[] })
  have loc0 := (Heap.Ns.new s.heap (.type "dict")).keeps hk0
  generalize pushCells (s.heap.push { cls := .type "dict", data := .dict #[] }) scope.names = h1 at *
  generalize cellsFrom (s.heap.push { cls := .type "dict", data := .dict #[] }).objs.size scope.names (closed env scope.names []) = cells at *
  rw [Heap.size_push] at S1
  have S2 : ∀ x, scope.names.lookup x ≠ some .cell → cells.lookup x = if scope.names.lookup x = some .free then env.cells.lookup x else none := fun x e => by rw [S2 x e, closed_lookup c.nodup hcl]; rfl
  have hk : ∀ b o, z.h.get? b = some o → h1.get? b = some o := fun b o e => hk0 _ _ (Heap.get?_push_of_some _ (by rw [hz]; exact e))
  have hlt : ∀ (b : Nat) o, z.h.get? b = some o → b < s.heap.objs.size := fun b o e => by rw [hz]; exact Heap.lt_size e
  have hge : ∀ (b : Nat), s.heap.objs.size ≤ b → z.h.get? b = none := fun b hb => by
    cases e : z.h.get? b with
    | none => rfl
    | some o => exact absurd (hlt b o e) (Nat.not_lt.mpr hb)
  have cell : ∀ {x a}, scope.names.lookup x = some .cell → cells.lookup x = some a → s.heap.objs.size + 1 ≤ a ∧ h1.IsCell a none := fun hx e => by
    obtain ⟨c', g1, g2⟩ := S1 _ hx
    exact Option.some.inj (g1.symm.trans e) ▸ g2
  have outer : ∀ {x a}, scope.names.lookup x ≠ some .cell → cells.lookup x = some a → env.cells.lookup x = some a := fun {x a} hx e => by
    rw [S2 _ hx] at e
    by_cases hf : scope.names.lookup x = some .free
    · rwa [if_pos hf] at e
    · rw [if_neg hf] at e; exact nn e
  have old : ∀ {x a}, env.cells.lookup x = some a → a < s.heap.objs.size := fun e => (f.cel _ _ e).2.2.elim fun _ h => h.elim fun _ h => hlt _ _ h.1
  have hrl := relabel_lookup (scope := scope) f.kind
  have hkf : ∀ x, scope.names.lookup x = some .free → (relabel scope env).names.lookup x = some .cell ∨ (relabel scope env).names.lookup x = some .free := fun x hx => by
    rw [hrl, hx]
    by_cases h : env.kindOf x = some .cell
    · exact .inl (congrArg some (if_pos ⟨rfl, h⟩))
    · exact .inr (congrArg some (if_neg fun g => h g.2))
  refine hQ ({ scope, locals := s.heap.objs.size, globals := env.globals, cells, qual := env.qual, func := none, code := env.code, frame := env.frame, builtins := env.builtins }) h1 (k.keep fun b o e _ => hk b o e) (.keep hk) ?_ ?_ ?_
  · refine ⟨c.kind, f.glob, f.bui, free_push k hn, fun i v h => (c.fv i (keep_get h).1).1, fun n kk h => ⟨fun hkk => ?_, fun hkk => hkf n (hkk ▸ h)⟩, fun i v h => .inr (hkf _ (c.fv i (keep_get h).1).2), ?_, fun n a h => ?_, fun n n' a h h' => ?_, fun n h => ?_, fun i v h _ => ?_⟩
    · show (relabel scope env).names.lookup n = some kk
      rw [hrl, h]; exact congrArg some (if_neg fun g => hkk g.1)
    · refine ⟨fun _ => none, ?_, fun i v h hl => ?_⟩
      · exact loc0
      · have h1 : (relabel scope env).names.lookup (cx.name i) = some .local := hl
        exact (hkf _ (c.fv i (keep_get h).1).2).elim (fun h2 => nomatch h1.symm.trans h2) fun h2 => nomatch h1.symm.trans h2
    · by_cases hx : scope.names.lookup n = some .cell
      · have g := cell hx h
        exact ⟨free_push k (hge _ (Nat.le_of_succ_le g.1)), Nat.ne_of_gt g.1, none, g.2⟩
      · obtain ⟨g1, g2, ov, o, ho, hd⟩ := f.cel n a (outer hx h)
        exact ⟨⟨g1.b, g1.l⟩, Nat.ne_of_lt (hlt _ _ ho), ov, o, hk _ _ ho, hd⟩
    · by_cases hx : scope.names.lookup n = some .cell
      · by_cases hy : scope.names.lookup n' = some .cell
        · exact S3 n n' a hx hy h h'
        · exact absurd (old (outer hy h')) (Nat.not_lt.mpr (Nat.le_of_succ_le (cell hx h).1))
      · by_cases hy : scope.names.lookup n' = some .cell
        · exact absurd (old (outer hx h)) (Nat.not_lt.mpr (Nat.le_of_succ_le (cell hy h').1))
        · exact f.apart n n' a (outer hx h) (outer hy h')
    · have h' : (relabel scope env).names.lookup n = some .cell ∨ (relabel scope env).names.lookup n = some .free := h
      rw [hrl] at h'
      by_cases hc : scope.names.lookup n = some .cell
      · exact (S1 n hc).imp fun c h => h.1
      · by_cases hf : scope.names.lookup n = some .free
        · obtain ⟨c', h1⟩ := hcl n (mem_of_lookup hf)
          exact ⟨c', ((S2 n hc).trans (if_pos hf)).trans h1⟩
        · cases hl : scope.names.lookup n with
          | none => rw [hl] at h'; exact h'.elim (fun h => nn h) fun h => nn h
          | some kk =>
            rw [hl] at h' hc hf
            have e : (if kk = NameKind.free ∧ env.kindOf n = some NameKind.cell then NameKind.cell else kk) = kk := if_neg fun g => hf (congrArg some g.1)
            have h' : some (if kk = NameKind.free ∧ env.kindOf n = some NameKind.cell then NameKind.cell else kk) = some NameKind.cell ∨ some (if kk = NameKind.free ∧ env.kindOf n = some NameKind.cell then NameKind.cell else kk) = some NameKind.free := h'
            rw [e] at h'
            exact h'.elim (fun h => absurd h hc) fun h => absurd h hf
    · obtain ⟨hi, hp⟩ := keep_get h
      have hx := (c.fv i hi).2
      obtain ⟨c', x, h1, ⟨o, ho, hd⟩, hv⟩ := f.cellV i v hp (hfree _ hx)
      exact ⟨c', x, ((S2 _ (by rw [hx]; exact nofun)).trans (if_pos hx)).trans h1, ⟨o, hk _ _ ho, hd⟩, hv⟩
  · intro a o ha e
    rcases ha with rfl | ⟨n, g1, g2⟩
    · exact nn (hn.symm.trans e)
    · exact nn ((hge _ (Nat.le_of_succ_le (cell g1 g2).1)).symm.trans e)
  · intro n a h
    by_cases hx : scope.names.lookup n = some .cell
    · exact .inl (.inr ⟨n, hx, h⟩)
    · exact .inr (outer hx h)
end
end Mine
end
section
namespace Mine
open PySem
theorem Wr.of {cx : Cx} {names : Names} {t : Nat} (h : wrOk cx names t = true) : t < cx.nm.length ∧ (names.lookup (cx.name t) = some .local ∨ names.lookup (cx.name t) = some .cell) :=
  an h fun h1 h2 => ⟨dt h1, (Bool.or_eq_true_iff.mp h2).imp beq_iff_eq.mp beq_iff_eq.mp⟩
noncomputable def isComp (e : Expr) : Bool := Nat.beq e.ctorIdx 8 || Nat.beq e.ctorIdx 10
theorem comp_el {C : Expr → Prop} {e : Expr} (h : isComp e = true) (kl : ∀ a g s p, C (.ListComp a g s p)) (kd : ∀ a b g s p, C (.DictComp a b g s p)) : C e := by
  cases e <;> first | exact kl _ _ _ _ | exact kd _ _ _ _ _ | exact ff h
section
variable (M : Model) (A : Around) (E : Value → Shared → Prop)
noncomputable def emitW (e : Expr) (acc : Value) (env : Env) (K : Shared → Prop) (s : Shared) : Prop := match e with
  | .ListComp elt _ _ _ => wpAny M A (eval elt env) (fun x => wpAny M A (call (.builtin "list.append") [acc, x]) (fun _ => K) E) E s
  | .DictComp a b _ _ _ => ∃ d, acc = .ref d ∧ wpAny M A (eval a env) (fun x => wpAny M A (eval b env) (fun y => wpAny M A (dictSet d x y) (fun _ => K) E) E) E s
  | _ => False
noncomputable def bodyW (e : Expr) (d : Nat) (acc : Value) (env : Env) (K : Shared → Prop) (s : Shared) : Prop := match (clausesOf e)[d]? with
  | none => emitW M A E e acc env K s
  | some g => wpAny M A (eval g.iter env) (fun x => wpAny M A (foldedSetIterable g.iter env x) (fun y => wpAny M A (pyIter y) (fun j => wpAny M A (runOwn (.compStart e d j acc env) env) (fun _ => K) E) E) E) E s
noncomputable def turnW (e : Expr) (d : Nat) (t : Expr) (ts : List Expr) (it acc : Value) (env : Env) (N K : Shared → Prop) (r : Option Value) (s : Shared) : Prop := match r with
  | none => N s
  | some v => wpAny M A (letOwnedTupleGo t it v) (fun _ => wpAny M A (assign t env v) (fun _ => wpAny M A (compTests ts env) (fun ok s => bif ok then bodyW M A E e (d + 1) acc env K s else K s) E) E) E s
end
section
variable {M : Model} {A : Around} {E : Value → Shared → Prop} {s : Shared} {R : Result → Shared → Prop}
theorem turn_wp {e : Expr} (he : isComp e = true) {d : Nat} {t i : Expr} {ts : List Expr} (hg : (clausesOf e)[d]? = some ⟨t, i, ts, 0⟩) (hg' : ∀ g, (clausesOf e)[d + 1]? = some g → g.is_async = 0) {it acc : Value} {env : Env} {Q : Fin → Shared → Prop} {N K : Shared → Prop}
    (hN : ∀ s, N s → Q (.done .next) s) (hK : ∀ s, K s → Q (.again (.compLoop e d it acc env)) s) (h : wpAny M A (pyNext it) (turnW M A E e d t ts it acc env N K) E s) : wpAny M A (compTurn e d it acc env) Q E s := by
  revert hg hg' hK h
  refine comp_el (C := fun e => (clausesOf e)[d]? = some ⟨t, i, ts, 0⟩ → (∀ g, (clausesOf e)[d + 1]? = some g → g.is_async = 0) → (∀ s, K s → Q (.again (.compLoop e d it acc env)) s) → wpAny M A (pyNext it) (turnW M A E e d t ts it acc env N K) E s → wpAny M A (compTurn e d it acc env) Q E s) he
    (fun a gens sc p => ?_) (fun a b gens sc p => ?_)
  all_goals
    intro hg hg' hK h
    replace hg : gens[d]? = _ := hg
    replace hg' : ∀ g, gens[d + 1]? = some g → g.is_async = 0 := hg'
    delta compTurn
    dsimp only
    rw [hg]
    refine wpAny_bind (wpAny_standAt (thenW (x := pyNext it) h fun r s₁ h => ?_))
    cases r with
    | none => exact wpAny_pure (hN _ h)
    | some v =>
      refine thenW h fun _ _ h => thenW h fun _ _ h => ?_
      unfold compTests at h
      rw [bind_pure] at h
      refine thenW h fun ok _ h => ?_
      cases ok with
      | false => exact wpAny_pure (hK _ h)
      | true =>
        replace h : (match gens[d + 1]? with | none => _ | some g => _) := h
        rw [if_pos rfl]
        cases hb : gens[d + 1]? with
        | none =>
          rw [hb] at h
          first
            | exact wpAny_bind (thenW h fun x _ h => thenW h fun _ _ h => wpAny_pure (wpAny_pure (hK _ h)))
            | obtain ⟨D, rfl, q⟩ := h
              exact wpAny_bind (thenW q fun x _ h => thenW (wpAny_holding h) fun y _ h => wpAny_bind (wpAny_standAt (wpAny_holding (wpAny_mono h (fun _ _ h => wpAny_pure (hK _ h)) fun _ _ e => e))))
        | some g =>
          rw [hb] at h
          obtain ⟨t2, i2, ts2, a2⟩ := g
          obtain rfl : a2 = 0 := hg' _ hb
          exact thenW h fun x _ h => wpAny_bind (wpAny_standAt (thenW h fun y _ h => thenW (wpAny_holding h) fun j _ h => thenW h fun _ _ h => wpAny_pure (hK _ h)))
end
section
variable {cx : Cx} {names : Names} {z z' : Z} {env : Env} {penv : PEnv} {M : Model} {A : Around} {E : Value → Shared → Prop} {s : Shared} {R : Result → Shared → Prop}
noncomputable def Apart (env : Env) (a : Addr) : Prop := a ≠ env.locals ∧ ∀ n c, env.cells.lookup n = some c → c ≠ a
theorem Apart.own {a : Addr} (h : Apart env a) : ¬ own names env a := fun h' => h'.elim h.1 fun h' => h'.elim fun n e => h.2 n a e.2 rfl
theorem Fr.extB {ow : Addr → Prop} (f : Fr cx names z env penv) (e : ExtB ow z z') (hL : ¬ ow env.locals) (hC : ∀ n c, env.cells.lookup n = some c → ¬ ow c) : Fr cx names z' env penv := by
  have hL' : ∀ o, z.h.get? env.locals = some o → z'.h.get? env.locals = some o := fun o h => (e.prv _ o h f.freeL).2.2 hL
  have hC' : ∀ n c ov, env.cells.lookup n = some c → z.h.IsCell c ov → z'.h.IsCell c ov := fun n c ov h ⟨o, ho, hd⟩ => ⟨o, (e.prv _ o ho (f.cel n c h).1).2.2 (hC n c h), hd⟩
  refine ⟨f.kind, f.glob, f.bui, ?_, f.ids, f.raw, f.kinds, ?_, fun n c h => ?_, f.apart, f.all, fun i v hi hk => ?_⟩
  · obtain ⟨m, ⟨o, _, _, ho, _⟩, _⟩ := f.hasL
    exact (e.prv _ o ho f.freeL).1
  · obtain ⟨m, ⟨o, es, ep, ho, r⟩, hm⟩ := f.hasL
    exact ⟨m, ⟨o, es, ep, hL' o ho, r⟩, fun i v hi hk => let ⟨x, hx, hv⟩ := hm i v hi hk; ⟨x, hx, hv.extB e⟩⟩
  · obtain ⟨h1, h2, ov, o, ho, hd⟩ := f.cel n c h
    exact ⟨(e.prv _ o ho h1).1, h2, ov, hC' n c ov h ⟨o, ho, hd⟩⟩
  · obtain ⟨c, x, hc, hx, hv⟩ := f.cellV i v hi hk
    exact ⟨c, x, hc, hC' _ c _ hc hx, hv.extB e⟩
theorem Fr.extA {a : Addr} (f : Fr cx names z env penv) (e : ExtB (· = a) z z') (h : Apart env a) : Fr cx names z' env penv := f.extB e (fun x => h.1 x.symm) fun n c hc x => h.2 n c hc x
theorem Fr.apartNew (f : Fr cx names z env penv) {a : Addr} (h : z.h.get? a = none) : Apart env a :=
  ⟨fun e => f.hasL.elim fun m h' => h'.1.elim fun o h' => h'.elim fun _ h' => h'.elim fun _ h' => nn (h.symm.trans (e ▸ h'.1)), fun n c hc e => (f.cel n c hc).2.2.elim fun ov h' => h'.elim fun o h' => nn (h.symm.trans (e ▸ h'.1))⟩
theorem extB_at {a : Addr} {h' : Heap} (hk : ∀ b o, b ∉ [a] → z.h.get? b = some o → h'.get? b = some o) (hx : ∃ o, h'.get? a = some o) : ExtB (· = a) z { z with h := h' } :=
  ⟨fun _ _ e => e, fun _ _ e => e, fun b o e f => ⟨⟨f.b, f.l⟩, by
    by_cases hb : b = a
    · subst hb; exact hx
    · exact ⟨o, hk b o (by simpa using hb) e⟩, fun hn => hk b o (by simpa using hn) e⟩⟩
theorem names_sound (no : NmOk cx) {is : List Nat} {es : List Expr} (m : MtN cx names is es) : ∀ {vs : List PV} {xs : List Value} {penv penv' : PEnv} {z : Z} {s : Shared} {Q : Unit → Shared → Prop}, OkZ cx z → Fr cx names z env penv → s.heap = z.h → VRs cx z vs xs →
    bindAll is vs penv = some penv' → (∀ h' tk, OkZ cx { z with h := h' } → Fr cx names { z with h := h' } env penv' → ExtB (own names env) z { z with h := h' } → Q () { s with heap := h', toks := tk }) →
    wpAny M A (assignInOrder ((assignEach es env).map (·.2)) xs) Q E s := by
  induction m with
  | nil =>
    intro vs xs penv penv' z s Q k f hz hv h hQ
    cases vs with
    | cons => exact nn h
    | nil =>
      cases h
      refine hv.nil_el (C := fun xs => wpAny M A (assignInOrder ((assignEach [] env).map (·.2)) xs) Q E s) ?_
      have := hQ z.h s.toks k f (.refl _ _)
      rw [← hz] at this
      exact PyProof.Rows.assignInOrder_nil this
  | @cons i p is es hw hm ih =>
    intro vs xs penv penv' z s Q k f hz hv h hQ
    cases vs with
    | nil => exact nn h
    | cons v vs =>
      refine hv.cons_el (C := fun xs => wpAny M A (assignInOrder ((assignEach (.Name (cx.name i) p :: es) env).map (·.2)) xs) Q E s) fun x xs hv hvs => ?_
      have hw := Wr.of hw
      refine PyProof.Rows.assignInOrder_cons (wpAny_assign_Name (f.store no k hz hw.1 hw.2 hv fun h1 tk k1 f1 e1 => ?_))
      exact ih k1 f1 (s := { s with heap := h1, toks := tk }) rfl (hvs.mono e1.sig e1.frz) h fun h2 tk2 k2 f2 e2 => hQ h2 tk2 k2 f2 (e1.trans e2)
theorem MtN.each (env : Env) {is : List Nat} {es : List Expr} (m : MtN cx names is es) : (assignEach es env).length = is.length ∧ (assignEach es env).findIdx? (·.1) = none := by
  induction m with
  | nil => exact ⟨rfl, rfl⟩
  | cons i p hw hm ih => exact ⟨congrArg (· + 1) ih.1, (List.findIdx?_cons ..).trans ((if_neg Bool.false_ne_true).trans (congrArg (Option.map (· + 1)) ih.2))⟩
theorem bindAll_len {is : List Nat} : ∀ {vs : List PV} {penv penv' : PEnv}, bindAll is vs penv = some penv' → is.length = vs.length := by
  induction is with
  | nil => exact fun {vs penv penv'} h => by cases vs with | nil => rfl | cons => exact nn h
  | cons i is ih => exact fun {vs penv penv'} h => by cases vs with | nil => exact nn h | cons v vs => exact congrArg (· + 1) (ih h)
theorem bind_sound (no : NmOk cx) {t : Tgt} {t' : Expr} {v : PV} {x : Value} {penv' : PEnv} (hh : A.handled = none) (m : MtT cx names t t') (k : OkZ cx z) (f : Fr cx names z env penv) (hz : s.heap = z.h) (hv : VR cx z v x) (h : bindTgt t v penv = some penv')
    {Q : Unit → Shared → Prop} (hQ : ∀ h' tk, OkZ cx { z with h := h' } → Fr cx names { z with h := h' } env penv' → ExtB (own names env) z { z with h := h' } → Q () { s with heap := h', toks := tk }) :
    wpAny (model cx.prog cx.w) A (assign t' env x) Q E s := by
  cases m with
  | one i p hw =>
    cases h
    exact wpAny_assign_Name (f.store no k hz (Wr.of hw).1 (Wr.of hw).2 hv hQ)
  | tup kk p hm =>
    cases v with
    | tuple vs =>
      obtain ⟨a, n, items, rfl, ha, hs⟩ := hv.rv k
      obtain ⟨hl1, hl2⟩ := MtN.each env hm
      refine wpAny_assign_Tuple hh (tup_at hz ha) (hl1.trans ((bindAll_len h).trans (vrs_size hs))) hl2 fun h1 hk => ?_
      have hn := none_at_size hz
      have hk' : ∀ b o, z.h.get? b = some o → h1.get? b = some o := fun b o e => hk b o (fun hb => nn (hn.symm.trans (hb ▸ e))) (by rw [hz]; exact e)
      have k1 : OkZ cx { z with h := h1 } := k.keep fun b o e _ => hk' b o e
      exact names_sound no hm k1 (f.ext (.keep hk')) (s := { s with heap := h1 }) rfl hs h fun h2 tk k2 f2 e2 => hQ h2 tk k2 f2 (((Ext.keep hk').toB _).trans e2)
    | _ => exact nn h
theorem tests_false {M : Model} {f : Expr → Bool → Sem (ForInStep Bool)} (hf : ∀ c, f c false = pure (.yield false)) {ts : List Expr} {Q : Bool → Shared → Prop} (h : Q false s) : wpAny M A (forIn ts false f) Q E s := by
  induction ts with
  | nil => exact wpAny_pure h
  | cons c r ih => rw [List.forIn_cons, hf]; exact wpAny_bind (wpAny_pure ih)
theorem tests_sound {rec : EvE} {n : Nat} (hT : SndT cx rec n) (hA : ArOk A n) {ts : List PE} {ts' : List Expr} (m : MtEs cx names ts ts') : ∀ {z : Z} {s : Shared} {b : Bool} {st' : Store}, Fr cx names z env penv → OkZ cx z → s.heap = z.h →
    evTests rec ts penv z.st = some (b, st') → RunsT cx A (compTests ts' env) z b st' s := by
  induction m with
  | nil =>
    intro z s b st' f k hz h
    cases h
    intro E Q hQ
    have := hQ z s.toks k (.refl z) rfl
    rw [← hz] at this
    exact wpAny_bind (wpAny_pure (wpAny_pure this))
  | cons hc hr ih =>
    intro z s b st' f k hz h E Q hQ
    unfold compTests
    rw [bind_pure, List.forIn_cons]
    refine mT h fun c st1 h1 h => wpAny_bind (wpAny_bind (hT hc f k hz hA h1 E _ fun z1 tk k1 e1 s1 => wpAny_pure ?_))
    cases c with
    | true =>
      have q := ih (f.ext e1) k1 (s := { s with heap := z1.h, toks := tk }) rfl (by rw [s1]; exact h) E Q fun z2 tk2 k2 e2 s2 => hQ z2 tk2 k2 (e1.trans e2) s2
      unfold compTests at q
      rwa [bind_pure] at q
    | false => cases h; exact tests_false (fun _ => rfl) (hQ z1 tk k1 e1 s1)
end
end Mine
end
section
namespace Mine
open PySem
section
variable {M : Model} {A : Around} {E : Value → Shared → Prop} {s : Shared} {R : Result → Shared → Prop}
variable {prog : Program} {w : World}
theorem loop_facts {e : Expr} (he : isComp e = true) {d : Nat} {it acc : Value} {env : Env} : (Code.compLoop e d it acc env).quiet = true ∧ A.under (.compLoop e d it acc env) = A ∧ A.under (.compStart e d it acc env) = A :=
  comp_el (C := fun e => (Code.compLoop e d it acc env).quiet = true ∧ A.under (.compLoop e d it acc env) = A ∧ A.under (.compStart e d it acc env) = A) he (fun _ _ _ _ => ⟨rfl, rfl, rfl⟩) (fun _ _ _ _ _ => ⟨rfl, rfl, rfl⟩)
theorem comp_loop {e : Expr} (he : isComp e = true) {d : Nat} {t i : Expr} {ts : List Expr} (hg : (clausesOf e)[d]? = some ⟨t, i, ts, 0⟩) (hg' : ∀ g, (clausesOf e)[d + 1]? = some g → g.is_async = 0) {it acc : Value} {env : Env} (I : Nat → Shared → Prop)
    (turn : ∀ n s (E : Value → Shared → Prop), I n s → wpAny (model prog w) A (pyNext it) (turnW (model prog w) A E e d t ts it acc env (R (.ok .next)) (fun t => ∃ m, m < n ∧ I m t)) E s)
    (n : Nat) (h : I n s) : codeAny (model prog w) A (.compLoop e d it acc env) R s := by
  have hu := (loop_facts (A := A) (d := d) (it := it) (acc := acc) (env := env) he).2.1
  have hden : (model prog w).den (.compLoop e d it acc env) = (compTurn e d it acc env).onRaise (fun x => do noteFrame x env; theTreesLotGoes x) := comp_el (C := fun e => (model prog w).den (.compLoop e d it acc env) = (compTurn e d it acc env).onRaise (fun x => do noteFrame x env; theTreesLotGoes x)) he (fun _ _ _ _ => rfl) (fun _ _ _ _ _ => rfl)
  refine codeAny_loop (loop_facts (A := A) he).1 I (fun n s hI => ?_) n h
  rw [hu, hden]
  refine wpAny_noted ?_
  exact turn_wp he hg hg' (fun _ h => h) (fun _ h => ⟨rfl, h⟩) (turn n s _ hI)
theorem comp_start {e : Expr} (he : isComp e = true) {d : Nat} {t i : Expr} {ts : List Expr} (hg : (clausesOf e)[d]? = some ⟨t, i, ts, 0⟩) {it acc : Value} {env : Env}
    (h : codeAny (model prog w) A (.compLoop e d it acc env) R s) (hself : ∀ (Q E : Value → Shared → Prop), Q it s → wpAny (model prog w) A (pyIter it) Q E s) : codeAny (model prog w) A (.compStart e d it acc env) R s := by
  have hq := (loop_facts (A := A) (d := d) (it := it) (acc := acc) (env := env) he).1
  have hu := (loop_facts (A := A) (d := d) (it := it) (acc := acc) (env := env) he).2.2
  have hden : (model prog w).den (.compStart e d it acc env) = (compStart e d it acc env).onRaise (fun x => do noteFrame x env; standAt theWindowsPlace) := comp_el (C := fun e => (model prog w).den (.compStart e d it acc env) = (compStart e d it acc env).onRaise (fun x => do noteFrame x env; standAt theWindowsPlace)) he (fun _ _ _ _ => rfl) (fun _ _ _ _ _ => rfl)
  refine codeAny_of_tree ?_
  rw [hu, hden]
  refine wpAny_notedAt ?_
  unfold compStart
  rw [hg]
  show wpAny _ _ (ask >>= _) _ _ s
  refine wpAny_bind (wpAny_askSetting (wpAny_ite ?_))
  split
  · first
      | exact wpAny_bind (wpAny_pure (wpAny_pure (And.intro hq h)))
      | exact wpAny_pure (And.intro hq h)
  · refine wpAny_bind (wpAny_rule ?_)
    first
      | exact wpAny_bind (wpAny_standAt (wpAny_bind (hself _ _ (wpAny_pure (And.intro hq h)))))
      | (show wpAny _ _ (standAt i.pos >>= _) _ _ s; exact wpAny_bind (wpAny_standAt (wpAny_bind (hself _ _ (wpAny_pure (And.intro hq h))))))
end
end Mine
end
section
namespace Mine
open PySem
structure AccOk (cx : Cx) {α : Type} (AR : Z → α → Prop) (D : Addr) : Prop where
  free : ∀ z a, AR z a → Free z D ∧ ∃ o, z.h.get? D = some o
  ext : ∀ (ow : Addr → Prop) z z' a, AR z a → OkZ cx z → OkZ cx z' → ExtB ow z z' → ¬ ow D → AR z' a
  stay : ∀ z h' a, AR z a → (∀ o, z.h.get? D = some o → h'.get? D = some o) → AR { z with h := h' } a
noncomputable def Emits (cx : Cx) (A : Around) (n : Names) (cenv : Env) (D : Addr) {α : Type} (AR : Z → α → Prop) (emit : PEnv → Store → α → Option (α × PEnv × Store)) (t : (Value → Shared → Prop) → (Shared → Prop) → Shared → Prop) : Prop :=
  ∀ (z : Z) (s : Shared) (penv penv' : PEnv) (acc acc' : α) (st' : Store), OkZ cx z → Fr cx n z cenv penv → s.heap = z.h → AR z acc → Apart cenv D → emit penv z.st acc = some (acc', penv', st') →
    ∀ (E : Value → Shared → Prop) (Q : Shared → Prop), (∀ z' tk, OkZ cx z' → ExtB (fun x => own n cenv x ∨ x = D) z z' → Fr cx n z' cenv penv' → AR z' acc' → z'.st = st' → Q { s with heap := z'.h, toks := tk }) → t E Q s
section
variable {cx : Cx} {n : Names} {cenv : Env} {A : Around} {D : Addr} {α : Type} {AR : Z → α → Prop} {rec : EvE} {lvl : Nat} {R : Result → Shared → Prop}
theorem Fr.stay {names : Names} {env : Env} {penv : PEnv} {z : Z} {I : Addr} {h' : Heap} (f : Fr cx names z env penv) (hk : ∀ b o, b ∉ [I] → z.h.get? b = some o → h'.get? b = some o) (ap : Apart env I) : Fr cx names { z with h := h' } env penv := by
  have hL : ∀ o, z.h.get? env.locals = some o → h'.get? env.locals = some o := fun o h => hk _ o (fun hm => ap.1.symm (List.mem_singleton.mp hm)) h
  have hC : ∀ n c ov, env.cells.lookup n = some c → z.h.IsCell c ov → h'.IsCell c ov := fun n c ov h ⟨o, ho, hd⟩ => ⟨o, hk _ o (fun hm => ap.2 n c h (List.mem_singleton.mp hm)) ho, hd⟩
  refine ⟨f.kind, f.glob, f.bui, ⟨f.freeL.b, f.freeL.l⟩, f.ids, f.raw, f.kinds, ?_, fun n c h => ?_, f.apart, f.all, fun i v hi hk => ?_⟩
  · obtain ⟨m, ⟨o, es, ep, ho, r⟩, hm⟩ := f.hasL
    exact ⟨m, ⟨o, es, ep, hL o ho, r⟩, hm⟩
  · obtain ⟨h1, h2, ov, hc⟩ := f.cel n c h
    exact ⟨⟨h1.b, h1.l⟩, h2, ov, hC n c ov h hc⟩
  · obtain ⟨c, x, hc, hx, hv⟩ := f.cellV i v hi hk
    exact ⟨c, x, hc, hC _ c _ hc hx, hv⟩
theorem mTG {α : Type} {C : Prop} {r : α × PEnv × Store} {x : Option (Bool × Store)} {f : Store → Option (α × PEnv × Store)} {g : Store → Option (α × PEnv × Store)} (h : (match x with
    | some (true, st) => f st
    | some (false, st) => g st
    | none => none) = some r) (k : ∀ b st, x = some (b, st) → (bif b then f st else g st) = some r → C) : C := mT h k
theorem mG {α γ : Type} {C : Prop} {r : γ} {x : Option (α × PEnv × Store)} {f : α → PEnv → Store → Option γ} (h : (match x with
    | some (a, p, st) => f a p st
    | none => none) = some r) (k : ∀ a p st, x = some (a, p, st) → f a p st = some r → C) : C := by
  cases x with
  | none => exact nn h
  | some p => exact k p.1 p.2.1 p.2.2 rfl h
theorem drop_cases {β : Type} (l : List β) {j : Nat} (hj : j ≤ l.length) {C : Prop} (k0 : j = l.length → l.drop j = [] → C) (k1 : ∀ x, l[j]? = some x → l.drop j = x :: l.drop (j + 1) → j < l.length → C) : C :=
  (Nat.lt_or_eq_of_le hj).elim (fun h => k1 _ (List.getElem?_eq_getElem h) (List.drop_eq_getElem_cons h) h) fun h => k0 h (List.drop_eq_nil_iff.mpr (Nat.le_of_eq h.symm))
theorem less_left {m j : Nat} (h : j < m) : m + 1 - (j + 1) < m + 1 - j := Nat.sub_lt_sub_left (Nat.lt_succ_of_lt h) (Nat.lt_succ_self j)
inductive LoopAt (cx : Cx) (n : Names) (cenv : Env) (D : Addr) {α : Type} (AR : Z → α → Prop) (items : List PV) (I : Addr) (fp : List Addr) (P : Nat → Value → Prop) (St : Nat → Heap → Prop) (z0 : Z) (s : Shared) (G : List PV → PEnv → Store → α → Prop) : Nat → Shared → Prop
  | mk (z' : Z) (penv' : PEnv) (a' : α) (tk : Nat) (j : Nat) : j ≤ items.length → ItZ cx I items fp P St z' j → OkZ cx z' → Fr cx n z' cenv penv' → AR z' a' → ExtB (fun x => own n cenv x ∨ x = D) z0 z' → G (items.drop j) penv' z'.st a' →
    LoopAt cx n cenv D AR items I fp P St z0 s G (items.length + 1 - j) { s with heap := z'.h, toks := tk }
theorem loop_sound (no : NmOk cx) (hT : SndT cx rec lvl) (hA : ArOk A lvl) (ao : AccOk cx AR D) {e : Expr} (he : isComp e = true) {d : Nat} {t' i' : Expr} {ts' : List Expr} (hg : (clausesOf e)[d]? = some ⟨t', i', ts', 0⟩)
    (hg' : ∀ g, (clausesOf e)[d + 1]? = some g → g.is_async = 0) {acc : Value} {t : Tgt} {ts : List PE} (mt : MtT cx n t t') (mts : MtEs cx n ts ts') {emit : PEnv → Store → α → Option (α × PEnv × Store)}
    (hem : Emits cx A n cenv D AR emit (fun E => bodyW (model cx.prog cx.w) A E e (d + 1) acc cenv)) {I : Addr} {items : List PV} {fp : List Addr} {P : Nat → Value → Prop} {St : Nat → Heap → Prop} (it : It cx I items fp P St)
    {z0 z : Z} {s : Shared} {penv penvF : PEnv} {a aF : α} {stF : Store} (hI0 : z0.h.get? I = none) (tz : ItZ cx I items fp P St z 0) (k : OkZ cx z) (f : Fr cx n z cenv penv) (hz : s.heap = z.h) (ha : AR z a) (hID : I ≠ D) (apI : Apart cenv I) (apD : Apart cenv D)
    (e0 : ExtB (fun x => own n cenv x ∨ x = D) z0 z) (h : evGen emit t (evTests rec ts) items penv z.st a = some (aF, penvF, stF))
    (hR : ∀ z' tk, OkZ cx z' → ExtB (fun x => own n cenv x ∨ x = D) z0 z' → Fr cx n z' cenv penvF → AR z' aF → z'.st = stF → R (.ok .next) { s with heap := z'.h, toks := tk }) :
    codeAny (model cx.prog cx.w) A (.compLoop e d (.ref I) acc cenv) R s := by
  have hs : s = { s with heap := z.h, toks := s.toks } := by rw [← hz]
  refine comp_loop he hg hg' (LoopAt cx n cenv D AR items I fp P St z0 s fun l p st a => evGen emit t (evTests rec ts) l p st a = some (aF, penvF, stF)) ?_ (items.length + 1)
    (hs ▸ .mk z penv a s.toks 0 (Nat.zero_le _) tz k f ha e0 h)
  intro m s' E hm
  cases hm with
  | mk z1 penv1 a1 tk1 j hj t1 k1 f1 ha1 e1 h1 =>
  have hnI : ¬ (own n cenv I ∨ I = D) := fun h => h.elim apI.own hID
  refine drop_cases items hj (fun hj' hd => ?_) fun x hx hd hlt => ?_
  · rw [hd] at h1
    cases h1
    refine t1.done it k1 (s := { s with heap := z1.h, toks := tk1 }) rfl hA.hh hj' fun h2 tk2 k2 hk2 => ?_
    exact hR { z1 with h := h2 } tk2 k2 (e1.change (wr := [I]) (fun b hb => List.mem_singleton.mp hb ▸ hI0) hk2) (f1.stay hk2 apI) (ao.stay _ _ _ ha1 fun o => hk2 D o fun hm => hID (List.mem_singleton.mp hm).symm) rfl
  · rw [hd] at h1
    refine mE h1 fun penv2 hb h1 => ?_
    refine t1.next it k1 (s := { s with heap := z1.h, toks := tk1 }) rfl hA.hh hx fun v h2 tk2 k2 t2 hv hk2 => ?_
    obtain ⟨oI, nI, hoI, hcI, hlI⟩ := it.cls _ _ t2.st
    have e2 : ExtB (· = I) z1 { z1 with h := h2 } := extB_at hk2 ⟨oI, hoI⟩
    have f2 := f1.extA e2 apI
    have ha2 := ao.ext _ _ _ _ ha1 k1 k2 e2 (fun h => hID h.symm)
    refine wpAny_noOwnedTuple (s := { s with heap := h2, toks := tk2 }) hoI hcI hlI ?_
    refine bind_sound no hA.hh mt k2 f2 (s := { s with heap := h2, toks := tk2 }) rfl (hv.extB e2) hb fun h3 tk3 k3 f3 e3 => ?_
    have e3' : ExtB (fun x => own n cenv x ∨ x = D) { z1 with h := h2 } { z1 with h := h3 } := e3.shrink fun x o hx _ => .inl hx
    have t3 := t2.extB it e3' hnI k2 k3
    have ha3 := ao.ext _ _ _ _ ha2 k2 k3 e3 apD.own
    have e13 : ExtB (fun x => own n cenv x ∨ x = D) z0 { z1 with h := h3 } := (e1.thenB e2 fun x o hx ho => nn (hI0.symm.trans (hx ▸ ho))).trans e3'
    refine mTG h1 fun c st4 ht h1 => ?_
    refine tests_sound hT hA mts f3 k3 (s := { s with heap := h3, toks := tk3 }) rfl ht E _ fun z4 tk4 k4 e4 s4 => ?_
    have e4' : ExtB (fun x => own n cenv x ∨ x = D) { z1 with h := h3 } z4 := e4.toB _
    have f4 := f3.ext e4
    have ha4 := ao.ext (fun _ => False) _ _ _ ha3 k3 k4 (e4.toB _) fun h => h
    have t4 := t3.extB it e4' hnI k3 k4
    have l4 := less_left hlt
    cases c with
    | true =>
      refine mG h1 fun a5 penv5 st5 hm h1 => ?_
      refine hem z4 _ penv2 penv5 a1 a5 st5 k4 f4 rfl ha4 apD (by rw [s4]; exact hm) E _ fun z5 tk5 k5 e5 f5 ha5 s5 => ?_
      exact ⟨_, l4, .mk z5 penv5 a5 tk5 (j + 1) hlt (t4.extB it e5 hnI k4 k5) k5 f5 ha5 ((e13.trans e4').trans e5) (by rw [s5]; exact h1)⟩
    | false => exact ⟨_, l4, .mk z4 penv2 a1 tk4 (j + 1) hlt t4 k4 f4 ha4 (e13.trans e4') (by rw [s4]; exact h1)⟩
theorem body_sound (no : NmOk cx) (hE : SndE cx rec lvl) (hT : SndT cx rec lvl) (hA : ArOk A lvl) (ao : AccOk cx AR D) {e : Expr} (he : isComp e = true) {emit : PEnv → Store → α → Option (α × PEnv × Store)} {acc : Value}
    (hbase : Emits cx A n cenv D AR emit (fun E => emitW (model cx.prog cx.w) A E e acc cenv)) (hasy : ∀ (d : Nat) g, (clausesOf e)[d]? = some g → g.is_async = 0) {o m : Names} {r : List (Tgt × PE × List PE)} {r' : List Comprehension} (mg : MtG cx o m r r') :
    ∀ {d : Nat}, o = n → m = n → (clausesOf e).drop d = r' → Emits cx A n cenv D AR (evGens rec emit r) (fun E => bodyW (model cx.prog cx.w) A E e d acc cenv) := by
  induction mg with
  | nil =>
    intro d _ _ hd
    unfold bodyW
    rw [List.getElem?_eq_none_iff.mpr (List.drop_eq_nil_iff.mp hd)]
    exact hbase
  | @cons o m t i ts t' i' ts' r r' mt mi mts mr ih =>
    intro d ho hm hd
    subst hm
    subst ho
    have hlt : d < (clausesOf e).length := Nat.lt_of_not_le fun h => by rw [List.drop_eq_nil_iff.mpr h] at hd; cases hd
    rw [List.drop_eq_getElem_cons hlt] at hd
    have hg : (clausesOf e)[d]? = some ⟨t', i', ts', 0⟩ := (List.getElem?_eq_getElem hlt).trans (congrArg some (List.cons.inj hd).1)
    have ih := ih rfl rfl (List.cons.inj hd).2
    intro z s penv penv' a a' st' k f hz ha apD h E Q hQ
    show bodyW _ _ _ _ _ _ _ _ _
    unfold bodyW
    rw [hg]
    refine mV h fun v st1 h1 h => mL h fun items st2 h2 h => ?_
    refine hE mi f k hz hA h1 E _ fun x z1 tk1 k1 e1 s1 v1 => wpAny_of_eq (mi.noSet cenv x) ?_
    refine iter_sound (z := z1) (by rw [s1]; exact h2) k1 (s := { s with heap := z1.h, toks := tk1 }) rfl v1 ?_
    intro I fp P St z2 tk2 it tz k2 e2 s2 hI
    refine wpAny_runOwn ?_
    have f2 := (f.ext e1).ext e2
    have hapI : Apart cenv I := (f.ext e1).apartNew hI
    have haD1 := ao.ext (fun _ => False) _ _ _ ha k k1 (e1.toB _) fun h => h
    obtain ⟨_, oD, hoD⟩ := ao.free _ _ haD1
    have hID : I ≠ D := fun e => nn (hI.symm.trans (e ▸ hoD))
    have ha2 := ao.ext (fun _ => False) _ _ _ haD1 k1 k2 (e2.toB _) fun h => h
    refine comp_start he hg (A := A) (loop_sound no hT hA ao he hg (fun g h => hasy _ g h) mt mts ih it hI tz k2 f2 (s := { s with heap := z2.h, toks := tk2 }) rfl ha2 hID hapI apD (e2.toB _) (by rw [s2]; exact h) fun z3 tk3 k3 e3 f3 ha3 s3 => ?_) fun Q' E' hq => ?_
    · exact hQ z3 tk3 k3 ((e1.toB _).trans e3) f3 ha3 s3
    · exact (it.W A hA.hh).self 0 _ _ _ tz.st hq
end
end Mine
end
section
namespace Mine
open PySem
noncomputable def New (z : Z) (a : Addr) : Prop := ∀ o, z.h.get? a = some o → ¬ Free z a
theorem New.of {z : Z} {a : Addr} (h : z.h.get? a = none) : New z a := fun o e => nn (h.symm.trans e)
theorem New.back {z z' : Z} {a : Addr} (e : Ext z z') (h : New z' a) : New z a := fun o ho f => by
  obtain ⟨h1, f1⟩ := e.prv a o ho f
  exact h o h1 f1
section
variable {cx : Cx} {z z0 z' : Z} {a : Addr} {o : Obj}
theorem ExtB.toExtN {ow : Addr → Prop} (e : ExtB ow z z') (h : ∀ x, ow x → New z x) : Ext z z' :=
  ⟨e.sig, e.frz, fun x o hx f => let ⟨f1, e1, h1⟩ := e.prv x o hx f; ⟨h1 fun hw => h x hw o hx f, f1⟩⟩
theorem adoptB_extN (e : Ext z0 z) (hn : New z0 a) (f : Free z a) : Ext z0 { z with B := addB z.B a o } :=
  ⟨e.sig, fun b x h => addB_of f.b (e.frz _ _ h), fun b x h g => have q := e.prv b x h g; ⟨q.1, addB_none (fun hb => hn x (hb ▸ h) (hb ▸ g)) q.2.b, q.2.l⟩⟩
theorem change_extN (e : Ext z0 z) (hn : New z0 a) {h' : Heap} (hs : Heap.SameBut a z.h h') : Ext z0 { z with h := h' } :=
  ⟨e.sig, e.frz, fun b x h g => have q := e.prv b x h g; ⟨(hs.2 b (fun hb => hn x (hb ▸ h) (hb ▸ g))).trans q.1, q.2.b, q.2.l⟩⟩
variable {names : Names} {env : Env} {penv penvF : PEnv} {A : Around} {rec : EvE} {lvl : Nat} {s : Shared} {E Q : Value → Shared → Prop} {α : Type} {AR : Addr → Z → α → Prop}
theorem comp_run (no : NmOk cx) (hE : SndE cx rec lvl) (hT : SndT cx rec lvl) (hA : ArOk A lvl) (ao : ∀ D, AccOk cx (AR D) D) {e : Expr} (he : isComp e = true) {scope : Scope} {fv : List Nat} (hc : compOk cx names scope fv = true) (f : Fr cx names z env penv) (k : OkZ cx z) (hz : s.heap = z.h)
    {t : Tgt} {i : PE} {ts : List PE} {r : List (Tgt × PE × List PE)} {t' i' : Expr} {ts' : List Expr} {r' : List Comprehension} (hcl : clausesOf e = ⟨t', i', ts', 0⟩ :: r') (mg : MtG cx names scope.names ((t, i, ts) :: r) (⟨t', i', ts', 0⟩ :: r'))
    (hasy : ∀ (d : Nat) g, (clausesOf e)[d]? = some g → g.is_async = 0) {emit : PEnv → Store → α → Option (α × PEnv × Store)} {a0 aF : α} {newAcc : Sem Value} {use : Option (Value → Sem Unit)}
    (hacc : ∀ (z : Z) (s : Shared) (E Q : Value → Shared → Prop), OkZ cx z → s.heap = z.h → (∀ D h', OkZ cx { z with h := h' } → Ext z { z with h := h' } → z.h.get? D = none → AR D { z with h := h' } a0 → Q (.ref D) { s with heap := h' }) → wpAny (model cx.prog cx.w) A newAcc Q E s)
    (hbase : ∀ D cenv, Emits cx A scope.names cenv D (AR D) emit (fun E => emitW (model cx.prog cx.w) A E e (.ref D) cenv))
    {v : PV} {st1 st2 stF : Store} {items : List PV} (h1 : rec i penv z.st = some (v, st1)) (h2 : itemsOf st1 v = some (items, st2)) (h3 : evGen (evGens rec emit r) t (evTests rec ts) items (keep fv penv) st2 a0 = some (aF, penvF, stF)) (pos : Pos)
    (hfin : ∀ D C z' tk, OkZ cx z' → Ext z z' → z'.st = stF → AR D z' aF → New z D → New z C → C ≠ D → Free z' C → (∃ m, z'.h.Ns C m) → compPost (model cx.prog cx.w) A E use Q (.ref D) C (.ok .next) { s with heap := z'.h, toks := tk }) :
    wpAny (model cx.prog cx.w) A (comprehension e scope env pos newAcc false (eval i' env) use) Q E s := by
  have c := CompOk.of hc
  cases mg with
  | cons mt mi mts mr =>
    have hclo : ∀ n, (n, NameKind.free) ∈ scope.names → ∃ c, env.cells.lookup n = some c := fun n hn => (c.up n hn).elim (fun h => f.all n (.inl ((f.raw n _ h).1 nofun))) fun h => f.all n ((f.raw n _ h).2 rfl)
    refine wpAny_comprehension_free hcl (fun x => mi.noSet env x) (closureFor_pure hclo) c.kind (fun x hx hl => by have := lookup_of_mem_nodup c.nodup (n := x.1) (c := x.2) hx; rw [hl] at this; exact this) ?_
    refine hE mi f k hz hA h1 E _ fun x z1 tk1 k1 e1 s1 v1 => ?_
    refine iter_sound (z := z1) (by rw [s1]; exact h2) k1 (s := { s with heap := z1.h, toks := tk1 }) rfl v1 ?_
    intro I fp P St z2 tk2 it tz k2 e2 s2 hI
    refine hacc z2 { s with heap := z2.h, toks := tk2 } E _ k2 rfl fun D h3' k3 e3 hD haD => ?_
    refine comp_env (s := { s with heap := h3', toks := tk2 }) (((f.ext e1).ext e2).ext e3) k3 rfl c fun cenv h4 k4 e4 f4 hown hcells => ?_
    obtain ⟨oI, _, hoI, _⟩ := it.cls _ _ tz.st
    have hID : I ≠ D := fun e => nn (hD.symm.trans (e ▸ hoI))
    obtain ⟨hfD, oD, hoD⟩ := (ao D).free _ _ haD
    have tz3 := tz.extB it (e3.toB (fun _ => False)) (fun h => h) k2 k3
    have tz4 := tz3.extB it (e4.toB (fun _ => False)) (fun h => h) k3 k4
    have haD4 := (ao D).ext (fun _ => False) _ _ _ haD k3 k4 (e4.toB _) fun h => h
    obtain ⟨oI3, _, hoI3, _⟩ := it.cls _ _ tz3.st
    have apN : ∀ a o, ({ z2 with h := h3' } : Z).h.get? a = some o → (∀ n c, env.cells.lookup n = some c → c ≠ a) → Apart { cenv with scope := relabel scope env } a := fun a o ho hcl' => by
      refine ⟨fun e => hown a o (.inl e) ho, fun n c' hc' e => ?_⟩
      subst e
      rcases hcells n c' hc' with h | h
      · exact hown c' o h ho
      · exact hcl' n c' h rfl
    have apI : Apart { cenv with scope := relabel scope env } I := by
      refine apN I oI3 hoI3 fun n c hc e => ?_
      exact ((f.ext e1).cel n c hc).2.2.elim fun ov h => h.elim fun o h => nn (hI.symm.trans (e ▸ h.1))
    have apD : Apart { cenv with scope := relabel scope env } D := by
      refine apN D oD hoD fun n c hc e => ?_
      exact (((f.ext e1).ext e2).cel n c hc).2.2.elim fun ov h => h.elim fun o h => nn (hD.symm.trans (e ▸ h.1))
    have hg : (clausesOf e)[0]? = some ⟨t', i', ts', 0⟩ := by rw [hcl]; rfl
    have ih := body_sound no hE hT hA (ao D) he (hbase D { cenv with scope := relabel scope env }) hasy mr (d := 1) rfl rfl (by rw [hcl]; rfl)
    refine comp_start he hg (loop_sound no hT hA (ao D) he hg (fun g h => hasy _ g h) mt mts ih it hI tz4 k4 f4 (s := { s with heap := h4, toks := tk2 }) rfl haD4 hID apI apD (((e2.trans e3).trans e4).toB _) (by rw [show ({ z2 with h := h4 } : Z).st = st2 from s2]; exact h3) fun z5 tk5 k5 e5 f5 ha5 s5 => ?_) fun Q' E' hq => (it.W A hA.hh).self 0 _ _ _ tz4.st hq
    have hnew : ∀ x, own scope.names { cenv with scope := relabel scope env } x ∨ x = D → New z1 x := fun x hx => by
      rcases hx with hx | rfl
      · refine New.back (e2.trans e3) fun o ho hf => hown x o hx ho
      · exact New.back e2 (New.of hD)
    have e15 := e5.toExtN hnew
    refine hfin D cenv.locals z5 tk5 k5 (e1.trans e15) s5 ha5 (New.back e1 (hnew D (.inr rfl))) (New.back e1 (hnew _ (.inl (.inl rfl)))) apD.1.symm f5.freeL ?_
    obtain ⟨m, hm, _⟩ := f5.hasL
    exact ⟨m, hm⟩
end
end Mine
end
section
namespace Mine
open PySem
noncomputable def ARL (cx : Cx) (D : Addr) (z : Z) (a : List PV) : Prop := Free z D ∧ ∃ o items, z.h.get? D = some o ∧ LObj o items ∧ VRs cx z a items.toList
noncomputable def ARD (cx : Cx) (D : Addr) (z : Z) (a : List (PV × PV)) : Prop := Free z D ∧ (∃ o, z.h.get? D = some o ∧ DRel cx.prog cx.w a o) ∧ (D == sysModules) = false
section
variable {cx : Cx} {z z0 z' : Z} {a : Addr} {o : Obj} {names : Names} {env : Env} {penv penvF : PEnv} {A : Around} {rec : EvE} {lvl : Nat} {s : Shared} {E Q : Value → Shared → Prop} {P : PProg} {call : EvC} {v : PV} {st' : Store}
theorem ARL.ok (D : Addr) : AccOk cx (ARL cx D) D where
  free := fun z a h => ⟨h.1, h.2.imp fun o h => h.elim fun _ h => h.1⟩
  ext := fun ow z z' a h k k' e hn => h.2.elim fun o h2 => h2.elim fun items h2 => have q := e.prv D o h2.1 h.1; ⟨q.1, o, items, q.2.2 hn, h2.2.1, h2.2.2.mono e.sig e.frz⟩
  stay := fun z h' a h hk => ⟨⟨h.1.b, h.1.l⟩, h.2.imp fun o h => h.imp fun items h => ⟨hk o h.1, h.2⟩⟩
theorem ARD.ok (D : Addr) : AccOk cx (ARD cx D) D where
  free := fun z a h => ⟨h.1, h.2.1.imp fun o h => h.1⟩
  ext := fun ow z z' a h k k' e hn => h.2.1.elim fun o h2 => have q := e.prv D o h2.1 h.1; ⟨q.1, ⟨o, q.2.2 hn, h2.2⟩, h.2.2⟩
  stay := fun z h' a h hk => ⟨⟨h.1.b, h.1.l⟩, h.2.1.imp fun o h => ⟨hk o h.1, h.2⟩, h.2.2⟩
theorem emitL_sound (hE : SndE cx rec lvl) (hA : ArOk A lvl) {n : Names} {elt : PE} {elt' : Expr} {g : List Comprehension} {sc : Scope} {p : Pos} (me : MtE cx n elt elt') (D : Addr) (cenv : Env) :
    Emits cx A n cenv D (ARL cx D) (emitL rec elt) (fun E => emitW (model cx.prog cx.w) A E (.ListComp elt' g sc p) (.ref D) cenv) := by
  intro z s penv penv' acc acc' st' k f hz ha apD h E Q hQ
  refine mV h fun v st1 h1 h => bif_el h fun hl e' => ?_
  cases e'
  refine hE me f k hz hA h1 E _ fun x z1 tk1 k1 e1 s1 v1 => ?_
  obtain ⟨f1, o, items, ho, ⟨m, rfl⟩, hv⟩ := (ARL.ok D).ext (fun _ => False) _ _ _ ha k k1 (e1.toB _) fun h => h
  refine call_meets (s := { s with heap := z1.h, toks := tk1 }) F.slot_list_append (isList_typeIs ho) F.entry_list_append (F.args_list_append_2 _ _) (list_append D items m x (lim_le (vrs_size hv ▸ dt hl))) ⟨ho, ?_⟩
  have hu := IsL.update (show IsL z1.h D items m from ho) (fun its => its.push x)
  have hs : Heap.SameBut D z1.h (z1.h.update D (Obj.mapSeq fun its => its.push x)) := Heap.SameBut.update ..
  generalize z1.h.update D (Obj.mapSeq fun its => its.push x) = h2 at hu hs ⊢
  have eD : ExtB (fun x => own n cenv x ∨ x = D) z1 { z1 with h := h2 } := extB_sameBut (.inr rfl) hs ⟨_, hu⟩
  have eA : ExtB (· = D) z1 { z1 with h := h2 } := extB_sameBut (ow := (· = D)) rfl hs ⟨_, hu⟩
  exact (hQ { z1 with h := h2 } tk1 (change_free k1 f1 hs) ((e1.toB _).trans eD) ((f.ext e1).extA eA apD) ⟨⟨f1.b, f1.l⟩, _, items.push x, hu, ⟨_, rfl⟩, by rw [Array.toList_push]; exact hv.append (.cons v1 .nil)⟩ s1)
theorem emitD_sound (hE : SndE cx rec lvl) (hA : ArOk A lvl) {n : Names} {ke ve : PE} {ke' ve' : Expr} {g : List Comprehension} {sc : Scope} {p : Pos} (mk : MtE cx n ke ke') (mv : MtE cx n ve ve') (D : Addr) (cenv : Env) :
    Emits cx A n cenv D (ARD cx D) (emitD rec ke ve) (fun E => emitW (model cx.prog cx.w) A E (.DictComp ke' ve' g sc p) (.ref D) cenv) := by
  intro z s penv penv' acc acc' st' k f hz ha apD h E Q hQ
  refine mV h fun a st1 h1 h => mV h fun b st2 h2 h => mD h fun acc1 hp h => bif_el h fun hl e' => ?_
  cases e'
  refine ⟨D, rfl, hE mk f k hz hA h1 E _ fun x z1 tk1 k1 e1 s1 v1 => hE mv (f.ext e1) k1 rfl hA (by rw [s1]; exact h2) E _ fun y z2 tk2 k2 e2 s2 v2 => ?_⟩
  have e12 := e1.trans e2
  obtain ⟨f2, ⟨o, ho, hd⟩, hsm⟩ := (ARD.ok D).ext (fun _ => False) _ _ _ ha k k2 (e12.toB _) fun h => h
  refine dictSet_sound (z := z2) (s := { s with heap := z2.h, toks := tk2 }) hp ho hd (v1.ext e2) v2 (dt hl) fun h' o' ho' hd' hs => ?_
  have eD : ExtB (fun x => own n cenv x ∨ x = D) z2 { z2 with h := h' } := extB_sameBut (.inr rfl) hs ⟨_, ho'⟩
  have eA : ExtB (· = D) z2 { z2 with h := h' } := extB_sameBut (ow := (· = D)) rfl hs ⟨_, ho'⟩
  exact hQ { z2 with h := h' } _ (change_free k2 f2 hs) ((e12.toB _).trans eD) ((f.ext e12).extA eA apD) ⟨⟨f2.b, f2.l⟩, ⟨o', ho', hd'⟩, hsm⟩ s2
theorem accL (z : Z) (s : Shared) (E Q : Value → Shared → Prop) (k : OkZ cx z) (hz : s.heap = z.h)
    (h : ∀ D h', OkZ cx { z with h := h' } → Ext z { z with h := h' } → z.h.get? D = none → ARL cx D { z with h := h' } [] → Q (.ref D) { s with heap := h' }) : wpAny (model cx.prog cx.w) A (newList []) Q E s := by
  have hn := none_at_size hz
  have hk : ∀ b x, z.h.get? b = some x → (s.heap.push { cls := .type "list", data := .seq ([] : List Value).toArray }).get? b = some x := fun b x e => by rw [hz]; exact Heap.get?_push_of_some _ e
  refine wpAny_newObj_type (h s.heap.objs.size _ (k.keep fun b o e _ => hk b o e) (.keep hk) hn ⟨⟨(k.free_of_none hn).b, (k.free_of_none hn).l⟩, _, #[], Heap.get?_push_size _ rfl, ⟨0, rfl⟩, .nil⟩) (by size_fits)
theorem accD (z : Z) (s : Shared) (E Q : Value → Shared → Prop) (k : OkZ cx z) (hz : s.heap = z.h)
    (h : ∀ D h', OkZ cx { z with h := h' } → Ext z { z with h := h' } → z.h.get? D = none → ARD cx D { z with h := h' } [] → Q (.ref D) { s with heap := h' }) : wpAny (model cx.prog cx.w) A (newDict) Q E s := by
  have hn := none_at_size hz
  have hk : ∀ b x, z.h.get? b = some x → (s.heap.push { cls := .type "dict", data := .dict #[] }).get? b = some x := fun b x e => by rw [hz]; exact Heap.get?_push_of_some _ e
  refine wpAny_newObj_type (h s.heap.objs.size _ (k.keep fun b o e _ => hk b o e) (.keep hk) hn ⟨⟨(k.free_of_none hn).b, (k.free_of_none hn).l⟩, ⟨_, Heap.get?_push_size _ rfl, emptyD⟩, k.not_sm hn⟩)
noncomputable def CompEnd (cx : Cx) (A : Around) (E : Value → Shared → Prop) (use : Option (Value → Sem Unit)) (Q : Value → Shared → Prop) (z : Z) (v : PV) (st' : Store) (s : Shared) : Prop :=
  ∀ x C z' tk, OkZ cx z' → Ext z z' → z'.st = st' → VR cx z' v x → New z C → Free z' C → (∃ m, z'.h.Ns C m) → compPost (model cx.prog cx.w) A E use Q x C (.ok .next) { s with heap := z'.h, toks := tk }
theorem MtG.async {o n : Names} {g : List (Tgt × PE × List PE)} {g' : List Comprehension} (m : MtG cx o n g g') : ∀ (d : Nat) c, g'[d]? = some c → c.is_async = 0 := by
  induction m with
  | nil => exact fun d c h => nn h
  | cons _ _ _ _ ih => exact fun d c h => by cases d with | zero => exact Option.some.inj h ▸ rfl | succ d => exact ih d c h
theorem mGA {α γ : Type} {C : Prop} {r : γ} {x : Option (α × PEnv × Store)} {f : α → Store → Option γ} (h : (match x with
    | some (a, _, st) => f a st
    | none => none) = some r) (k : ∀ a p st, x = some (a, p, st) → f a st = some r → C) : C := by
  cases x with
  | none => exact nn h
  | some p => exact k p.1 p.2.1 p.2.2 rfl h
theorem comp_any (no : NmOk cx) (hE : SndE cx rec lvl) (hT : SndT cx rec lvl) (hA : ArOk A lvl) {elt : PE} {gens : List (Tgt × PE × List PE)} {fv : List Nat} {elt' t' i' : Expr} {ts' : List Expr} {r' : List Comprehension} {scope : Scope} (p pos : Pos)
    (hc : compOk cx names scope fv = true) (me : MtE cx scope.names elt elt') (mg : MtG cx names scope.names gens (⟨t', i', ts', 0⟩ :: r')) (f : Fr cx names z env penv) (k : OkZ cx z) (hz : s.heap = z.h) {use : Option (Value → Sem Unit)}
    (h : stepE P rec call (.comp elt gens fv) penv z.st = some (v, st')) (hfin : CompEnd cx A E use Q z v st' s) :
    wpAny (model cx.prog cx.w) A (comprehension (.ListComp elt' (⟨t', i', ts', 0⟩ :: r') scope p) scope env pos (newList []) false (eval i' env) use) Q E s := by
  refine mL h fun vs st1 h1 h => ?_
  cases h
  cases mg with
  | @cons _ _ t i ts _ _ _ r _ mt mi mts mr =>
    refine mV h1 fun u st2 h2 h1 => mL h1 fun items st3 h3 h1 => mGA h1 fun a penvF stF h4 h1 => ?_
    cases h1
    refine comp_run (e := .ListComp elt' (⟨t', i', ts', 0⟩ :: r') scope p) no hE hT hA ARL.ok rfl hc f k hz rfl (.cons mt mi mts mr) (fun d g hg => MtG.async (.cons mt mi mts mr) d g hg) accL (fun D cenv => emitL_sound hE hA me D cenv) h2 h3 h4 pos fun D C z' tk k' e' s' ha hD hC hCD hfC hns => ?_
    obtain ⟨fD, o, items', ho, hl, hv⟩ := ha
    refine hfin (.ref D) C { z' with B := addB z'.B D o } tk (adoptB k' fD ho) (adoptB_extN e' hD fD) s' (.list (addB_self _ _ _) hl (VRs.adopt fD hv)) hC ⟨addB_none hCD hfC.b, hfC.l⟩ hns
theorem dcomp_any (no : NmOk cx) (hE : SndE cx rec lvl) (hT : SndT cx rec lvl) (hA : ArOk A lvl) {ke ve : PE} {gens : List (Tgt × PE × List PE)} {fv : List Nat} {ke' ve' t' i' : Expr} {ts' : List Expr} {r' : List Comprehension} {scope : Scope} (p pos : Pos)
    (hc : compOk cx names scope fv = true) (mk : MtE cx scope.names ke ke') (mv : MtE cx scope.names ve ve') (mg : MtG cx names scope.names gens (⟨t', i', ts', 0⟩ :: r')) (f : Fr cx names z env penv) (k : OkZ cx z) (hz : s.heap = z.h) {use : Option (Value → Sem Unit)}
    (h : stepE P rec call (.dcomp ke ve gens fv) penv z.st = some (v, st')) (hfin : CompEnd cx A E use Q z v st' s) :
    wpAny (model cx.prog cx.w) A (comprehension (.DictComp ke' ve' (⟨t', i', ts', 0⟩ :: r') scope p) scope env pos newDict false (eval i' env) use) Q E s := by
  refine mK h fun vs st1 h1 h => ?_
  cases h
  cases mg with
  | @cons _ _ t i ts _ _ _ r _ mt mi mts mr =>
    refine mV h1 fun u st2 h2 h1 => mL h1 fun items st3 h3 h1 => mGA h1 fun a penvF stF h4 h1 => ?_
    cases h1
    refine comp_run (e := .DictComp ke' ve' (⟨t', i', ts', 0⟩ :: r') scope p) no hE hT hA ARD.ok rfl hc f k hz rfl (.cons mt mi mts mr) (fun d g hg => MtG.async (.cons mt mi mts mr) d g hg) accD (fun D cenv => emitD_sound hE hA mk mv D cenv) h2 h3 h4 pos fun D C z' tk k' e' s' ha hD hC hCD hfC hns => ?_
    obtain ⟨fD, ⟨o, ho, hd⟩, hsm⟩ := ha
    refine hfin (.ref D) C { z' with B := addB z'.B D o } tk (adoptB k' fD ho) (adoptB_extN e' hD fD) s' (.dict (addB_self _ _ _) hd hsm) hC ⟨addB_none hCD hfC.b, hfC.l⟩ hns
theorem compEnd_plain (hQ : ∀ x z' tk, OkZ cx z' → Ext z z' → z'.st = st' → VR cx z' v x → Q x { s with heap := z'.h, toks := tk }) : CompEnd cx A E none Q z v st' s :=
  fun x C z' tk k e hs hv hC hfC ⟨m, hm⟩ => ⟨m, hm, fun h' hs' => hQ x { z' with h := h' } tk (change_free k hfC hs') (change_extN e hC hs') hs hv⟩
end
end Mine
end
section
namespace Mine
open PySem
section
variable {cx : Cx} {P : PProg} {rec : EvE} {call : EvC} {n : Nat}
theorem comp_case (no : NmOk cx) (hE : SndE cx rec n) (hT : SndT cx rec n) {names : Names} {env : Env} {penv : PEnv} {A : Around} {z : Z} {s : Shared} {v : PV} {st' : Store} (hA : ArOk A n) {elt : PE} {gens : List (Tgt × PE × List PE)} {fv : List Nat} {elt' : Expr} {gens' : List Comprehension} {scope : Scope} (p : Pos)
    (hc : compOk cx names scope fv = true) (me : MtE cx scope.names elt elt') (mg : MtG cx names scope.names gens gens') (f : Fr cx names z env penv) (k : OkZ cx z) (hz : s.heap = z.h)
    (h : stepE P rec call (.comp elt gens fv) penv z.st = some (v, st')) : Runs cx A (eval (.ListComp elt' gens' scope p) env) z v st' s := by
  cases mg with
  | nil => exact nn h
  | cons mt mi mts mr =>
    rename_i t i ts t' i' ts' r r'
    intro E Q hQ
    show wpAny _ A (comprehension (.ListComp elt' (⟨t', i', ts', 0⟩ :: r') scope p) scope env i'.pos (newList []) false (eval i' env) none) Q E s
    exact comp_any no hE hT hA p i'.pos hc me (.cons mt mi mts mr) f k hz h (compEnd_plain hQ)
theorem dcomp_case (no : NmOk cx) (hE : SndE cx rec n) (hT : SndT cx rec n) {names : Names} {env : Env} {penv : PEnv} {A : Around} {z : Z} {s : Shared} {v : PV} {st' : Store} (hA : ArOk A n) {ke ve : PE} {gens : List (Tgt × PE × List PE)} {fv : List Nat} {ke' ve' : Expr} {gens' : List Comprehension} {scope : Scope} (p : Pos)
    (hc : compOk cx names scope fv = true) (mk : MtE cx scope.names ke ke') (mv : MtE cx scope.names ve ve') (mg : MtG cx names scope.names gens gens') (f : Fr cx names z env penv) (k : OkZ cx z) (hz : s.heap = z.h)
    (h : stepE P rec call (.dcomp ke ve gens fv) penv z.st = some (v, st')) : Runs cx A (eval (.DictComp ke' ve' gens' scope p) env) z v st' s := by
  cases mg with
  | nil => exact nn h
  | cons mt mi mts mr =>
    rename_i t i ts t' i' ts' r r'
    intro E Q hQ
    show wpAny _ A (comprehension (.DictComp ke' ve' (⟨t', i', ts', 0⟩ :: r') scope p) scope env i'.pos newDict false (eval i' env) none) Q E s
    exact dcomp_any no hE hT hA p i'.pos hc mk mv (.cons mt mi mts mr) f k hz h (compEnd_plain hQ)
theorem stepE_sound (G : Glob cx P) (hE : SndE cx rec n) (hT : SndT cx rec n) (hC : SndC cx P call n) (hF : ∀ f vs st r, call f vs st = some r → ∃ p, P.F f = some p) : SndE cx (stepE P rec call) (n + 1) := by
  intro names pe e env penv z s A v st' m f k hz hA' h
  have hA : ArOk A n := hA'.mono (Nat.le_succ n)
  have i := m.inv
  clear m
  induction i with
  | var i p =>
    refine mO h fun w hw h => ?_
    cases h; exact var_sound G p f k hz hw
  | glob i p hg =>
    refine mO h fun w hw h => ?_
    cases h; exact glob_sound G hw hg f k hz p
  | cint w kk p => cases h; exact .int k hz fun E Q hQ => wpAny_Constant_int (hQ _ _)
  | cstr l x kk p hx => cases h; exact .str k hz hx fun E Q hQ => wpAny_Constant_str (hQ _ _)
  | cnone kk p => cases h; exact .val k hz .none fun E Q hQ => wpAny_Constant_none (hQ s.toks)
  | cbool b kk p => cases h; exact .val k hz (.bool b) fun E Q hQ => wpAny_Constant_bool (hQ s.toks)
  | bin op p ml mr => exact bin_case hE hA p ml mr f k hz h
  | cmp op p ml mr =>
    obtain ⟨b, rfl, hb⟩ := cmp_case hE hA p ml mr f k hz h
    exact fun E Q hQ => wpAny_Compare1 (hb E Q fun z' tk k' e' s' => hQ _ z' tk k' e' s' (.bool b)) (mr.noMarks op)
  | and p me =>
    intro E Q hQ
    rw [arm_eval_BoolOp]
    exact boolop_sound hE hA true p me f k hz h E Q hQ
  | or p me =>
    intro E Q hQ
    rw [arm_eval_BoolOp]
    exact boolop_sound hE hA false p me f k hz h E Q hQ
  | not p me => exact not_case hT hE hA p me f k hz h
  | ite p mt mb mo => exact ite_case hT hE hA p mt mb mo f k hz h
  | list p me => exact list_case hE hA p me f k hz h
  | newlist p me => exact newlist_case hE hA p me f k hz h
  | tuple kk p me => exact tuple_case hE hA kk p me f k hz h
  | newdict p hl mk mv => exact newdict_case hE hA p hl mk mv f k hz h
  | idx p mv mi => exact idx_case hE hA p mv mi f k hz h
  | slice q p mv ml mh ms => exact slice_case hE hA q p mv ml mh ms f k hz h
  | call g q p hg me => exact call_case G hE hC hF hA q p hg me f k hz h
  | bi b q p hb hg me => exact bi_case G hE hA q p hb hg me f k hz h
  | meth mm q p mo me hbase hline hfew => exact meth_case hE hA q p mo me hbase hline hfew f k hz h
  | comp p hc me mg => exact comp_case G.nm hE hT hA p hc me mg f k hz h
  | dcomp p hc mk mv mg => exact dcomp_case G.nm hE hT hA p hc mk mv mg f k hz h
theorem evTest_el {pe : PE} {penv : PEnv} {st : Store} {r : Bool × Store} {C : Prop} {rec : EvE} (h : evTest rec pe penv st = some r) (c : ∀ v st1 b, rec pe penv st = some (v, st1) → truthyV v = some b → (b, st1) = r → C) : C :=
  mV h fun v st1 h1 h => mB h fun b hb h => c v st1 b h1 hb (Option.some.inj h)
theorem test_value (hE : SndE cx rec n) {names : Names} {env : Env} {penv : PEnv} {A : Around} {z : Z} {s : Shared} {b : Bool} {st' : Store} {pe : PE} {e : Expr} (hA : ArOk A n) (m : MtE cx names pe e) (f : Fr cx names z env penv) (k : OkZ cx z) (hz : s.heap = z.h)
    (h : evTest rec pe penv z.st = some (b, st')) (he : isTrue e env (eval e env) = (do let v ← eval e env; standAt e.pos; holding [v] (truthy v))) : RunsT cx A (isTrue e env (eval e env)) z b st' s :=
  evTest_el h fun v st1 b' h1 hb h => by
    cases h
    intro E Q hQ
    exact wpAny_isTrue_value (hE m f k hz hA h1 E _ fun x z1 tk k1 e1 s1 v1 => truthy_sound hb (v1.rv k1) fun tk1 => hQ z1 tk1 k1 e1 s1) he
theorem stepT_sound (hSE : SndE cx (stepE P rec call) (n + 1)) (hE : SndE cx rec n) (hT : SndT cx rec n) : SndT cx (stepE P rec call) (n + 1) := by
  intro names pe e env penv z s A b st' m f k hz hA' h
  have hA : ArOk A n := hA'.mono (Nat.le_succ n)
  have tv := test_value hSE hA' m f k hz h
  have i := m.inv
  clear m
  induction i with
  | cmp op p ml mr =>
    refine evTest_el h fun v st1 b' h1 hb h => ?_
    cases h
    obtain ⟨b2, rfl, h2⟩ := cmp_case hE hA p ml mr f k hz h1
    cases hb
    exact fun E Q hQ => wpAny_isTrue_Compare1 (h2 E _ fun z' tk k' e' s' => truthy_bool (z := z') fun tk1 => hQ z' tk1 k' e' s') (mr.noMarks op)
  | and p me =>
    refine evTest_el h fun v st1 b' h1 hb h => ?_
    cases h
    exact fun E Q hQ => wpAny_isTrue_BoolOp (allTrue_sound hT hA true me f k hz h1 hb E Q hQ)
  | or p me =>
    refine evTest_el h fun v st1 b' h1 hb h => ?_
    cases h
    exact fun E Q hQ => wpAny_isTrue_BoolOp (allTrue_sound hT hA false me f k hz h1 hb E Q hQ)
  | not p me =>
    refine evTest_el h fun v st1 b' h1 hb h => ?_
    cases h
    refine mBS h1 fun c st2 h2 h1 => ?_
    cases h1
    cases hb
    exact fun E Q hQ => wpAny_isTrue_Not (hT me f k hz hA h2 E _ fun z1 tk k1 e1 s1 => hQ z1 tk k1 e1 s1)
  | ite p mt mb mo =>
    refine evTest_el h fun v st1 b' h1 hb h => ?_
    cases h
    refine mT h1 fun c st2 h2 h1 => ?_
    intro E Q hQ
    rw [arm_isTrue_IfExp]
    refine wpAny_bind (hT mt f k hz hA h2 E _ fun z1 tk k1 e1 s1 => ?_)
    cases c with
    | true => exact hT mb (f.ext e1) k1 (s := { s with heap := z1.h, toks := tk }) rfl hA (evTest_of (z := z1) (by rw [s1]; exact h1) hb) E Q fun z2 tk2 k2 e2 s2 => hQ z2 tk2 k2 (e1.trans e2) s2
    | false => exact hT mo (f.ext e1) k1 (s := { s with heap := z1.h, toks := tk }) rfl hA (evTest_of (z := z1) (by rw [s1]; exact h1) hb) E Q fun z2 tk2 k2 e2 s2 => hQ z2 tk2 k2 (e1.trans e2) s2
  | _ => exact tv rfl
end
end Mine
end
section
namespace Mine
open PySem
noncomputable def isTupleE (e : Expr) : Bool := Nat.beq e.ctorIdx 25
noncomputable def localOk (names : Names) (x : Str) : Bool := names.lookup x == some .local
inductive MtS1 (cx : Cx) (R : PS → Stmt → Prop) (names : Names) : PS → Stmt → Prop
  | assign (t : Nat) {e : PE} {e' : Expr} (q p : Pos) : wrOk cx names t = true → MtE cx names e e' → MtS1 cx R names (.assign t e) (.Assign [.Name (cx.name t) q] e' p)
  | assign2 (t u : Nat) {e : PE} {e' : Expr} (q q' p : Pos) : wrOk cx names t = true → wrOk cx names u = true → MtE cx names e e' → MtS1 cx R names (.assign2 t u e) (.Assign [.Name (cx.name t) q, .Name (cx.name u) q'] e' p)
  | assignTup {is : List Nat} {es : List Expr} {e : PE} {e' : Expr} (k : Nat) (q p : Pos) : MtN cx names is es → MtE cx names e e' → isTupleE e' = false → MtS1 cx R names (.assignTup is e) (.Assign [.Tuple es k q] e' p)
  | swap (i j a b : Nat) (k k2 : Nat) (p1 p2 q q1 q2 q3 p : Pos) : wrOk cx names i = true → wrOk cx names j = true → localOk names (cx.name i) = true → localOk names (cx.name j) = true → (i == j) = false → (p2.line == p1.line) = true →
      (cx.name a == ("__debug__" : Str)) = false → MtS1 cx R names (.assignTup [i, j] (.tuple [.var a, .var b])) (.Assign [.Tuple [.Name (cx.name i) p1, .Name (cx.name j) p2] k q] (.Tuple [.Name (cx.name a) q1, .Name (cx.name b) q2] k2 q3) p)
  | setItem {o i e : PE} {o' i' e' : Expr} (q p : Pos) : MtE cx names o o' → MtE cx names i i' → MtE cx names e e' → MtS1 cx R names (.setItem o i e) (.Assign [.Subscript o' i' q] e' p)
  | aug (t : Nat) (op : Operator) {e : PE} {e' : Expr} (q p : Pos) : wrOk cx names t = true → MtE cx names e e' → MtS1 cx R names (.aug t op e) (.AugAssign (.Name (cx.name t) q) op e' p)
  | augItem {o i e : PE} {o' i' e' : Expr} (op : Operator) (q p : Pos) : MtE cx names o o' → MtE cx names i i' → MtE cx names e e' → MtS1 cx R names (.augItem o i op e) (.AugAssign (.Subscript o' i' q) op e' p)
  | expr {e : PE} {e' : Expr} (p : Pos) : MtE cx names e e' → isComp e' = false → MtS1 cx R names (.expr e) (.Expr e' p)
  | ifS {t : PE} {b o : List PS} {t' : Expr} {b' o' : List Stmt} (p : Pos) : MtE cx names t t' → Rs R b b' → Rs R o o' → MtS1 cx R names (.ifS t b o) (.If t' b' o' p)
  | whileS {t : PE} {b : List PS} {t' : Expr} {b' : List Stmt} (p : Pos) : MtE cx names t t' → Rs R b b' → MtS1 cx R names (.whileS t b) (.While t' b' [] p)
  | forS {t : Tgt} {it : PE} {b : List PS} {t' it' : Expr} {b' : List Stmt} (p : Pos) : MtT cx names t t' → MtE cx names it it' → Rs R b b' → MtS1 cx R names (.forS t it b) (.For t' it' b' [] p)
  | ret {e : PE} {e' : Expr} (p : Pos) : MtE cx names e e' → MtS1 cx R names (.ret e) (.Return (some e') p)
noncomputable def onAssign (e : Stmt) (f : List Expr → Expr → Bool) : Bool := dite (e.ctorIdx = 5) (fun h => Stmt.Assign.elim (motive_2 := fun _ => Bool) e h (fun a0 a1 a2 => f a0 a1)) fun _ => false
theorem onAssign_el {e : Stmt} {f : List Expr → Expr → Bool} {C : Stmt → Prop} (h : onAssign e f = true) (k : ∀ (a0 : List Expr) (a1 : Expr) (a2 : Pos), f a0 a1 = true → C (.Assign a0 a1 a2)) : C e :=
  dite_el h fun hp h => Stmt.Assign.elim (motive_2 := fun e => ∀ hp : e.ctorIdx = 5, Stmt.Assign.elim (motive_2 := fun _ => Bool) e hp (fun a0 a1 a2 => f a0 a1) = true → C e) e hp (fun a0 a1 a2 _ h => k a0 a1 a2 h) hp h
noncomputable def onAug (e : Stmt) (f : Expr → Operator → Expr → Bool) : Bool := dite (e.ctorIdx = 7) (fun h => Stmt.AugAssign.elim (motive_2 := fun _ => Bool) e h (fun a0 a1 a2 a3 => f a0 a1 a2)) fun _ => false
theorem onAug_el {e : Stmt} {f : Expr → Operator → Expr → Bool} {C : Stmt → Prop} (h : onAug e f = true) (k : ∀ (a0 : Expr) (a1 : Operator) (a2 : Expr) (a3 : Pos), f a0 a1 a2 = true → C (.AugAssign a0 a1 a2 a3)) : C e :=
  dite_el h fun hp h => Stmt.AugAssign.elim (motive_2 := fun e => ∀ hp : e.ctorIdx = 7, Stmt.AugAssign.elim (motive_2 := fun _ => Bool) e hp (fun a0 a1 a2 a3 => f a0 a1 a2) = true → C e) e hp (fun a0 a1 a2 a3 _ h => k a0 a1 a2 a3 h) hp h
noncomputable def onExpr (e : Stmt) (f : Expr → Bool) : Bool := dite (e.ctorIdx = 24) (fun h => Stmt.Expr.elim (motive_2 := fun _ => Bool) e h (fun a0 a1 => f a0)) fun _ => false
theorem onExpr_el {e : Stmt} {f : Expr → Bool} {C : Stmt → Prop} (h : onExpr e f = true) (k : ∀ (a0 : Expr) (a1 : Pos), f a0 = true → C (.Expr a0 a1)) : C e :=
  dite_el h fun hp h => Stmt.Expr.elim (motive_2 := fun e => ∀ hp : e.ctorIdx = 24, Stmt.Expr.elim (motive_2 := fun _ => Bool) e hp (fun a0 a1 => f a0) = true → C e) e hp (fun a0 a1 _ h => k a0 a1 h) hp h
noncomputable def onIfS (e : Stmt) (f : Expr → List Stmt → List Stmt → Bool) : Bool := dite (e.ctorIdx = 12) (fun h => Stmt.If.elim (motive_2 := fun _ => Bool) e h (fun a0 a1 a2 a3 => f a0 a1 a2)) fun _ => false
theorem onIfS_el {e : Stmt} {f : Expr → List Stmt → List Stmt → Bool} {C : Stmt → Prop} (h : onIfS e f = true) (k : ∀ (a0 : Expr) (a1 : List Stmt) (a2 : List Stmt) (a3 : Pos), f a0 a1 a2 = true → C (.If a0 a1 a2 a3)) : C e :=
  dite_el h fun hp h => Stmt.If.elim (motive_2 := fun e => ∀ hp : e.ctorIdx = 12, Stmt.If.elim (motive_2 := fun _ => Bool) e hp (fun a0 a1 a2 a3 => f a0 a1 a2) = true → C e) e hp (fun a0 a1 a2 a3 _ h => k a0 a1 a2 a3 h) hp h
noncomputable def onWhile (e : Stmt) (f : Expr → List Stmt → List Stmt → Bool) : Bool := dite (e.ctorIdx = 11) (fun h => Stmt.While.elim (motive_2 := fun _ => Bool) e h (fun a0 a1 a2 a3 => f a0 a1 a2)) fun _ => false
theorem onWhile_el {e : Stmt} {f : Expr → List Stmt → List Stmt → Bool} {C : Stmt → Prop} (h : onWhile e f = true) (k : ∀ (a0 : Expr) (a1 : List Stmt) (a2 : List Stmt) (a3 : Pos), f a0 a1 a2 = true → C (.While a0 a1 a2 a3)) : C e :=
  dite_el h fun hp h => Stmt.While.elim (motive_2 := fun e => ∀ hp : e.ctorIdx = 11, Stmt.While.elim (motive_2 := fun _ => Bool) e hp (fun a0 a1 a2 a3 => f a0 a1 a2) = true → C e) e hp (fun a0 a1 a2 a3 _ h => k a0 a1 a2 a3 h) hp h
noncomputable def onFor (e : Stmt) (f : Expr → Expr → List Stmt → List Stmt → Bool) : Bool := dite (e.ctorIdx = 9) (fun h => Stmt.For.elim (motive_2 := fun _ => Bool) e h (fun a0 a1 a2 a3 a4 => f a0 a1 a2 a3)) fun _ => false
theorem onFor_el {e : Stmt} {f : Expr → Expr → List Stmt → List Stmt → Bool} {C : Stmt → Prop} (h : onFor e f = true) (k : ∀ (a0 : Expr) (a1 : Expr) (a2 : List Stmt) (a3 : List Stmt) (a4 : Pos), f a0 a1 a2 a3 = true → C (.For a0 a1 a2 a3 a4)) : C e :=
  dite_el h fun hp h => Stmt.For.elim (motive_2 := fun e => ∀ hp : e.ctorIdx = 9, Stmt.For.elim (motive_2 := fun _ => Bool) e hp (fun a0 a1 a2 a3 a4 => f a0 a1 a2 a3) = true → C e) e hp (fun a0 a1 a2 a3 a4 _ h => k a0 a1 a2 a3 a4 h) hp h
noncomputable def onRet (e : Stmt) (f : Option Expr → Bool) : Bool := dite (e.ctorIdx = 3) (fun h => Stmt.Return.elim (motive_2 := fun _ => Bool) e h (fun a0 a1 => f a0)) fun _ => false
theorem onRet_el {e : Stmt} {f : Option Expr → Bool} {C : Stmt → Prop} (h : onRet e f = true) (k : ∀ (a0 : Option Expr) (a1 : Pos), f a0 = true → C (.Return a0 a1)) : C e :=
  dite_el h fun hp h => Stmt.Return.elim (motive_2 := fun e => ∀ hp : e.ctorIdx = 3, Stmt.Return.elim (motive_2 := fun _ => Bool) e hp (fun a0 a1 => f a0) = true → C e) e hp (fun a0 a1 _ h => k a0 a1 h) hp h
noncomputable def onV (e : PE) (f : Nat → Bool) : Bool := dite (e.ctorIdx = 0) (fun h => PE.var.elim (motive_1 := fun _ => Bool) e h f) fun _ => false
theorem onV_el {e : PE} {f : Nat → Bool} {C : PE → Prop} (h : onV e f = true) (k : ∀ (a0 : Nat), f a0 = true → C (.var a0)) : C e :=
  dite_el h fun hp h => PE.var.elim (motive_1 := fun e => ∀ hp : e.ctorIdx = 0, PE.var.elim (motive_1 := fun _ => Bool) e hp f = true → C e) e hp (fun a0 _ h => k a0 h) hp h
noncomputable def onT (e : PE) (f : List PE → Bool) : Bool := dite (e.ctorIdx = 13) (fun h => PE.tuple.elim (motive_1 := fun _ => Bool) e h f) fun _ => false
theorem onT_el {e : PE} {f : List PE → Bool} {C : PE → Prop} (h : onT e f = true) (k : ∀ (a0 : List PE), f a0 = true → C (.tuple a0)) : C e :=
  dite_el h fun hp h => PE.tuple.elim (motive_1 := fun e => ∀ hp : e.ctorIdx = 13, PE.tuple.elim (motive_1 := fun _ => Bool) e hp f = true → C e) e hp (fun a0 _ h => k a0 h) hp h
noncomputable def swB (cx : Cx) (names : Names) (is : List Nat) (e : PE) (es : List Expr) (e' : Expr) : Bool :=
  onTwo is fun i j => onT e fun vs => onTwo vs fun va vb => onV va fun a => onV vb fun b => onTwo es fun n1 n2 => onName n1 fun x p1 => onName n2 fun y p2 => onTuple e' fun es' => onTwo es' fun m1 m2 => onName m1 fun xa _ => onName m2 fun xb _ =>
    wrB cx names i x && (wrB cx names j y && (kOf names x .local && (kOf names y .local && (!(Nat.beq i j) && ((p2.line == p1.line) && (seqB xa (cx.name a) && (seqB xb (cx.name b) && !(seqB xa dbg))))))))
theorem swB_ok {cx : Cx} {names : Names} {is : List Nat} {e : PE} {es : List Expr} {e' : Expr} (k0 : Nat) (q p : Pos) {R : PS → Stmt → Prop} (h : swB cx names is e es e' = true) : MtS1 cx R names (.assignTup is e) (.Assign [.Tuple es k0 q] e' p) :=
  onTwo_el (C := fun is => MtS1 cx R names (.assignTup is e) (.Assign [.Tuple es k0 q] e' p)) h fun i j h =>
  onT_el (C := fun e => MtS1 cx R names (.assignTup [i, j] e) (.Assign [.Tuple es k0 q] e' p)) h fun vs h =>
  onTwo_el (C := fun vs => MtS1 cx R names (.assignTup [i, j] (.tuple vs)) (.Assign [.Tuple es k0 q] e' p)) h fun va vb h =>
  onV_el (C := fun va => MtS1 cx R names (.assignTup [i, j] (.tuple [va, vb])) (.Assign [.Tuple es k0 q] e' p)) h fun a h =>
  onV_el (C := fun vb => MtS1 cx R names (.assignTup [i, j] (.tuple [.var a, vb])) (.Assign [.Tuple es k0 q] e' p)) h fun b h =>
  onTwo_el (C := fun es => MtS1 cx R names (.assignTup [i, j] (.tuple [.var a, .var b])) (.Assign [.Tuple es k0 q] e' p)) h fun n1 n2 h =>
  onName_el (C := fun n1 => MtS1 cx R names (.assignTup [i, j] (.tuple [.var a, .var b])) (.Assign [.Tuple [n1, n2] k0 q] e' p)) h fun x p1 h =>
  onName_el (C := fun n2 => MtS1 cx R names (.assignTup [i, j] (.tuple [.var a, .var b])) (.Assign [.Tuple [.Name x p1, n2] k0 q] e' p)) h fun y p2 h =>
  onTuple_el (C := fun e' => MtS1 cx R names (.assignTup [i, j] (.tuple [.var a, .var b])) (.Assign [.Tuple [.Name x p1, .Name y p2] k0 q] e' p)) h fun es' k2 q3 h =>
  onTwo_el (C := fun es' => MtS1 cx R names (.assignTup [i, j] (.tuple [.var a, .var b])) (.Assign [.Tuple [.Name x p1, .Name y p2] k0 q] (.Tuple es' k2 q3) p)) h fun m1 m2 h =>
  onName_el (C := fun m1 => MtS1 cx R names (.assignTup [i, j] (.tuple [.var a, .var b])) (.Assign [.Tuple [.Name x p1, .Name y p2] k0 q] (.Tuple [m1, m2] k2 q3) p)) h fun xa q1 h =>
  onName_el (C := fun m2 => MtS1 cx R names (.assignTup [i, j] (.tuple [.var a, .var b])) (.Assign [.Tuple [.Name x p1, .Name y p2] k0 q] (.Tuple [.Name xa q1, m2] k2 q3) p)) h fun xb q2 h =>
  an h fun h1 h => an h fun h2 h => an h fun h3 h => an h fun h4 h => an h fun h5 h => an h fun h6 h => an h fun h7 h => an h fun h8 h9 => by
    obtain ⟨rfl, w1⟩ := wrB_ok h1
    obtain ⟨rfl, w2⟩ := wrB_ok h2
    cases seqB_eq h7
    cases seqB_eq h8
    exact .swap _ _ _ _ _ _ _ _ _ _ _ _ _ w1 w2 (beq_iff_eq.mpr (kOf_eq h3)) (beq_iff_eq.mpr (kOf_eq h4)) (nbF (nt h5)) h6 (seqB_ne (nt h9))
noncomputable def chkS (cx : Cx) (names : Names) : Nat → PS → Stmt → Bool
  | 0, _, _ => false
  | k + 1, x, x' => match x with
    | .assign t e => onAssign x' fun ts e' => onOne ts fun y => onName y fun y _ => wrB cx names t y && chkE cx k names e e'
    | .assign2 t u e => onAssign x' fun ts e' => onTwo ts fun y y' => onName y fun y _ => onName y' fun y' _ => wrB cx names t y && (wrB cx names u y' && chkE cx k names e e')
    | .assignTup is e => onAssign x' fun ts e' => onOne ts fun y => onTuple y fun es => swB cx names is e es e' || (namesB cx names is es && (!(isTupleE e') && chkE cx k names e e'))
    | .setItem o i e => onAssign x' fun ts e' => onOne ts fun y => onSub y fun o' i' => chkE cx k names o o' && (chkE cx k names i i' && chkE cx k names e e')
    | .aug t op e => onAug x' fun y op' e' => onName y fun y _ => wrB cx names t y && (decide (op = op') && chkE cx k names e e')
    | .augItem o i op e => onAug x' fun y op' e' => onSub y fun o' i' => decide (op = op') && (chkE cx k names o o' && (chkE cx k names i i' && chkE cx k names e e'))
    | .expr e => onExpr x' fun e' => !(isComp e') && chkE cx k names e e'
    | .ifS t b o => onIfS x' fun t' b' o' => chkE cx k names t t' && (all2 (chkS cx names k) b b' && all2 (chkS cx names k) o o')
    | .whileS t b => onWhile x' fun t' b' o' => onNil o' && (chkE cx k names t t' && all2 (chkS cx names k) b b')
    | .forS t it b => onFor x' fun t' it' b' o' => onNil o' && (tgtB cx names t t' && (chkE cx k names it it' && all2 (chkS cx names k) b b'))
    | .ret e => onRet x' fun o => someB o fun e' => chkE cx k names e e'
noncomputable def MtS (cx : Cx) (names : Names) (x : PS) (x' : Stmt) : Prop := ∃ k, chkS cx names k x x' = true
noncomputable abbrev MtSs (cx : Cx) (names : Names) : List PS → List Stmt → Prop := Rs (MtS cx names)
theorem allS_ok {R : PS → Stmt → Prop} {f : PS → Stmt → Bool} (hf : ∀ {x : PS} {x' : Stmt}, f x x' = true → R x x') {b : List PS} : ∀ {b' : List Stmt}, all2 f b b' = true → Rs R b b' := by
  induction b with
  | nil => exact fun {es'} h => by cases es' with | nil => exact .nil | cons => exact ff h
  | cons e es ih =>
    intro es' h
    cases es' with
    | nil => exact ff h
    | cons e' es' => exact an h fun h1 h2 => .cons (hf h1) (ih h2)
theorem MtS.inv {cx : Cx} {names : Names} {x : PS} {x' : Stmt} (m : MtS cx names x x') : MtS1 cx (MtS cx names) names x x' := by
  obtain ⟨k, h⟩ := m
  cases k with
  | zero => exact ff h
  | succ k =>
    have ce := fun {pe : PE} {e : Expr} (h : chkE cx k names pe e = true) => (⟨k, h⟩ : MtE cx names pe e)
    have wk := fun {x : PS} {x' : Stmt} (h : chkS cx names k x x' = true) => (⟨k, h⟩ : MtS cx names x x')
    cases x with
    | assign t e => exact onAssign_el (C := MtS1 cx (MtS cx names) names _) h fun ts e' p h => onOne_el (C := fun ts => MtS1 cx (MtS cx names) names (.assign t e) (.Assign ts e' p)) h fun y h => onName_el (C := fun y => MtS1 cx (MtS cx names) names (.assign t e) (.Assign [y] e' p)) h fun y q h => an h fun h1 h2 => wr_el (C := fun y => MtS1 cx (MtS cx names) names (.assign t e) (.Assign [.Name y q] e' p)) h1 fun w => .assign _ _ _ w (ce h2)
    | assign2 t u e => exact onAssign_el (C := MtS1 cx (MtS cx names) names _) h fun ts e' p h => onTwo_el (C := fun ts => MtS1 cx (MtS cx names) names (.assign2 t u e) (.Assign ts e' p)) h fun y y' h => onName_el (C := fun y => MtS1 cx (MtS cx names) names (.assign2 t u e) (.Assign [y, y'] e' p)) h fun y q h => onName_el (C := fun y' => MtS1 cx (MtS cx names) names (.assign2 t u e) (.Assign [.Name y q, y'] e' p)) h fun y' q' h => an h fun h1 h => an h fun h2 h3 => wr_el (C := fun y => MtS1 cx (MtS cx names) names (.assign2 t u e) (.Assign [.Name y q, .Name y' q'] e' p)) h1 fun w => wr_el (C := fun y' => MtS1 cx (MtS cx names) names (.assign2 t u e) (.Assign [.Name (cx.name t) q, .Name y' q'] e' p)) h2 fun w' => .assign2 _ _ _ _ _ w w' (ce h3)
    | assignTup is e => exact onAssign_el (C := MtS1 cx (MtS cx names) names _) h fun ts e' p h => onOne_el (C := fun ts => MtS1 cx (MtS cx names) names (.assignTup is e) (.Assign ts e' p)) h fun y h => onTuple_el (C := fun y => MtS1 cx (MtS cx names) names (.assignTup is e) (.Assign [y] e' p)) h fun es kk q h => (Bool.or_eq_true_iff.mp h).elim (fun h => swB_ok kk q p h) fun h => an h fun h1 h => an h fun h2 h3 => .assignTup _ _ _ (namesB_ok h1) (ce h3) (nt h2)
    | setItem o i e => exact onAssign_el (C := MtS1 cx (MtS cx names) names _) h fun ts e' p h => onOne_el (C := fun ts => MtS1 cx (MtS cx names) names (.setItem o i e) (.Assign ts e' p)) h fun y h => onSub_el (C := fun y => MtS1 cx (MtS cx names) names (.setItem o i e) (.Assign [y] e' p)) h fun o' i' q h => an h fun h1 h => an h fun h2 h3 => .setItem _ _ (ce h1) (ce h2) (ce h3)
    | aug t op e => exact onAug_el (C := MtS1 cx (MtS cx names) names _) h fun y op' e' p h => onName_el (C := fun y => MtS1 cx (MtS cx names) names (.aug t op e) (.AugAssign y op' e' p)) h fun y q h => an h fun h1 h => an h fun h2 h3 => wr_el (C := fun y => MtS1 cx (MtS cx names) names (.aug t op e) (.AugAssign (.Name y q) op' e' p)) h1 fun w => eq_el (C := fun op => MtS1 cx (MtS cx names) names (.aug t op e) (.AugAssign (.Name (cx.name t) q) op' e' p)) h2 (.aug _ _ _ _ w (ce h3))
    | augItem o i op e => exact onAug_el (C := MtS1 cx (MtS cx names) names _) h fun y op' e' p h => onSub_el (C := fun y => MtS1 cx (MtS cx names) names (.augItem o i op e) (.AugAssign y op' e' p)) h fun o' i' q h => an h fun h1 h => an h fun h2 h => an h fun h3 h4 => eq_el (C := fun op => MtS1 cx (MtS cx names) names (.augItem o i op e) (.AugAssign (.Subscript o' i' q) op' e' p)) h1 (.augItem _ _ _ (ce h2) (ce h3) (ce h4))
    | expr e => exact onExpr_el (C := MtS1 cx (MtS cx names) names _) h fun e' p h => an h fun h1 h2 => .expr _ (ce h2) (nt h1)
    | ifS t b o => exact onIfS_el (C := MtS1 cx (MtS cx names) names _) h fun t' b' o' p h => an h fun h1 h => an h fun h2 h3 => .ifS _ (ce h1) (allS_ok wk h2) (allS_ok wk h3)
    | whileS t b => exact onWhile_el (C := MtS1 cx (MtS cx names) names _) h fun t' b' o' p h => an h fun h0 h => onNil_el (C := fun o' => MtS1 cx (MtS cx names) names (.whileS t b) (.While t' b' o' p)) h0 (an h fun h1 h2 => .whileS _ (ce h1) (allS_ok wk h2))
    | forS t it b => exact onFor_el (C := MtS1 cx (MtS cx names) names _) h fun t' it' b' o' p h => an h fun h0 h => onNil_el (C := fun o' => MtS1 cx (MtS cx names) names (.forS t it b) (.For t' it' b' o' p)) h0 (an h fun h1 h => an h fun h2 h3 => .forS _ (tgtB_ok h1) (ce h2) (allS_ok wk h3))
    | ret e => exact onRet_el (C := MtS1 cx (MtS cx names) names _) h fun o p h => someB_el (C := fun o => MtS1 cx (MtS cx names) names (.ret e) (.Return o p)) h fun e' h => .ret _ (ce h)
noncomputable def FlR (cx : Cx) (z : Z) (a : PFlow) (b : Flow) : Prop := match a with
  | .next => b = .next
  | .ret v => ∃ x, b = .ret x ∧ VR cx z v x
noncomputable def RunsS (cx : Cx) (A : Around) (names : Names) (env : Env) (t : Sem Flow) (z : Z) (fl : PFlow) (penv' : PEnv) (st' : Store) (s : Shared) : Prop :=
  ∀ (E : Value → Shared → Prop) (Q : Flow → Shared → Prop), (∀ f z' tk, OkZ cx z' → ExtB (own names env) z z' → z'.st = st' → Fr cx names z' env penv' → FlR cx z' fl f → Q f { s with heap := z'.h, toks := tk }) → wpAny (model cx.prog cx.w) A t Q E s
noncomputable def SndS (cx : Cx) (recS : EvS) (n : Nat) : Prop := ∀ {names : Names} {ps : List PS} {body : List Stmt} {env : Env} {penv penv' : PEnv} {z : Z} {s : Shared} {A : Around} {fl : PFlow} {st' : Store}, MtSs cx names ps body → Fr cx names z env penv → OkZ cx z → s.heap = z.h →
  ArOk A n → recS ps penv z.st = some (fl, penv', st') → RunsS cx A names env (execs body env) z fl penv' st' s
section
variable {cx : Cx} {P : PProg} {rec : EvE} {recS : EvS} {call : EvC} {n : Nat} {names : Names} {env : Env} {penv penv' : PEnv} {A : Around} {z : Z} {s : Shared} {v : PV} {st' : Store} {fl : PFlow}
theorem Fr.congr {penv1 penv2 : PEnv} (f : Fr cx names z env penv1) (h : ∀ i v, penv2.get i = some v → penv1.get i = some v) : Fr cx names z env penv2 :=
  ⟨f.kind, f.glob, f.bui, f.freeL, fun i v e => f.ids i v (h i v e), f.raw, fun i v e => f.kinds i v (h i v e), let ⟨m, hm, hv⟩ := f.hasL; ⟨m, hm, fun i v e => hv i v (h i v e)⟩, f.cel, f.apart, f.all, fun i v e => f.cellV i v (h i v e)⟩
theorem swaps_plain {e : Expr} (h : plain e = true) (t : Expr) (line : Nat) (env : Env) (ht : ∀ x p, t ≠ .Name x p) : swapsWith e (some t) line env = pure false := by
  have key : ∀ {a : Expr}, isComp a = true → swapsWith a (some t) line env = pure false := fun {a} ha => comp_el (C := fun a => swapsWith a (some t) line env = pure false) ha (fun _ _ _ _ => by cases t <;> first | rfl | exact absurd rfl (ht _ _)) fun _ _ _ _ _ => by cases t <;> first | rfl | exact absurd rfl (ht _ _)
  cases e <;> first | rfl | exact ff h | exact key rfl
theorem MtE.swaps {e : PE} {e' : Expr} (m : MtE cx names e e') (t : Expr) (line : Nat) (env : Env) (ht : ∀ x p, t ≠ .Name x p) : swapsWith e' (some t) line env = pure false := swaps_plain m.plain t line env ht
theorem swapsN_plain {e : Expr} (h : plain e = true) (x : Str) (p : Pos) (line : Nat) (env : Env) : (isComp e = false ∧ swapsWith e (some (.Name x p)) line env = pure false) ∨ (isComp e = true ∧ ∃ b, swapsWith e (some (.Name x p)) line env = pure b) := by
  cases e <;> first | exact .inl ⟨rfl, rfl⟩ | exact .inr ⟨rfl, _, rfl⟩ | exact ff h
theorem MtE.swapsN {e : PE} {e' : Expr} (m : MtE cx names e e') (x : Str) (p : Pos) (line : Nat) (env : Env) : (isComp e' = false ∧ swapsWith e' (some (.Name x p)) line env = pure false) ∨ (isComp e' = true ∧ ∃ b, swapsWith e' (some (.Name x p)) line env = pure b) := swapsN_plain m.plain x p line env
theorem storeEnd (no : NmOk cx) {t : Nat} {x : Value} (hw : wrOk cx names t = true) (f : Fr cx names z env penv) (k : OkZ cx z) (hz : s.heap = z.h) (hv : VR cx z v x) (q : Pos) {M : Model} {E : Value → Shared → Prop} {Q : Unit → Shared → Prop}
    (hQ : ∀ h' tk, OkZ cx { z with h := h' } → Fr cx names { z with h := h' } env (penv.set t v) → ExtB (own names env) z { z with h := h' } → Q () { s with heap := h', toks := tk }) :
    wpAny M A (assign (.Name (cx.name t) q) env x) Q E s :=
  wpAny_assign_Name (f.store no k hz (Wr.of hw).1 (Wr.of hw).2 hv hQ)
theorem ExtB.changeN {z0 z' : Z} {ow : Addr → Prop} (a : ExtB ow z0 z') {C : Addr} {h' : Heap} (hC : New z0 C) (hk : ∀ b o, b ∉ [C] → z'.h.get? b = some o → h'.get? b = some o) : ExtB ow z0 { z' with h := h' } :=
  ⟨a.sig, a.frz, fun x o hx f =>
    have q := a.prv x o hx f
    have hn : x ∉ [C] := fun hm => hC o (List.mem_singleton.mp hm ▸ hx) (List.mem_singleton.mp hm ▸ f)
    ⟨⟨q.1.b, q.1.l⟩, q.2.1.imp fun o1 e1 => hk x o1 hn e1, fun hn' => hk x o hn (q.2.2 hn')⟩⟩
theorem MtE.comp_el2 {e : PE} {e' : Expr} (m : MtE cx names e e') (hc : isComp e' = true) {C : PE → Expr → Prop} (kl : ∀ elt gens fv elt' gens' scope p, compOk cx names scope fv = true → MtE cx scope.names elt elt' → MtG cx names scope.names gens gens' → C (.comp elt gens fv) (.ListComp elt' gens' scope p))
    (kd : ∀ a b gens fv a' b' gens' scope p, compOk cx names scope fv = true → MtE cx scope.names a a' → MtE cx scope.names b b' → MtG cx names scope.names gens gens' → C (.dcomp a b gens fv) (.DictComp a' b' gens' scope p)) : C e e' := by
  have i := m.inv
  clear m
  induction i with
  | comp p h1 h2 h3 => exact kl _ _ _ _ _ _ p h1 h2 h3
  | dcomp p h1 h2 h3 h4 => exact kd _ _ _ _ _ _ _ _ p h1 h2 h3 h4
  | _ => exact ff hc
theorem assign_fin (no : NmOk cx) {t : Nat} {E : Value → Shared → Prop} {Q : Flow → Shared → Prop} (q : Pos) (hw : wrOk cx names t = true) (f : Fr cx names z env penv)
    (hQ : ∀ f z' tk, OkZ cx z' → ExtB (own names env) z z' → z'.st = st' → Fr cx names z' env (penv.set t v) → FlR cx z' .next f → Q f { s with heap := z'.h, toks := tk }) :
    CompEnd cx A E (some fun x => assignAll x ((assignEach [.Name (cx.name t) q] env).map (·.2))) (fun _ s' => Q .next s') z v st' s := by
  intro x C z1 tk1 k1 e1 s1 v1 hC hfC hns
  show wpAny (model cx.prog cx.w) A (assign (.Name (cx.name t) q) env x) (fun _ s'' => ∃ m, s''.heap.Ns C m ∧ ∀ h', Heap.SameBut C s''.heap h' → Q Flow.next { s'' with heap := h' }) E { s with heap := z1.h, toks := tk1 }
  have apC : Apart env C := ⟨fun e => f.hasL.elim fun m h => h.1.elim fun o h => h.elim fun _ h => h.elim fun _ h => hC o (e ▸ h.1) (e ▸ f.freeL), fun n c hc e => have h := f.cel n c hc; h.2.2.elim fun ov h' => h'.elim fun o h' => hC o (e ▸ h'.1) (e ▸ h.1)⟩
  refine storeEnd no hw (f.ext e1) k1 (s := { s with heap := z1.h, toks := tk1 }) rfl v1 q fun h2 tk2 k2 f2 e2 => ?_
  obtain ⟨m, o, es, ep, ho, r⟩ := hns
  obtain ⟨hfC2, _, hkC⟩ := e2.prv C o ho hfC
  refine ⟨m, ⟨o, es, ep, hkC apC.own, r⟩, fun h3 hs3 => ?_⟩
  have hk3 : ∀ b o, b ∉ [C] → h2.get? b = some o → h3.get? b = some o := fun b o hb e => (hs3.2 b fun h => hb (h ▸ List.mem_singleton_self _)).trans e
  exact hQ .next { z1 with h := h3 } tk2 (change_free k2 hfC2 hs3) (((e1.toB _).trans e2).changeN hC hk3) s1 (f2.stay hk3 apC) rfl
theorem assign_case (no : NmOk cx) (hSE : SndE cx (stepE P rec call) (n + 1)) (hE : SndE cx rec n) (hT : SndT cx rec n) (hA : ArOk A (n + 1)) {t : Nat} {e : PE} {e' : Expr} (q p : Pos) (hw : wrOk cx names t = true) (m : MtE cx names e e') (f : Fr cx names z env penv) (k : OkZ cx z) (hz : s.heap = z.h)
    (h : stepE P rec call e penv z.st = some (v, st')) : RunsS cx A names env (exec (.Assign [.Name (cx.name t) q] e' p) env) z .next (penv.set t v) st' s := by
  intro E Q hQ
  have plain : swapsWith e' (some (.Name (cx.name t) q)) p.line env = pure false → wpAny (model cx.prog cx.w) A (exec (.Assign [.Name (cx.name t) q] e' p) env) Q E s := fun hs => by
    refine wpAny_Assign_Name (hSE m f k hz hA h E _ fun x z1 tk1 k1 e1 s1 v1 => ?_) hs
    refine (f.ext e1).store no k1 rfl (Wr.of hw).1 (Wr.of hw).2 v1 fun h2 tk2 k2 f2 e2 => ?_
    exact hQ .next { z1 with h := h2 } tk2 k2 ((e1.toB _).trans e2) s1 f2 rfl
  rcases m.swapsN (cx.name t) q p.line env with ⟨_, hs⟩ | ⟨hc, b, hs⟩
  · exact plain hs
  · cases b with
    | false => exact plain hs
    | true =>
      rw [exec_Assign_arm]
      refine wpAny_bind (wpAny_standAt ?_)
      have hs' : swapsWithSole [.Name (cx.name t) q] e' p.line env = pure true := hs
      rw [hs']
      refine wpAny_bind (wpAny_pure ?_)
      rw [if_pos rfl]
      have fin := assign_fin (A := A) no (E := E) q hw f hQ
      clear plain hs hs' hSE hQ
      revert h
      apply MtE.comp_el2 m hc
      · intro elt gens fv elt' gens' scope p' hc' me mg h
        cases mg with
        | nil => exact nn h
        | cons mt mi mts mr =>
          rename_i t0 i0 ts0 t' i' ts' r r'
          exact wpAny_bind (wpAny_bind (wpAny_mono (comp_any no hE hT (hA.mono (Nat.le_succ n)) p' i'.pos hc' me (.cons mt mi mts mr) f k hz h fin) (fun _ _ hq => wpAny_pure (wpAny_pure hq)) fun _ _ x => x))
      · intro a b gens fv a' b' gens' scope p' hc' mk mv mg h
        cases mg with
        | nil => exact nn h
        | cons mt mi mts mr =>
          rename_i t0 i0 ts0 t' i' ts' r r'
          exact wpAny_bind (wpAny_bind (wpAny_mono (dcomp_any no hE hT (hA.mono (Nat.le_succ n)) p' i'.pos hc' mk mv (.cons mt mi mts mr) f k hz h fin) (fun _ _ hq => wpAny_pure (wpAny_pure hq)) fun _ _ x => x))
end
end Mine
end
section
namespace Mine
open PySem
section
variable {cx : Cx} {P : PProg} {rec : EvE} {recS : EvS} {call : EvC} {n : Nat} {names : Names} {env : Env} {penv penv' : PEnv} {A : Around} {z : Z} {s : Shared} {v : PV} {st' : Store} {fl : PFlow} {E : Value → Shared → Prop}
set_option maxRecDepth 100000 in
theorem mS {γ : Type} {r : γ} {C : Prop} {x : Option Store} {f : Store → Option γ} (h : (match x with
    | some a => f a
    | none => none) = some r) (k : ∀ a, x = some a → f a = some r → C) : C := by
  cases x with
  | none => exact nn h
  | some a => exact k a rfl h
theorem mN {γ : Type} {r : γ} {C : Prop} {x : Option (PV × Store)} {f : Store → Option γ} (h : (match x with
    | some (.none, st) => f st
    | _ => none) = some r) (k : ∀ st, x = some (.none, st) → f st = some r → C) : C := by
  cases x with
  | none => exact nn h
  | some p =>
    obtain ⟨v, st⟩ := p
    cases v with
    | none => exact k st rfl h
    | _ => exact nn h
theorem rsS {t : Sem Flow} {a : PFlow} {p : PEnv} {st : Store} (h : some (a, p, st) = some (fl, penv', st')) (k : RunsS cx A names env t z a p st s) : RunsS cx A names env t z fl penv' st' s := by cases h; exact k
theorem setAt_list {m i : Nat} {xs : List PV} {ov x : Value} {t : Tok} (hlt : i < xs.length) (hle : xs.length ≤ lim) (hp : z.st[m]? = some (.list xs)) (k : OkZ cx z) (hz : s.heap = z.h) (ha : VR cx z (.ref m) ov) (hv : VR cx z v x) {Q : Unit → Shared → Prop}
    (hQ : ∀ z' tk, OkZ cx z' → Ext z z' → z'.st = z.st.set m (.list (xs.set i v)) → Q () { s with heap := z'.h, toks := tk }) : wpAny (model cx.prog cx.w) A (setItem ov (.int i t) x) Q E s := by
  obtain ⟨l, c, items, rfl, hσ, ho, hvs⟩ := store_list k hp (ha.rv k)
  have hlen := vrs_size hvs
  rw [hlen] at hlt hle
  have ho' := ho; rw [← hz] at ho'
  refine PySem.W.ki_setAt (k := (i : Int)) ho' (Int.natCast_nonneg i) (Int.lt_of_lt_of_le (Int.ofNat_lt.mpr hlt) (Int.le_of_lt (Int.not_le.mp (lim_not hle)))) (Int.ofNat_lt.mpr hlt) ?_
  rw [Int.toNat_natCast]
  have hu := IsL.update (show IsL z.h l items c from ho) (fun its => its.setIfInBounds i x)
  have hs : Heap.ExtBut l z.h (z.h.update l (Obj.mapSeq fun its => its.setIfInBounds i x)) := (Heap.SameBut.update ..).extBut
  rw [hz]
  generalize z.h.update l (Obj.mapSeq fun its => its.setIfInBounds i x) = h2 at hu hs ⊢
  have hp0 : PObj.list xs ≠ .dead := nofun
  exact hQ { z with st := z.st.set m (.list (xs.set i v)), h := h2 } s.toks (k.change hp hp0 hσ hs ⟨_, hu⟩ ⟨_, _, hu, ⟨_, rfl⟩, by rw [Array.toList_setIfInBounds]; exact hvs.set i hv⟩) (k.change_ext hp hp0 hσ hs) rfl
theorem setAt_dict {m : Nat} {k' : PV} {es es' : List (PV × PV)} {ov iv x : Value} (hput : put k' v es = some es') (hc : es.length ≤ 1000) (hp : z.st[m]? = some (.dict es)) (k : OkZ cx z) (hz : s.heap = z.h) (ha : VR cx z (.ref m) ov) (hk : VR cx z k' iv) (hv : VR cx z v x) {Q : Unit → Shared → Prop}
    (hQ : ∀ z' tk, OkZ cx z' → Ext z z' → z'.st = z.st.set m (.dict es') → Q () { s with heap := z'.h, toks := tk }) : wpAny (model cx.prog cx.w) A (setItem ov iv x) Q E s := by
  obtain ⟨d, rfl, hσ⟩ := ha.rv k
  obtain ⟨d', hd', _, _, o, ho, hdr, hsm⟩ := k.obj m _ hp nofun
  cases Option.some.inj (hσ.symm.trans hd')
  have ho' := ho; rw [← hz] at ho'
  have hp0 : PObj.dict es ≠ .dead := nofun
  refine put_sound (z := z) (s := s) hput ho' hdr hk hv hc (fun hk hD hsz hq => wpAny_setItem_pairs hk hD hq hsz) fun h' o' ho2 hd2 hs => ?_
  rw [hz] at hs
  exact hQ { z with st := z.st.set m (.dict es'), h := h' } _ (k.change hp hp0 hσ hs.extBut ⟨o', ho2⟩ ⟨o', ho2, hd2, hsm⟩) (k.change_ext hp hp0 hσ hs.extBut) rfl
theorem setAt_sound {a k' : PV} {st2 : Store} {ov iv x : Value} (h : setAt a k' v z.st = some st2) (k : OkZ cx z) (hz : s.heap = z.h) (ha : VR cx z a ov) (hk : VR cx z k' iv) (hv : VR cx z v x) {Q : Unit → Shared → Prop}
    (hQ : ∀ z' tk, OkZ cx z' → Ext z z' → z'.st = st2 → Q () { s with heap := z'.h, toks := tk }) : wpAny (model cx.prog cx.w) A (setItem ov iv x) Q E s := by
  cases a with
  | ref m =>
    refine oO_el h fun p hp h => ?_
    cases p with
    | list xs =>
      refine oI_vr (R := fun iv => wpAny (model cx.prog cx.w) A (setItem ov iv x) Q E s) h hk fun i t h => bif_el h fun hc e => an hc fun hc h3 => an hc fun h1 h2 => ?_
      cases Option.some.inj e
      obtain ⟨j, rfl⟩ := Int.eq_ofNat_of_zero_le (dt h1)
      exact setAt_list (dt h2) (dt h3) hp k hz ha hv hQ
    | dict es =>
      refine oO_el h fun es' hput h => bif_el h fun hc e => ?_
      cases Option.some.inj e
      exact setAt_dict hput (dt hc) hp k hz ha hk hv hQ
    | _ => exact nn h
  | _ => exact nn h
theorem setItem_case (hSE : SndE cx rec n) (hA : ArOk A n) {o i e : PE} {o' i' e' : Expr} (q p : Pos) (mo : MtE cx names o o') (mi : MtE cx names i i') (me : MtE cx names e e') (f : Fr cx names z env penv) (k : OkZ cx z) (hz : s.heap = z.h)
    (h : stepS1 rec recS (.setItem o i e) penv z.st = some (fl, penv', st')) : RunsS cx A names env (exec (.Assign [.Subscript o' i' q] e' p) env) z fl penv' st' s := by
  refine mV h fun v st1 h1 h => mV h fun a st2 h2 h => mV h fun kk st3 h3 h => mS h fun st4 h4 h => rsS h ?_
  intro E Q hQ
  refine wpAny_Assign_Subscript (hSE me f k hz hA h1 E _ fun x z1 tk1 k1 e1 s1 v1 => ?_) (me.swaps _ _ _ fun _ _ => nofun)
  refine hSE mo (f.ext e1) k1 rfl hA (by rw [s1]; exact h2) E _ fun ov z2 tk2 k2 e2 s2 v2 => ?_
  refine hSE mi ((f.ext e1).ext e2) k2 rfl hA (by rw [s2]; exact h3) E _ fun iv z3 tk3 k3 e3 s3 v3 => ?_
  refine setAt_sound (z := z3) (by rw [s3]; exact h4) k3 rfl (v2.ext e3) v3 ((v1.ext e2).ext e3) fun z4 tk4 k4 e4 s4 => ?_
  exact hQ .next z4 tk4 k4 ((((e1.trans e2).trans e3).trans e4).toB _) s4 ((((f.ext e1).ext e2).ext e3).ext e4) rfl
theorem paug_ints {op : Operator} {a b v : PV} (h : paug op a b = some v) : ∃ i j, a = .int i ∧ b = .int j := by
  cases a with
  | int i => cases b with
    | int j => exact ⟨i, j, rfl, rfl⟩
    | _ => exact nn h
  | _ => exact nn h
theorem aug_case (no : NmOk cx) (hSE : SndE cx rec n) (hA : ArOk A n) {t : Nat} {op : Operator} {e : PE} {e' : Expr} (q p : Pos) (hw : wrOk cx names t = true) (me : MtE cx names e e') (f : Fr cx names z env penv) (k : OkZ cx z) (hz : s.heap = z.h)
    (h : stepS1 rec recS (.aug t op e) penv z.st = some (fl, penv', st')) : RunsS cx A names env (exec (.AugAssign (.Name (cx.name t) q) op e' p) env) z fl penv' st' s := by
  refine mO h fun a ha h => mV h fun b st1 h1 h => mO h fun v hv h => rsS h ?_
  intro E Q hQ
  refine wpAny_AugAssign_Name (f.load no hz ha fun x hx => ?_)
  refine hSE me f k hz hA h1 E _ fun y z1 tk1 k1 e1 s1 v1 => ?_
  obtain ⟨i, j, rfl, rfl⟩ := paug_ints hv
  refine aug_sound hv k1 rfl ((hx.ext e1).rv k1) (v1.rv k1) E _ fun r z2 tk2 k2 e2 s2 v2 => ?_
  refine ((f.ext e1).ext e2).store no k2 rfl (Wr.of hw).1 (Wr.of hw).2 v2 fun h3 tk3 k3 f3 e3 => ?_
  exact hQ .next { z2 with h := h3 } tk3 k3 (((e1.trans e2).toB _).trans e3) (s2.trans s1) f3 rfl
theorem MtE.noSlice {e : PE} {e' : Expr} (m : MtE cx names e e') (ov iv new : Value) : augStore e' ov iv new = (do holding [new, ov, iv] (setItem ov iv new); release [new, ov, iv] []; pure .next) := by
  have h := m.plain
  clear m
  cases e' <;> first | rfl | exact ff h
theorem augItem_case (hSE : SndE cx rec n) (hA : ArOk A n) {o i e : PE} {o' i' e' : Expr} {op : Operator} (q p : Pos) (mo : MtE cx names o o') (mi : MtE cx names i i') (me : MtE cx names e e') (f : Fr cx names z env penv) (k : OkZ cx z) (hz : s.heap = z.h)
    (h : stepS1 rec recS (.augItem o i op e) penv z.st = some (fl, penv', st')) : RunsS cx A names env (exec (.AugAssign (.Subscript o' i' q) op e' p) env) z fl penv' st' s := by
  refine mV h fun a st1 h1 h => mV h fun kk st2 h2 h => mO h fun x hx h => mV h fun y st3 h3 h => mO h fun v hv h => mS h fun st4 h4 h => rsS h ?_
  intro E Q hQ
  refine wpAny_AugAssign_SubscriptAny (hSE mo f k hz hA h1 E _ fun ov z1 tk1 k1 e1 s1 v1 => ?_) (fun ov iv new => mi.noSlice ov iv new)
  refine hSE mi (f.ext e1) k1 rfl hA (by rw [s1]; exact h2) E _ fun iv z2 tk2 k2 e2 s2 v2 => ?_
  have hrd := VRel.rd k2 (v1.ext e2)
  rw [s2] at hrd
  refine idx_sound (z := z2) hx k2 rfl hrd (v2.rv k2) E _ fun old z3 tk3 k3 e3 s3 v3 => ?_
  refine hSE me (((f.ext e1).ext e2).ext e3) k3 rfl hA (by rw [s3, s2]; exact h3) E _ fun yv z4 tk4 k4 e4 s4 v4 => ?_
  refine aug_sound hv k4 rfl ((v3.ext e4).rv k4) (v4.rv k4) E _ fun nv z5 tk5 k5 e5 s5 v5 => ?_
  refine setAt_sound (z := z5) (by rw [s5, s4]; exact h4) k5 rfl ((((v1.ext e2).ext e3).ext e4).ext e5) (((v2.ext e3).ext e4).ext e5) v5 fun z6 tk6 k6 e6 s6 => ?_
  exact hQ .next z6 tk6 k6 ((((((e1.trans e2).trans e3).trans e4).trans e5).trans e6).toB _) s6 ((((((f.ext e1).ext e2).ext e3).ext e4).ext e5).ext e6) rfl
theorem expr_case (hSE : SndE cx rec n) (hA : ArOk A n) {e : PE} {e' : Expr} (p : Pos) (me : MtE cx names e e') (hc : isComp e' = false) (f : Fr cx names z env penv) (k : OkZ cx z) (hz : s.heap = z.h)
    (h : stepS1 rec recS (.expr e) penv z.st = some (fl, penv', st')) : RunsS cx A names env (exec (.Expr e' p) env) z fl penv' st' s := by
  refine mN h fun st1 h1 h => rsS h ?_
  intro E Q hQ
  refine wpAny_Expr (hSE me f k hz hA h1 E _ fun x z1 tk1 k1 e1 s1 v1 => ?_) (by unfold interactive; rw [f.kind]; rfl) ?_
  · cases v1
    exact hQ .next z1 tk1 k1 (e1.toB _) s1 (f.ext e1) rfl
  · have h := me.plain
    clear me
    cases e' <;> first | rfl | exact ff h | exact ff hc.symm
theorem ret_case (hSE : SndE cx rec n) (hA : ArOk A n) {e : PE} {e' : Expr} (p : Pos) (me : MtE cx names e e') (f : Fr cx names z env penv) (k : OkZ cx z) (hz : s.heap = z.h)
    (h : stepS1 rec recS (.ret e) penv z.st = some (fl, penv', st')) : RunsS cx A names env (exec (.Return (some e') p) env) z fl penv' st' s := by
  refine mV h fun v st1 h1 h => rsS h ?_
  intro E Q hQ
  exact wpAny_Return_some (hSE me f k hz hA h1 E _ fun x z1 tk1 k1 e1 s1 v1 => hQ (.ret x) z1 tk1 k1 (e1.toB _) s1 (f.ext e1) ⟨x, rfl, v1⟩)
theorem if_case (hT : SndT cx rec n) (hS : SndS cx recS n) (hA : ArOk A n) {t : PE} {b o : List PS} {t' : Expr} {b' o' : List Stmt} (p : Pos) (mt : MtE cx names t t') (mb : MtSs cx names b b') (mo : MtSs cx names o o') (f : Fr cx names z env penv) (k : OkZ cx z) (hz : s.heap = z.h)
    (h : stepS1 rec recS (.ifS t b o) penv z.st = some (fl, penv', st')) : RunsS cx A names env (exec (.If t' b' o' p) env) z fl penv' st' s := by
  refine mT h fun c st1 h1 h => ?_
  intro E Q hQ
  refine wpAny_If (hT mt f k hz hA h1 E _ fun z1 tk k1 e1 s1 => ?_)
  cases c with
  | true => exact hS mb (f.ext e1) k1 (s := { s with heap := z1.h, toks := tk }) rfl hA (by rw [s1]; exact h) E Q fun fl' z2 tk2 k2 e2 s2 f2 hf => hQ fl' z2 tk2 k2 ((e1.toB _).trans e2) s2 f2 hf
  | false => exact hS mo (f.ext e1) k1 (s := { s with heap := z1.h, toks := tk }) rfl hA (by rw [s1]; exact h) E Q fun fl' z2 tk2 k2 e2 s2 f2 hf => hQ fl' z2 tk2 k2 ((e1.toB _).trans e2) s2 f2 hf
end
end Mine
end
section
namespace Mine
open PySem
section
variable {cx : Cx} {P : PProg} {rec : EvE} {recS : EvS} {call : EvC} {n : Nat} {names : Names} {env : Env} {penv penv' : PEnv} {A : Around} {z : Z} {s : Shared} {v : PV} {st' : Store} {fl : PFlow} {E : Value → Shared → Prop}
theorem mLs {γ : Type} {r : γ} {C : Prop} {x : Option (List PV)} {f : List PV → Option γ} (h : (match x with
    | some a => f a
    | none => none) = some r) (k : ∀ a, x = some a → f a = some r → C) : C := by
  cases x with
  | none => exact nn h
  | some a => exact k a rfl h
theorem lenS_el {α : Type} {C : List α → Prop} {n : Nat} (k : ∀ a (l : List α), l.length = n → C (a :: l)) (l : List α) (h : l.length = n + 1) : C l := by
  cases l with
  | nil => cases h
  | cons a l => exact k a l (Nat.succ.inj h)
theorem len1_el {α : Type} {C : List α → Prop} (k : ∀ a, C [a]) : ∀ l : List α, l.length = 1 → C l := lenS_el fun a l h => by
  cases l with
  | nil => exact k a
  | cons => cases h
theorem len2_el {α : Type} {C : List α → Prop} (k : ∀ a b, C [a, b]) : ∀ l : List α, l.length = 2 → C l := lenS_el fun a => len1_el (C := fun l => C (a :: l)) (k a)
theorem assign2_case (no : NmOk cx) (hSE : SndE cx rec n) (hA : ArOk A n) {t u : Nat} {e : PE} {e' : Expr} (q q' p : Pos) (hw : wrOk cx names t = true) (hw' : wrOk cx names u = true) (me : MtE cx names e e') (f : Fr cx names z env penv) (k : OkZ cx z) (hz : s.heap = z.h)
    (h : stepS1 rec recS (.assign2 t u e) penv z.st = some (fl, penv', st')) : RunsS cx A names env (exec (.Assign [.Name (cx.name t) q, .Name (cx.name u) q'] e' p) env) z fl penv' st' s := by
  refine mV h fun v st1 h1 h => rsS h ?_
  intro E Q hQ
  refine wpAny_Assign_two (hSE me f k hz hA h1 E _ fun x z1 tk1 k1 e1 s1 v1 => ?_) rfl (by have h := me.plain; clear me; cases e' <;> first | rfl | exact ff h)
  refine storeEnd no hw (f.ext e1) k1 (s := { s with heap := z1.h, toks := tk1 }) rfl v1 q fun h2 tk2 k2 f2 e2 => ?_
  refine storeEnd no hw' f2 k2 (s := { s with heap := h2, toks := tk2 }) rfl (v1.extB e2) q' fun h3 tk3 k3 f3 e3 => ?_
  exact hQ .next { z1 with h := h3 } tk3 k3 (((e1.toB _).trans e2).trans e3) s1 f3 rfl
theorem draw_sound {I : Addr} {items : List PV} {fp : List Addr} {P : Nat → Value → Prop} {St : Nat → Heap → Prop} (it : It cx I items fp P St) (hh : A.handled = none) (m : Nat) : ∀ (j : Nat) {z : Z} {s : Shared} {Q : List Value → Shared → Prop}, m + j = items.length →
    ItZ cx I items fp P St z j → OkZ cx z → s.heap = z.h → (∀ xs h' tk, OkZ cx { z with h := h' } → ItZ cx I items fp P St { z with h := h' } items.length → VRs cx { z with h := h' } (items.drop j) xs → (∀ b o, b ∉ [I] → z.h.get? b = some o → h'.get? b = some o) → Q xs { s with heap := h', toks := tk }) →
    wpAny (model cx.prog cx.w) A (draw (.ref I) m) Q E s := by
  induction m with
  | zero =>
    intro j z s Q hm t k hz hQ
    have hj : j = items.length := (Nat.zero_add j).symm.trans hm
    have := hQ [] z.h s.toks k (hj ▸ t) (by rw [hj, List.drop_length]; exact .nil) (fun _ _ _ e => e)
    rw [← hz] at this
    exact wpAny_pure this
  | succ m ih =>
    intro j z s Q hm t k hz hQ
    have hm' : m + (j + 1) = items.length := (Nat.succ_add_eq_add_succ m j).symm.trans hm
    have hlt : j < items.length := hm' ▸ Nat.lt_of_lt_of_le (Nat.lt_succ_self j) (Nat.le_add_left ..)
    show wpAny _ A (pyNext (.ref I) >>= _) Q E s
    refine wpAny_bind (t.next it k hz hh (List.getElem?_eq_getElem hlt) fun v h1 tk1 k1 t1 v1 hk1 => ?_)
    refine wpAny_bind (wpAny_holding (ih (j + 1) (s := { s with heap := h1, toks := tk1 }) hm' t1 k1 rfl fun xs h2 tk2 k2 t2 v2 hk2 => wpAny_pure ?_))
    exact hQ (v :: xs) h2 tk2 k2 t2 (by rw [List.drop_eq_getElem_cons hlt]; exact .cons v1 v2) fun b o hb e => hk2 b o hb (hk1 b o hb e)
theorem unpack_tuple {vs : List PV} {x : Value} (hh : A.handled = none) (k : OkZ cx z) (hz : s.heap = z.h) (hv : VR cx z (.tuple vs) x) {targets : List (Bool × (Value → Sem Unit))} (hn : targets.length = vs.length) (hstar : targets.findIdx? (·.1) = none)
    {Q : Unit → Shared → Prop} (hQ : ∀ xs z' tk, OkZ cx z' → Ext z z' → z'.st = z.st → VRs cx z' vs xs → wpAny (model cx.prog cx.w) A (assignInOrder (targets.map (·.2)) xs) Q E { s with heap := z'.h, toks := tk }) :
    wpAny (model cx.prog cx.w) A (unpack x targets) Q E s := by
  have hnn := none_at_size hz
  obtain ⟨a, m, items, rfl, ha, hs⟩ := hv.rv k
  refine wpAny_unpack_tuple hh (tup_at hz ha) (hn.trans (vrs_size hs)) hstar fun h1 hk => ?_
  have hk' : ∀ b o, z.h.get? b = some o → h1.get? b = some o := fun b o e => hk b o (fun hb => nn (hnn.symm.trans (hb ▸ e))) (by rw [hz]; exact e)
  exact hQ items.toList { z with h := h1 } s.toks (k.keep fun b o e _ => hk' b o e) (.keep hk') rfl hs
theorem unpack_list {vs : List PV} {x : Value} (hc : decide (vs.length ≤ lim) = true) (hh : A.handled = none) (k : OkZ cx z) (hz : s.heap = z.h) (hv : VR cx z (.list vs) x) {targets : List (Bool × (Value → Sem Unit))} (hn : targets.length = vs.length) (hstar : targets.findIdx? (·.1) = none)
    {Q : Unit → Shared → Prop} (hQ : ∀ xs z' tk, OkZ cx z' → Ext z z' → z'.st = z.st → VRs cx z' vs xs → wpAny (model cx.prog cx.w) A (assignInOrder (targets.map (·.2)) xs) Q E { s with heap := z'.h, toks := tk }) :
    wpAny (model cx.prog cx.w) A (unpack x targets) Q E s := by
  unfold unpack
  rw [hn, hstar]
  refine wpAny_bind (wpAny_holding ?_)
  unfold unpackItems
  have hx : s.TypeIs x "list" := (hv.rv k).elim fun a h => h.elim fun m h => h.elim fun items h => h.1 ▸ (lst_at hz h.2.1).typeIs
  unfold notIterableAtAll
  refine wpAny_bind (wpAny_bind (wpAny_specialOf hx slot_list_iter.lookup ?_))
  refine wpAny_pure ?_
  rw [if_neg Bool.false_ne_true]
  have hit : itemsOf z.st (.list vs) = some (vs, z.st) := congrArg (fun c => bif c then some (vs, z.st) else none) hc
  refine wpAny_bind (wpAny_holding (iter_sound hit k hz hv ?_))
  intro I fp P St z1 tk1 it tz k1 e1 s1 hI
  refine wpAny_bind (wpAny_holding (draw_sound it hh vs.length 0 rfl tz k1 (s := { s with heap := z1.h, toks := tk1 }) rfl fun ys h2 tk2 k2 t2 v2 hk2 => ?_))
  rw [List.drop_zero] at v2
  rw [if_neg (Nat.not_lt.mpr (Nat.le_of_eq v2.length))]
  refine wpAny_bind (wpAny_holding (t2.done it k2 (s := { s with heap := h2, toks := tk2 }) rfl hh rfl fun h3 tk3 k3 hk3 => ?_))
  rw [if_neg (show ¬ (Option.isSome (none : Option Value) = true) from Bool.false_ne_true)]
  refine wpAny_pure ?_
  have e13 : Ext z { z1 with h := h3 } := ⟨e1.sig, e1.frz, fun b o hb hf =>
    have q := e1.prv b o hb hf
    have hbI : b ∉ [I] := fun hm => nn (hI.symm.trans (List.mem_singleton.mp hm ▸ hb))
    ⟨hk3 b o hbI (hk2 b o hbI q.1), q.2.b, q.2.l⟩⟩
  exact hQ ys { z1 with h := h3 } tk3 k3 e13 s1 v2
theorem unpack_sound {vs : List PV} {x : Value} (h : unpackL v = some vs) (hh : A.handled = none) (k : OkZ cx z) (hz : s.heap = z.h) (hv : VR cx z v x) {targets : List (Bool × (Value → Sem Unit))} (hn : targets.length = vs.length) (hstar : targets.findIdx? (·.1) = none)
    {Q : Unit → Shared → Prop} (hQ : ∀ xs z' tk, OkZ cx z' → Ext z z' → z'.st = z.st → VRs cx z' vs xs → wpAny (model cx.prog cx.w) A (assignInOrder (targets.map (·.2)) xs) Q E { s with heap := z'.h, toks := tk }) :
    wpAny (model cx.prog cx.w) A (unpack x targets) Q E s := by
  cases v with
  | tuple l => cases Option.some.inj h; exact unpack_tuple hh k hz hv hn hstar hQ
  | list l => exact bif_el h fun hc e => by cases Option.some.inj e; exact unpack_list hc hh k hz hv hn hstar hQ
  | _ => exact nn h
theorem assignTup_case (no : NmOk cx) (hSE : SndE cx rec n) (hA : ArOk A n) {is : List Nat} {es : List Expr} {e : PE} {e' : Expr} (kk : Nat) (q p : Pos) (hm : MtN cx names is es) (me : MtE cx names e e') (ht : isTupleE e' = false) (f : Fr cx names z env penv) (k : OkZ cx z) (hz : s.heap = z.h)
    (h : stepS1 rec recS (.assignTup is e) penv z.st = some (fl, penv', st')) : RunsS cx A names env (exec (.Assign [.Tuple es kk q] e' p) env) z fl penv' st' s := by
  refine mV h fun v st1 h1 h => mLs h fun vs h2 h => mE h fun penv2 h3 h => rsS h ?_
  intro E Q hQ
  obtain ⟨hl1, hl2⟩ := MtN.each env hm
  have hsw : swapsWithSole [.Tuple es kk q] e' p.line env = pure false := me.swaps (.Tuple es kk q) p.line env (fun _ _ => nofun)
  have hst : swappedStores [.Tuple es kk q] e' env = pure none := by
    have h := me.plain
    clear me h1 hsw
    cases e' <;> first | rfl | exact ff h | exact ff ht.symm
  refine PyProof.Rows.Assign_Tuple (hSE me f k hz hA h1 E _ fun x z1 tk1 k1 e1 s1 v1 => ?_) hsw hst
  rw [arm_assign_Tuple]
  refine wpAny_bind (wpAny_standAt (unpack_sound h2 hA.hh k1 (s := { s with heap := z1.h, toks := tk1 }) rfl v1 (hl1.trans (bindAll_len h3)) hl2 fun xs z2 tk2 k2 e2 s2 v2 => ?_))
  refine names_sound no hm k2 ((f.ext e1).ext e2) (s := { s with heap := z2.h, toks := tk2 }) rfl v2 h3 fun h4 tk4 k4 f4 e4 => ?_
  exact hQ .next { z2 with h := h4 } tk4 k4 (((e1.trans e2).toB _).trans e4) (s2.trans s1) f4 rfl
theorem swapped_two {x y a b : Str} {p1 p2 q q1 q2 q3 : Pos} {k k2 : Nat} (hf : env.scope.kind = .function) (hx : env.kindOf x = some .local) (hy : env.kindOf y = some .local) (hp : (p2.line == p1.line) = true) (hne : x ≠ y) (ha : (a == ("__debug__" : Str)) = false) :
    swappedStores [.Tuple [.Name x p1, .Name y p2] k q] (.Tuple [.Name a q1, .Name b q2] k2 q3) env = pure (some [x, y]) := by
  have hb : env.blockKind = .function := by unfold Env.blockKind; rw [hf]; rfl
  have h1 : constantsAlone 8 (.Name a q1) = false := ha
  have h2 : ∀ c q, foldedForSure 8 (.Name c q) = false := fun _ _ => rfl
  have h3 : [x, y].eraseDups = [x, y] := by rw [List.eraseDups_cons, List.filter_cons_of_pos (by rw [beq_eq_false_iff_ne.mpr (Ne.symm hne)]; rfl)]; rfl
  delta swappedStores
  refine (if_neg (by rw [hb]; exact Bool.false_ne_true)).trans ((if_neg (show ¬ (false = true) from Bool.false_ne_true)).trans ?_)
  have hx' : (env.kindOf x == some .local) = true := beq_iff_eq.mpr hx
  have hy' : (env.kindOf y == some .local) = true := beq_iff_eq.mpr hy
  have h4 : (Expr.Name x p1).pos = p1 := rfl
  simp only [List.head?_cons, Option.map_some, Option.getD_some, h4, List.filterMap_cons, List.filterMap_nil, hx', hy', hp, beq_self_eq_true, Bool.and_self, if_true, h3, List.all_cons, h1, h2, Bool.false_and]
  rfl
theorem set_swap {i j m : Nat} {a b w : PV} (hij : i ≠ j) (h : ((penv.set i a).set j b).get m = some w) : ((penv.set j b).set i a).get m = some w := by
  rw [get_set, get_set] at h ⊢
  by_cases h1 : m = j
  · rw [if_pos h1] at h
    rw [if_neg (fun e => hij (e.symm.trans h1)), if_pos h1]; exact h
  · rw [if_neg h1] at h
    rw [if_neg h1]; exact h
theorem swap_case (G : Glob cx P) (hSE : SndE cx (stepE P rec call) (n + 1)) (hE : SndE cx rec n) (hA : ArOk A (n + 1)) {i j a b : Nat} (kk k2 : Nat) (p1 p2 q q1 q2 q3 p : Pos) (hw : wrOk cx names i = true) (hw' : wrOk cx names j = true) (hli : localOk names (cx.name i) = true) (hlj : localOk names (cx.name j) = true) (hij : (i == j) = false)
    (hp : (p2.line == p1.line) = true) (ha : (cx.name a == ("__debug__" : Str)) = false) (f : Fr cx names z env penv) (k : OkZ cx z) (hz : s.heap = z.h)
    (h : stepS1 (stepE P rec call) recS (.assignTup [i, j] (.tuple [.var a, .var b])) penv z.st = some (fl, penv', st')) :
    RunsS cx A names env (exec (.Assign [.Tuple [.Name (cx.name i) p1, .Name (cx.name j) p2] kk q] (.Tuple [.Name (cx.name a) q1, .Name (cx.name b) q2] k2 q3) p) env) z fl penv' st' s := by
  have me : MtE cx names (.tuple [.var a, .var b]) (.Tuple [.Name (cx.name a) q1, .Name (cx.name b) q2] k2 q3) := ⟨2, (by rw [seqB_self, seqB_self]; rfl : (seqB (cx.name a) (cx.name a) && (seqB (cx.name b) (cx.name b) && true)) = true)⟩
  refine mV h fun v st1 h1 h => mLs h fun vs h2 h => mE h fun penv2 h3 h => rsS h ?_
  intro E Q hQ
  have hne : cx.name i ≠ cx.name j := fun e => beq_eq_false_iff_ne.mp hij (G.nm.inj i j (Wr.of hw).1 (Wr.of hw').1 e)
  have hki : env.kindOf (cx.name i) = some .local := (f.raw _ _ (beq_iff_eq.mp hli)).1 nofun
  have hkj : env.kindOf (cx.name j) = some .local := (f.raw _ _ (beq_iff_eq.mp hlj)).1 nofun
  have hvt : ∃ va vb, v = .tuple [va, vb] ∧ vs = [va, vb] ∧ (penv.set i va).set j vb = penv2 := mL h1 fun ws st2 h4 h1 => bif_el h1 fun _ e => by
    cases Option.some.inj e
    cases Option.some.inj h2
    exact len2_el (C := fun ws => bindAll [i, j] ws penv = some penv2 → ∃ va vb, PV.tuple ws = .tuple [va, vb] ∧ ws = [va, vb] ∧ (penv.set i va).set j vb = penv2) (fun va vb h3 => ⟨va, vb, rfl, rfl, Option.some.inj h3⟩) _ (bindAll_len h3).symm h3
  obtain ⟨va, vb, rfl, rfl, rfl⟩ := hvt
  refine PyProof.Rows.Assign_Tuple_swapped (names := [cx.name i, cx.name j]) (hSE me f k hz hA h1 E _ fun x z1 tk1 k1 e1 s1 v1 => ?_) rfl (swapped_two f.kind hki hkj hp hne ha)
  obtain ⟨l, m, items, rfl, hB, hs⟩ := v1.rv k1
  have hn := none_at_size (z := z1) (s := { s with heap := z1.h, toks := tk1 }) rfl
  have hT : ({ s with heap := z1.h, toks := tk1 } : Shared).heap.IsTuple l items := tup_at (z := z1) rfl hB
  show wpAny _ A (unpackItems (.ref l) [va, vb].length none) _ E _
  rw [vrs_size hs]
  refine wpAny_unpackItems_tuple hA.hh hT fun h2' hk2 => ?_
  have hk' : ∀ b o, z1.h.get? b = some o → h2'.get? b = some o := fun b o e => hk2 b o (fun hb => nn (hn.symm.trans (hb ▸ e))) e
  have k2' : OkZ cx { z1 with h := h2' } := k1.keep fun b o e _ => hk' b o e
  have e2 : Ext z1 { z1 with h := h2' } := .keep hk'
  have f2 := (f.ext e1).ext e2
  obtain ⟨xa, xb, hitems, hva, hvb⟩ : ∃ xa xb, items.toList = [xa, xb] ∧ VR cx z1 va xa ∧ VR cx z1 vb xb := hs.cons_el (C := fun its => ∃ xa xb, its = [xa, xb] ∧ VR cx z1 va xa ∧ VR cx z1 vb xb) fun xa us h1 hs => (VRs.one hs).elim fun xb h => ⟨xa, xb, congrArg (xa :: ·) h.1, h1, h.2⟩
  rw [hitems]
  show wpAny _ A (assignInOrder [bindName env (cx.name j), bindName env (cx.name i)] [xb, xa]) _ E _
  refine PyProof.Rows.assignInOrder_cons (wpAny_bindName (f2.store G.nm k2' (s := { s with heap := h2', toks := tk1 }) rfl (Wr.of hw').1 (Wr.of hw').2 (hvb.ext e2) fun h5 tk5 k5 f5 e5 => ?_))
  refine PyProof.Rows.assignInOrder_cons (wpAny_bindName (f5.store G.nm k5 (s := { s with heap := h5, toks := tk5 }) rfl (Wr.of hw).1 (Wr.of hw).2 ((hva.ext e2).extB e5) fun h6 tk6 k6 f6 e6 => ?_))
  exact PyProof.Rows.assignInOrder_nil (hQ .next { z1 with h := h6 } tk6 k6 ((((e1.trans e2).toB _).trans e5).trans e6) s1 (f6.congr fun m w hmw => set_swap (beq_eq_false_iff_ne.mp hij) hmw) rfl)
end
end Mine
end
section
namespace Mine
open PySem
section
variable {cx : Cx} {P : PProg} {rec : EvE} {recS : EvS} {call : EvC} {n : Nat} {names : Names} {env : Env} {penv penv' : PEnv} {A : Around} {z : Z} {s : Shared} {v : PV} {st' : Store} {fl : PFlow} {E : Value → Shared → Prop}
theorem mF {C : Prop} {r : PFlow × PEnv × Store} {x : Option (PFlow × PEnv × Store)} {f : PEnv → Store → Option (PFlow × PEnv × Store)} (h : (match x with
    | some (.next, env, st) => f env st
    | x => x) = some r) (kn : ∀ p st, x = some (.next, p, st) → f p st = some r → C) (kr : ∀ v p st, x = some (.ret v, p, st) → (PFlow.ret v, p, st) = r → C) : C := by
  cases x with
  | none => exact nn h
  | some q =>
    obtain ⟨fl, p, st⟩ := q
    cases fl with
    | next => exact kn p st rfl h
    | ret v => exact kr v p st rfl (Option.some.inj h)
theorem fl_next {C : Flow → Prop} {b : Flow} (h : FlR cx z .next b) (k : C .next) : C b := (show b = .next from h) ▸ k
theorem whileN_el {test : PEnv → Store → Option (Bool × Store)} {body : PEnv → Store → Option (PFlow × PEnv × Store)} {m : Nat} {p : PEnv} {st : Store} {r : PFlow × PEnv × Store} {C : Prop} (h : whileN test body (m + 1) p st = some r)
    (kt : ∀ st1, test p st = some (true, st1) → (match body p st1 with
      | some (.next, env, st) => whileN test body m env st
      | x => x) = some r → C) (kf : ∀ st1, test p st = some (false, st1) → (PFlow.next, p, st1) = r → C) : C :=
  mT h fun b st1 h1 h => by
    cases b with
    | true => exact kt st1 h1 h
    | false => exact kf st1 h1 (Option.some.inj h)
inductive WhileAt (cx : Cx) (names : Names) (env : Env) (z : Z) (s : Shared) (F : Nat → PEnv → Store → Prop) : Nat → Shared → Prop
  | mk (m : Nat) (z1 : Z) (penv1 : PEnv) (tk : Nat) : OkZ cx z1 → ExtB (own names env) z z1 → Fr cx names z1 env penv1 → F m penv1 z1.st → WhileAt cx names env z s F m { s with heap := z1.h, toks := tk }
theorem while_case (hT : SndT cx rec n) (hS : SndS cx recS n) (hA : ArOk A n) {t : PE} {b : List PS} {t' : Expr} {b' : List Stmt} (p : Pos) (mt : MtE cx names t t') (mb : MtSs cx names b b') (f : Fr cx names z env penv) (k : OkZ cx z) (hz : s.heap = z.h)
    (h : stepS1 rec recS (.whileS t b) penv z.st = some (fl, penv', st')) : RunsS cx A names env (exec (.While t' b' [] p) env) z fl penv' st' s := by
  intro E Q hQ
  have hs : s = { s with heap := z.h, toks := s.toks } := by rw [← hz]
  refine wpAny_While (codeAny_whileLoop (WhileAt cx names env z s fun m penv1 st => whileN (evTest rec t) (recS b) m penv1 st = some (fl, penv', st')) ?_ 64 (hs ▸ .mk 64 z penv s.toks k (.refl _ _) f h))
  intro m s' hm
  induction hm with
  | mk z1 penv1 tk1 k1 e1 f1 h1 =>
  cases m with
  | zero => exact nn h1
  | succ m =>
    refine whileN_el h1 (fun st2 h2 h1 => ?_) fun st2 h2 h1 => ?_
    · refine hT mt f1 k1 (s := { s with heap := z1.h, toks := tk1 }) rfl hA h2 _ _ fun z2 tk2 k2 e2 s2 => ?_
      rw [if_pos rfl]
      refine mF h1 (fun penv3 st3 h3 h1 => ?_) fun w penv3 st3 h3 h1 => ?_
      · refine hS mb (f1.ext e2) k2 (s := { s with heap := z2.h, toks := tk2 }) rfl hA (by rw [s2]; exact h3) _ _ fun fl' z3 tk3 k3 e3 s3 f3 hf => ?_
        cases (show fl' = .next from hf)
        exact ⟨m, Nat.lt_succ_self m, .mk m z3 penv3 tk3 k3 ((e1.trans (e2.toB _)).trans e3) f3 (by rw [s3]; exact h1)⟩
      · refine hS mb (f1.ext e2) k2 (s := { s with heap := z2.h, toks := tk2 }) rfl hA (by rw [s2]; exact h3) _ _ fun fl' z3 tk3 k3 e3 s3 f3 hf => ?_
        cases h1
        obtain ⟨x, rfl, hv⟩ := hf
        exact hQ _ z3 tk3 k3 ((e1.trans (e2.toB _)).trans e3) s3 f3 ⟨x, rfl, hv⟩
    · refine hT mt f1 k1 (s := { s with heap := z1.h, toks := tk1 }) rfl hA h2 _ _ fun z2 tk2 k2 e2 s2 => ?_
      cases h1
      rw [if_neg Bool.false_ne_true]
      exact wpAny_execs_nil (hQ .next z2 tk2 k2 (e1.trans (e2.toB _)) s2 (f1.ext e2) rfl)
inductive ForAt (cx : Cx) (names : Names) (env : Env) (items : List PV) (I : Addr) (fp : List Addr) (PP : Nat → Value → Prop) (St : Nat → Heap → Prop) (z : Z) (s : Shared) (F : List PV → PEnv → Store → Prop) : Nat → Shared → Prop
  | mk (z1 : Z) (penv1 : PEnv) (tk j : Nat) : j ≤ items.length → ItZ cx I items fp PP St z1 j → OkZ cx z1 → Fr cx names z1 env penv1 → ExtB (own names env) z z1 → F (items.drop j) penv1 z1.st → ForAt cx names env items I fp PP St z s F (items.length + 1 - j) { s with heap := z1.h, toks := tk }
theorem for_case (no : NmOk cx) (hSE : SndE cx rec n) (hS : SndS cx recS n) (hA : ArOk A n) {t : Tgt} {i : PE} {b : List PS} {t' i' : Expr} {b' : List Stmt} (p : Pos) (mt : MtT cx names t t') (mi : MtE cx names i i') (mb : MtSs cx names b b') (f : Fr cx names z env penv) (k : OkZ cx z) (hz : s.heap = z.h)
    (h : stepS1 rec recS (.forS t i b) penv z.st = some (fl, penv', st')) : RunsS cx A names env (exec (.For t' i' b' [] p) env) z fl penv' st' s := by
  refine mV h fun v st1 h1 h => mL h fun items st2 h2 h => ?_
  intro E Q hQ
  refine wpAny_For (hSE mi f k hz hA h1 E _ fun x z1 tk1 k1 e1 s1 v1 => ?_) (fun x => mi.noSet env x)
  refine iter_sound (z := z1) (by rw [s1]; exact h2) k1 (s := { s with heap := z1.h, toks := tk1 }) rfl v1 ?_
  intro I fp PP St z2 tk2 it tz k2 e2 s2 hI
  have apI : Apart env I := (f.ext e1).apartNew hI
  have f2 := (f.ext e1).ext e2
  refine codeAny_forLoop_any (ForAt cx names env items I fp PP St z1 s fun l penv1 st => forN (recS b) t l penv1 st = some (fl, penv', st')) ?_ (items.length + 1) (.mk z2 penv tk2 0 (Nat.zero_le _) tz k2 f2 (e2.toB _) (by rw [s2]; exact h))
  intro m s' hm
  induction hm with
  | mk z3 penv1 tk3 j hj t3 k3 f3 e3 h3 =>
  refine drop_cases items hj (fun hj' hd => ?_) fun x hx hd hlt => ?_
  · rw [hd] at h3
    cases h3
    refine t3.done it k3 (s := { s with heap := z3.h, toks := tk3 }) rfl hA.hh hj' fun h4 tk4 k4 hk4 => ?_
    refine wpAny_execs_nil (hQ .next { z3 with h := h4 } tk4 k4 ?_ rfl (f3.stay hk4 apI) rfl)
    exact ((e1.toB _).trans (e3.change (wr := [I]) (fun b hb => List.mem_singleton.mp hb ▸ hI) hk4))
  · rw [hd] at h3
    refine mE h3 fun penv2 hb h3 => ?_
    refine t3.next it k3 (s := { s with heap := z3.h, toks := tk3 }) rfl hA.hh hx fun w h4 tk4 k4 t4 hw hk4 => ?_
    obtain ⟨oI, nI, hoI, hcI, hlI⟩ := it.cls _ _ t4.st
    have e4 : ExtB (· = I) z3 { z3 with h := h4 } := extB_at hk4 ⟨oI, hoI⟩
    have f4 := f3.extA e4 apI
    refine wpAny_noOwnedTuple (s := { s with heap := h4, toks := tk4 }) hoI hcI hlI ?_
    refine bind_sound no hA.hh mt k4 f4 (s := { s with heap := h4, toks := tk4 }) rfl (hw.extB e4) hb fun h5 tk5 k5 f5 e5 => ?_
    have t5 := t4.extB it e5 apI.own k4 k5
    have e15 : ExtB (own names env) z1 { z3 with h := h5 } := (e3.thenB e4 fun x o hx ho => nn (hI.symm.trans (hx ▸ ho))).trans e5
    refine mF h3 (fun penv6 st6 h6 h3 => ?_) fun w penv6 st6 h6 h3 => ?_
    · refine hS mb f5 k5 (s := { s with heap := h5, toks := tk5 }) rfl hA h6 _ _ fun fl' z6 tk6 k6 e6 s6 f6 hf => ?_
      cases (show fl' = .next from hf)
      exact ⟨_, less_left hlt, .mk z6 penv6 tk6 (j + 1) hlt (t5.extB it e6 apI.own k5 k6) k6 f6 (e15.trans e6) (by rw [s6]; exact h3)⟩
    · refine hS mb f5 k5 (s := { s with heap := h5, toks := tk5 }) rfl hA h6 _ _ fun fl' z6 tk6 k6 e6 s6 f6 hf => ?_
      cases h3
      obtain ⟨x, rfl, hv⟩ := hf
      exact hQ _ z6 tk6 k6 ((e1.toB _).trans (e15.trans e6)) s6 f6 ⟨x, rfl, hv⟩
theorem stepS1_sound (G : Glob cx P) (hSE : SndE cx (stepE P rec call) (n + 1)) (hST : SndT cx (stepE P rec call) (n + 1)) (hE : SndE cx rec n) (hT : SndT cx rec n) (hS : SndS cx recS (n + 1)) (hA : ArOk A (n + 1)) {x : PS} {x' : Stmt} (m : MtS cx names x x') (f : Fr cx names z env penv) (k : OkZ cx z) (hz : s.heap = z.h)
    (h : stepS1 (stepE P rec call) recS x penv z.st = some (fl, penv', st')) : RunsS cx A names env (exec x' env) z fl penv' st' s := by
  have no := G.nm
  have i := m.inv
  clear m
  induction i with
  | assign t q p hw me =>
    refine mV h fun v st1 h1 h => rsS h ?_
    exact assign_case no hSE hE hT hA q p hw me f k hz h1
  | assign2 t u q q' p hw hw' me => exact assign2_case no hSE hA q q' p hw hw' me f k hz h
  | assignTup kk q p hm me ht => exact assignTup_case no hSE hA kk q p hm me ht f k hz h
  | swap i j a b kk k2 p1 p2 q q1 q2 q3 p hw hw' hli hlj hij hp ha => exact swap_case G hSE hE hA kk k2 p1 p2 q q1 q2 q3 p hw hw' hli hlj hij hp ha f k hz h
  | setItem q p mo mi me => exact setItem_case hSE hA q p mo mi me f k hz h
  | aug t op q p hw me => exact aug_case no hSE hA q p hw me f k hz h
  | augItem op q p mo mi me => exact augItem_case hSE hA q p mo mi me f k hz h
  | expr p me hc => exact expr_case hSE hA p me hc f k hz h
  | ifS p mt mb mo => exact if_case hST hS hA p mt mb mo f k hz h
  | whileS p mt mb => exact while_case hST hS hA p mt mb f k hz h
  | forS p mt mi mb => exact for_case no hSE hS hA p mt mi mb f k hz h
  | ret p me => exact ret_case hSE hA p me f k hz h
theorem execs_sound (G : Glob cx P) (hSE : SndE cx (stepE P rec call) (n + 1)) (hST : SndT cx (stepE P rec call) (n + 1)) (hE : SndE cx rec n) (hT : SndT cx rec n) (hS : SndS cx recS (n + 1)) (hA : ArOk A (n + 1)) {ps : List PS} {body : List Stmt} (m : MtSs cx names ps body) :
    ∀ {penv penv' : PEnv} {z : Z} {s : Shared} {fl : PFlow} {st' : Store}, Fr cx names z env penv → OkZ cx z → s.heap = z.h →
    stepS (stepE P rec call) recS ps penv z.st = some (fl, penv', st') → RunsS cx A names env (execs body env) z fl penv' st' s := by
  induction m with
  | nil =>
    intro penv penv' z s fl st' f k hz h
    cases h
    intro E Q hQ
    have := hQ .next z s.toks k (.refl _ _) rfl f rfl
    rw [← hz] at this
    exact wpAny_execs_nil this
  | cons mx mr ih =>
    intro penv penv' z s fl st' f k hz h E Q hQ
    refine wpAny_execs_cons ?_
    refine mF h (fun penv1 st1 h1 h => ?_) fun w penv1 st1 h1 h => ?_
    · refine stepS1_sound G hSE hST hE hT hS hA mx f k hz h1 E _ fun fl' z1 tk1 k1 e1 s1 f1 hf => ?_
      cases (show fl' = .next from hf)
      exact ih f1 k1 (s := { s with heap := z1.h, toks := tk1 }) rfl (by rw [s1]; exact h) E Q fun fl' z2 tk2 k2 e2 s2 f2 hf => hQ fl' z2 tk2 k2 (e1.trans e2) s2 f2 hf
    · refine stepS1_sound G hSE hST hE hT hS hA mx f k hz h1 E _ fun fl' z1 tk1 k1 e1 s1 f1 hf => ?_
      cases h
      obtain ⟨x, rfl, hv⟩ := hf
      exact hQ _ z1 tk1 k1 e1 s1 f1 ⟨x, rfl, hv⟩
theorem stepS1_none (recS : EvS) (x : PS) (penv : PEnv) (st : Store) : stepS1 (fun _ _ _ => none) recS x penv st = none := by
  cases x with
  | aug t op e =>
    show (match penv.get t with
      | some a => none
      | none => none : Option (PFlow × PEnv × Store)) = none
    cases penv.get t <;> rfl
  | _ => rfl
theorem stepS_sound (G : Glob cx P) (hSE : SndE cx (stepE P rec call) (n + 1)) (hST : SndT cx (stepE P rec call) (n + 1)) (hE : SndE cx rec n) (hT : SndT cx rec n) (hS : SndS cx recS (n + 1)) : SndS cx (stepS (stepE P rec call) recS) (n + 2) := by
  intro names ps body env penv penv' z s A fl st' m f k hz hA h
  exact execs_sound G hSE hST hE hT hS (hA.mono (Nat.le_succ _)) m f k hz h
theorem stepS_sound0 (recS : EvS) : SndS cx (stepS (fun _ _ _ => none) recS) 1 := by
  intro names ps body env penv penv' z s A fl st' m f k hz hA h
  cases m with
  | nil =>
    cases h
    intro E Q hQ
    have := hQ .next z s.toks k (.refl _ _) rfl f rfl
    rw [← hz] at this
    exact wpAny_execs_nil this
  | cons mx mr =>
    refine mF h (fun penv1 st1 h1 h => ?_) fun w penv1 st1 h1 h => ?_
    · exact nn ((stepS1_none ..).symm.trans h1)
    · exact nn ((stepS1_none ..).symm.trans h1)
end
structure FnOk (cx : Cx) (f : Nat) (ps : List Nat) (body : List PS) (fd : FuncData) (o : Obj) (body' : List Stmt) : Prop where
  obj : cx.h₀.get? (cx.fa f) = some o
  data : o.data = .func fd
  stm : fd.body = .stmts body'
  clo : fd.closure = []
  glo : fd.globals = cx.gA
  bui : fd.builtins = cx.bA
  co : fd.scope.isCoroutine = false
  gen : fd.scope.isGenerator = false
  kind : fd.scope.kind = .function
  rcd : cx.h₀.CodeRec fd.code fd.qualname
  bind : ∀ vals : List Value, vals.length = ps.length → bindArgs fd ⟨vals, []⟩ = pure ((ps.map cx.name).zip vals)
  nodup : nodupS (fd.scope.names.map (·.1)) = true
  nofree : ∀ x ∈ fd.scope.names, x.2 ≠ .free
  par : ∀ i ∈ ps, i < cx.nm.length ∧ (fd.scope.names.lookup (cx.name i) = some .local ∨ fd.scope.names.lookup (cx.name i) = some .cell)
  mt : MtSs cx fd.scope.names body body'
section
variable {cx : Cx} {P : PProg} {recS : EvS} {n : Nat}
theorem bind_spec (no : NmOk cx) (kindOf : Str → Option NameKind) {z : Z} {ps : List Nat} : ∀ {vs : List PV} {xs : List Value} {m cm : Str → Option Value} {penv penv' : PEnv}, VRs cx z vs xs → bindAll ps vs penv = some penv' → (∀ i ∈ ps, i < cx.nm.length) →
    (∀ i v, penv.get i = some v → i < cx.nm.length ∧ (kindOf (cx.name i) = some .local → ∃ x, m (cx.name i) = some x ∧ VR cx z v x) ∧ (kindOf (cx.name i) ≠ some .local → ∃ x, cm (cx.name i) = some x ∧ VR cx z v x)) →
    ∀ i v, penv'.get i = some v → (i < cx.nm.length ∧ (kindOf (cx.name i) = some .local → ∃ x, bindL kindOf ((ps.map cx.name).zip xs) m (cx.name i) = some x ∧ VR cx z v x) ∧ (kindOf (cx.name i) ≠ some .local → ∃ x, bindC kindOf ((ps.map cx.name).zip xs) cm (cx.name i) = some x ∧ VR cx z v x)) := by
  induction ps with
  | nil =>
    intro vs xs m cm penv penv' hv h _ hI
    cases vs with
    | nil => cases h; exact hI
    | cons => exact nn h
  | cons i0 ps ih =>
    intro vs xs m cm penv penv' hv h hp hI
    cases vs with
    | nil => exact nn h
    | cons v0 vs =>
      refine hv.cons_el (C := fun xs => ∀ i v, penv'.get i = some v → (i < cx.nm.length ∧ (kindOf (cx.name i) = some .local → ∃ x, bindL kindOf (((i0 :: ps).map cx.name).zip xs) m (cx.name i) = some x ∧ VR cx z v x) ∧ (kindOf (cx.name i) ≠ some .local → ∃ x, bindC kindOf (((i0 :: ps).map cx.name).zip xs) cm (cx.name i) = some x ∧ VR cx z v x))) fun x0 xs hv hvs => ?_
      have hi0 := hp i0 List.mem_cons_self
      refine ih hvs h (fun i hi => hp i (List.mem_cons_of_mem _ hi)) fun i v hg => ?_
      rw [get_set] at hg
      by_cases hi : i = i0
      · subst hi
        rw [if_pos rfl] at hg; cases Option.some.inj hg
        exact ⟨hi0, fun hk => by rw [if_pos hk]; exact ⟨x0, if_pos rfl, hv⟩, fun hk => by rw [if_neg hk]; exact ⟨x0, if_pos rfl, hv⟩⟩
      · rw [if_neg hi] at hg
        obtain ⟨h1, h2, h3⟩ := hI i v hg
        have hne : cx.name i ≠ cx.name i0 := fun e => hi (no.inj i i0 h1 hi0 e)
        refine ⟨h1, fun hk => (h2 hk).imp fun x h => ⟨?_, h.2⟩, fun hk => (h3 hk).imp fun x h => ⟨?_, h.2⟩⟩
        · split
          · exact (if_neg hne).trans h.1
          · exact h.1
        · split
          · exact h.1
          · exact (if_neg hne).trans h.1
theorem freeze_el {w : PV} {st : Store} {r : PV × Store} {C : Prop} (h : freeze w st = r) (k0 : (w, st) = r → C) (k1 : ∀ m xs, w = .ref m → st[m]? = some (.list xs) → (PV.list xs, st.set m .dead) = r → C) : C := by
  cases w with
  | ref m =>
    have h : (match st[m]? with
      | some p => match p with
        | .list xs => (PV.list xs, st.set m .dead)
        | _ => (.ref m, st)
      | none => (.ref m, st)) = r := h
    cases hp : st[m]? with
    | none => rw [hp] at h; exact k0 h
    | some p =>
      rw [hp] at h
      cases p with
      | list xs => exact k1 m xs rfl hp h
      | _ => exact k0 h
  | _ => exact k0 h
theorem bind_par {ps : List Nat} {vs : List PV} {penv : PEnv} (h : bindAll ps vs [] = some penv) (i : Nat) (v : PV) (hg : penv.get i = some v) : i ∈ ps := by
  have key : ∀ {ps : List Nat} {vs : List PV} {p p' : PEnv}, bindAll ps vs p = some p' → ∀ i v, p'.get i = some v → (∃ v', p.get i = some v') ∨ i ∈ ps := by
    intro ps
    induction ps with
    | nil => exact fun {vs p p'} h i v hg => by cases vs with | nil => exact .inl ⟨v, Option.some.inj h ▸ hg⟩ | cons => exact nn h
    | cons i0 ps ih =>
      intro vs p p' h i v hg
      cases vs with
      | nil => exact nn h
      | cons v0 vs =>
        rcases ih h i v hg with ⟨v', hv'⟩ | hm
        · rw [get_set] at hv'
          by_cases hi : i = i0
          · exact .inr (hi ▸ List.mem_cons_self)
          · rw [if_neg hi] at hv'; exact .inl ⟨v', hv'⟩
        · exact .inr (List.mem_cons_of_mem _ hm)
  exact (key h i v hg).elim (fun h => h.elim fun _ h => nn h) id
theorem call_frame (no : NmOk cx) {f : Nat} {ps : List Nat} {body : List PS} {fd : FuncData} {o : Obj} {body' : List Stmt} (F : FnOk cx f ps body fd o body') {z : Z} {s s₁ : Shared} {vs : List PV} {vals : List Value} {penv : PEnv} (k : OkZ cx z) (hz : s.heap = z.h) (hv : VRs cx z vs vals)
    (hb : bindAll ps vs [] = some penv)
    (X : InCallC s (callEnvC fd s.heap.objs.size (cx.fa f)).locals (bindL (callEnvC fd s.heap.objs.size (cx.fa f)).kindOf ((ps.map cx.name).zip vals) fun _ => none) (callEnvC fd s.heap.objs.size (cx.fa f)).cells
        (bindC (callEnvC fd s.heap.objs.size (cx.fa f)).kindOf ((ps.map cx.name).zip vals) fun _ => none) s₁) :
    (∃ tk, s₁ = { s with heap := s₁.heap, toks := tk }) ∧ OkZ cx { z with h := s₁.heap } ∧ Ext z { z with h := s₁.heap } ∧ Fr cx fd.scope.names { z with h := s₁.heap } (callEnvC fd s.heap.objs.size (cx.fa f)) penv ∧
      ∀ a, own fd.scope.names (callEnvC fd s.heap.objs.size (cx.fa f)) a → New z a := by
  have keep : ∀ b o, z.h.get? b = some o → s₁.heap.get? b = some o := fun b o e => X.toInCall.keep b o (by rw [hz]; exact e)
  have k1 : OkZ cx { z with h := s₁.heap } := k.keep fun b o e _ => keep b o e
  have e1 : Ext z { z with h := s₁.heap } := .keep keep
  have hlt : ∀ (b : Nat) o, z.h.get? b = some o → b < s.heap.objs.size := fun b o e => by rw [hz]; exact Heap.lt_size e
  have hge : ∀ (b : Nat), s.heap.objs.size ≤ b → z.h.get? b = none := fun b hb => by
    cases e : z.h.get? b with
    | none => rfl
    | some o => exact absurd (hlt b o e) (Nat.not_lt.mpr hb)
  have S := cells_spec fd.scope.names (s.heap.push { cls := .type "frame", data := .dict #[] }) [] F.nodup
  have c1 := S.new
  have c2 := S.old
  have c3 := S.inj
  rw [Heap.size_push] at c1 c2 c3
  clear S
  have cell_of : ∀ x c, (callEnvC fd s.heap.objs.size (cx.fa f)).cells.lookup x = some c → fd.scope.names.lookup x = some .cell ∧ s.heap.objs.size + 1 ≤ c := fun x c h => by
    by_cases hx : fd.scope.names.lookup x = some .cell
    · obtain ⟨c', h1, h2, _⟩ := c1 x hx
      exact ⟨hx, Option.some.inj (h1.symm.trans h) ▸ h2⟩
    · exact nn ((c2 x hx).symm.trans h)
  have bs := bind_spec no (callEnvC fd s.heap.objs.size (cx.fa f)).kindOf (m := fun _ => none) (cm := fun _ => none) hv hb (fun i hi => (F.par i hi).1) (fun i v h => nn h)
  refine ⟨X.toInCall.same.elim fun h' h => h.elim fun tk e => ⟨tk, by rw [e]⟩, k1, e1, ?_, fun a ha => New.of ?_⟩
  · refine ⟨F.kind, F.glo, F.bui, free_push k (hge _ (Nat.le_refl _)), fun i v h => (bs i v h).1, fun x kk h => ⟨fun _ => h, fun hk => absurd hk (F.nofree _ (mem_of_lookup h))⟩, fun i v h => (F.par i (bind_par hb i v h)).2.imp id .inl, ⟨_, X.toInCall.ns, fun i v h hk => (bs i v h).2.1 hk⟩, fun x c h => ?_, fun x y c h h' => ?_, fun x h => ?_, fun i v h hk => ?_⟩
    · have q := (cell_of x c h).2
      exact ⟨free_push k (hge _ (Nat.le_of_succ_le q)), Nat.ne_of_gt q, _, X.cell x c h⟩
    · exact c3 x y c (cell_of x c h).1 (cell_of y c h').1 h h'
    · exact h.elim (fun h => (c1 x h).imp fun c h => h.1) fun h => absurd rfl (F.nofree _ (mem_of_lookup h))
    · have hkc : fd.scope.names.lookup (cx.name i) = some .cell := hk.elim id fun hk => absurd rfl (F.nofree _ (mem_of_lookup hk))
      obtain ⟨c, hc, _⟩ := c1 _ hkc
      obtain ⟨x, hx, hvx⟩ := (bs i v h).2.2 (fun e => nomatch (hkc.symm.trans e))
      exact ⟨c, x, hc, hx ▸ X.cell _ c hc, hvx⟩
  · rcases ha with rfl | ⟨x, h1, h2⟩
    · exact hge _ (Nat.le_refl _)
    · exact hge _ (Nat.le_of_succ_le (cell_of x a h2).2)
theorem stepC_el {f : Nat} {vs : List PV} {st : Store} {r : PV × Store} {C : Prop} (h : stepC P recS f vs st = some r) (c : ∀ ps body penv, P.F f = some (ps, body) → bindAll ps vs [] = some penv → (match recS body penv st with
    | some (.ret v, _, st) => some (freeze v st)
    | some (.next, _, st) => some (.none, st)
    | none => none) = some r → C) : C := by
  unfold stepC at h
  cases h1 : P.F f with
  | none => rw [h1] at h; exact nn h
  | some q =>
    rw [h1] at h
    exact mE h fun penv hb h => c q.1 q.2 penv h1 hb h
theorem body_el {x : Option (PFlow × PEnv × Store)} {r : PV × Store} {C : Prop} (h : (match x with
    | some (.ret v, _, st) => some (freeze v st)
    | some (.next, _, st) => some (.none, st)
    | none => none) = some r) (kr : ∀ v p st, x = some (.ret v, p, st) → freeze v st = r → C) (kn : ∀ p st, x = some (.next, p, st) → (PV.none, st) = r → C) : C := by
  cases x with
  | none => exact nn h
  | some q =>
    obtain ⟨fl, p, st⟩ := q
    cases fl with
    | next => exact kn p st rfl (Option.some.inj h)
    | ret v => exact kr v p st rfl (Option.some.inj h)
theorem stepC_sound (G : Glob cx P) (hF : ∀ f ps body, P.F f = some (ps, body) → ∃ fd o body', FnOk cx f ps body fd o body') (hS : SndS cx recS n) : SndC cx P (stepC P recS) (n + 1) := by
  intro f vs vals z s A v st' k hz hA hv h
  refine stepC_el h fun ps body penv hPF hb h => ?_
  obtain ⟨fd, o, body', F⟩ := hF f ps body hPF
  intro E Q hQ
  have up : ∀ b o, cx.h₀.get? b = some o → s.heap.get? b = some o := fun b o e => by rw [hz]; exact k.sub _ _ (k.base _ _ e)
  have hlen : vals.length = ps.length := hv.length.symm.trans (bindAll_len hb).symm
  have hd : A.depth < recursionLimit := Nat.lt_of_le_of_lt (Nat.le_add_right _ _) hA.dep
  have c1 := (cells_spec fd.scope.names (s.heap.push { cls := .type "frame", data := .dict #[] }) [] F.nodup).new
  rw [Heap.size_push] at c1
  refine wpAny_call (codeAny_call_cells hd (up _ _ F.obj) F.data (G.lim.keeps up) (F.rcd.keeps up) F.stm (F.bind vals hlen) F.clo (fun x hx => ?_) (fun s₁ X => ?_) F.co F.gen F.kind)
  · obtain ⟨i, hi, e⟩ := List.mem_map.mp (List.of_mem_zip hx).1
    rw [← e]
    exact (F.par i hi).2.imp id fun h1 => ⟨h1, (c1 _ h1).elim fun c hc => hc.1 ▸ rfl⟩
  · obtain ⟨⟨tk1, hs1⟩, k1, e1, f1, hown⟩ := call_frame G.nm F k hz hv hb X
    have hA' : ArOk (A.deeper (callEnvC fd s.heap.objs.size (cx.fa f))) n := ⟨hA.hh, (Nat.succ_add_eq_add_succ A.depth n).symm ▸ hA.dep, by have := hA.uni; show A.units + 3 + 10 * n + 20 < _; omega⟩
    refine body_el h (fun w penv2 st2 h2 h => ?_) fun penv2 st2 h2 h => ?_
    · refine hS F.mt f1 k1 (s := s₁) rfl hA' h2 _ _ fun fl z2 tk2 k2 e2 s2 f2 hf => ?_
      obtain ⟨x, rfl, hf⟩ := hf
      have e12 : Ext z z2 := ((e1.toB _).trans e2).toExtN hown
      have fin : ∀ z3 : Z, OkZ cx z3 → Ext z2 z3 → z3.h = z2.h → z3.st = st' → VR cx z3 v x → Q x { s₁ with heap := z2.h, toks := tk2 } := fun z3 k3 e3 h3 s3 v3 => by
        have := hQ x z3 tk2 k3 (e12.trans e3) s3 v3
        rw [h3] at this
        rw [hs1]
        exact this
      refine freeze_el h (fun h => ?_) fun m xs hw hp h' => ?_
      · cases h
        exact fin z2 k2 (.refl _) rfl s2 hf
      · subst hw
        cases h'
        have hp' : z2.st[m]? = some (.list xs) := by rw [s2]; exact hp
        obtain ⟨a, c, items, rfl, hσ, ho, hvs⟩ := store_list k2 hp' (VRel.rv k2 hf)
        have hp0 : (PObj.list xs) ≠ .dead := nofun
        have k3 := k2.die hp' hp0 hσ ho
        have e3 := k2.die_ext (o := { cls := .type "list", dict := none, data := .seq items c, slots := #[] }) hp' hp0 hσ
        exact fin _ k3 e3 rfl (by rw [s2]) (.list (items := items) (addB_self _ _ _) ⟨c, rfl⟩ (hvs.ext e3))
    · cases h
      refine hS F.mt f1 k1 (s := s₁) rfl hA' h2 _ _ fun fl z2 tk2 k2 e2 s2 f2 hf => ?_
      cases (show fl = .next from hf)
      have := hQ .none z2 tk2 k2 (((e1.toB _).trans e2).toExtN hown) s2 .none
      rw [hs1]
      exact this
theorem stepC_fn {recS : EvS} {f : Nat} {vs : List PV} {st : Store} {r : PV × Store} (h : stepC P recS f vs st = some r) : ∃ p, P.F f = some p := stepC_el h fun ps body _ h _ _ => ⟨_, h⟩
structure Snd (cx : Cx) (P : PProg) (n : Nat) : Prop where
  E : SndE cx (ev P n).E n
  T : SndT cx (ev P n).E n
  S : SndS cx (ev P n).S n
  C : SndC cx P (ev P n).C n
theorem ev_sound (G : Glob cx P) (hF : ∀ f ps body, P.F f = some (ps, body) → ∃ fd o body', FnOk cx f ps body fd o body') : ∀ n, Snd cx P n ∧ Snd cx P (n + 1) := by
  have h0 : Snd cx P 0 := {
    E := by exact fun _ _ _ _ _ h => nn h
    T := by exact fun _ _ _ _ _ h => nn h
    S := by exact fun _ _ _ _ _ h => nn h
    C := by exact fun _ _ _ _ h => nn h }
  have hC0 : ∀ n f vs st r, (ev P n).C f vs st = some r → ∃ p, P.F f = some p := fun n f vs st r h => by
    cases n with
    | zero => exact nn h
    | succ n => exact stepC_fn h
  have stepET : ∀ n, Snd cx P n → SndE cx (ev P (n + 1)).E (n + 1) ∧ SndT cx (ev P (n + 1)).E (n + 1) := fun n X => by
    have e : SndE cx (stepE P (ev P n).E (ev P n).C) (n + 1) := stepE_sound G X.E X.T X.C (hC0 n)
    exact And.intro e (stepT_sound e X.E X.T)
  intro n
  induction n with
  | zero =>
    obtain ⟨e, t⟩ := stepET 0 h0
    exact ⟨h0, e, t, stepS_sound0 _, stepC_sound G hF h0.S⟩
  | succ n ih =>
    obtain ⟨X, Y⟩ := ih
    obtain ⟨e, t⟩ := stepET (n + 1) Y
    exact ⟨Y, e, t, stepS_sound G Y.E Y.T X.E X.T Y.S, stepC_sound G hF Y.S⟩
end
end Mine
end
section
namespace Mine
open PySem
open PyProof.Rows (IntsAre)
noncomputable def fnChk (cx : Cx) (ps : List Nat) (body : List PS) (scope : Scope) (body' : List Stmt) : Bool :=
  ndB (scope.names.map (·.1)) && (scope.names.all (fun x => !(kindB x.2 .free)) && (ps.all (fun i => wrB cx scope.names i (cx.name i)) && (fnB scope.kind && (!scope.isCoroutine && (!scope.isGenerator && all2 (chkS cx scope.names 60) body body')))))
theorem fnOk_of {cx : Cx} {f : Nat} {ps : List Nat} {body : List PS} {fd : FuncData} {o oc : Obj} {body' : List Stmt} {c : Addr} {vs : Array Value} {t : Tok} (h : fnChk cx ps body fd.scope body' = true)
    (obj : cx.h₀.get? (cx.fa f) = some o) (data : o.data = .func fd) (stm : fd.body = .stmts body') (clo : fd.closure = []) (glo : fd.globals = cx.gA) (bui : fd.builtins = cx.bA)
    (hc : fd.code = .ref c) (ho : cx.h₀.get? c = some oc) (hd : oc.data = .fields vs) (hv : vs[1]? = some (.str fd.qualname t))
    (bind : ∀ vals : List Value, vals.length = ps.length → bindArgs fd ⟨vals, []⟩ = pure ((ps.map cx.name).zip vals)) : FnOk cx f ps body fd o body' := by
  refine an h fun h1 h => an h fun h2 h => an h fun h3 h => an h fun h4 h => an h fun h5 h => an h fun h6 h7 => ⟨obj, data, stm, clo, glo, bui, nt h5, nt h6, ?_, ⟨c, oc, vs, t, hc, ho, hd, hv⟩, bind, by rw [← ndB_eq]; exact h1, fun x hx e => ?_, fun i hi => ?_, allS_ok (fun h => ⟨60, h⟩) h7⟩
  · generalize fd.scope.kind = k at h4
    cases k <;> first | rfl | exact ff h4
  · have := nt (List.all_eq_true.mp h2 x hx); rw [e] at this; exact ff this.symm
  · exact Wr.of (wrB_ok (List.all_eq_true.mp h3 i hi)).2
noncomputable def onPI (e : PV) (f : Int → Bool) : Bool := dite (e.ctorIdx = 2) (fun h => PV.int.elim (motive_1 := fun _ => Bool) e h f) fun _ => false
theorem onPI_el {e : PV} {f : Int → Bool} {C : PV → Prop} (h : onPI e f = true) (k : ∀ (a0 : Int), f a0 = true → C (.int a0)) : C e :=
  dite_el h fun hp h => PV.int.elim (motive_1 := fun e => ∀ hp : e.ctorIdx = 2, PV.int.elim (motive_1 := fun _ => Bool) e hp f = true → C e) e hp (fun a0 _ h => k a0 h) hp h
noncomputable def onPS (e : PV) (f : List Nat → Bool) : Bool := dite (e.ctorIdx = 3) (fun h => PV.str.elim (motive_1 := fun _ => Bool) e h f) fun _ => false
theorem onPS_el {e : PV} {f : List Nat → Bool} {C : PV → Prop} (h : onPS e f = true) (k : ∀ (a0 : List Nat), f a0 = true → C (.str a0)) : C e :=
  dite_el h fun hp h => PV.str.elim (motive_1 := fun e => ∀ hp : e.ctorIdx = 3, PV.str.elim (motive_1 := fun _ => Bool) e hp f = true → C e) e hp (fun a0 _ h => k a0 h) hp h
noncomputable def onXI (e : Value) (f : Int → Bool) : Bool := dite (e.ctorIdx = 4) (fun h => Value.int.elim (motive := fun _ => Bool) e h (fun a0 a1 => f a0)) fun _ => false
theorem onXI_el {e : Value} {f : Int → Bool} {C : Value → Prop} (h : onXI e f = true) (k : ∀ (a0 : Int) (a1 : Tok), f a0 = true → C (.int a0 a1)) : C e :=
  dite_el h fun hp h => Value.int.elim (motive := fun e => ∀ hp : e.ctorIdx = 4, Value.int.elim (motive := fun _ => Bool) e hp (fun a0 a1 => f a0) = true → C e) e hp (fun a0 a1 _ h => k a0 a1 h) hp h
noncomputable def onXS (e : Value) (f : Str → Bool) : Bool := dite (e.ctorIdx = 6) (fun h => Value.str.elim (motive := fun _ => Bool) e h (fun a0 a1 => f a0)) fun _ => false
theorem onXS_el {e : Value} {f : Str → Bool} {C : Value → Prop} (h : onXS e f = true) (k : ∀ (a0 : Str) (a1 : Tok), f a0 = true → C (.str a0 a1)) : C e :=
  dite_el h fun hp h => Value.str.elim (motive := fun e => ∀ hp : e.ctorIdx = 6, Value.str.elim (motive := fun _ => Bool) e hp (fun a0 a1 => f a0) = true → C e) e hp (fun a0 a1 _ h => k a0 a1 h) hp h
noncomputable def chkI : List (PV × PV) → List DictEntry → Bool
  | [], l => onNil l
  | p :: r, l => match l with
    | [] => false
    | e :: t => onPI p.1 fun k => onPS p.2 fun l => onXI e.key fun k' => onXS e.val fun s => decide (k = k') && (decide (e.hash = hashInt k') && (all2 Nat.beq l s.cps.toList && chkI r t))
noncomputable def keysI : List DictEntry → List Int
  | ⟨_, .int k _, _⟩ :: r => k :: keysI r
  | _ => []
noncomputable def incI : List Int → Bool
  | a :: b :: r => decide (a < b) && incI (b :: r)
  | _ => true
noncomputable def kvI : List DictEntry → List (Int × Value)
  | ⟨_, .int k _, v⟩ :: r => (k, v) :: kvI r
  | _ => []
theorem kvI_keys : ∀ l : List DictEntry, (kvI l).map (·.1) = keysI l
  | [] => rfl
  | ⟨_, k, v⟩ :: r => by cases k <;> first | rfl | (simp only [kvI, keysI, List.map_cons, kvI_keys r])
theorem incI_nodup {l : List Int} : incI l = true → l.Nodup ∧ ∀ a r, l = a :: r → ∀ b ∈ r, a < b := by
  induction l with
  | nil => exact fun _ => ⟨List.nodup_nil, fun a r e => nomatch e⟩
  | cons a r ih =>
    intro h
    have hall : (r.Nodup ∧ ∀ c ∈ r, a < c) := by
      cases r with
      | nil => exact ⟨List.nodup_nil, fun c hc => absurd hc List.not_mem_nil⟩
      | cons b r => exact an h fun h1 h2 => ⟨(ih h2).1, fun c hc => (List.mem_cons.mp hc).elim (fun e => e ▸ of_decide_eq_true h1) fun hc => Int.lt_trans (of_decide_eq_true h1) ((ih h2).2 b r rfl c hc)⟩
    exact ⟨List.nodup_cons.mpr ⟨fun hm => Int.lt_irrefl a (hall.2 a hm), hall.1⟩, fun a' r' e => (List.cons.inj e).1 ▸ (List.cons.inj e).2 ▸ hall.2⟩
theorem chkI_ok {prog : Program} {w : World} {es : List (PV × PV)} : ∀ {ents : List DictEntry}, chkI es ents = true → EI es (kvI ents) ∧ Pairs (intKind prog w) ents (kvI ents) ∧ ∀ e ∈ ents, ∃ k, (intKind prog w).is k e.key = true ∧ e.hash = (intKind prog w).hash k := by
  induction es with
  | nil => exact fun {ents} h => onNil_el (C := fun ents => EI [] (kvI ents) ∧ Pairs (intKind prog w) ents (kvI ents) ∧ ∀ e ∈ ents, ∃ k, (intKind prog w).is k e.key = true ∧ e.hash = (intKind prog w).hash k) h ⟨trivial, .nil, fun e h => absurd h List.not_mem_nil⟩
  | cons p r ih =>
    intro ents h
    cases ents with
    | nil => exact ff h
    | cons e t =>
      obtain ⟨k, v⟩ := p
      obtain ⟨h0, key, val⟩ := e
      refine onPI_el (C := fun k => EI ((k, v) :: r) (kvI (⟨h0, key, val⟩ :: t)) ∧ Pairs (intKind prog w) (⟨h0, key, val⟩ :: t) (kvI (⟨h0, key, val⟩ :: t)) ∧ ∀ e ∈ (⟨h0, key, val⟩ :: t : List DictEntry), ∃ k, (intKind prog w).is k e.key = true ∧ e.hash = (intKind prog w).hash k) h fun k h => ?_
      refine onPS_el (C := fun v => EI ((.int k, v) :: r) (kvI (⟨h0, key, val⟩ :: t)) ∧ Pairs (intKind prog w) (⟨h0, key, val⟩ :: t) (kvI (⟨h0, key, val⟩ :: t)) ∧ ∀ e ∈ (⟨h0, key, val⟩ :: t : List DictEntry), ∃ k, (intKind prog w).is k e.key = true ∧ e.hash = (intKind prog w).hash k) h fun l h => ?_
      refine onXI_el (C := fun key => EI ((.int k, .str l) :: r) (kvI (⟨h0, key, val⟩ :: t)) ∧ Pairs (intKind prog w) (⟨h0, key, val⟩ :: t) (kvI (⟨h0, key, val⟩ :: t)) ∧ ∀ e ∈ (⟨h0, key, val⟩ :: t : List DictEntry), ∃ k, (intKind prog w).is k e.key = true ∧ e.hash = (intKind prog w).hash k) h fun k' u h => ?_
      refine onXS_el (C := fun val => EI ((.int k, .str l) :: r) (kvI (⟨h0, .int k' u, val⟩ :: t)) ∧ Pairs (intKind prog w) (⟨h0, .int k' u, val⟩ :: t) (kvI (⟨h0, .int k' u, val⟩ :: t)) ∧ ∀ e ∈ (⟨h0, .int k' u, val⟩ :: t : List DictEntry), ∃ k, (intKind prog w).is k e.key = true ∧ e.hash = (intKind prog w).hash k) h fun s u' h => ?_
      refine an h fun h1 h => an h fun h2 h => an h fun h3 h4 => ?_
      cases of_decide_eq_true h1
      have i := ih h4
      exact ⟨⟨rfl, (all2_beq h3).symm, i.1⟩, .cons (beq_self_eq_true k) rfl i.2.1, fun e he => (List.mem_cons.mp he).elim (fun e' => e' ▸ ⟨k, beq_self_eq_true k, of_decide_eq_true h2⟩) (i.2.2 e)⟩
theorem dictI {prog : Program} {w : World} {es : List (PV × PV)} {ents : Array DictEntry} {ep : Nat} (h : chkI es ents.toList = true) (hi : incI (keysI ents.toList) = true) : DRel prog w es { cls := .type "dict", dict := none, data := .dict ents ep, slots := #[] } := by
  have hc := chkI_ok (prog := prog) (w := w) h
  refine .ik (kvI ents.toList) (fun h a e => ⟨_, ents, ep, e, ⟨rfl, rfl, rfl⟩, rfl, fun x hx => hc.2.2 x (Array.mem_toList_iff.mpr hx), hc.2.1, ?_⟩) hc.1
  rw [kvI_keys]; exact (incI_nodup hi).1
noncomputable def chkT : List (PV × PV) → List DictEntry → Bool
  | [], l => onNil l
  | p :: r, l => match l with
    | [] => false
    | e :: t => onPS p.1 fun l => onPI p.2 fun v => onXS e.key fun s => onXI e.val fun v' => decide (v = v') && (all2 Nat.beq l s.cps.toList && chkT r t)
noncomputable def keysT : List DictEntry → List Str
  | ⟨_, .str k _, _⟩ :: r => k :: keysT r
  | _ => []
noncomputable def kvT : List DictEntry → List (Str × Value)
  | ⟨_, .str k _, v⟩ :: r => (k, v) :: kvT r
  | _ => []
noncomputable def hashV (w : World) (v : Value) : Int := dite (v.ctorIdx = 6) (fun h => Value.str.elim (motive := fun _ => Int) v h fun k _ => hashStr w k) fun _ => 0
theorem kvT_keys : ∀ l : List DictEntry, (kvT l).map (·.1) = keysT l
  | [] => rfl
  | ⟨_, k, v⟩ :: r => by cases k <;> first | rfl | (simp only [kvT, keysT, List.map_cons, kvT_keys r])
theorem nodupS_nodup {l : List Str} : nodupS l = true → l.Nodup := by
  induction l with
  | nil => exact fun _ => List.nodup_nil
  | cons x r ih => exact fun h => an h fun h1 h2 => List.nodup_cons.mpr ⟨fun hm => ff ((nt h1).symm.trans (List.contains_iff_mem.mpr hm)), ih h2⟩
theorem chkT_ok {prog : Program} {w : World} {es : List (PV × PV)} : ∀ {ents : List DictEntry}, chkT es ents = true → ES es (kvT ents) ∧ Pairs (strKind prog w) ents (kvT ents) ∧ ∀ e ∈ ents, ∃ k t, e.key = .str k t := by
  induction es with
  | nil => exact fun {ents} h => onNil_el (C := fun ents => ES [] (kvT ents) ∧ Pairs (strKind prog w) ents (kvT ents) ∧ ∀ e ∈ ents, ∃ k t, e.key = .str k t) h ⟨trivial, .nil, fun e h => absurd h List.not_mem_nil⟩
  | cons p r ih =>
    intro ents h
    cases ents with
    | nil => exact ff h
    | cons e t =>
      obtain ⟨k, v⟩ := p
      obtain ⟨h0, key, val⟩ := e
      refine onPS_el (C := fun k => ES ((k, v) :: r) (kvT (⟨h0, key, val⟩ :: t)) ∧ Pairs (strKind prog w) (⟨h0, key, val⟩ :: t) (kvT (⟨h0, key, val⟩ :: t)) ∧ ∀ e ∈ (⟨h0, key, val⟩ :: t : List DictEntry), ∃ k t, e.key = .str k t) h fun l h => ?_
      refine onPI_el (C := fun v => ES ((.str l, v) :: r) (kvT (⟨h0, key, val⟩ :: t)) ∧ Pairs (strKind prog w) (⟨h0, key, val⟩ :: t) (kvT (⟨h0, key, val⟩ :: t)) ∧ ∀ e ∈ (⟨h0, key, val⟩ :: t : List DictEntry), ∃ k t, e.key = .str k t) h fun v h => ?_
      refine onXS_el (C := fun key => ES ((.str l, .int v) :: r) (kvT (⟨h0, key, val⟩ :: t)) ∧ Pairs (strKind prog w) (⟨h0, key, val⟩ :: t) (kvT (⟨h0, key, val⟩ :: t)) ∧ ∀ e ∈ (⟨h0, key, val⟩ :: t : List DictEntry), ∃ k t, e.key = .str k t) h fun s u h => ?_
      refine onXI_el (C := fun val => ES ((.str l, .int v) :: r) (kvT (⟨h0, .str s u, val⟩ :: t)) ∧ Pairs (strKind prog w) (⟨h0, .str s u, val⟩ :: t) (kvT (⟨h0, .str s u, val⟩ :: t)) ∧ ∀ e ∈ (⟨h0, .str s u, val⟩ :: t : List DictEntry), ∃ k t, e.key = .str k t) h fun v' u' h => ?_
      refine an h fun h1 h => an h fun h2 h4 => ?_
      cases of_decide_eq_true h1
      cases all2_beq h2
      have i := ih h4
      exact ⟨⟨rfl, rfl, i.1⟩, .cons (beq_self_eq_true s) rfl i.2.1, fun e he => (List.mem_cons.mp he).elim (fun e' => e' ▸ ⟨s, u, rfl⟩) (i.2.2 e)⟩
theorem dictT {prog : Program} {w : World} {es : List (PV × PV)} {ents : Array DictEntry} {ep : Nat} (h : chkT es ents.toList = true) (hk : ents.toList.map (·.hash) = ents.toList.map fun e => hashV w e.key) (hi : ndB (keysT ents.toList) = true) : DRel prog w es { cls := .type "dict", dict := none, data := .dict ents ep, slots := #[] } := by
  have hc := chkT_ok (prog := prog) (w := w) h
  refine .sk (kvT ents.toList) (fun h a e => ⟨_, ents, ep, e, ⟨rfl, rfl, rfl⟩, rfl, fun x hx => ?_, hc.2.1, ?_⟩) hc.1
  · have hx := Array.mem_toList_iff.mpr hx
    obtain ⟨k, t, e1⟩ := hc.2.2 x hx
    have e2 := List.map_inj_left.mp hk x hx
    rw [e1] at e2
    exact ⟨k, by rw [e1]; exact beq_self_eq_true k, e2⟩
  · rw [kvT_keys]; exact nodupS_nodup (by rw [← ndB_eq]; exact hi)
inductive AllIdx {α : Type} (Q : Nat → α → Prop) : Nat → List α → Prop
  | nil {n : Nat} : AllIdx Q n []
  | cons {n : Nat} {a : α} {l : List α} : Q n a → AllIdx Q (n + 1) l → AllIdx Q n (a :: l)
theorem AllIdx.at {α : Type} {Q : Nat → α → Prop} {n : Nat} {l : List α} (h : AllIdx Q n l) : ∀ f p, l[f]? = some p → Q (n + f) p := by
  induction h with
  | nil => exact fun f p e => nomatch e
  | cons h t ih =>
    intro f p e
    cases f with
    | zero => exact Option.some.inj e ▸ h
    | succ f => exact (Nat.succ_add_eq_add_succ _ f) ▸ ih f p e
theorem all_idx {α : Type} {Q : Nat → α → Prop} {l : List α} (h : AllIdx Q 0 l) : ∀ f p, l[f]? = some p → Q f p := fun f p e => Nat.zero_add f ▸ h.at f p e
inductive AllK (Q : Nat → PV → Prop) : List (Nat × PV) → Prop
  | nil : AllK Q []
  | cons {i : Nat} {v : PV} {l : List (Nat × PV)} : Q i v → AllK Q l → AllK Q ((i, v) :: l)
theorem all_k {Q : Nat → PV → Prop} {l : List (Nat × PV)} (h : AllK Q l) : ∀ i v, alook i l = some v → Q i v := by
  induction h with
  | nil => exact fun i p e => nomatch e
  | @cons j u l h t ih =>
    intro i p e
    unfold alook at e
    cases hb : Nat.beq j i with
    | true => rw [hb] at e; exact Option.some.inj e ▸ Nat.eq_of_beq_eq_true hb ▸ h
    | false => rw [hb] at e; exact ih i p e
section
variable {α : Type} {C : List α → Prop}
theorem len3_el (k : ∀ a b c, C [a, b, c]) : ∀ l : List α, l.length = 3 → C l := lenS_el fun a => len2_el (C := fun l => C (a :: l)) (k a)
theorem len4_el (k : ∀ a b c d, C [a, b, c, d]) : ∀ l : List α, l.length = 4 → C l := lenS_el fun a => len3_el (C := fun l => C (a :: l)) (k a)
theorem len5_el (k : ∀ a b c d e, C [a, b, c, d, e]) : ∀ l : List α, l.length = 5 → C l := lenS_el fun a => len4_el (C := fun l => C (a :: l)) (k a)
end
theorem startOk {cx : Cx} (hs : ∃ o, cx.h₀.get? sysModules = some o) : OkZ cx ⟨[], cx.h₀.get?, [], cx.h₀⟩ :=
  ⟨hs, rfl, fun _ _ e => e, fun _ _ e => e, fun n p h _ => by simp at h, fun n m a ⟨p, h, _⟩ => by simp at h⟩
theorem intsAre_vr {cx : Cx} {z : Z} : ∀ {vs : List Value} {ns : List Int}, IntsAre vs ns → VRs cx z (ns.map .int) vs
  | _, _, .nil => .nil
  | _, _, .cons n u h => .cons (.int n u) (intsAre_vr h)
noncomputable def cdict : Str := "__classdict__"
noncomputable def nmChk (l : List Str) : Bool := ndB l && l.all (fun x => !seqB x dbg && !seqB x cdict)
theorem nodup_getD : ∀ {l : List Str}, nodupS l = true → ∀ i j, i < l.length → j < l.length → l.getD i Str.empty = l.getD j Str.empty → i = j := by
  intro l h i j hi hj e
  have hn := nodupS_nodup h
  rw [List.getD_eq_getElem?_getD, List.getD_eq_getElem?_getD, List.getElem?_eq_getElem hi, List.getElem?_eq_getElem hj] at e
  exact (List.getElem_inj hn).mp e
theorem nmOk_of {cx : Cx} (h : nmChk cx.nm = true) : NmOk cx := by
  simp only [nmChk, Bool.and_eq_true, List.all_eq_true, Bool.not_eq_true'] at h
  have hm : ∀ i, i < cx.nm.length → cx.name i ∈ cx.nm := fun i hi => by
    unfold Cx.name
    rw [List.getD_eq_getElem?_getD, List.getElem?_eq_getElem hi]
    exact List.getElem_mem hi
  exact ⟨fun i j hi hj e => nodup_getD (by rw [← ndB_eq]; exact h.1) i j hi hj e, fun i hi => seqB_ne (h.2 _ (hm i hi)).1, fun i hi => seqB_ne (h.2 _ (hm i hi)).2⟩
end Mine
end
section
set_option backward.eqns.nonrecursive false
namespace Mine.L2
open Mine
noncomputable def f0 : List Nat × List PS := ([18, 19], [ .ifS (.cmp .Eq (.var 18) (.var 19)) [ .ret (.cint 0)] [], .ifS (.cmp .Eq (.meth .lower (.var 18) []) (.meth .lower (.var 19) [])) [ .ret (.glob 20)] [], .ret (.glob 21)])
noncomputable def f1 : List Nat × List PS := ([22, 23, 24], [ .ifS (.cmp .Eq (.var 22) (.var 23)) [ .ret (.cint 0)] [], .assign 25 (.cint 0), .whileS (.boolop true [(.slice (.var 22) (some (.var 25)) none none), (.slice (.var 23) (some (.var 25)) none none), (.cmp .Eq (.idx (.var 22) (.var 25)) (.idx (.var 23) (.var 25)))]) [ .aug 25 .Add (.cint 1)], .assign 22 (.slice (.var 22) (some (.var 25)) none none), .assign 23 (.slice (.var 23) (some (.var 25)) none none), .assign 26 (.cint 0), .whileS (.boolop true [(.slice (.var 22) none (some (.boolop false [(.var 26), .cnone])) none), (.slice (.var 23) none (some (.boolop false [(.var 26), .cnone])) none), (.cmp .Eq (.idx (.var 22) (.bin .Sub (.var 26) (.cint 1))) (.idx (.var 23) (.bin .Sub (.var 26) (.cint 1))))]) [ .aug 26 .Sub (.cint 1)], .assign 22 (.slice (.var 22) none (some (.boolop false [(.var 26), .cnone])) none), .assign 23 (.slice (.var 23) none (some (.boolop false [(.var 26), .cnone])) none), .ifS (.boolop false [(.not (.var 22)), (.not (.var 23))]) [ .ret (.bin .Mult (.glob 21) (.bin .Add (.bi .len [(.var 22)]) (.bi .len [(.var 23)])))] [], .ifS (.boolop false [(.cmp .Gt (.bi .len [(.var 22)]) (.glob 27)), (.cmp .Gt (.bi .len [(.var 23)]) (.glob 27))]) [ .ret (.bin .Add (.var 24) (.cint 1))] [], .ifS (.cmp .Lt (.bi .len [(.var 23)]) (.bi .len [(.var 22)])) [ .assignTup [22, 23] (.tuple [(.var 23), (.var 22)])] [], .ifS (.cmp .Gt (.bin .Mult (.bin .Sub (.bi .len [(.var 23)]) (.bi .len [(.var 22)])) (.glob 21)) (.var 24)) [ .ret (.bin .Add (.var 24) (.cint 1))] [], .assign 28 (.bi .list [(.bi .range [(.glob 21), (.bin .Mult (.glob 21) (.bin .Add (.bi .len [(.var 22)]) (.cint 1))), (.glob 21)])]), .assign 29 (.cint 0), .forS (.one 30) (.bi .range [(.bi .len [(.var 23)])]) [ .assign 31 (.idx (.var 23) (.var 30)), .assign2 32 29 (.bin .Mult (.var 30) (.glob 21)), .assign 33 (.cint 9223372036854775807), .forS (.one 34) (.bi .range [(.bi .len [(.var 22)])]) [ .assign 35 (.bin .Add (.var 32) (.call 0 [(.var 31), (.idx (.var 22) (.var 34))])), .assign 32 (.idx (.var 28) (.var 34)), .assign 36 (.bin .Add (.bi .min [(.var 29), (.var 32)]) (.glob 21)), .assign 29 (.bi .min [(.var 36), (.var 35)]), .setItem (.var 28) (.var 34) (.var 29), .ifS (.cmp .Lt (.var 29) (.var 33)) [ .assign 33 (.var 29)] []], .ifS (.cmp .Gt (.var 33) (.var 24)) [ .ret (.bin .Add (.var 24) (.cint 1))] []], .ret (.var 29)])
noncomputable def f2 : List Nat × List PS := ([37], [ .assign 23 (.bi .next [(.var 37)]), .assign 38 (.bin .BitAnd (.var 23) (.cint 63)), .whileS (.bin .BitAnd (.var 23) (.cint 64)) [ .aug 38 .LShift (.cint 6), .assign 23 (.bi .next [(.var 37)]), .aug 38 .BitOr (.bin .BitAnd (.var 23) (.cint 63))], .ret (.var 38)])
noncomputable def f3 : List Nat × List PS := ([39], [ .assign 41 (.meth .get (.glob 40) [(.bi .ord [(.var 39)])]), .ifS (.cmp .IsNot (.var 41) .cnone) [ .ret (.var 41)] [], .ret (.meth .lower (.var 39) [])])
noncomputable def f4 : List Nat × List PS := ([42], [ .ret (.cmp .GtE (.var 42) (.glob 43))])
noncomputable def f5 : List Nat × List PS := ([42], [ .ret (.cmp .Eq (.var 42) (.glob 44))])
noncomputable def f6 : List Nat × List PS := ([45], [ .assignTup [46, 47, 48, 49] (.comp (.bin .Mod (.bin .Add (.idx (.list [(.cint 169), (.cint 523), (.cint 5), (.cint 3)]) (.var 50)) (.bi .sum [(.slice (.slice (.var 45) none (some (.cint 63)) none) (some (.var 50)) none (some (.cint 4)))])) (.bin .Pow (.cint 10) (.cint 9))) [((.one 50), (.bi .range [(.cint 4)]), [])] [45]), .assign 51 (.meth .join (.cstr []) [(.comp (.idx (.cstr [102, 70, 105, 73, 115, 83, 116, 84]) (.bin .Mod (.bin .FloorDiv (.var 46) (.bin .Pow (.cint 8) (.var 50))) (.cint 8))) [((.one 50), (.bi .range [(.cint 3)]), [])] [46])]), .assign 52 (.list [(.cint 64256), (.cint 64257), (.cint 64261), (.cint 64262), (.cint 383), (.cint 119813), (.cint 119816), (.cint 119826), (.cint 119827)]), .assign 53 (.list [(.cstr [102, 102]), (.cstr [102, 105]), (.cstr [115, 116]), (.cstr [115, 116]), (.cstr [115]), (.cstr [102]), (.cstr [105]), (.cstr [115]), (.cstr [116])]), .assign 54 (.comp (.bin .Mod (.bin .FloorDiv (.var 47) (.bin .Pow (.cint 9) (.var 50))) (.cint 9)) [((.one 50), (.bi .range [(.cint 3)]), [])] [47]), .assign 55 (.list [(.idx (.list [(.cstr []), (.cstr [126])]) (.bin .Mod (.var 48) (.cint 2))), (.idx (.list [(.cstr []), (.cstr [126]), (.cstr [42])]) (.bin .Mod (.bin .FloorDiv (.var 48) (.cint 2)) (.cint 3))), (.cstr [])]), .assign 56 (.comp (.tuple [(.idx (.var 52) (.idx (.var 54) (.var 50))), (.idx (.var 53) (.idx (.var 54) (.var 50))), (.idx (.var 55) (.var 50))]) [((.one 50), (.bi .range [(.cint 3)]), [])] [52, 53, 54, 55]), .ret (.tuple [(.var 51), (.var 56), (.bin .Mod (.bin .FloorDiv (.var 48) (.cint 6)) (.cint 2)), (.idx (.cstr [124, 43]) (.bin .Mod (.var 49) (.cint 2))), (.idx (.cstr [124, 43]) (.bin .Mod (.bin .FloorDiv (.var 49) (.cint 2)) (.cint 2)))])])
noncomputable def f7 : List Nat × List PS := ([56, 57, 58, 59], [ .assign 60 (.newdict [(.cstr [124]), (.cstr [43]), (.cstr [126]), (.cstr [42])] [(.cint 18), (.cint 14), (.cint 31), (.cint 16)]), .assign 64 (.comp (.bin .Add (.list [(.var 39)]) (.comp (.idx (.var 60) (.var 63)) [((.one 63), (.var 62), [])] [60])) [((.tup [39, 61, 62]), (.var 56), [])] [60]), .ifS (.cmp .Eq (.var 57) (.cint 0)) [ .ret (.bin .Add (.bin .Add (.bin .Add (.bin .Add (.idx (.var 64) (.cint 0)) (.idx (.var 64) (.cint 1))) (.list [(.idx (.var 60) (.var 58))])) (.idx (.var 64) (.cint 2))) (.list [(.idx (.var 60) (.var 59))]))] [], .ret (.bin .Add (.bin .Add (.bin .Add (.idx (.var 64) (.cint 0)) (.idx (.var 64) (.cint 1))) (.idx (.var 64) (.cint 2))) (.list [(.idx (.var 60) (.var 58)), (.idx (.var 60) (.var 59))]))])
noncomputable def f8 : List Nat × List PS := ([65], [ .assign 28 (.newlist [(.bin .Mod (.var 65) (.cint 64))]), .whileS (.cmp .Gt (.var 65) (.cint 63)) [ .aug 65 .FloorDiv (.cint 64), .expr (.meth .insert (.var 28) [(.cint 0), (.bin .Add (.bin .Mod (.var 65) (.cint 64)) (.cint 64))])], .augItem (.var 28) (.cint 0) .Add (.cint 128), .ret (.var 28)])
noncomputable def f9 : List Nat × List PS := ([66], [ .assign 60 (.newlist []), .assign 65 (.call 2 [(.var 66)]), .whileS (.cmp .Is (.call 5 [(.var 65)]) (.cbool false)) [ .expr (.meth .append (.var 60) [(.var 65)]), .assign 65 (.call 2 [(.var 66)])], .ret (.var 60)])
noncomputable def f10 : List Nat × List PS := ([60], [ .assign 68 (.dcomp (.idx (.glob 67) (.var 63)) (.var 63) [((.one 63), (.cstr [124, 43, 126, 42]), [])] []), .assign 69 (.newlist []), .forS (.one 65) (.var 60) [ .ifS (.cmp .Is (.call 4 [(.var 65)]) (.cbool true)) [ .expr (.meth .append (.var 69) [(.list [(.call 3 [(.bi .chr [(.var 65)])])])])] [ .ifS (.cmp .Eq (.idx (.var 68) (.var 65)) (.cstr [126])) [ .expr (.meth .append (.var 69) [(.bin .Add (.list [(.cstr [])]) (.meth .pop (.var 69) []))])] [ .ifS (.cmp .Eq (.idx (.var 68) (.var 65)) (.cstr [42])) [ .assign 61 (.idx (.meth .pop (.var 69) []) (.cint 0)), .expr (.meth .append (.var 69) [(.comp (.bin .Mult (.var 61) (.var 50)) [((.one 50), (.bi .range [(.cint 4)]), [])] [61])])] [ .assign 70 (.meth .pop (.var 69) []), .assign 71 (.meth .pop (.var 69) []), .expr (.meth .append (.var 69) [(.ite (.cmp .Eq (.idx (.var 68) (.var 65)) (.cstr [124])) (.bin .Add (.var 71) (.var 70)) (.comp (.bin .Add (.var 72) (.var 73)) [((.one 72), (.var 71), []), ((.one 73), (.var 70), [])] [70]))])]]]], .ret (.meth .pop (.var 69) [])])
noncomputable def f11 : List Nat × List PS := ([74, 75], [ .ifS (.cmp .Eq (.var 74) (.cstr [])) [ .ret (.cint 2)] [], .ret (.bin .Add (.bin .Sub (.bin .Mult (.cint 2) (.bi .len [(.var 74)])) (.cint 2)) (.bi .min [(.comp (.ite (.cmp .Eq (.var 63) (.var 75)) (.cint 0) (.ite (.cmp .Eq (.meth .lower (.var 63) []) (.var 75)) (.cint 1) (.cint 2))) [((.one 63), (.var 74), [])] [75])]))])
noncomputable def f12 : List Nat × List PS := ([72, 73], [ .ret (.comp (.comp (.bi .min [(.comp (.bin .Add (.idx (.idx (.var 72) (.var 76)) (.var 50)) (.idx (.idx (.var 73) (.var 50)) (.var 77))) [((.one 50), (.bi .range [(.cint 4)]), [])] [72, 73, 76, 77])]) [((.one 77), (.bi .range [(.cint 4)]), [])] [72, 73, 76]) [((.one 76), (.bi .range [(.cint 4)]), [])] [72, 73])])
noncomputable def f13 : List Nat × List PS := ([72, 73], [ .ret (.comp (.comp (.bi .min [(.idx (.idx (.var 72) (.var 76)) (.var 77)), (.idx (.idx (.var 73) (.var 76)) (.var 77))]) [((.one 77), (.bi .range [(.cint 4)]), [])] [72, 73, 76]) [((.one 76), (.bi .range [(.cint 4)]), [])] [72, 73])])
noncomputable def f14 : List Nat × List PS := ([51, 61, 62], [ .assign 78 (.comp (.comp (.ite (.cmp .LtE (.var 76) (.var 77)) (.bin .Mult (.cint 2) (.bin .Sub (.var 77) (.var 76))) (.cint 99)) [((.one 77), (.bi .range [(.cint 4)]), [])] [76]) [((.one 76), (.bi .range [(.cint 4)]), [])] []), .assign 79 (.var 78), .forS (.one 75) (.var 61) [ .assign 79 (.call 12 [(.var 79), (.comp (.comp (.ite (.cmp .LtE (.var 76) (.var 77)) (.call 11 [(.slice (.var 51) (some (.var 76)) (some (.var 77)) none), (.var 75)]) (.cint 99)) [((.one 77), (.bi .range [(.cint 4)]), [])] [51, 75, 76]) [((.one 76), (.bi .range [(.cint 4)]), [])] [51, 75])])], .ifS (.cmp .NotEq (.var 62) (.cstr [42])) [ .ret (.ite (.cmp .Eq (.var 62) (.cstr [126])) (.call 13 [(.var 78), (.var 79)]) (.var 79))] [], .assign 80 (.var 78), .forS (.one 50) (.bi .range [(.cint 3)]) [ .assign 80 (.call 13 [(.var 78), (.call 12 [(.var 79), (.var 80)])])], .ret (.var 80)])
noncomputable def f15 : List Nat × List PS := ([63, 72, 73], [ .ret (.ite (.cmp .Eq (.var 63) (.cstr [124])) (.call 13 [(.var 72), (.var 73)]) (.call 12 [(.var 72), (.var 73)]))])
noncomputable def f16 : List Nat × List PS := ([51, 56, 57, 58, 59], [ .assignTup [72, 73, 81] (.comp (.call 14 [(.var 51), (.var 61), (.var 62)]) [((.tup [39, 61, 62]), (.var 56), [])] [51]), .ifS (.cmp .Eq (.var 57) (.cint 0)) [ .ret (.idx (.call 15 [(.var 59), (.call 15 [(.var 58), (.var 72), (.var 73)]), (.var 81)]) (.cint 0))] [], .ret (.idx (.call 15 [(.var 59), (.var 72), (.call 15 [(.var 58), (.var 73), (.var 81)])]) (.cint 0))])
noncomputable def f17 : List Nat × List PS := ([45], [ .assignTup [51, 56, 57, 58, 59] (.call 6 [(.var 45)]), .assign 82 (.newlist []), .forS (.one 65) (.bin .Add (.bin .Add (.bin .Add (.comp (.bi .ord [(.var 63)]) [((.one 63), (.var 51), [])] []) (.list [(.cint 0)])) (.call 7 [(.var 56), (.var 57), (.var 58), (.var 59)])) (.list [(.cint 0)])) [ .expr (.meth .extend (.var 82) [(.call 8 [(.var 65)])])], .assign 66 (.bi .iter [(.var 82)]), .assign 83 (.meth .join (.cstr []) [(.comp (.bi .chr [(.var 65)]) [((.one 65), (.call 9 [(.var 66)]), [])] [])]), .assign 53 (.call 10 [(.call 9 [(.var 66)])]), .assign 84 (.newlist []), .forS (.one 85) (.bi .range [(.cint 4)]) [ .assign 86 (.cint 99), .forS (.one 61) (.var 53) [ .assign 86 (.bi .min [(.var 86), (.call 1 [(.slice (.var 83) none (some (.var 85)) none), (.var 61), (.var 86)])])], .expr (.meth .append (.var 84) [(.var 86)])], .assign 80 (.comp (.call 1 [(.var 61), (.var 83), (.var 86)]) [((.one 61), (.var 53), [])] [83, 86]), .assign 87 (.comp (.call 1 [(.var 83), (.var 61), (.bin .Sub (.var 86) (.cint 1))]) [((.one 61), (.var 53), [])] [83, 86]), .ret (.boolop true [(.cmp .Eq (.var 84) (.call 16 [(.var 51), (.var 56), (.var 57), (.var 58), (.var 59)])), (.cmp .Eq (.bi .min [(.var 80)]) (.var 86)), (.cmp .GtE (.bi .min [(.var 87)]) (.var 86))])])
noncomputable def Fl : List (List Nat × List PS) := [f0, f1, f2, f3, f4, f5, f6, f7, f8, f9, f10, f11, f12, f13, f14, f15, f16, f17]
noncomputable def F (f : Nat) : Option (List Nat × List PS) := Fl[f]?
noncomputable def names : List String := ["_substitution_cost", "_levenshtein_distance", "_parse_varint", "map_table_b3", "ISNONTERMINAL", "ISEOF", "_law_draw", "_law_symbols", "_law_octets", "_law_read", "_law_words", "_law_one", "_law_behind", "_law_either", "_law_part", "_law_join", "_law_told", "law", "ch_a", "ch_b", "_CASE_COST", "_MOVE_COST", "a", "b", "max_cost", "pre", "post", "_MAX_STRING_SIZE", "row", "result", "bindex", "bchar", "distance", "minimum", "index", "substitute", "insert_delete", "iterator", "val", "code", "b3_exceptions", "r", "x", "NT_OFFSET", "ENDMARKER", "script", "first", "second", "third", "fourth", "k", "typed", "codes", "words", "figures", "marks", "parts", "shape", "inner", "outer", "numbers", "word", "mark", "sign", "rows", "number", "reader", "EXACT_TOKEN_TYPES", "meaning", "pile", "right", "left", "one", "two", "stretch", "letter", "i", "j", "nothing", "table", "again", "three", "tape", "text", "asked", "end", "least", "below"]
noncomputable def g27 : PV := .int 40
noncomputable def g21 : PV := .int 2
noncomputable def g20 : PV := .int 1
noncomputable def g40e : List (PV × PV) := Mine.H2.items.map fun i => (.int i.k, .str i.s.cps.toList)
noncomputable def g40 : PV := .dict g40e
noncomputable def g44 : PV := .int 0
noncomputable def g43 : PV := .int 256
noncomputable def g67e : List (PV × PV) := [(.str [33], .int 54), (.str [33, 61], .int 28), (.str [37], .int 24), (.str [37, 61], .int 40), (.str [38], .int 19), (.str [38, 61], .int 41), (.str [40], .int 7), (.str [41], .int 8), (.str [42], .int 16), (.str [42, 42], .int 35), (.str [42, 42, 61], .int 46), (.str [42, 61], .int 38), (.str [43], .int 14), (.str [43, 61], .int 36), (.str [44], .int 12), (.str [45], .int 15), (.str [45, 61], .int 37), (.str [45, 62], .int 51), (.str [46], .int 23), (.str [46, 46, 46], .int 52), (.str [47], .int 17), (.str [47, 47], .int 47), (.str [47, 47, 61], .int 48), (.str [47, 61], .int 39), (.str [58], .int 11), (.str [58, 61], .int 53), (.str [59], .int 13), (.str [60], .int 20), (.str [60, 60], .int 33), (.str [60, 60, 61], .int 44), (.str [60, 61], .int 29), (.str [61], .int 22), (.str [61, 61], .int 27), (.str [62], .int 21), (.str [62, 61], .int 30), (.str [62, 62], .int 34), (.str [62, 62, 61], .int 45), (.str [64], .int 49), (.str [64, 61], .int 50), (.str [91], .int 9), (.str [93], .int 10), (.str [94], .int 32), (.str [94, 61], .int 43), (.str [123], .int 25), (.str [124], .int 18), (.str [124, 61], .int 42), (.str [125], .int 26), (.str [126], .int 31)]
noncomputable def g67 : PV := .dict g67e
noncomputable def Gl : List (Nat × PV) := [(27, g27), (21, g21), (20, g20), (40, g40), (44, g44), (43, g43), (67, g67)]
noncomputable def G (i : Nat) : Option PV := alook i Gl
noncomputable def P : PProg := ⟨G, F⟩
end Mine.L2
end
section
set_option maxRecDepth 100000
set_option maxHeartbeats 0
namespace Mine.J2
open PySem PySem.W Mine.H2 Mine.Hd
open PyProof.Rows (IntsAre)
noncomputable def nms : List Str := [(Str.ofString "_substitution_cost"), (Str.ofString "_levenshtein_distance"), (Str.ofString "_parse_varint"), (Str.ofString "map_table_b3"), (Str.ofString "ISNONTERMINAL"), (Str.ofString "ISEOF"), (Str.ofString "_law_draw"), (Str.ofString "_law_symbols"), (Str.ofString "_law_octets"), (Str.ofString "_law_read"), (Str.ofString "_law_words"), (Str.ofString "_law_one"), (Str.ofString "_law_behind"), (Str.ofString "_law_either"), (Str.ofString "_law_part"), (Str.ofString "_law_join"), (Str.ofString "_law_told"), (Str.ofString "law"), (Str.ofString "ch_a"), (Str.ofString "ch_b"), (Str.ofString "_CASE_COST"), (Str.ofString "_MOVE_COST"), (Str.ofString "a"), (Str.ofString "b"), (Str.ofString "max_cost"), (Str.ofString "pre"), (Str.ofString "post"), (Str.ofString "_MAX_STRING_SIZE"), (Str.ofString "row"), (Str.ofString "result"), (Str.ofString "bindex"), (Str.ofString "bchar"), (Str.ofString "distance"), (Str.ofString "minimum"), (Str.ofString "index"), (Str.ofString "substitute"), (Str.ofString "insert_delete"), (Str.ofString "iterator"), (Str.ofString "val"), (Str.ofString "code"), (Str.ofString "b3_exceptions"), (Str.ofString "r"), (Str.ofString "x"), (Str.ofString "NT_OFFSET"), (Str.ofString "ENDMARKER"), (Str.ofString "script"), (Str.ofString "first"), (Str.ofString "second"), (Str.ofString "third"), (Str.ofString "fourth"), (Str.ofString "k"), (Str.ofString "typed"), (Str.ofString "codes"), (Str.ofString "words"), (Str.ofString "figures"), (Str.ofString "marks"), (Str.ofString "parts"), (Str.ofString "shape"), (Str.ofString "inner"), (Str.ofString "outer"), (Str.ofString "numbers"), (Str.ofString "word"), (Str.ofString "mark"), (Str.ofString "sign"), (Str.ofString "rows"), (Str.ofString "number"), (Str.ofString "reader"), (Str.ofString "EXACT_TOKEN_TYPES"), (Str.ofString "meaning"), (Str.ofString "pile"), (Str.ofString "right"), (Str.ofString "left"), (Str.ofString "one"), (Str.ofString "two"), (Str.ofString "stretch"), (Str.ofString "letter"), (Str.ofString "i"), (Str.ofString "j"), (Str.ofString "nothing"), (Str.ofString "table"), (Str.ofString "again"), (Str.ofString "three"), (Str.ofString "tape"), (Str.ofString "text"), (Str.ofString "asked"), (Str.ofString "end"), (Str.ofString "least"), (Str.ofString "below")]
noncomputable def fa (f : Nat) : Addr := [21, 28, 35, 81, 91, 98, 103, 108, 115, 122, 127, 132, 137, 142, 147, 154, 159, 164].getD f 0
noncomputable def cx (w : World) (h : Heap) : Cx := ⟨row.prog, w, h, nms, 3, 0, fa⟩
section
variable {w : World} {h : Heap}
theorem nmk : nmChk nms = true := by kernel_rfl
theorem fn0 (X : (K w.params).In h) : ∃ fd o body', FnOk (cx w h) 0 L2.f0.1 L2.f0.2 fd o body' :=
  ⟨_, _, _, fnOk_of (cx := cx w h) (f := 0) (ps := L2.f0.1) (body := L2.f0.2) (o := (o21_13 w.params)) (oc := (o20_12 w.params)) (c := 20) (by kernel_rfl) (X 21 _ (by kernel_rfl)) rfl rfl rfl rfl rfl rfl (X 20 _ (by kernel_rfl)) rfl rfl
    (by apply len2_el; intro a b; rfl)⟩
theorem fn1 (X : (K w.params).In h) : ∃ fd o body', FnOk (cx w h) 1 L2.f1.1 L2.f1.2 fd o body' :=
  ⟨_, _, _, fnOk_of (cx := cx w h) (f := 1) (ps := L2.f1.1) (body := L2.f1.2) (o := (o28_20 w.params)) (oc := (o27_19 w.params)) (c := 27) (by kernel_rfl) (X 28 _ (by kernel_rfl)) rfl rfl rfl rfl rfl rfl (X 27 _ (by kernel_rfl)) rfl rfl
    (by apply len3_el; intro a b c; rfl)⟩
theorem fn2 (X : (K w.params).In h) : ∃ fd o body', FnOk (cx w h) 2 L2.f2.1 L2.f2.2 fd o body' :=
  ⟨_, _, _, fnOk_of (cx := cx w h) (f := 2) (ps := L2.f2.1) (body := L2.f2.2) (o := (o35_27 w.params)) (oc := (o34_26 w.params)) (c := 34) (by kernel_rfl) (X 35 _ (by kernel_rfl)) rfl rfl rfl rfl rfl rfl (X 34 _ (by kernel_rfl)) rfl rfl
    (by apply len1_el; intro a; rfl)⟩
theorem fn3 (X : (K w.params).In h) : ∃ fd o body', FnOk (cx w h) 3 L2.f3.1 L2.f3.2 fd o body' :=
  ⟨_, _, _, fnOk_of (cx := cx w h) (f := 3) (ps := L2.f3.1) (body := L2.f3.2) (o := (o81_37 w.params)) (oc := (o80_36 w.params)) (c := 80) (by kernel_rfl) (X 81 _ (by kernel_rfl)) rfl rfl rfl rfl rfl rfl (X 80 _ (by kernel_rfl)) rfl rfl
    (by apply len1_el; intro a; rfl)⟩
theorem fn4 (X : (K w.params).In h) : ∃ fd o body', FnOk (cx w h) 4 L2.f4.1 L2.f4.2 fd o body' :=
  ⟨_, _, _, fnOk_of (cx := cx w h) (f := 4) (ps := L2.f4.1) (body := L2.f4.2) (o := (o91_51 w.params)) (oc := (o90_50 w.params)) (c := 90) (by kernel_rfl) (X 91 _ (by kernel_rfl)) rfl rfl rfl rfl rfl rfl (X 90 _ (by kernel_rfl)) rfl rfl
    (by apply len1_el; intro a; rfl)⟩
theorem fn5 (X : (K w.params).In h) : ∃ fd o body', FnOk (cx w h) 5 L2.f5.1 L2.f5.2 fd o body' :=
  ⟨_, _, _, fnOk_of (cx := cx w h) (f := 5) (ps := L2.f5.1) (body := L2.f5.2) (o := (o98_58 w.params)) (oc := (o97_57 w.params)) (c := 97) (by kernel_rfl) (X 98 _ (by kernel_rfl)) rfl rfl rfl rfl rfl rfl (X 97 _ (by kernel_rfl)) rfl rfl
    (by apply len1_el; intro a; rfl)⟩
theorem fn6 (X : (K w.params).In h) : ∃ fd o body', FnOk (cx w h) 6 L2.f6.1 L2.f6.2 fd o body' :=
  ⟨_, _, _, fnOk_of (cx := cx w h) (f := 6) (ps := L2.f6.1) (body := L2.f6.2) (o := (o103_63 w.params)) (oc := (o102_62 w.params)) (c := 102) (by kernel_rfl) (X 103 _ (by kernel_rfl)) rfl rfl rfl rfl rfl rfl (X 102 _ (by kernel_rfl)) rfl rfl
    (by apply len1_el; intro a; rfl)⟩
theorem fn7 (X : (K w.params).In h) : ∃ fd o body', FnOk (cx w h) 7 L2.f7.1 L2.f7.2 fd o body' :=
  ⟨_, _, _, fnOk_of (cx := cx w h) (f := 7) (ps := L2.f7.1) (body := L2.f7.2) (o := (o108_68 w.params)) (oc := (o107_67 w.params)) (c := 107) (by kernel_rfl) (X 108 _ (by kernel_rfl)) rfl rfl rfl rfl rfl rfl (X 107 _ (by kernel_rfl)) rfl rfl
    (by apply len4_el; intro a b c d; rfl)⟩
theorem fn8 (X : (K w.params).In h) : ∃ fd o body', FnOk (cx w h) 8 L2.f8.1 L2.f8.2 fd o body' :=
  ⟨_, _, _, fnOk_of (cx := cx w h) (f := 8) (ps := L2.f8.1) (body := L2.f8.2) (o := (o115_75 w.params)) (oc := (o114_74 w.params)) (c := 114) (by kernel_rfl) (X 115 _ (by kernel_rfl)) rfl rfl rfl rfl rfl rfl (X 114 _ (by kernel_rfl)) rfl rfl
    (by apply len1_el; intro a; rfl)⟩
theorem fn9 (X : (K w.params).In h) : ∃ fd o body', FnOk (cx w h) 9 L2.f9.1 L2.f9.2 fd o body' :=
  ⟨_, _, _, fnOk_of (cx := cx w h) (f := 9) (ps := L2.f9.1) (body := L2.f9.2) (o := (o122_82 w.params)) (oc := (o121_81 w.params)) (c := 121) (by kernel_rfl) (X 122 _ (by kernel_rfl)) rfl rfl rfl rfl rfl rfl (X 121 _ (by kernel_rfl)) rfl rfl
    (by apply len1_el; intro a; rfl)⟩
theorem fn10 (X : (K w.params).In h) : ∃ fd o body', FnOk (cx w h) 10 L2.f10.1 L2.f10.2 fd o body' :=
  ⟨_, _, _, fnOk_of (cx := cx w h) (f := 10) (ps := L2.f10.1) (body := L2.f10.2) (o := (o127_87 w.params)) (oc := (o126_86 w.params)) (c := 126) (by kernel_rfl) (X 127 _ (by kernel_rfl)) rfl rfl rfl rfl rfl rfl (X 126 _ (by kernel_rfl)) rfl rfl
    (by apply len1_el; intro a; rfl)⟩
theorem fn11 (X : (K w.params).In h) : ∃ fd o body', FnOk (cx w h) 11 L2.f11.1 L2.f11.2 fd o body' :=
  ⟨_, _, _, fnOk_of (cx := cx w h) (f := 11) (ps := L2.f11.1) (body := L2.f11.2) (o := (o132_92 w.params)) (oc := (o131_91 w.params)) (c := 131) (by kernel_rfl) (X 132 _ (by kernel_rfl)) rfl rfl rfl rfl rfl rfl (X 131 _ (by kernel_rfl)) rfl rfl
    (by apply len2_el; intro a b; rfl)⟩
theorem fn12 (X : (K w.params).In h) : ∃ fd o body', FnOk (cx w h) 12 L2.f12.1 L2.f12.2 fd o body' :=
  ⟨_, _, _, fnOk_of (cx := cx w h) (f := 12) (ps := L2.f12.1) (body := L2.f12.2) (o := (o137_97 w.params)) (oc := (o136_96 w.params)) (c := 136) (by kernel_rfl) (X 137 _ (by kernel_rfl)) rfl rfl rfl rfl rfl rfl (X 136 _ (by kernel_rfl)) rfl rfl
    (by apply len2_el; intro a b; rfl)⟩
theorem fn13 (X : (K w.params).In h) : ∃ fd o body', FnOk (cx w h) 13 L2.f13.1 L2.f13.2 fd o body' :=
  ⟨_, _, _, fnOk_of (cx := cx w h) (f := 13) (ps := L2.f13.1) (body := L2.f13.2) (o := (o142_102 w.params)) (oc := (o141_101 w.params)) (c := 141) (by kernel_rfl) (X 142 _ (by kernel_rfl)) rfl rfl rfl rfl rfl rfl (X 141 _ (by kernel_rfl)) rfl rfl
    (by apply len2_el; intro a b; rfl)⟩
theorem fn14 (X : (K w.params).In h) : ∃ fd o body', FnOk (cx w h) 14 L2.f14.1 L2.f14.2 fd o body' :=
  ⟨_, _, _, fnOk_of (cx := cx w h) (f := 14) (ps := L2.f14.1) (body := L2.f14.2) (o := (o147_109 w.params)) (oc := (o146_108 w.params)) (c := 146) (by kernel_rfl) (X 147 _ (by kernel_rfl)) rfl rfl rfl rfl rfl rfl (X 146 _ (by kernel_rfl)) rfl rfl
    (by apply len3_el; intro a b c; rfl)⟩
theorem fn15 (X : (K w.params).In h) : ∃ fd o body', FnOk (cx w h) 15 L2.f15.1 L2.f15.2 fd o body' :=
  ⟨_, _, _, fnOk_of (cx := cx w h) (f := 15) (ps := L2.f15.1) (body := L2.f15.2) (o := (o154_116 w.params)) (oc := (o153_115 w.params)) (c := 153) (by kernel_rfl) (X 154 _ (by kernel_rfl)) rfl rfl rfl rfl rfl rfl (X 153 _ (by kernel_rfl)) rfl rfl
    (by apply len3_el; intro a b c; rfl)⟩
theorem fn16 (X : (K w.params).In h) : ∃ fd o body', FnOk (cx w h) 16 L2.f16.1 L2.f16.2 fd o body' :=
  ⟨_, _, _, fnOk_of (cx := cx w h) (f := 16) (ps := L2.f16.1) (body := L2.f16.2) (o := (o159_121 w.params)) (oc := (o158_120 w.params)) (c := 158) (by kernel_rfl) (X 159 _ (by kernel_rfl)) rfl rfl rfl rfl rfl rfl (X 158 _ (by kernel_rfl)) rfl rfl
    (by apply len5_el; intro a b c d e; rfl)⟩
theorem fn17 (X : (K w.params).In h) : ∃ fd o body', FnOk (cx w h) 17 L2.f17.1 L2.f17.2 fd o body' :=
  ⟨_, _, _, fnOk_of (cx := cx w h) (f := 17) (ps := L2.f17.1) (body := L2.f17.2) (o := (o164_126 w.params)) (oc := (o163_125 w.params)) (c := 163) (by kernel_rfl) (X 164 _ (by kernel_rfl)) rfl rfl rfl rfl rfl rfl (X 163 _ (by kernel_rfl)) rfl rfl
    (by apply len1_el; intro a; rfl)⟩
theorem fns (X : (K w.params).In h) : ∀ f p, L2.Fl[f]? = some p → ∃ fd o body', FnOk (cx w h) f p.1 p.2 fd o body' :=
  all_idx (.cons (fn0 X) (.cons (fn1 X) (.cons (fn2 X) (.cons (fn3 X) (.cons (fn4 X) (.cons (fn5 X) (.cons (fn6 X) (.cons (fn7 X) (.cons (fn8 X) (.cons (fn9 X) (.cons (fn10 X) (.cons (fn11 X) (.cons (fn12 X) (.cons (fn13 X) (.cons (fn14 X) (.cons (fn15 X) (.cons (fn16 X) (.cons (fn17 X) (.nil)))))))))))))))))))
theorem mgs (X : (K w.params).In h) {mg : Str → Option Value} (hg : h.Ns mainGlobals mg) : ∀ f p, L2.Fl[f]? = some p → mg ((cx w h).name f) = some (.ref (fa f)) :=
  all_idx (.cons (mg_of X hg (by kernel_rfl)) (.cons (mg_of X hg (by kernel_rfl)) (.cons (mg_of X hg (by kernel_rfl)) (.cons (mg_of X hg (by kernel_rfl)) (.cons (mg_of X hg (by kernel_rfl)) (.cons (mg_of X hg (by kernel_rfl)) (.cons (mg_of X hg (by kernel_rfl)) (.cons (mg_of X hg (by kernel_rfl)) (.cons (mg_of X hg (by kernel_rfl)) (.cons (mg_of X hg (by kernel_rfl)) (.cons (mg_of X hg (by kernel_rfl)) (.cons (mg_of X hg (by kernel_rfl)) (.cons (mg_of X hg (by kernel_rfl)) (.cons (mg_of X hg (by kernel_rfl)) (.cons (mg_of X hg (by kernel_rfl)) (.cons (mg_of X hg (by kernel_rfl)) (.cons (mg_of X hg (by kernel_rfl)) (.cons (mg_of X hg (by kernel_rfl)) (.nil)))))))))))))))))))
theorem dic40 (prog : Program) (w : World) : DRel prog w L2.g40e (d0) :=
  dictI (by kernel_rfl) (by kernel_rfl)
theorem dic67 (prog : Program) (w : World) : DRel prog w L2.g67e (o82_40 w.params) :=
  dictT (by kernel_rfl) (by kernel_rfl) (by kernel_rfl)
theorem gls (X : (K w.params).In h) {mg : Str → Option Value} (hg : h.Ns mainGlobals mg) : ∀ i v, alook i L2.Gl = some v → ∃ x, mg ((cx w h).name i) = some x ∧ ∀ σ (B : Addr → Option Obj), (∀ a o, h.get? a = some o → B a = some o) → VRel row.prog w σ B v x :=
  all_k (
    .cons ⟨(.int 40 189), mg_of X hg (by kernel_rfl), fun _ _ _ => .int _ _⟩ (
    .cons ⟨(.int 2 191), mg_of X hg (by kernel_rfl), fun _ _ _ => .int _ _⟩ (
    .cons ⟨(.int 1 193), mg_of X hg (by kernel_rfl), fun _ _ _ => .int _ _⟩ (
    .cons ⟨.ref 36, mg_of X hg (by kernel_rfl), fun _ _ hB => .dict (hB 36 _ (X 36 (d0) (by kernel_rfl))) (dic40 _ w) (by decide)⟩ (
    .cons ⟨(.int 0 2197), mg_of X hg (by kernel_rfl), fun _ _ _ => .int _ _⟩ (
    .cons ⟨(.int 256 2295), mg_of X hg (by kernel_rfl), fun _ _ _ => .int _ _⟩ (
    .cons ⟨.ref 82, mg_of X hg (by kernel_rfl), fun _ _ hB => .dict (hB 82 _ (X 82 (o82_40 w.params) (by kernel_rfl))) (dic67 _ w) (by decide)⟩ (
    .nil))))))))
theorem bis (X : (K w.params).In h) {mg mb : Str → Option Value} (hg : h.Ns mainGlobals mg) (hbv : ∀ x : Str, x ≠ "__name__" → mb x = bootBuiltins x) (b : BI) : mg (biNm b) = none ∧ mb (biNm b) = some (biVal b) := by
  have hd : nsIn (K w.params) mainGlobals (biNm b) = some none := by cases b <;> kernel_rfl
  have hn : biNm b ≠ "__name__" := by cases b <;> decide
  exact ⟨ns_none_of X hg hd, (hbv _ hn).trans (by cases b <;> kernel_rfl)⟩
theorem glob (X : (K w.params).In h) {mg mb : Str → Option Value} (hg : h.Ns mainGlobals mg) (hb : h.Ns builtinsNs mb) (hbv : ∀ x : Str, x ≠ "__name__" → mb x = bootBuiltins x) (hl : h.NoLimit) : Glob (cx w h) L2.P where
  nm := nmOk_of (cx := cx w h) nmk
  lim := hl
  ns := ⟨mg, mb, hg, hb, bis X hg hbv, gls X hg, fun f p e => ⟨mgs X hg f p e, (fns X f p e).elim fun fd h => h.elim fun o h => h.elim fun _ h => ⟨o, fd, h.obj, h.data⟩⟩⟩
end
end Mine.J2
end
section
set_option backward.eqns.nonrecursive false
namespace Mine
section
variable {P : PProg} {n : Nat} {e : PE} {env : PEnv} {st : Store}
theorem eE : (ev P (n + 1)).E e env st = stepE P (ev P n).E (ev P n).C e env st := id rfl
theorem eS {b : List PS} : (ev P (n + 1)).S b env st = stepS (ev P n).E (ev P n).S b env st := id rfl
theorem eC {f : Nat} {vs : List PV} : (ev P (n + 1)).C f vs st = stepC P (ev P n).S f vs st := id rfl
end
theorem get_set' (penv : PEnv) (i : Nat) (v : PV) (j : Nat) : (PEnv.set penv i v).get j = if j = i then some v else penv.get j := by
  induction penv with
  | nil =>
    by_cases h : j = i
    · subst h; simp [PEnv.set, PEnv.get]
    · have : Nat.beq i j = false := by rw [Bool.eq_false_iff]; intro e; exact h (Nat.eq_of_beq_eq_true e).symm
      simp [PEnv.set, PEnv.get, h, this]
  | cons p r ih =>
    obtain ⟨k, u⟩ := p
    by_cases hki : k = i
    · subst hki
      by_cases h : j = k
      · subst h; simp [PEnv.set, PEnv.get]
      · have : Nat.beq k j = false := by rw [Bool.eq_false_iff]; intro e; exact h (Nat.eq_of_beq_eq_true e).symm
        simp [PEnv.set, PEnv.get, h, this]
    · have h1 : Nat.beq k i = false := by rw [Bool.eq_false_iff]; intro e; exact hki (Nat.eq_of_beq_eq_true e)
      by_cases h : k = j
      · subst h; simp [PEnv.set, PEnv.get, h1, hki]
      · have h2 : Nat.beq k j = false := by rw [Bool.eq_false_iff]; intro e; exact h (Nat.eq_of_beq_eq_true e)
        simp only [PEnv.set, h1, cond_false, PEnv.get, h2]; exact ih
noncomputable def sub (a b : Nat) : Nat := if a = b then 0 else if lowC a = lowC b then 1 else 2
section
variable {st : Store}
theorem rd_str (l : List Nat) : rd st (.str l) = .str l := id rfl
theorem rd_int (i : Int) : rd st (.int i) = .int i := id rfl
theorem rd_list (l : List PV) : rd st (.list l) = .list l := id rfl
theorem rd_dict (l : List (PV × PV)) : rd st (.dict l) = .dict l := id rfl
theorem rd_tuple (l : List PV) : rd st (.tuple l) = .tuple l := id rfl
theorem rd_none : rd st .none = .none := id rfl
theorem rd_bool (b : Bool) : rd st (.bool b) = .bool b := id rfl
theorem rd_ref {n : Nat} {xs : List PV} (h : st[n]? = some (.list xs)) : rd st (.ref n) = .list xs := by simp only [rd, h]
theorem rd_refd {n : Nat} {xs : List (PV × PV)} (h : st[n]? = some (.dict xs)) : rd st (.ref n) = .dict xs := by simp only [rd, h]
end
theorem nb (a b : Nat) : Nat.beq a b = decide (a = b) := by
  by_cases h : a = b
  · subst h; simp
  · rw [decide_eq_false h, Bool.eq_false_iff]; exact fun e => h (Nat.eq_of_beq_eq_true e)
theorem bif_t {α : Type} (a b : α) : (bif true then a else b) = a := id rfl
theorem bif_f {α : Type} (a b : α) : (bif false then a else b) = b := id rfl
theorem low_one {a : Nat} (ha : a < 128) : plower [a] = some [lowC a] := by
  unfold plower
  simp [ha, lim]
theorem min2_c (a b : Int) (st : Store) : pbi .min [.int a, .int b] st = some (.int (min a b), st) := id rfl
theorem sub_def : L2.P.F 0 = some L2.f0 := id rfl
theorem G21 : L2.P.G 21 = some (.int 2) := id rfl
theorem G20 : L2.P.G 20 = some (.int 1) := id rfl
theorem sub_c (n : Nat) (st : Store) (a b : Nat) (ha : a < 128) (hb : b < 128) : (ev L2.P (n + 8)).C 0 [.str [a], .str [b]] st = some (.int (sub a b), st) := by
  by_cases h : a = b
  · subst h
    simp [eC, stepC, sub_def, L2.f0, bindAll, PEnv.set, nb, eS, eE, stepS, stepS1, stepE, evTest, PEnv.get, pcmp, PV.eqv, eqF, rd_str, truthyV, sub, freeze]
  · have h' : (a == b) = false := by simpa using h
    by_cases h2 : lowC a = lowC b
    · have h2' : (lowC a == lowC b) = true := by simpa using h2
      simp [eC, stepC, sub_def, L2.f0, bindAll, PEnv.set, nb, eS, eE, stepS, stepS1, stepE, evTest, PEnv.get, pcmp, PV.eqv, eqF, rd_str, truthyV, sub, freeze, h, h', h2, h2', meOk, isS, a0, oS, evList, pmeth, low_one ha, low_one hb, G20, G21]
    · have h2' : (lowC a == lowC b) = false := by simpa using h2
      simp [eC, stepC, sub_def, L2.f0, bindAll, PEnv.set, nb, eS, eE, stepS, stepS1, stepE, evTest, PEnv.get, pcmp, PV.eqv, eqF, rd_str, truthyV, sub, freeze, h, h', h2, h2', meOk, isS, a0, oS, evList, pmeth, low_one ha, low_one hb, G20, G21]
end Mine
end
section
set_option backward.eqns.nonrecursive false
namespace Mine
theorem sub_self (a : Nat) : sub a a = 0 := if_pos rfl
theorem sub_le (a b : Nat) : sub a b ≤ 2 := by
  unfold sub
  split
  · exact Nat.zero_le _
  · split
    · exact Nat.le_succ _
    · exact Nat.le_refl _
theorem sub_comm (a b : Nat) : sub a b = sub b a := by
  unfold sub
  by_cases h : a = b
  · rw [if_pos h, if_pos h.symm]
  · rw [if_neg h, if_neg (Ne.symm h)]
    by_cases h2 : lowC a = lowC b
    · rw [if_pos h2, if_pos h2.symm]
    · rw [if_neg h2, if_neg (Ne.symm h2)]
noncomputable def edc (a : Nat) (f : List Nat → Nat) : List Nat → Nat
  | [] => f [] + 2
  | b :: v => min (f v + sub a b) (min (f (b :: v)) (edc a f v) + 2)
noncomputable def ed : List Nat → List Nat → Nat
  | [] => fun v => 2 * v.length
  | a :: u => edc a (ed u)
theorem ed_nil (v : List Nat) : ed [] v = 2 * v.length := rfl
theorem ed_nil' (u : List Nat) : ed u [] = 2 * u.length := by
  induction u with
  | nil => rfl
  | cons a u ih => exact congrArg (· + 2) ih
theorem ed_cons (a : Nat) (u : List Nat) (b : Nat) (v : List Nat) : ed (a :: u) (b :: v) = min (ed u v + sub a b) (min (ed u (b :: v)) (ed (a :: u) v) + 2) := rfl
section
variable {a b : Nat} {u v : List Nat} {n : Nat}
theorem ed_1 : ed (a :: u) (b :: v) ≤ ed u v + sub a b := Nat.min_le_left ..
theorem ed_2 : ed (a :: u) (b :: v) ≤ ed u (b :: v) + 2 := Nat.le_trans (Nat.min_le_right ..) (Nat.add_le_add_right (Nat.min_le_left ..) 2)
theorem ed_3 : ed (a :: u) (b :: v) ≤ ed (a :: u) v + 2 := Nat.le_trans (Nat.min_le_right ..) (Nat.add_le_add_right (Nat.min_le_right ..) 2)
theorem ed_by {C : Nat → Prop} (h1 : C (ed u v + sub a b)) (h2 : C (ed u (b :: v) + 2)) (h3 : C (ed (a :: u) v + 2)) : C (ed (a :: u) (b :: v)) := by
  rw [ed_cons, ← Nat.add_min_add_right]
  rcases Nat.le_total (ed u (b :: v) + 2) (ed (a :: u) v + 2) with h | h
  · rw [Nat.min_eq_left h]
    rcases Nat.le_total (ed u v + sub a b) (ed u (b :: v) + 2) with g | g
    · rw [Nat.min_eq_left g]; exact h1
    · rw [Nat.min_eq_right g]; exact h2
  · rw [Nat.min_eq_right h]
    rcases Nat.le_total (ed u v + sub a b) (ed (a :: u) v + 2) with g | g
    · rw [Nat.min_eq_left g]; exact h1
    · rw [Nat.min_eq_right g]; exact h3
end
theorem two_ind {C : List Nat → List Nat → Prop} (h0 : ∀ v, C [] v) (h1 : ∀ a u, C (a :: u) []) (h2 : ∀ a u b v, C u v → C u (b :: v) → C (a :: u) v → C (a :: u) (b :: v)) (u : List Nat) : ∀ v, C u v := by
  induction u with
  | nil => exact h0
  | cons a u ih =>
    intro v
    induction v with
    | nil => exact h1 a u
    | cons b v iv => exact h2 a u b v (ih v) (ih _) iv
theorem ed_comm (u v : List Nat) : ed u v = ed v u := by
  have key : ∀ u v, ed u v ≤ ed v u := two_ind (C := fun u v => ed u v ≤ ed v u) (fun v => Nat.le_of_eq (ed_nil' v).symm) (fun a u => Nat.le_of_eq (ed_nil' (a :: u))) fun a u b v i1 i2 i3 =>
    ed_by (C := fun n => ed (a :: u) (b :: v) ≤ n) (sub_comm a b ▸ Nat.le_trans ed_1 (Nat.add_le_add_right i1 _)) (Nat.le_trans ed_3 (Nat.add_le_add_right i3 2)) (Nat.le_trans ed_2 (Nat.add_le_add_right i2 2))
  exact Nat.le_antisymm (key u v) (key v u)
theorem ed_up (u : List Nat) (b : Nat) (v : List Nat) : ed u (b :: v) ≤ ed u v + 2 := by
  cases u with
  | nil => exact Nat.le_refl _
  | cons a u => exact ed_3
theorem ed_up' (u : List Nat) (b : Nat) (v : List Nat) : ed (b :: u) v ≤ ed u v + 2 := by rw [ed_comm, ed_comm u]; exact ed_up v b u
theorem ed_down (u : List Nat) (b : Nat) (v : List Nat) : ed u v ≤ ed u (b :: v) + 2 := by
  induction u generalizing v with
  | nil => exact Nat.le_trans (Nat.le_add_right _ 2) (Nat.le_add_right _ 2)
  | cons a u ih =>
    have h1 := ed_up' u a v
    exact ed_by (C := fun n => ed (a :: u) v ≤ n + 2) (Nat.le_trans h1 (Nat.add_le_add_right (Nat.le_add_right ..) 2)) (Nat.le_trans h1 (Nat.add_le_add_right (ih v) 2)) (Nat.le_trans (Nat.le_add_right _ 2) (Nat.le_add_right _ 2))
theorem ed_down' (u : List Nat) (b : Nat) (v : List Nat) : ed u v ≤ ed (b :: u) v + 2 := by rw [ed_comm, ed_comm (b :: u)]; exact ed_down v b u
theorem ed_same (c : Nat) (u v : List Nat) : ed (c :: u) (c :: v) = ed u v :=
  Nat.le_antisymm (Nat.le_trans ed_1 (Nat.le_of_eq (congrArg (ed u v + ·) (sub_self c)))) (ed_by (C := fun n => ed u v ≤ n) (Nat.le_add_right ..) (ed_down u c v) (ed_down' u c v))
theorem ed_app_le (x₁ x₂ u v : List Nat) : ed (x₁ ++ x₂) (u ++ v) ≤ ed x₁ u + ed x₂ v := by
  refine two_ind (C := fun x₁ u => ed (x₁ ++ x₂) (u ++ v) ≤ ed x₁ u + ed x₂ v) (fun u => ?_) (fun a x₁ => ?_) (fun a x₁ b u i1 i2 i3 => ?_) x₁ u
  · induction u with
    | nil => exact Nat.le_of_eq (Nat.zero_add _).symm
    | cons b u ih => exact Nat.le_trans (ed_up x₂ b (u ++ v)) (Nat.le_trans (Nat.add_le_add_right ih 2) (Nat.le_of_eq (Nat.add_right_comm ..)))
  · induction x₁ generalizing a with
    | nil => exact Nat.le_trans (ed_up' x₂ a v) (Nat.le_of_eq (Nat.add_comm ..))
    | cons c x₁ ih => exact Nat.le_trans (ed_up' _ a v) (Nat.le_trans (Nat.add_le_add_right (ih c) 2) (Nat.le_of_eq (Nat.add_right_comm ..)))
  · exact ed_by (C := fun n => ed (a :: (x₁ ++ x₂)) (b :: (u ++ v)) ≤ n + ed x₂ v) (Nat.le_trans ed_1 (Nat.le_trans (Nat.add_le_add_right i1 _) (Nat.le_of_eq (Nat.add_right_comm ..)))) (Nat.le_trans ed_2 (Nat.le_trans (Nat.add_le_add_right i2 _) (Nat.le_of_eq (Nat.add_right_comm ..))))
      (Nat.le_trans ed_3 (Nat.le_trans (Nat.add_le_add_right i3 _) (Nat.le_of_eq (Nat.add_right_comm ..))))
theorem ed_app_ex (x u v : List Nat) : ∃ k, k ≤ x.length ∧ ed (x.take k) u + ed (x.drop k) v ≤ ed x (u ++ v) := by
  refine two_ind (C := fun x u => ∃ k, k ≤ x.length ∧ ed (x.take k) u + ed (x.drop k) v ≤ ed x (u ++ v)) (fun u => ⟨0, Nat.le_refl _, ?_⟩) (fun a x => ⟨0, Nat.zero_le _, Nat.le_of_eq (Nat.zero_add _)⟩) (fun a x b u i1 i2 i3 => ?_) x u
  · show 2 * u.length + 2 * v.length ≤ 2 * (u ++ v).length
    rw [List.length_append, Nat.mul_add]; exact Nat.le_refl _
  · obtain ⟨k1, h1, e1⟩ := i1
    obtain ⟨k2, h2, e2⟩ := i2
    obtain ⟨k3, h3, e3⟩ := i3
    have st : ∀ {p q r d n : Nat}, p ≤ q + d → q + r ≤ n → p + r ≤ n + d := fun h g => Nat.le_trans (Nat.add_le_add_right h _) (Nat.le_trans (Nat.le_of_eq (Nat.add_right_comm ..)) (Nat.add_le_add_right g _))
    exact ed_by (C := fun n => ∃ k, k ≤ (a :: x).length ∧ ed ((a :: x).take k) (b :: u) + ed ((a :: x).drop k) v ≤ n) ⟨k1 + 1, Nat.succ_le_succ h1, st ed_1 e1⟩ ⟨k2 + 1, Nat.succ_le_succ h2, st ed_2 e2⟩ ⟨k3, h3, st (ed_up _ b u) e3⟩
theorem ed_rev (u v : List Nat) : ed u.reverse v.reverse = ed u v := by
  have one : ∀ (u v : List Nat) (a b : Nat), ed (u ++ [a]) (v ++ [b]) ≤ ed u v + sub a b := fun u v a b => Nat.le_trans (ed_app_le u [a] v [b]) (Nat.add_le_add_left (Nat.le_trans ed_1 (Nat.le_of_eq (Nat.zero_add _))) _)
  have two : ∀ (u v : List Nat) (a : Nat), ed (u ++ [a]) v ≤ ed u v + 2 := fun u v a => by
    have := ed_app_le u [a] v []
    rwa [List.append_nil] at this
  have key : ∀ u v, ed u.reverse v.reverse ≤ ed u v := two_ind (C := fun u v => ed u.reverse v.reverse ≤ ed u v) (fun v => Nat.le_of_eq (by rw [ed_nil, List.reverse_nil, ed_nil, List.length_reverse])) (fun a u => Nat.le_of_eq (by rw [ed_nil', List.reverse_nil, ed_nil', List.length_reverse])) fun a u b v i1 i2 i3 => by
    rw [List.reverse_cons] at i2 i3 ⊢
    rw [List.reverse_cons]
    refine ed_by (C := fun n => ed (u.reverse ++ [a]) (v.reverse ++ [b]) ≤ n) (Nat.le_trans (one ..) (Nat.add_le_add_right i1 _)) (Nat.le_trans (two ..) (Nat.add_le_add_right i2 _)) (Nat.le_trans ?_ (Nat.add_le_add_right i3 _))
    rw [ed_comm, ed_comm (u.reverse ++ [a])]; exact two ..
  refine Nat.le_antisymm (key u v) ?_
  have := key u.reverse v.reverse
  rwa [List.reverse_reverse, List.reverse_reverse] at this
theorem ed_snoc (u v : List Nat) (a b : Nat) : ed (u ++ [a]) (v ++ [b]) = min (ed u v + sub a b) (min (ed u (v ++ [b])) (ed (u ++ [a]) v) + 2) := by
  rw [← ed_rev (u ++ [a]), ← ed_rev u v, ← ed_rev u (v ++ [b]), ← ed_rev (u ++ [a]) v, List.reverse_concat, List.reverse_concat]
  exact ed_cons ..
theorem ed_sameEnd (u v : List Nat) (c : Nat) : ed (u ++ [c]) (v ++ [c]) = ed u v := by
  rw [← ed_rev, List.reverse_concat, List.reverse_concat, ed_same, ed_rev]
theorem ed_pre (p u v : List Nat) : ed (p ++ u) (p ++ v) = ed u v := by
  induction p with
  | nil => rfl
  | cons c p ih => exact (ed_same ..).trans ih
theorem ed_post (u v p : List Nat) : ed (u ++ p) (v ++ p) = ed u v := by
  rw [← ed_rev, List.reverse_append, List.reverse_append, ed_pre, ed_rev]
theorem ed_self (u : List Nat) : ed u u = 0 := by
  have := ed_pre u [] []
  rwa [List.append_nil] at this
theorem ed_len (u v : List Nat) : 2 * v.length ≤ ed u v + 2 * u.length := by
  induction u with
  | nil => exact Nat.le_refl _
  | cons a u ih => exact Nat.le_trans ih (Nat.le_trans (Nat.add_le_add_right (ed_down' u a v) _) (Nat.le_of_eq (Nat.add_right_comm ..)))
end Mine
end
section
set_option backward.eqns.nonrecursive false
namespace Mine
open PySem
theorem range_pick {α : Type} (l : List α) (a m : Nat) (h : a + m ≤ l.length) : ((List.range m).map (a + ·)).filterMap (l[·]?) = (l.drop a).take m := by
  induction m with
  | zero => exact (List.take_zero ..).symm
  | succ m ih =>
    have h1 : l[a + m]? = some l[a + m] := List.getElem?_eq_getElem h
    rw [List.range_succ, List.map_append, List.filterMap_append, ih (Nat.le_of_succ_le h), List.take_add_one, List.getElem?_drop, h1]
    exact congrArg (List.take m (List.drop a l) ++ ·) (List.filterMap_cons_some h1)
theorem cut_nat {k n d : Nat} (h : k ≤ n) : cutAt n d (some (k : Int)) = (k : Int) := by
  show max 0 (min (if (k : Int) < 0 then _ else _) (n : Int)) = _
  rw [if_neg (Int.not_lt.mpr (Int.natCast_nonneg k)), Int.min_eq_left (Int.ofNat_le.mpr h), Int.max_eq_right (Int.natCast_nonneg k)]
theorem cut_neg {k n d : Nat} (h : k ≤ n) (h0 : 0 < k) : cutAt n d (some (-(k : Int))) = ((n - k : Nat) : Int) := by
  show max 0 (min (if -(k : Int) < 0 then _ else _) (n : Int)) = _
  rw [if_pos (Int.neg_neg_of_pos (Int.ofNat_lt.mpr h0)), Int.add_comm, ← Int.sub_eq_add_neg, ← Int.ofNat_sub h, Int.min_eq_left (Int.ofNat_le.mpr (Nat.sub_le ..)), Int.max_eq_right (Int.natCast_nonneg _)]
theorem pick_at {α : Type} (l : List α) {lo hi : Option Int} {a b : Nat} (ha : cutAt l.length 0 lo = (a : Int)) (hb : cutAt l.length l.length hi = (b : Int)) (h : b ≤ l.length) : Mine.pick l lo hi 1 = (l.drop a).take (b - a) := by
  unfold Mine.pick
  rw [ssi_one, ha, hb, sliceRange_one]
  by_cases hab : a ≤ b
  · exact range_pick l a (b - a) (by rw [Nat.add_sub_cancel' hab]; exact h)
  · rw [Nat.sub_eq_zero_of_le (Nat.le_of_not_le hab), List.take_zero]; rfl
theorem pick_from {α : Type} (l : List α) {k : Nat} (h : k ≤ l.length) : Mine.pick l (some (k : Int)) none 1 = l.drop k := by
  rw [pick_at l (cut_nat h) rfl (Nat.le_refl _)]
  exact List.take_of_length_le (Nat.le_of_eq (List.length_drop ..))
theorem pick_all {α : Type} (l : List α) : Mine.pick l none none 1 = l := by
  rw [pick_at l (a := 0) rfl rfl (Nat.le_refl _)]
  exact List.take_length
theorem pick_to {α : Type} (l : List α) {k : Nat} (h : k ≤ l.length) : Mine.pick l none (some (k : Int)) 1 = l.take k := pick_at l (a := 0) rfl (cut_nat h) h
theorem pick_toNeg {α : Type} (l : List α) {k : Nat} (h : k ≤ l.length) (h0 : 0 < k) : Mine.pick l none (some (-(k : Int))) 1 = l.take (l.length - k) := pick_at l (a := 0) rfl (cut_neg h h0) (Nat.sub_le ..)
theorem slice_str_c (l : List Nat) {lo hi : PV} {a b : Option Int} (hl : l.length ≤ lim) (ha : partO lo = some a) (hb : partO hi = some b) : pslice (.str l) lo hi .none = some (.str (Mine.pick l a b 1)) := by
  unfold pslice
  rw [ha, hb]
  exact congrArg (fun c => bif c then some (PV.str (Mine.pick l a b 1)) else none) (decide_eq_true hl)
theorem slice_from (l : List Nat) {k : Nat} (h : k ≤ l.length) (hl : l.length ≤ lim) : pslice (.str l) (.int k) .none .none = some (.str (l.drop k)) := pick_from l h ▸ slice_str_c l hl rfl rfl
theorem slice_all (l : List Nat) (hl : l.length ≤ lim) : pslice (.str l) .none .none .none = some (.str l) := (slice_str_c l hl rfl rfl).trans (congrArg (fun x => some (PV.str x)) (pick_all l))
theorem slice_toNeg (l : List Nat) {k : Nat} (h : k ≤ l.length) (h0 : 0 < k) (hl : l.length ≤ lim) : pslice (.str l) .none (.int (-(k : Int))) .none = some (.str (l.take (l.length - k))) := pick_toNeg l h h0 ▸ slice_str_c l hl rfl rfl
theorem slice_to (l : List Nat) {k : Nat} (h : k ≤ l.length) (hl : l.length ≤ lim) : pslice (.str l) .none (.int k) .none = some (.str (l.take k)) := pick_to l h ▸ slice_str_c l hl rfl rfl
theorem idx_str_c (l : List Nat) {i : Int} {j c : Nat} (h1 : seqIndex? i l.length = some j) (hc : l[j]? = some c) (hl : l.length ≤ lim) (h2 : -(lim : Int) ≤ i) (h3 : i ≤ (lim : Int)) : pidx (.str l) (.int i) = some (.str [c]) := by
  show (bif decide (l.length ≤ lim) && decide (-(lim : Int) ≤ i) && decide (i ≤ (lim : Int)) then ((seqIndex? i l.length).bind (l[·]?)).map fun c => PV.str [c] else none) = _
  rw [decide_eq_true hl, decide_eq_true h2, decide_eq_true h3, h1]
  exact congrArg (Option.map fun c => PV.str [c]) hc
theorem idx_str (l : List Nat) {k c : Nat} (hc : l[k]? = some c) (hl : l.length ≤ lim) : pidx (.str l) (.int k) = some (.str [c]) :=
  have hk := (List.getElem?_eq_some_iff.mp hc).1
  idx_str_c l (seqIndex_nat (Int.natCast_nonneg k) hk) hc hl (Int.le_trans (by decide) (Int.natCast_nonneg k)) (Int.ofNat_le.mpr (Nat.le_trans (Nat.le_of_lt hk) hl))
theorem idx_strNeg (l : List Nat) {k c : Nat} (h0 : 0 < k) (hk : k ≤ l.length) (hc : l[l.length - k]? = some c) (hl : l.length ≤ lim) : pidx (.str l) (.int (-(k : Int))) = some (.str [c]) := by
  have e1 : (-(k : Int)) < 0 := Int.neg_neg_of_pos (Int.ofNat_lt.mpr h0)
  have e4 : (-(k : Int) + l.length) = ((l.length - k : Nat) : Int) := by rw [Int.add_comm, ← Int.sub_eq_add_neg, ← Int.ofNat_sub hk]
  have h1 : seqIndex? (-(k : Int)) l.length = some (l.length - k) := by
    unfold seqIndex?
    simp only [if_pos e1, e4]
    exact if_pos (by rw [decide_eq_true (Int.natCast_nonneg _), decide_eq_true (Int.ofNat_lt.mpr (Nat.sub_lt (Nat.lt_of_lt_of_le h0 hk) h0))]; rfl)
  exact idx_str_c l h1 hc hl (Int.neg_le_neg (Int.ofNat_le.mpr (Nat.le_trans hk hl))) (Int.le_trans (Int.le_of_lt e1) (by decide))
theorem while_run {test : PEnv → Store → Option (Bool × Store)} {body : PEnv → Store → Option (PFlow × PEnv × Store)} (E : Nat → PEnv) (S : Nat → Store) (K : Nat)
    (ht : ∀ i, i < K → test (E i) (S i) = some (true, S i)) (hb : ∀ i, i < K → body (E i) (S i) = some (.next, E (i + 1), S (i + 1))) (hl : test (E K) (S K) = some (false, S K)) (d : Nat) :
    ∀ (fuel i : Nat), i + d = K → d < fuel → whileN test body fuel (E i) (S i) = some (.next, E K, S K) := by
  induction d with
  | zero =>
    intro fuel i hi hf
    cases fuel with
    | zero => exact absurd hf (Nat.not_lt_zero _)
    | succ fuel =>
      have hi : i = K := hi
      subst hi
      show (match test (E i) (S i) with
        | some (true, st) => match body (E i) st with
          | some (.next, env, st) => whileN test body fuel env st
          | x => x
        | some (false, st) => some (.next, E i, st)
        | none => none) = _
      rw [hl]
  | succ d ih =>
    intro fuel i hi hf
    cases fuel with
    | zero => exact absurd hf (Nat.not_lt_zero _)
    | succ fuel =>
      have hlt : i < K := hi ▸ Nat.lt_add_of_pos_right (Nat.succ_pos d)
      show (match test (E i) (S i) with
        | some (true, st) => match body (E i) st with
          | some (.next, env, st) => whileN test body fuel env st
          | x => x
        | some (false, st) => some (.next, E i, st)
        | none => none) = _
      rw [ht i hlt]
      show (match body (E i) (S i) with
          | some (.next, env, st) => whileN test body fuel env st
          | x => x) = _
      rw [hb i hlt]
      exact ih fuel (i + 1) ((Nat.succ_add_eq_add_succ i d).trans hi) (Nat.lt_of_succ_lt_succ hf)
theorem for_run {body : PEnv → Store → Option (PFlow × PEnv × Store)} {t : Tgt} (E : Nat → PEnv) (S : Nat → Store) (items : List PV) : ∀ (i : Nat),
    (∀ j x, items[j]? = some x → ∃ env, bindTgt t x (E (i + j)) = some env ∧ body env (S (i + j)) = some (.next, E (i + j + 1), S (i + j + 1))) →
    forN body t items (E i) (S i) = some (.next, E (i + items.length), S (i + items.length)) := by
  induction items with
  | nil => exact fun _ _ => rfl
  | cons x r ih =>
    intro i h
    obtain ⟨env, h1, h2⟩ := h 0 x rfl
    show (match bindTgt t x (E i) with
      | some env => match body env (S i) with
        | some (.next, env, st) => forN body t r env st
        | x => x
      | none => none) = _
    rw [show bindTgt t x (E i) = some env from h1]
    show (match body env (S i) with
        | some (.next, env, st) => forN body t r env st
        | x => x) = _
    rw [show body env (S i) = some (.next, E (i + 1), S (i + 1)) from h2]
    have := ih (i + 1) fun j y hy => by
      have := h (j + 1) y hy
      rw [Nat.add_right_comm i 1 j]; exact this
    rw [List.length_cons, ← Nat.add_assoc, Nat.add_right_comm]; exact this
end Mine
end
section
set_option backward.eqns.nonrecursive false
namespace Mine
open PySem
noncomputable def natV (l : List Nat) : List PV := l.map fun (x : Nat) => PV.int (x : Int)
noncomputable def rowGo (bc : Nat) : Nat → Nat → List Nat → List Nat → List Nat
  | res, dist, a :: as, c :: cs => min (min res c + 2) (dist + sub bc a) :: rowGo bc (min (min res c + 2) (dist + sub bc a)) c as cs
  | _, _, _, _ => []
noncomputable def lastD : Nat → List Nat → Nat
  | d, [] => d
  | _, x :: r => lastD x r
noncomputable def minI : Int → List Nat → Int
  | m, [] => m
  | m, x :: r => minI (if (x : Int) < m then (x : Int) else m) r
noncomputable def inBody : List PS := [
              .assign 35 (.bin .Add (.var 32) (.call 0 [(.var 31), (.idx (.var 22) (.var 34))])),
              .assign 32 (.idx (.var 28) (.var 34)),
              .assign 36 (.bin .Add (.bi .min [(.var 29), (.var 32)]) (.glob 21)),
              .assign 29 (.bi .min [(.var 36), (.var 35)]),
              .setItem (.var 28) (.var 34) (.var 29),
              .ifS (.cmp .Lt (.var 29) (.var 33))
                [
                  .assign 33 (.var 29)]
                []]
theorem set_same {α : Type} {l : List α} {n : Nat} {x : α} (h : l[n]? = some x) : l.set n x = l := by
  apply List.ext_getElem?
  intro i
  rw [List.getElem?_set]
  split
  · rename_i e; subst e
    obtain ⟨h1, h2⟩ := List.getElem?_eq_some_iff.mp h
    simp [h1, h2]
  · rfl
theorem setAt_c {st : Store} {r : Nat} {xs : List PV} (h : st[r]? = some (.list xs)) {i : Nat} (hi : i < xs.length) (hl : xs.length ≤ lim) (v : PV) : setAt (.ref r) (.int (i : Int)) v st = some (st.set r (.list (xs.set i v))) := by
  show oO st[r]? _ = _
  rw [h]
  show (bif decide (0 ≤ (i : Int)) && decide ((i : Int).toNat < xs.length) && decide (xs.length ≤ lim) then some (st.set r (.list (xs.set (i : Int).toNat v))) else none) = _
  rw [decide_eq_true (Int.natCast_nonneg i), Int.toNat_natCast, decide_eq_true hi, decide_eq_true hl]; rfl
theorem G27 : L2.P.G 27 = some (.int 40) := id rfl
theorem in_step (n : Nat) (a b : List Nat) (mx : Int) (r : Nat) (bc x c : Nat) (res dist : Nat) (mn : Int) (i : Nat) (env : PEnv) (st : Store) (xs : List PV) (ha : a[i]? = some x) (hl : a.length ≤ 50) (hx : x < 128) (hb : bc < 128)
    (h22 : env.get 22 = some (.str a)) (h28 : env.get 28 = some (.ref r)) (h29 : env.get 29 = some (.int res)) (h31 : env.get 31 = some (.str [bc])) (h32 : env.get 32 = some (.int dist)) (h33 : env.get 33 = some (.int mn))
    (hst : st[r]? = some (.list xs)) (hc : xs[i]? = some (.int c)) (hxl : xs.length ≤ 50) :
    (ev L2.P (n + 14)).S inBody (env.set 34 (.int i)) st =
      some (.next, (if ((min (min res c + 2) (dist + sub bc x) : Nat) : Int) < mn then
        (((((env.set 34 (.int i)).set 35 (.int ((dist + sub bc x : Nat) : Int))).set 32 (.int c)).set 36 (.int ((min res c + 2 : Nat) : Int))).set 29 (.int ((min (min res c + 2) (dist + sub bc x) : Nat) : Int))).set 33 (.int ((min (min res c + 2) (dist + sub bc x) : Nat) : Int))
        else ((((env.set 34 (.int i)).set 35 (.int ((dist + sub bc x : Nat) : Int))).set 32 (.int c)).set 36 (.int ((min res c + 2 : Nat) : Int))).set 29 (.int ((min (min res c + 2) (dist + sub bc x) : Nat) : Int))),
        st.set r (.list (xs.set i (.int ((min (min res c + 2) (dist + sub bc x) : Nat) : Int))))) := by
  have hi := (List.getElem?_eq_some_iff.mp ha).1
  have hix := (List.getElem?_eq_some_iff.mp hc).1
  have i1 : pidx (.str a) (.int (i : Int)) = some (.str [x]) := idx_str a ha (by have : lim = 100000 := rfl; omega)
  have i2 : pidx (.list xs) (.int (i : Int)) = some (.int c) := by
    have e1 : ((i : Int) ≤ 100000) := by omega
    simp [pidx, e1, hc]
  have i3 : rd st (.ref r) = .list xs := rd_ref hst
  have i4 : (ev L2.P (n + 11)).C 0 [.str [bc], .str [x]] st = some (.int (sub bc x), st) := sub_c (n + 3) st bc x hb hx
  have e1 : (dist : Int) + (sub bc x : Int) = ((dist + sub bc x : Nat) : Int) := by omega
  have e2 : min (res : Int) (c : Int) + 2 = ((min res c + 2 : Nat) : Int) := by omega
  have e3 : min ((min res c + 2 : Nat) : Int) ((dist + sub bc x : Nat) : Int) = ((min (min res c + 2) (dist + sub bc x) : Nat) : Int) := by omega
  have i5 : ∀ v, setAt (.ref r) (.int (i : Int)) v st = some (st.set r (.list (xs.set i v))) := setAt_c hst hix (Nat.le_trans hxl (by decide))
  simp only [inBody, eS, stepS, stepS1, eE, stepE, get_set', h22, h28, h29, h31, h32, h33, evList, i1, i2, i3, i4, rd_str, rd_int, pbin, e1, e2, e3, min2_c, G21, evTest, pcmp, truthyV, i5, Nat.reduceEqDiff, ↓reduceIte]
  by_cases hm : ((min (min res c + 2) (dist + sub bc x) : Nat) : Int) < mn
  · simp only [hm, decide_true, get_set', Nat.reduceEqDiff, ↓reduceIte]
  · simp only [hm, decide_false, get_set', Nat.reduceEqDiff, ↓reduceIte]
structure Lv (a b : List Nat) (mx : Int) (r : Nat) (env : PEnv) : Prop where
  h22 : env.get 22 = some (.str a)
  h23 : env.get 23 = some (.str b)
  h24 : env.get 24 = some (.int mx)
  h28 : env.get 28 = some (.ref r)
theorem Lv.set {a b : List Nat} {mx : Int} {r : Nat} {env : PEnv} (h : Lv a b mx r env) (k : Nat) (v : PV) (hk : 28 < k) : Lv a b mx r (env.set k v) := by
  refine ⟨?_, ?_, ?_, ?_⟩ <;> rw [get_set', if_neg (by omega)]
  · exact h.h22
  · exact h.h23
  · exact h.h24
  · exact h.h28
theorem in_loop (n : Nat) (a b : List Nat) (mx : Int) (r : Nat) (bc j : Nat) (hl : a.length ≤ 40) (hasc : ∀ c ∈ a, c < 128) (hb : bc < 128) : ∀ (as p done row : List Nat) (res dist : Nat) (mn : Int) (env : PEnv) (st : Store),
    a = p ++ as → Lv a b mx r env → env.get 29 = some (.int res) → env.get 31 = some (.str [bc]) → env.get 32 = some (.int dist) → env.get 33 = some (.int mn) → st[r]? = some (.list (natV done ++ natV row)) → done.length = p.length → row.length = as.length →
    ∃ env', forN ((ev L2.P (n + 14)).S inBody) (.one 34) (rngItems p.length as.length 1) env st = some (.next, env', st.set r (.list (natV done ++ natV (rowGo bc res dist as row)))) ∧ Lv a b mx r env' ∧ env'.get 29 = some (.int (lastD res (rowGo bc res dist as row))) ∧ env'.get 33 = some (.int (minI mn (rowGo bc res dist as row)))
  | [], p, done, row, res, dist, mn, env, st, ha, L, h29, h31, h32, h33, hst, hd, hr => by
    have hrow : row = [] := List.length_eq_zero_iff.mp hr
    subst hrow
    refine ⟨env, ?_, L, h29, h33⟩
    show some (PFlow.next, env, st) = _
    rw [show rowGo bc res dist [] [] = [] from rfl, set_same hst]
  | x :: as, p, done, [], res, dist, mn, env, st, ha, L, h29, h31, h32, h33, hst, hd, hr => by simp at hr
  | x :: as, p, done, c :: row, res, dist, mn, env, st, ha, L, h29, h31, h32, h33, hst, hd, hr => by
    have hax : a[p.length]? = some x := by rw [ha]; simp
    have hxm : x ∈ a := by rw [ha]; simp
    have hcx : (natV done ++ natV (c :: row))[p.length]? = some (.int (c : Int)) := by
      rw [← hd, List.getElem?_append_right (by simp [natV])]; simp [natV]
    have hlen : (natV done ++ natV (c :: row)).length ≤ 50 := by
      have := congrArg List.length ha
      simp [natV] at this hr ⊢; omega
    have step := in_step n a b mx r bc x c res dist mn p.length env st _ hax (by omega) (hasc x hxm) hb L.h22 L.h28 h29 h31 h32 h33 hst hcx hlen
    have hset : (natV done ++ natV (c :: row)).set p.length (.int ((min (min res c + 2) (dist + sub bc x) : Nat) : Int)) = natV (done ++ [min (min res c + 2) (dist + sub bc x)]) ++ natV row := by
      rw [← hd, List.set_append_right _ _ (by simp [natV])]
      simp [natV]
    rw [hset] at step
    generalize hy : min (min res c + 2) (dist + sub bc x) = y at *
    have hr' : rowGo bc res dist (x :: as) (c :: row) = y :: rowGo bc y c as row := by simp only [rowGo, hy]
    have rest : ∀ env1, Lv a b mx r env1 → env1.get 29 = some (.int (y : Int)) → env1.get 31 = some (.str [bc]) → env1.get 32 = some (.int (c : Int)) → env1.get 33 = some (.int (if (y : Int) < mn then (y : Int) else mn)) →
        ∃ env', forN ((ev L2.P (n + 14)).S inBody) (.one 34) (rngItems ((p.length : Int) + 1) as.length 1) env1 (st.set r (.list (natV (done ++ [y]) ++ natV row))) = some (.next, env', st.set r (.list (natV done ++ natV (rowGo bc res dist (x :: as) (c :: row))))) ∧ Lv a b mx r env' ∧
          env'.get 29 = some (.int (lastD res (rowGo bc res dist (x :: as) (c :: row)))) ∧ env'.get 33 = some (.int (minI mn (rowGo bc res dist (x :: as) (c :: row)))) := fun env1 L1 g29 g31 g32 g33 => by
      obtain ⟨env', e1, e2, e3, e4⟩ := in_loop n a b mx r bc j hl hasc hb as (p ++ [x]) (done ++ [y]) row y c (if (y : Int) < mn then (y : Int) else mn) env1 (st.set r (.list (natV (done ++ [y]) ++ natV row))) (by rw [ha]; simp) L1 g29 g31 g32 g33
        (by rw [List.getElem?_set]; simp; exact (List.getElem?_eq_some_iff.mp hst).1) (by simp [hd]) (by simpa using hr)
      refine ⟨env', ?_, e2, ?_, ?_⟩
      · have : ((p ++ [x]).length : Int) = (p.length : Int) + 1 := by simp
        rw [this] at e1
        rw [e1, hr', List.set_set]
        simp [natV]
      · rw [hr']; exact e3
      · rw [hr']; exact e4
    by_cases hm : (y : Int) < mn
    · rw [if_pos hm] at step rest
      obtain ⟨env', e1, e2⟩ := rest ((((((env.set 34 (.int (p.length : Int))).set 35 (.int ((dist + sub bc x : Nat) : Int))).set 32 (.int (c : Int))).set 36 (.int ((min res c + 2 : Nat) : Int))).set 29 (.int (y : Int))).set 33 (.int (y : Int))) (((((((L.set 34 _ (by omega)).set 35 _ (by omega)).set 32 _ (by omega)).set 36 _ (by omega)).set 29 _ (by omega)).set 33 _ (by omega))) (by simp [get_set']) (by simp [get_set', h31]) (by simp [get_set']) (by simp [get_set'])
      refine ⟨env', ?_, e2⟩
      show (match (ev L2.P (n + 14)).S inBody (env.set 34 (.int (p.length : Int))) st with | some (.next, env, st) => forN ((ev L2.P (n + 14)).S inBody) (.one 34) (rngItems ((p.length : Int) + 1) as.length 1) env st | x => x) = _
      rw [step]; exact e1
    · rw [if_neg hm] at step rest
      obtain ⟨env', e1, e2⟩ := rest (((((env.set 34 (.int (p.length : Int))).set 35 (.int ((dist + sub bc x : Nat) : Int))).set 32 (.int (c : Int))).set 36 (.int ((min res c + 2 : Nat) : Int))).set 29 (.int (y : Int))) ((((((L.set 34 _ (by omega)).set 35 _ (by omega)).set 32 _ (by omega)).set 36 _ (by omega)).set 29 _ (by omega))) (by simp [get_set']) (by simp [get_set', h31]) (by simp [get_set']) (by simp [get_set', h33])
      refine ⟨env', ?_, e2⟩
      show (match (ev L2.P (n + 14)).S inBody (env.set 34 (.int (p.length : Int))) st with | some (.next, env, st) => forN ((ev L2.P (n + 14)).S inBody) (.one 34) (rngItems ((p.length : Int) + 1) as.length 1) env st | x => x) = _
      rw [step]; exact e1
end Mine
end
section
set_option backward.eqns.nonrecursive false
set_option maxRecDepth 20000
namespace Mine
open PySem
noncomputable def rowOf (bt : List Nat) : List Nat → List Nat → List Nat
  | _, [] => []
  | p, x :: as => ed bt (p ++ [x]) :: rowOf bt (p ++ [x]) as
theorem rowOf_len (bt : List Nat) : ∀ (as p : List Nat), (rowOf bt p as).length = as.length
  | [], _ => rfl
  | x :: as, p => by simp [rowOf, rowOf_len bt as]
theorem rowGo_of (bt : List Nat) (bj : Nat) : ∀ (as p : List Nat), rowGo bj (ed (bt ++ [bj]) p) (ed bt p) as (rowOf bt p as) = rowOf (bt ++ [bj]) p as
  | [], _ => rfl
  | x :: as, p => by
    have h := ed_snoc bt p bj x
    have e : min (min (ed (bt ++ [bj]) p) (ed bt (p ++ [x])) + 2) (ed bt p + sub bj x) = ed (bt ++ [bj]) (p ++ [x]) := by rw [h]; omega
    simp only [rowOf, rowGo, e]
    rw [rowGo_of bt bj as (p ++ [x])]
theorem rowGo_start (bt : List Nat) (bj : Nat) (a : List Nat) : rowGo bj (2 * bt.length) (2 * bt.length) a (rowOf bt [] a) = rowOf (bt ++ [bj]) [] a := by
  cases a with
  | nil => rfl
  | cons x as =>
    have h := ed_snoc bt [] bj x
    have h1 : ed (bt ++ [bj]) [] = 2 * bt.length + 2 := by rw [ed_nil']; simp; omega
    have h2 : ed bt [] = 2 * bt.length := ed_nil' bt
    have h3 := sub_le bj x
    simp only [List.nil_append] at h
    have e : min (min (2 * bt.length) (ed bt [x]) + 2) (2 * bt.length + sub bj x) = ed (bt ++ [bj]) [x] := by rw [h, h1, h2]; omega
    simp only [rowOf, rowGo, List.nil_append, e]
    rw [rowGo_of bt bj as [x]]
theorem rowOf_last (bt : List Nat) : ∀ (as p : List Nat) (d : Nat), d = ed bt p → lastD d (rowOf bt p as) = ed bt (p ++ as)
  | [], p, d, h => by simp [rowOf, lastD, h]
  | x :: as, p, d, h => by
    simp only [rowOf, lastD]
    rw [rowOf_last bt as (p ++ [x]) _ rfl]; simp
theorem rowOf_last' (bt a : List Nat) (d : Nat) (h : a ≠ []) : lastD d (rowOf bt [] a) = ed bt a := by
  cases a with
  | nil => exact absurd rfl h
  | cons x as => simp only [rowOf, lastD, List.nil_append]; rw [rowOf_last bt as [x] _ rfl]; rfl
theorem minI_gt : ∀ (row : List Nat) (m mx : Int), mx < minI m row → mx < m ∧ ∀ x ∈ row, mx < (x : Int)
  | [], m, mx, h => ⟨h, fun x hx => by cases hx⟩
  | y :: r, m, mx, h => by
    obtain ⟨h1, h2⟩ := minI_gt r _ mx h
    by_cases hy : (y : Int) < m
    · rw [if_pos hy] at h1
      exact ⟨by omega, fun x hx => by rcases List.mem_cons.mp hx with rfl | hx; exact h1; exact h2 x hx⟩
    · rw [if_neg hy] at h1
      exact ⟨h1, fun x hx => by rcases List.mem_cons.mp hx with rfl | hx; omega; exact h2 x hx⟩
theorem rowOf_mem (bt : List Nat) : ∀ (as p : List Nat) (k : Nat), 0 < k → k ≤ as.length → ed bt (p ++ as.take k) ∈ rowOf bt p as
  | [], p, k, h0, hk => by simp at hk; omega
  | x :: as, p, 1, h0, hk => by simp [rowOf]
  | x :: as, p, k + 2, h0, hk => by
    have := rowOf_mem bt as (p ++ [x]) (k + 1) (by omega) (by simpa using hk)
    simp only [rowOf, List.take_succ_cons, List.mem_cons]
    refine .inr ?_
    simpa using this
theorem row_far {bt bs a : List Nat} (hbt : bt ≠ []) (ha : a ≠ []) {mx : Int} (h : ∀ x ∈ rowOf bt [] a, mx < (x : Int)) : mx < (ed a (bt ++ bs) : Nat) := by
  obtain ⟨k, hk, he⟩ := ed_app_ex a bt bs
  by_cases h0 : k = 0
  · subst h0
    have h1 := h _ (rowOf_mem bt a [] 1 (by omega) (by cases a with | nil => exact absurd rfl ha | cons _ _ => simp))
    have h2 : ed bt (a.take 1) ≤ ed (a.take 0) bt := by
      cases a with
      | nil => exact absurd rfl ha
      | cons x as =>
        cases bt with
        | nil => exact absurd rfl hbt
        | cons y bt =>
          show ed (y :: bt) [x] ≤ ed [] (y :: bt)
          rw [ed_cons, ed_nil, ed_nil']
          have := sub_le y x
          simp only [List.length_cons]; omega
    simp only [List.nil_append] at h1
    omega
  · have h1 := h _ (rowOf_mem bt a [] k (by omega) hk)
    simp only [List.nil_append] at h1
    rw [ed_comm] at h1
    omega
theorem rng0 (m : Nat) (st : Store) (h : m ≤ 60) : mkRng 0 (m : Int) 1 st = some (.rng 0 m 1, st) := by
  have key : ∀ m : Nat, m < 61 → (Builtin.Range.small 0 (m : Int) 1 && decide (0 < (1 : Int)) && small 1 && decide (0 ≤ Builtin.Range.rangeSize 0 (m : Int) 1)) = true ∧ (Builtin.Range.rangeSize 0 (m : Int) 1).toNat = m := by decide +kernel
  obtain ⟨h1, h2⟩ := key m (by omega)
  unfold mkRng
  rw [h1, h2]; rfl
theorem rng2 (m : Nat) (st : Store) (h : m ≤ 60) : mkRng 2 (2 * ((m : Int) + 1)) 2 st = some (.rng 2 m 2, st) := by
  have key : ∀ m : Nat, m < 61 → (Builtin.Range.small 2 (2 * ((m : Int) + 1)) 2 && decide (0 < (2 : Int)) && small 2 && decide (0 ≤ Builtin.Range.rangeSize 2 (2 * ((m : Int) + 1)) 2)) = true ∧ (Builtin.Range.rangeSize 2 (2 * ((m : Int) + 1)) 2).toNat = m := by decide +kernel
  obtain ⟨h1, h2⟩ := key m (by omega)
  unfold mkRng
  rw [h1, h2]; rfl
theorem rng2_row (a p : List Nat) : rngItems (2 * (p.length : Int) + 2) a.length 2 = natV (rowOf [] p a) := by
  induction a generalizing p with
  | nil => rfl
  | cons x as ih =>
    have := ih (p ++ [x])
    simp only [rowOf, List.length_cons, rngItems, natV, List.map_cons] at this ⊢
    rw [show (2 * (p.length : Int) + 2 + 2) = 2 * ((p ++ [x]).length : Int) + 2 by simp; omega, this]
    congr 2
    rw [ed_nil]; simp; omega
noncomputable def outBody : List PS := [
          .assign 31 (.idx (.var 23) (.var 30)),
          .assign2 32 29 (.bin .Mult (.var 30) (.glob 21)),
          .assign 33 (.cint 9223372036854775807),
          .forS (.one 34) (.bi .range [(.bi .len [(.var 22)])]) inBody,
          .ifS (.cmp .Gt (.var 33) (.var 24))
            [
              .ret (.bin .Add (.var 24) (.cint 1))]
            []]
noncomputable def outLoop : List PS := [
          .forS (.one 34) (.bi .range [(.bi .len [(.var 22)])]) inBody,
          .ifS (.cmp .Gt (.var 33) (.var 24))
            [
              .ret (.bin .Add (.var 24) (.cint 1))]
            []]
theorem small_nat {i : Nat} (h : i ≤ 100) : small (i : Int) = true := by
  exact Nat.ble_eq_true_of_le (by omega)
theorem bif_le {α : Type} {m : Nat} (h : m ≤ lim) (x y : α) : (bif decide (m ≤ lim) then x else y) = x := by rw [decide_eq_true h]; rfl
theorem len_c {a : List Nat} (st : Store) (h : a.length ≤ lim) : pbi .len [.str a] st = some (.int a.length, st) := by
  show (bif decide (a.length ≤ lim) then _ else _) = _
  rw [bif_le h]
theorem mult_c {i j : Int} (h1 : small i = true) (h2 : small j = true) : pbin .Mult (.int i) (.int j) = some (.int (i * j)) := by
  show (bif small i && small j then _ else _) = _
  rw [h1, h2]; rfl
theorem add_c {i j : Int} : pbin .Add (.int i) (.int j) = some (.int (i + j)) := id rfl
theorem range1_c (m : Int) (st : Store) : pbi .range [.int m] st = mkRng 0 m 1 st := id rfl
theorem out_step (n : Nat) (a b : List Nat) (mx : Int) (r : Nat) (bc : Nat) (bt : List Nat) (hl : a.length ≤ 40) (hbl : b.length ≤ 40) (ha : ∀ c ∈ a, c < 128) (hb : bc < 128) (env : PEnv) (st : Store) (L : Lv a b mx r env) (hbc : b[bt.length]? = some bc)
    (hst : st[r]? = some (.list (natV (rowOf bt [] a)))) :
    ∃ env', Lv a b mx r env' ∧ env'.get 29 = some (.int (lastD (2 * bt.length) (rowOf (bt ++ [bc]) [] a))) ∧
      (ev L2.P (n + 20)).S outBody (env.set 30 (.int (bt.length : Int))) st = some (if mx < minI 9223372036854775807 (rowOf (bt ++ [bc]) [] a) then .ret (.int (mx + 1)) else .next, env', st.set r (.list (natV (rowOf (bt ++ [bc]) [] a)))) := by
  have hbt := (List.getElem?_eq_some_iff.mp hbc).1
  have i1 : pidx (.str b) (.int (bt.length : Int)) = some (.str [bc]) := idx_str b hbc (by have : lim = 100000 := rfl; omega)
  have e1 : (bt.length : Int) * 2 = ((2 * bt.length : Nat) : Int) := by omega
  have s1 : small (bt.length : Int) = true := small_nat (by omega)
  have s2 : small 2 = true := by decide
  obtain ⟨env', f1, f2, f3, f4⟩ := in_loop (n + 5) a b mx r bc bt.length hl ha hb a [] [] (rowOf bt [] a) (2 * bt.length) (2 * bt.length) 9223372036854775807
    (((((env.set 30 (.int (bt.length : Int))).set 31 (.str [bc])).set 32 (.int ((2 * bt.length : Nat) : Int))).set 29 (.int ((2 * bt.length : Nat) : Int))).set 33 (.int 9223372036854775807)) st (by simp)
    (((((L.set 30 _ (by omega)).set 31 _ (by omega)).set 32 _ (by omega)).set 29 _ (by omega)).set 33 _ (by omega)) (by simp [get_set']) (by simp [get_set']) (by simp [get_set']) (by simp [get_set']) (by simpa [natV] using hst) rfl (rowOf_len ..)
  rw [rowGo_start] at f1 f3 f4
  refine ⟨env', f2, f3, ?_⟩
  have rl : mkRng 0 (a.length : Int) 1 st = some (.rng 0 a.length 1, st) := rng0 a.length st (by omega)
  have ll : a.length ≤ lim := by have : lim = 100000 := rfl; omega
  have f1' : forN ((ev L2.P (n + 19)).S inBody) (.one 34) (rngItems 0 a.length 1) (((((env.set 30 (.int (bt.length : Int))).set 31 (.str [bc])).set 32 (.int ((2 * bt.length : Nat) : Int))).set 29 (.int ((2 * bt.length : Nat) : Int))).set 33 (.int 9223372036854775807)) st =
      some (.next, env', st.set r (.list (natV (rowOf (bt ++ [bc]) [] a)))) := by simpa [natV] using f1
  have h22 : (((((env.set 30 (.int (bt.length : Int))).set 31 (.str [bc])).set 32 (.int ((2 * bt.length : Nat) : Int))).set 29 (.int ((2 * bt.length : Nat) : Int))).set 33 (.int 9223372036854775807)).get 22 = some (.str a) := by simp [get_set', L.h22]
  simp only [outBody, eS, stepS, stepS1, eE, stepE, get_set', L.h22, L.h23, evList, i1, rd_str, rd_int, mult_c s1 s2, add_c, e1, len_c st ll, range1_c, G21, Nat.reduceEqDiff, ↓reduceIte, rl, itemsOf, f1', evTest, pcmp, f2.h24, f4, truthyV]
  by_cases hm : mx < minI 9223372036854775807 (rowOf (bt ++ [bc]) [] a)
  · simp only [hm, decide_true, ↓reduceIte]
  · simp only [hm, decide_false, ↓reduceIte]
end Mine
end
section
set_option backward.eqns.nonrecursive false
namespace Mine
open PySem
theorem out_loop (n : Nat) (a b : List Nat) (mx : Int) (r : Nat) (hl : a.length ≤ 40) (hbl : b.length ≤ 40) (ha : ∀ c ∈ a, c < 128) (hb : ∀ c ∈ b, c < 128) (hne : a ≠ []) : ∀ (bs bt : List Nat) (env : PEnv) (st : Store), b = bt ++ bs → Lv a b mx r env →
    st[r]? = some (.list (natV (rowOf bt [] a))) → (bt ≠ [] → env.get 29 = some (.int (ed bt a))) →
    ∃ fl env' row, forN ((ev L2.P (n + 20)).S outBody) (.one 30) (rngItems bt.length bs.length 1) env st = some (fl, env', st.set r row) ∧ ((fl = .next ∧ (b ≠ [] → env'.get 29 = some (.int (ed b a)))) ∨ (fl = .ret (.int (mx + 1)) ∧ mx < (ed a b : Nat)))
  | [], bt, env, st, hbt, L, hst, h29 => by
    have : bt = b := by rw [hbt]; simp
    subst this
    exact ⟨.next, env, _, by rw [set_same hst]; rfl, .inl ⟨rfl, h29⟩⟩
  | bc :: bs, bt, env, st, hbt, L, hst, h29 => by
    have hbc : b[bt.length]? = some bc := by rw [hbt]; simp
    have hbm : bc < 128 := hb bc (by rw [hbt]; simp)
    obtain ⟨env1, L1, g29, step⟩ := out_step n a b mx r bc bt hl hbl ha hbm env st L hbc hst
    have unf : forN ((ev L2.P (n + 20)).S outBody) (.one 30) (rngItems bt.length (bc :: bs).length 1) env st =
      (match (ev L2.P (n + 20)).S outBody (env.set 30 (.int (bt.length : Int))) st with | some (.next, env, st) => forN ((ev L2.P (n + 20)).S outBody) (.one 30) (rngItems ((bt.length : Int) + 1) bs.length 1) env st | x => x) := rfl
    rw [unf, step]
    by_cases hm : mx < minI 9223372036854775807 (rowOf (bt ++ [bc]) [] a)
    · rw [if_pos hm]
      refine ⟨_, env1, _, rfl, .inr ⟨rfl, ?_⟩⟩
      have h2 := (minI_gt _ _ _ hm).2
      have := row_far (bt := bt ++ [bc]) (bs := bs) (by simp) hne h2
      rw [hbt]
      simpa using this
    · rw [if_neg hm]
      rw [rowOf_last' _ _ _ hne] at g29
      obtain ⟨fl, env', row, e1, e2⟩ := out_loop n a b mx r hl hbl ha hb hne bs (bt ++ [bc]) env1 (st.set r (.list (natV (rowOf (bt ++ [bc]) [] a)))) (by rw [hbt]; simp) L1 (by rw [List.getElem?_set]; simp; exact (List.getElem?_eq_some_iff.mp hst).1) (fun _ => g29)
      refine ⟨fl, env', row, ?_, e2⟩
      have h1 : ((bt ++ [bc]).length : Int) = (bt.length : Int) + 1 := by simp
      rw [h1, List.set_set] at e1
      exact e1
noncomputable def dpTail : List PS := [
      .assign 28 (.bi .list [(.bi .range [(.glob 21), (.bin .Mult (.glob 21) (.bin .Add (.bi .len [(.var 22)]) (.cint 1))), (.glob 21)])]),
      .assign 29 (.cint 0),
      .forS (.one 30) (.bi .range [(.bi .len [(.var 23)])]) outBody,
      .ret (.var 29)]
noncomputable def dpBody : List PS :=
      .ifS (.boolop false [(.not (.var 22)), (.not (.var 23))])
        [
          .ret (.bin .Mult (.glob 21) (.bin .Add (.bi .len [(.var 22)]) (.bi .len [(.var 23)])))]
        [] ::
      .ifS (.boolop false [(.cmp .Gt (.bi .len [(.var 22)]) (.glob 27)), (.cmp .Gt (.bi .len [(.var 23)]) (.glob 27))])
        [
          .ret (.bin .Add (.var 24) (.cint 1))]
        [] ::
      .ifS (.cmp .Lt (.bi .len [(.var 23)]) (.bi .len [(.var 22)]))
        [
          .assignTup [22, 23] (.tuple [(.var 23), (.var 22)])]
        [] ::
      .ifS (.cmp .Gt (.bin .Mult (.bin .Sub (.bi .len [(.var 23)]) (.bi .len [(.var 22)])) (.glob 21)) (.var 24))
        [
          .ret (.bin .Add (.var 24) (.cint 1))]
        [] :: dpTail
theorem sub_c' {i j : Int} : pbin .Sub (.int i) (.int j) = some (.int (i - j)) := id rfl
theorem true_str {l : List Nat} (h : l.length ≤ lim) : truthyV (.str l) = some (!l.isEmpty) := by
  show (bif decide (l.length ≤ lim) then _ else _) = _
  rw [bif_le h]
theorem range3_c (a b c : Int) (st : Store) : pbi .range [.int a, .int b, .int c] st = mkRng a b c st := id rfl
theorem list_c (a c : Int) (m : Nat) (st : Store) (h : m ≤ lim) : pbi .list [.rng a m c] st = some (.ref st.length, st ++ [.list (rngItems a m c)]) := by
  show (bif decide (m ≤ lim) then _ else _) = _
  rw [bif_le h]
theorem gt_c (i j : Int) : pcmp .Gt (.int i) (.int j) = some (decide (j < i)) := id rfl
theorem lt_c (i j : Int) : pcmp .Lt (.int i) (.int j) = some (decide (i < j)) := id rfl
theorem tb_c (b : Bool) : truthyV (.bool b) = some b := id rfl
theorem get_last {α : Type} (l : List α) (x : α) : (l ++ [x])[l.length]? = some x := by simp
theorem dp_tail (n : Nat) (a b : List Nat) (mx : Int) (hl : a.length ≤ 40) (hbl : b.length ≤ 40) (ha : ∀ c ∈ a, c < 128) (hb : ∀ c ∈ b, c < 128) (hne : a ≠ []) (hnb : b ≠ []) (env : PEnv) (st : Store)
    (h22 : env.get 22 = some (.str a)) (h23 : env.get 23 = some (.str b)) (h24 : env.get 24 = some (.int mx)) :
    ∃ r env' row, stepS (ev L2.P (n + 21)).E (ev L2.P (n + 21)).S dpTail env st = some (.ret (.int r), env', st ++ [row]) ∧ (r = (ed a b : Nat) ∨ (r = mx + 1 ∧ mx < (ed a b : Nat))) := by
  have la : a.length ≤ lim := by have : lim = 100000 := rfl; omega
  have lb : b.length ≤ lim := by have : lim = 100000 := rfl; omega
  have s2 : small 2 = true := by decide
  have sa : small ((a.length : Int) + 1) = true := Nat.ble_eq_true_of_le (by omega)
  have r2 : mkRng 2 (2 * ((a.length : Int) + 1)) 2 st = some (.rng 2 a.length 2, st) := rng2 a.length st (by omega)
  have row0 : rngItems 2 a.length 2 = natV (rowOf [] [] a) := by simpa using rng2_row a []
  have rb : ∀ st, mkRng 0 (b.length : Int) 1 st = some (.rng 0 b.length 1, st) := fun st => rng0 b.length st (by omega)
  obtain ⟨fl, env', row, e1, e2⟩ := out_loop (n + 1) a b mx st.length hl hbl ha hb hne b [] ((env.set 28 (.ref st.length)).set 29 (.int 0)) (st ++ [.list (natV (rowOf [] [] a))]) (by simp)
    ⟨by simp [get_set', h22], by simp [get_set', h23], by simp [get_set', h24], by simp [get_set']⟩ (get_last ..) (fun h => absurd rfl h)
  have e1' : forN ((ev L2.P (n + 21)).S outBody) (.one 30) (rngItems 0 b.length 1) ((env.set 28 (.ref st.length)).set 29 (.int 0)) (st ++ [.list (natV (rowOf [] [] a))]) = some (fl, env', st ++ [row]) := by
    have := e1
    rw [show (([] : List Nat).length : Int) = 0 from rfl, List.set_append_right _ _ (Nat.le_refl _)] at this
    simpa using this
  rcases e2 with ⟨rfl, h29⟩ | ⟨rfl, hfar⟩
  · have h29' := h29 hnb
    rw [ed_comm] at h29'
    refine ⟨_, env', row, ?_, .inl rfl⟩
    simp only [dpTail, stepS, stepS1, eE, stepE, get_set', h22, h23, h24, evList, G21, add_c, mult_c s2 sa, rd_int, range3_c, r2, list_c _ _ _ _ la, row0, len_c _ la, len_c _ lb, range1_c, rb, itemsOf, e1', h29', Nat.reduceEqDiff, ↓reduceIte]
  · refine ⟨_, env', row, ?_, .inr ⟨rfl, hfar⟩⟩
    simp only [dpTail, stepS, stepS1, eE, stepE, get_set', h22, h23, h24, evList, G21, add_c, mult_c s2 sa, rd_int, range3_c, r2, list_c _ _ _ _ la, row0, len_c _ la, len_c _ lb, range1_c, rb, itemsOf, e1', Nat.reduceEqDiff, ↓reduceIte]
theorem neq_le {m : Nat} (h : m ≤ 40) : decide ((40 : Int) < (m : Int)) = false := decide_eq_false (by omega)
theorem small_int {i : Int} (h : i.natAbs ≤ 1000) : small i = true := Nat.ble_eq_true_of_le (by omega)
theorem is_e (c : Nat) (l : List Nat) : (c :: l).isEmpty = false := id rfl
theorem b1 : (false == false) = true := id rfl
theorem b2 : (true == false) = false := id rfl
theorem b3 : (true == true) = true := id rfl
theorem b4 : (false == true) = false := id rfl
theorem two_le (x y : PV) : [x, y].length ≤ lim := by show 2 ≤ 100000; decide
theorem dp_full (n : Nat) (a b : List Nat) (mx : Int) (hl : a.length ≤ 40) (hbl : b.length ≤ 40) (ha : ∀ c ∈ a, c < 128) (hb : ∀ c ∈ b, c < 128) (env : PEnv) (st : Store)
    (h22 : env.get 22 = some (.str a)) (h23 : env.get 23 = some (.str b)) (h24 : env.get 24 = some (.int mx)) :
    ∃ r env' rows, stepS (ev L2.P (n + 21)).E (ev L2.P (n + 21)).S dpBody env st = some (.ret (.int r), env', st ++ rows) ∧ (r = (ed a b : Nat) ∨ (r = mx + 1 ∧ mx < (ed a b : Nat))) := by
  have la : a.length ≤ lim := by have : lim = 100000 := rfl; omega
  have lb : b.length ≤ lim := by have : lim = 100000 := rfl; omega
  have s2 : small 2 = true := by decide
  have sab : small ((a.length : Int) + (b.length : Int)) = true := small_int (by omega)
  cases a with
  | nil =>
    refine ⟨2 * ((([] : List Nat).length : Int) + (b.length : Int)), env, [], ?_, .inl ?_⟩
    · simp only [dpBody, stepS, stepS1, eE, eS, stepE, evTest, evBool, h22, h23, evList, G21, true_str la, List.isEmpty_nil, Bool.not_true, Bool.not_false, tb_c, b1, b2, b3, b4, cond_true, cond_false, len_c _ la, len_c _ lb, add_c, mult_c s2 sab, rd_int, List.append_nil]
    · rw [ed_nil]; simp
  | cons c a =>
    cases b with
    | nil =>
      refine ⟨2 * (((c :: a).length : Int) + (([] : List Nat).length : Int)), env, [], ?_, .inl ?_⟩
      · simp only [dpBody, stepS, stepS1, eE, eS, stepE, evTest, evBool, h22, h23, evList, G21, true_str la, true_str lb, is_e, List.isEmpty_nil, Bool.not_true, Bool.not_false, tb_c, b1, b2, b3, b4, cond_true, cond_false, len_c _ la, len_c _ lb, add_c, mult_c s2 sab, rd_int, List.append_nil]
      · rw [ed_nil']; simp
    | cons d b =>
      have n1 : decide ((40 : Int) < ((c :: a).length : Int)) = false := neq_le hl
      have n2 : decide ((40 : Int) < ((d :: b).length : Int)) = false := neq_le hbl
      have sd1 : small (((d :: b).length : Int) - ((c :: a).length : Int)) = true := small_int (by omega)
      have sd2 : small (((c :: a).length : Int) - ((d :: b).length : Int)) = true := small_int (by omega)
      have len1 := ed_len (c :: a) (d :: b)
      have len2 := ed_len (d :: b) (c :: a)
      rw [ed_comm (d :: b)] at len2
      by_cases hsw : ((d :: b).length : Int) < ((c :: a).length : Int)
      · have hs : decide (((d :: b).length : Int) < ((c :: a).length : Int)) = true := decide_eq_true hsw
        by_cases hfar : mx < (((c :: a).length : Int) - ((d :: b).length : Int)) * 2
        · have hf : decide (mx < (((c :: a).length : Int) - ((d :: b).length : Int)) * 2) = true := decide_eq_true hfar
          refine ⟨mx + 1, (env.set 22 (.str (d :: b))).set 23 (.str (c :: a)), [], ?_, .inr ⟨rfl, by omega⟩⟩
          simp only [dpBody, stepS, stepS1, eE, eS, stepE, evTest, evBool, get_set', h22, h23, h24, evList, G21, G27, true_str la, true_str lb, is_e, Bool.not_true, Bool.not_false, tb_c, b1, b2, b3, b4, cond_true, cond_false, len_c _ la, len_c _ lb, gt_c, lt_c, n1, n2, hs, unpackL, bindAll, sub_c', add_c, mult_c sd2 s2, hf, rd_int,
            two_le, decide_true, List.append_nil, Nat.reduceEqDiff, ↓reduceIte]
        · have hf : decide (mx < (((c :: a).length : Int) - ((d :: b).length : Int)) * 2) = false := decide_eq_false hfar
          obtain ⟨r, env', row, e1, e2⟩ := dp_tail n (d :: b) (c :: a) mx hbl hl hb ha (by simp) (by simp) ((env.set 22 (.str (d :: b))).set 23 (.str (c :: a))) st (by simp [get_set']) (by simp [get_set']) (by simp [get_set', h24])
          refine ⟨r, env', [row], ?_, by rw [ed_comm]; exact e2⟩
          rw [← e1]
          simp only [dpBody, stepS, stepS1, eE, eS, stepE, evTest, evBool, get_set', h22, h23, h24, evList, G21, G27, true_str la, true_str lb, is_e, Bool.not_true, Bool.not_false, tb_c, b1, b2, b3, b4, cond_true, cond_false, len_c _ la, len_c _ lb, gt_c, lt_c, n1, n2, hs, unpackL, bindAll, sub_c', add_c, mult_c sd2 s2, hf, rd_int,
            two_le, decide_true, List.append_nil, Nat.reduceEqDiff, ↓reduceIte]
      · have hs : decide (((d :: b).length : Int) < ((c :: a).length : Int)) = false := decide_eq_false hsw
        by_cases hfar : mx < (((d :: b).length : Int) - ((c :: a).length : Int)) * 2
        · have hf : decide (mx < (((d :: b).length : Int) - ((c :: a).length : Int)) * 2) = true := decide_eq_true hfar
          refine ⟨mx + 1, env, [], ?_, .inr ⟨rfl, by omega⟩⟩
          simp only [dpBody, stepS, stepS1, eE, eS, stepE, evTest, evBool, get_set', h22, h23, h24, evList, G21, G27, true_str la, true_str lb, is_e, Bool.not_true, Bool.not_false, tb_c, b1, b2, b3, b4, cond_true, cond_false, len_c _ la, len_c _ lb, gt_c, lt_c, n1, n2, hs, unpackL, bindAll, sub_c', add_c, mult_c sd1 s2, hf, rd_int,
            two_le, decide_true, List.append_nil, Nat.reduceEqDiff, ↓reduceIte]
        · have hf : decide (mx < (((d :: b).length : Int) - ((c :: a).length : Int)) * 2) = false := decide_eq_false hfar
          obtain ⟨r, env', row, e1, e2⟩ := dp_tail n (c :: a) (d :: b) mx hl hbl ha hb (by simp) (by simp) env st h22 h23 h24
          refine ⟨r, env', [row], ?_, e2⟩
          rw [← e1]
          simp only [dpBody, stepS, stepS1, eE, eS, stepE, evTest, evBool, get_set', h22, h23, h24, evList, G21, G27, true_str la, true_str lb, is_e, Bool.not_true, Bool.not_false, tb_c, b1, b2, b3, b4, cond_true, cond_false, len_c _ la, len_c _ lb, gt_c, lt_c, n1, n2, hs, unpackL, bindAll, sub_c', add_c, mult_c sd1 s2, hf, rd_int,
            two_le, decide_true, List.append_nil, Nat.reduceEqDiff, ↓reduceIte]
end Mine
end
section
set_option backward.eqns.nonrecursive false
namespace Mine
open PySem
theorem set_set (penv : PEnv) (i : Nat) (v w : PV) : (penv.set i v).set i w = penv.set i w := by
  induction penv with
  | nil => simp [PEnv.set]
  | cons p r ih =>
    obtain ⟨j, u⟩ := p
    cases h : Nat.beq j i with
    | true => simp [PEnv.set, h]
    | false => simp [PEnv.set, h, ih]
noncomputable def cpl : List Nat → List Nat → Nat
  | a :: u, b :: v => if a = b then cpl u v + 1 else 0
  | _, _ => 0
theorem cpl_le : ∀ a b : List Nat, cpl a b ≤ a.length ∧ cpl a b ≤ b.length
  | [], _ => by simp [cpl]
  | _ :: _, [] => by simp [cpl]
  | a :: u, b :: v => by
    have := cpl_le u v
    unfold cpl; split <;> simp <;> omega
theorem cpl_get : ∀ (a b : List Nat) (i : Nat), i < cpl a b → ∃ c, a[i]? = some c ∧ b[i]? = some c
  | [], _, i, h => by simp [cpl] at h
  | _ :: _, [], i, h => by simp [cpl] at h
  | a :: u, b :: v, i, h => by
    unfold cpl at h
    split at h
    · rename_i e; subst e
      cases i with
      | zero => exact ⟨a, rfl, rfl⟩
      | succ i => simpa using cpl_get u v i (by omega)
    · omega
theorem cpl_stop : ∀ a b : List Nat, a.drop (cpl a b) = [] ∨ b.drop (cpl a b) = [] ∨ ∃ c d, a[cpl a b]? = some c ∧ b[cpl a b]? = some d ∧ c ≠ d
  | [], _ => by simp [cpl]
  | _ :: _, [] => by simp [cpl]
  | a :: u, b :: v => by
    unfold cpl
    split
    · simpa using cpl_stop u v
    · rename_i h; exact .inr (.inr ⟨a, b, rfl, rfl, h⟩)
theorem cpl_take : ∀ a b : List Nat, a.take (cpl a b) = b.take (cpl a b)
  | [], _ => by simp [cpl]
  | _ :: _, [] => by simp [cpl]
  | a :: u, b :: v => by
    unfold cpl
    split
    · rename_i h; subst h; simpa using cpl_take u v
    · simp
theorem ed_cpl (a b : List Nat) : ed (a.drop (cpl a b)) (b.drop (cpl a b)) = ed a b := by
  have h := ed_pre (a.take (cpl a b)) (a.drop (cpl a b)) (b.drop (cpl a b))
  rw [← h, List.take_append_drop]
  conv => lhs; rw [cpl_take a b, List.take_append_drop]
noncomputable def preT : PE := .boolop true [(.slice (.var 22) (some (.var 25)) none none), (.slice (.var 23) (some (.var 25)) none none), (.cmp .Eq (.idx (.var 22) (.var 25)) (.idx (.var 23) (.var 25)))]
noncomputable def preB : List PS := [.aug 25 .Add (.cint 1)]
theorem eq_c (a b : List Nat) : pcmp .Eq (.str a) (.str b) = some (a == b) := id rfl
theorem aug_add (i j : Int) : paug .Add (.int i) (.int j) = some (.int (i + j)) := id rfl
theorem aug_sub (i j : Int) : paug .Sub (.int i) (.int j) = some (.int (i - j)) := id rfl
theorem ne_e {l : List Nat} (h : l ≠ []) : l.isEmpty = false := by cases l with | nil => exact absurd rfl h | cons _ _ => rfl
theorem drop_ne {l : List Nat} {k c : Nat} (h : l[k]? = some c) : l.drop k ≠ [] := by
  have := (List.getElem?_eq_some_iff.mp h).1
  intro e
  have := List.drop_eq_nil_iff.mp e
  omega
theorem pre_true (n : Nat) (a b : List Nat) (k c : Nat) (env : PEnv) (st : Store) (ha : a.length ≤ 40) (hb : b.length ≤ 40) (h22 : env.get 22 = some (.str a)) (h23 : env.get 23 = some (.str b)) (h25 : env.get 25 = some (.int k)) (hka : a[k]? = some c) (hkb : b[k]? = some c) :
    evTest (ev L2.P (n + 6)).E preT env st = some (true, st) := by
  have la : a.length ≤ lim := by have : lim = 100000 := rfl; omega
  have lb : b.length ≤ lim := by have : lim = 100000 := rfl; omega
  have k1 := (List.getElem?_eq_some_iff.mp hka).1
  have k2 := (List.getElem?_eq_some_iff.mp hkb).1
  have t1 := true_str (l := a.drop k) (by simp; omega)
  have t2 := true_str (l := b.drop k) (by simp; omega)
  simp only [preT, evTest, eE, stepE, evBool, h22, h23, h25, optE, rd_str, slice_from a (Nat.le_of_lt k1) la, slice_from b (Nat.le_of_lt k2) lb, t1, t2, ne_e (drop_ne hka), ne_e (drop_ne hkb), Bool.not_false, b3, cond_true, idx_str a hka la, idx_str b hkb lb, eq_c, BEq.rfl, tb_c]
theorem pre_false (n : Nat) (a b : List Nat) (env : PEnv) (st : Store) (ha : a.length ≤ 40) (hb : b.length ≤ 40) (h22 : env.get 22 = some (.str a)) (h23 : env.get 23 = some (.str b)) (h25 : env.get 25 = some (.int (cpl a b : Nat))) :
    evTest (ev L2.P (n + 6)).E preT env st = some (false, st) := by
  have la : a.length ≤ lim := by have : lim = 100000 := rfl; omega
  have lb : b.length ≤ lim := by have : lim = 100000 := rfl; omega
  obtain ⟨k1, k2⟩ := cpl_le a b
  have t1 := true_str (l := a.drop (cpl a b)) (by simp; omega)
  have t2 := true_str (l := b.drop (cpl a b)) (by simp; omega)
  by_cases h1 : a.drop (cpl a b) = []
  · have e1 : (a.drop (cpl a b)).isEmpty = true := by rw [h1]; rfl
    simp only [preT, evTest, eE, stepE, evBool, h22, h23, h25, optE, rd_str, slice_from a k1 la, t1, e1, Bool.not_true, b4, cond_false]
  · by_cases h2 : b.drop (cpl a b) = []
    · have e2 : (b.drop (cpl a b)).isEmpty = true := by rw [h2]; rfl
      simp only [preT, evTest, eE, stepE, evBool, h22, h23, h25, optE, rd_str, slice_from a k1 la, slice_from b k2 lb, t1, t2, ne_e h1, e2, Bool.not_true, Bool.not_false, b3, b4, cond_true, cond_false]
    · rcases cpl_stop a b with h | h | ⟨c, d, hc, hd, hcd⟩
      · exact absurd h h1
      · exact absurd h h2
      · have e3 : ([c] == [d]) = false := by simpa using hcd
        simp only [preT, evTest, eE, stepE, evBool, h22, h23, h25, optE, rd_str, slice_from a k1 la, slice_from b k2 lb, t1, t2, ne_e h1, ne_e h2, Bool.not_false, b3, cond_true, idx_str a hc la, idx_str b hd lb, eq_c, e3, tb_c]
theorem pre_loop (n : Nat) (a b : List Nat) (env : PEnv) (st : Store) (ha : a.length ≤ 40) (hb : b.length ≤ 40) (h22 : env.get 22 = some (.str a)) (h23 : env.get 23 = some (.str b)) :
    whileN (evTest (ev L2.P (n + 6)).E preT) ((ev L2.P (n + 6)).S preB) 64 (env.set 25 (.int 0)) st = some (.next, env.set 25 (.int (cpl a b : Nat)), st) := by
  have := while_run (test := evTest (ev L2.P (n + 6)).E preT) (body := (ev L2.P (n + 6)).S preB) (fun k => env.set 25 (.int (k : Int))) (fun _ => st) (cpl a b) (fun i hi => ?_) (fun i hi => ?_) ?_ (cpl a b) 64 0 (by omega) (by have := (cpl_le a b).1; omega)
  · simpa using this
  · obtain ⟨c, h1, h2⟩ := cpl_get a b i hi
    exact pre_true n a b i c _ st ha hb (by simp [get_set', h22]) (by simp [get_set', h23]) (by simp [get_set']) h1 h2
  · have e : ((i : Int) + 1) = ((i + 1 : Nat) : Int) := by omega
    simp only [preB, eS, stepS, stepS1, eE, stepE, get_set', ↓reduceIte, aug_add, set_set, e]
  · exact pre_false n a b _ st ha hb (by simp [get_set', h22]) (by simp [get_set', h23]) (by simp [get_set'])
end Mine
end
section
set_option backward.eqns.nonrecursive false
namespace Mine
open PySem
noncomputable def csl (a b : List Nat) : Nat := cpl a.reverse b.reverse
theorem csl_le (a b : List Nat) : csl a b ≤ a.length ∧ csl a b ≤ b.length := by
  have := cpl_le a.reverse b.reverse
  simpa [csl] using this
theorem csl_get (a b : List Nat) (i : Nat) (h : i < csl a b) : ∃ c, a[a.length - (i + 1)]? = some c ∧ b[b.length - (i + 1)]? = some c := by
  obtain ⟨c, h1, h2⟩ := cpl_get a.reverse b.reverse i h
  have hl := csl_le a b
  rw [List.getElem?_reverse (by omega)] at h1 h2
  exact ⟨c, by rw [show a.length - (i + 1) = a.length - 1 - i by omega]; exact h1, by rw [show b.length - (i + 1) = b.length - 1 - i by omega]; exact h2⟩
theorem csl_stop (a b : List Nat) : csl a b = a.length ∨ csl a b = b.length ∨ ∃ c d, a[a.length - (csl a b + 1)]? = some c ∧ b[b.length - (csl a b + 1)]? = some d ∧ c ≠ d := by
  have hl := csl_le a b
  rcases cpl_stop a.reverse b.reverse with h | h | ⟨c, d, h1, h2, h3⟩
  · have := List.drop_eq_nil_iff.mp h
    simp at this
    exact .inl (by unfold csl at *; omega)
  · have := List.drop_eq_nil_iff.mp h
    simp at this
    exact .inr (.inl (by unfold csl at *; omega))
  · have e1 := (List.getElem?_eq_some_iff.mp h1).1
    have e2 := (List.getElem?_eq_some_iff.mp h2).1
    simp at e1 e2
    rw [List.getElem?_reverse (by unfold csl at *; omega)] at h1 h2
    refine .inr (.inr ⟨c, d, ?_, ?_, h3⟩)
    · rw [show a.length - (csl a b + 1) = a.length - 1 - cpl a.reverse b.reverse by unfold csl; omega]; exact h1
    · rw [show b.length - (csl a b + 1) = b.length - 1 - cpl a.reverse b.reverse by unfold csl; omega]; exact h2
theorem ed_csl (a b : List Nat) : ed (a.take (a.length - csl a b)) (b.take (b.length - csl a b)) = ed a b := by
  have h := ed_cpl a.reverse b.reverse
  rw [ed_rev] at h
  rw [← h, ← ed_rev]
  simp [csl, List.drop_reverse]
noncomputable def orv (j : Nat) : PV := if j = 0 then .none else .int (-(j : Int))
theorem slice_post (l : List Nat) {j : Nat} (h : j ≤ l.length) (hl : l.length ≤ lim) : pslice (.str l) .none (orv j) .none = some (.str (l.take (l.length - j))) := by
  unfold orv
  by_cases h0 : j = 0
  · subst h0; rw [if_pos rfl, slice_all l hl]; simp
  · rw [if_neg h0, slice_toNeg l h (by omega) hl]
noncomputable def orE : PE := .boolop false [(.var 26), .cnone]
theorem int_t {i : Int} : truthyV (.int i) = some (i != 0) := id rfl
theorem or_eval (n : Nat) (j : Nat) (env : PEnv) (st : Store) (h26 : env.get 26 = some (.int (-(j : Int)))) : (ev L2.P (n + 4)).E orE env st = some (orv j, st) := by
  unfold orv
  by_cases h0 : j = 0
  · subst h0
    have : ((-((0 : Nat) : Int)) != 0) = false := by decide
    rw [if_pos rfl]
    simp only [orE, eE, stepE, evBool, h26, int_t, this, b1, cond_true]
  · have : ((-(j : Int)) != 0) = true := by simp; omega
    rw [if_neg h0]
    simp only [orE, eE, stepE, evBool, h26, int_t, this, b2, cond_false]
noncomputable def postT : PE := .boolop true [(.slice (.var 22) none (some orE) none), (.slice (.var 23) none (some orE) none), (.cmp .Eq (.idx (.var 22) (.bin .Sub (.var 26) (.cint 1))) (.idx (.var 23) (.bin .Sub (.var 26) (.cint 1))))]
noncomputable def postB : List PS := [.aug 26 .Sub (.cint 1)]
theorem post_true (n : Nat) (a b : List Nat) (j c : Nat) (env : PEnv) (st : Store) (ha : a.length ≤ 40) (hb : b.length ≤ 40) (h22 : env.get 22 = some (.str a)) (h23 : env.get 23 = some (.str b)) (h26 : env.get 26 = some (.int (-(j : Int)))) (hj : j < a.length) (hj' : j < b.length)
    (hka : a[a.length - (j + 1)]? = some c) (hkb : b[b.length - (j + 1)]? = some c) :
    evTest (ev L2.P (n + 8)).E postT env st = some (true, st) := by
  have la : a.length ≤ lim := by have : lim = 100000 := rfl; omega
  have lb : b.length ≤ lim := by have : lim = 100000 := rfl; omega
  have t1 := true_str (l := a.take (a.length - j)) (by simp; omega)
  have t2 := true_str (l := b.take (b.length - j)) (by simp; omega)
  have n1 : (a.take (a.length - j)).isEmpty = false := ne_e (fun e => by have := congrArg List.length e; simp at this; omega)
  have n2 : (b.take (b.length - j)).isEmpty = false := ne_e (fun e => by have := congrArg List.length e; simp at this; omega)
  have o1 : (ev L2.P (n + 6)).E orE env st = some (orv j, st) := or_eval (n + 2) j env st h26
  have e1 : (-(j : Int)) - 1 = -((j + 1 : Nat) : Int) := by omega
  have x1 : (ev L2.P (n + 7)).E (.slice (.var 22) none (some orE) none) env st = some (.str (a.take (a.length - j)), st) := by
    have v : (ev L2.P (n + 6)).E (.var 22) env st = some (.str a, st) := by simp only [eE, stepE, h22]
    rw [eE]; simp only [stepE, v, optE, o1, rd_str, slice_post a (Nat.le_of_lt hj) la]
  have x2 : (ev L2.P (n + 7)).E (.slice (.var 23) none (some orE) none) env st = some (.str (b.take (b.length - j)), st) := by
    have v : (ev L2.P (n + 6)).E (.var 23) env st = some (.str b, st) := by simp only [eE, stepE, h23]
    rw [eE]; simp only [stepE, v, optE, o1, rd_str, slice_post b (Nat.le_of_lt hj') lb]
  have x3 : (ev L2.P (n + 7)).E (.cmp .Eq (.idx (.var 22) (.bin .Sub (.var 26) (.cint 1))) (.idx (.var 23) (.bin .Sub (.var 26) (.cint 1)))) env st = some (.bool true, st) := by
    simp only [eE, stepE, h22, h23, h26, rd_str, rd_int, sub_c', e1, idx_strNeg a (by omega) (by omega) hka la, idx_strNeg b (by omega) (by omega) hkb lb, eq_c, BEq.rfl]
  show (match stepE L2.P (ev L2.P (n + 7)).E (ev L2.P (n + 7)).C postT env st with | some (v, st) => (match truthyV v with | some b => some (b, st) | none => none) | none => none) = _
  simp only [postT, stepE, evBool, x1, x2, x3, t1, t2, n1, n2, Bool.not_false, b3, cond_true, tb_c]
theorem post_false (n : Nat) (a b : List Nat) (env : PEnv) (st : Store) (ha : a.length ≤ 40) (hb : b.length ≤ 40) (h22 : env.get 22 = some (.str a)) (h23 : env.get 23 = some (.str b)) (h26 : env.get 26 = some (.int (-(csl a b : Int)))) :
    evTest (ev L2.P (n + 8)).E postT env st = some (false, st) := by
  have la : a.length ≤ lim := by have : lim = 100000 := rfl; omega
  have lb : b.length ≤ lim := by have : lim = 100000 := rfl; omega
  obtain ⟨k1, k2⟩ := csl_le a b
  have t1 := true_str (l := a.take (a.length - csl a b)) (by simp; omega)
  have t2 := true_str (l := b.take (b.length - csl a b)) (by simp; omega)
  have o1 : (ev L2.P (n + 6)).E orE env st = some (orv (csl a b), st) := or_eval (n + 2) _ env st h26
  have x1 : (ev L2.P (n + 7)).E (.slice (.var 22) none (some orE) none) env st = some (.str (a.take (a.length - csl a b)), st) := by
    have v : (ev L2.P (n + 6)).E (.var 22) env st = some (.str a, st) := by simp only [eE, stepE, h22]
    rw [eE]; simp only [stepE, v, optE, o1, rd_str, slice_post a k1 la]
  have x2 : (ev L2.P (n + 7)).E (.slice (.var 23) none (some orE) none) env st = some (.str (b.take (b.length - csl a b)), st) := by
    have v : (ev L2.P (n + 6)).E (.var 23) env st = some (.str b, st) := by simp only [eE, stepE, h23]
    rw [eE]; simp only [stepE, v, optE, o1, rd_str, slice_post b k2 lb]
  show (match stepE L2.P (ev L2.P (n + 7)).E (ev L2.P (n + 7)).C postT env st with | some (v, st) => (match truthyV v with | some b => some (b, st) | none => none) | none => none) = _
  by_cases h1 : csl a b = a.length
  · have e1 : (a.take (a.length - csl a b)).isEmpty = true := by rw [h1]; simp
    simp only [postT, stepE, evBool, x1, t1, e1, Bool.not_true, b4, cond_false]
  · have n1 : (a.take (a.length - csl a b)).isEmpty = false := ne_e (fun e => by have := congrArg List.length e; simp at this; omega)
    by_cases h2 : csl a b = b.length
    · have e2 : (b.take (b.length - csl a b)).isEmpty = true := by rw [h2]; simp
      simp only [postT, stepE, evBool, x1, x2, t1, t2, n1, e2, Bool.not_true, Bool.not_false, b3, b4, cond_true, cond_false]
    · have n2 : (b.take (b.length - csl a b)).isEmpty = false := ne_e (fun e => by have := congrArg List.length e; simp at this; omega)
      rcases csl_stop a b with h | h | ⟨c, d, hc, hd, hcd⟩
      · exact absurd h h1
      · exact absurd h h2
      · have e3 : ([c] == [d]) = false := by simpa using hcd
        have e1 : (-(csl a b : Int)) - 1 = -((csl a b + 1 : Nat) : Int) := by omega
        have x3 : (ev L2.P (n + 7)).E (.cmp .Eq (.idx (.var 22) (.bin .Sub (.var 26) (.cint 1))) (.idx (.var 23) (.bin .Sub (.var 26) (.cint 1)))) env st = some (.bool false, st) := by
          simp only [eE, stepE, h22, h23, h26, rd_str, rd_int, sub_c', e1, idx_strNeg a (by omega) (by omega) hc la, idx_strNeg b (by omega) (by omega) hd lb, eq_c, e3]
        simp only [postT, stepE, evBool, x1, x2, x3, t1, t2, n1, n2, Bool.not_false, b3, cond_true, tb_c]
theorem post_loop (n : Nat) (a b : List Nat) (env : PEnv) (st : Store) (ha : a.length ≤ 40) (hb : b.length ≤ 40) (h22 : env.get 22 = some (.str a)) (h23 : env.get 23 = some (.str b)) :
    whileN (evTest (ev L2.P (n + 8)).E postT) ((ev L2.P (n + 8)).S postB) 64 (env.set 26 (.int 0)) st = some (.next, env.set 26 (.int (-(csl a b : Int))), st) := by
  have hl := csl_le a b
  have := while_run (test := evTest (ev L2.P (n + 8)).E postT) (body := (ev L2.P (n + 8)).S postB) (fun k => env.set 26 (.int (-(k : Int)))) (fun _ => st) (csl a b) (fun i hi => ?_) (fun i hi => ?_) ?_ (csl a b) 64 0 (by omega) (by omega)
  · simpa using this
  · obtain ⟨c, h1, h2⟩ := csl_get a b i hi
    exact post_true n a b i c _ st ha hb (by simp [get_set', h22]) (by simp [get_set', h23]) (by simp [get_set']) (by omega) (by omega) h1 h2
  · have e : ((-(i : Int)) - 1) = -((i + 1 : Nat) : Int) := by omega
    simp only [postB, eS, stepS, stepS1, eE, stepE, get_set', ↓reduceIte, aug_sub, set_set, e]
  · exact post_false n a b _ st ha hb (by simp [get_set', h22]) (by simp [get_set', h23]) (by simp [get_set'])
theorem seqS {rec : EvE} {recS : EvS} {x : PS} {r : List PS} {env env1 : PEnv} {st st1 : Store} (h : stepS1 rec recS x env st = some (.next, env1, st1)) : stepS rec recS (x :: r) env st = stepS rec recS r env1 st1 := by
  simp only [stepS, h]
theorem assign_c {rec : EvE} {recS : EvS} {t : Nat} {e : PE} {env : PEnv} {st st1 : Store} {v : PV} (h : rec e env st = some (v, st1)) : stepS1 rec recS (.assign t e) env st = some (.next, env.set t v, st1) := by
  simp only [stepS1, h]
noncomputable def levBody : List PS :=
      .ifS (.cmp .Eq (.var 22) (.var 23))
        [
          .ret (.cint 0)]
        [] ::
      .assign 25 (.cint 0) ::
      .whileS preT preB ::
      .assign 22 (.slice (.var 22) (some (.var 25)) none none) ::
      .assign 23 (.slice (.var 23) (some (.var 25)) none none) ::
      .assign 26 (.cint 0) ::
      .whileS postT postB ::
      .assign 22 (.slice (.var 22) none (some orE) none) ::
      .assign 23 (.slice (.var 23) none (some orE) none) :: dpBody
theorem lev_def : L2.P.F 1 = some ([22, 23, 24], levBody) := by rfl
theorem lev_c (n : Nat) (a b : List Nat) (mx : Int) (st : Store) (hl : a.length ≤ 40) (hbl : b.length ≤ 40) (ha : ∀ c ∈ a, c < 128) (hb : ∀ c ∈ b, c < 128) :
    ∃ r rows, (ev L2.P (n + 24)).C 1 [.str a, .str b, .int mx] st = some (.int r, st ++ rows) ∧ (r = (ed a b : Nat) ∨ (r = mx + 1 ∧ mx < (ed a b : Nat))) := by
  have la : a.length ≤ lim := by have : lim = 100000 := rfl; omega
  have lb : b.length ≤ lim := by have : lim = 100000 := rfl; omega
  have env0 : bindAll [22, 23, 24] [.str a, .str b, .int mx] [] = some (PEnv.set (PEnv.set (PEnv.set [] 22 (.str a)) 23 (.str b)) 24 (.int mx)) := rfl
  rw [eC]
  unfold stepC
  rw [lev_def]
  simp only [env0]
  generalize he : (PEnv.set (PEnv.set (PEnv.set [] 22 (.str a)) 23 (.str b)) 24 (.int mx)) = env
  have h22 : env.get 22 = some (.str a) := by subst he; simp [get_set']
  have h23 : env.get 23 = some (.str b) := by subst he; simp [get_set']
  have h24 : env.get 24 = some (.int mx) := by subst he; simp [get_set']
  clear he env0
  by_cases hab : a = b
  · subst hab
    refine ⟨0, [], ?_, .inl (by rw [ed_self]; rfl)⟩
    simp only [levBody, eS, stepS, stepS1, evTest, eE, stepE, h22, h23, rd_str, eq_c, BEq.rfl, tb_c, freeze, List.append_nil]
  · have hne : (a == b) = false := by simpa using hab
    obtain ⟨k1, k2⟩ := cpl_le a b
    have pl := pre_loop (n + 16) a b env st hl hbl h22 h23
    generalize hA : a.drop (cpl a b) = A
    generalize hB : b.drop (cpl a b) = B
    have lA : A.length ≤ 40 := by rw [← hA]; simp; omega
    have lB : B.length ≤ 40 := by rw [← hB]; simp; omega
    have lA' : A.length ≤ lim := by have : lim = 100000 := rfl; omega
    have lB' : B.length ≤ lim := by have : lim = 100000 := rfl; omega
    have sA := slice_from a k1 la
    have sB := slice_from b k2 lb
    rw [hA] at sA
    rw [hB] at sB
    obtain ⟨j1, j2⟩ := csl_le A B
    have ql := post_loop (n + 14) A B (((env.set 25 (.int (cpl a b : Nat))).set 22 (.str A)).set 23 (.str B)) st lA lB (by simp [get_set']) (by simp [get_set'])
    have o1 := or_eval (n + 18) (csl A B) ((((env.set 25 (.int (cpl a b : Nat))).set 22 (.str A)).set 23 (.str B)).set 26 (.int (-(csl A B : Int)))) st (by simp [get_set'])
    have o2 := or_eval (n + 18) (csl A B) (((((env.set 25 (.int (cpl a b : Nat))).set 22 (.str A)).set 23 (.str B)).set 26 (.int (-(csl A B : Int)))).set 22 (.str (A.take (A.length - csl A B)))) st (by simp [get_set'])
    obtain ⟨r, env', rows, d1, d2⟩ := dp_full (n + 1) (A.take (A.length - csl A B)) (B.take (B.length - csl A B)) mx (by simp; omega) (by simp; omega) (fun c hc => ha c (by rw [← hA] at hc; exact List.mem_of_mem_drop (List.mem_of_mem_take hc)))
      (fun c hc => hb c (by rw [← hB] at hc; exact List.mem_of_mem_drop (List.mem_of_mem_take hc)))
      ((((((env.set 25 (.int (cpl a b : Nat))).set 22 (.str A)).set 23 (.str B)).set 26 (.int (-(csl A B : Int)))).set 22 (.str (A.take (A.length - csl A B)))).set 23 (.str (B.take (B.length - csl A B)))) st (by simp [get_set']) (by simp [get_set']) (by simp [get_set', h24])
    have ee : ed (A.take (A.length - csl A B)) (B.take (B.length - csl A B)) = ed a b := by rw [ed_csl, ← hA, ← hB, ed_cpl]
    rw [ee] at d2
    refine ⟨r, rows, ?_, d2⟩
    have c1 : stepS1 (ev L2.P (n + 22)).E (ev L2.P (n + 22)).S (.ifS (.cmp .Eq (.var 22) (.var 23)) [.ret (.cint 0)] []) env st = some (.next, env, st) := by
      simp only [stepS1, evTest, eE, eS, stepE, stepS, h22, h23, rd_str, eq_c, hne, tb_c]
    have c2 : stepS1 (ev L2.P (n + 22)).E (ev L2.P (n + 22)).S (.assign 25 (.cint 0)) env st = some (.next, env.set 25 (.int 0), st) := assign_c (by simp only [eE, stepE])
    have c3 : stepS1 (ev L2.P (n + 22)).E (ev L2.P (n + 22)).S (.whileS preT preB) (env.set 25 (.int 0)) st = some (.next, env.set 25 (.int (cpl a b : Nat)), st) := by
      simp only [stepS1]; exact pl
    have c4 : stepS1 (ev L2.P (n + 22)).E (ev L2.P (n + 22)).S (.assign 22 (.slice (.var 22) (some (.var 25)) none none)) (env.set 25 (.int (cpl a b : Nat))) st = some (.next, (env.set 25 (.int (cpl a b : Nat))).set 22 (.str A), st) := assign_c (by
      simp only [eE, stepE, get_set', h22, optE, rd_str, sA, Nat.reduceEqDiff, ↓reduceIte])
    have c5 : stepS1 (ev L2.P (n + 22)).E (ev L2.P (n + 22)).S (.assign 23 (.slice (.var 23) (some (.var 25)) none none)) ((env.set 25 (.int (cpl a b : Nat))).set 22 (.str A)) st = some (.next, ((env.set 25 (.int (cpl a b : Nat))).set 22 (.str A)).set 23 (.str B), st) := assign_c (by
      simp only [eE, stepE, get_set', h23, optE, rd_str, sB, Nat.reduceEqDiff, ↓reduceIte])
    have c6 : stepS1 (ev L2.P (n + 22)).E (ev L2.P (n + 22)).S (.assign 26 (.cint 0)) (((env.set 25 (.int (cpl a b : Nat))).set 22 (.str A)).set 23 (.str B)) st = some (.next, (((env.set 25 (.int (cpl a b : Nat))).set 22 (.str A)).set 23 (.str B)).set 26 (.int 0), st) := assign_c (by simp only [eE, stepE])
    have c7 : stepS1 (ev L2.P (n + 22)).E (ev L2.P (n + 22)).S (.whileS postT postB) ((((env.set 25 (.int (cpl a b : Nat))).set 22 (.str A)).set 23 (.str B)).set 26 (.int 0)) st = some (.next, (((env.set 25 (.int (cpl a b : Nat))).set 22 (.str A)).set 23 (.str B)).set 26 (.int (-(csl A B : Int))), st) := by
      simp only [stepS1]; exact ql
    generalize hE : (((env.set 25 (.int (cpl a b : Nat))).set 22 (.str A)).set 23 (.str B)).set 26 (.int (-(csl A B : Int))) = env2 at *
    have g22 : env2.get 22 = some (.str A) := by rw [← hE]; simp [get_set']
    have g23 : env2.get 23 = some (.str B) := by rw [← hE]; simp [get_set']
    have c8 : stepS1 (ev L2.P (n + 22)).E (ev L2.P (n + 22)).S (.assign 22 (.slice (.var 22) none (some orE) none)) env2 st = some (.next, env2.set 22 (.str (A.take (A.length - csl A B))), st) := assign_c (by
      have v : (ev L2.P (n + 21)).E (.var 22) env2 st = some (.str A, st) := by simp only [eE, stepE, g22]
      have o1' : (ev L2.P (n + 21)).E orE env2 st = some (orv (csl A B), st) := or_eval (n + 17) _ env2 st (by rw [← hE]; simp [get_set'])
      rw [eE]; simp only [stepE, v, optE, o1', rd_str, slice_post A j1 lA'])
    have c9 : stepS1 (ev L2.P (n + 22)).E (ev L2.P (n + 22)).S (.assign 23 (.slice (.var 23) none (some orE) none)) (env2.set 22 (.str (A.take (A.length - csl A B)))) st = some (.next, (env2.set 22 (.str (A.take (A.length - csl A B)))).set 23 (.str (B.take (B.length - csl A B))), st) := assign_c (by
      have v : (ev L2.P (n + 21)).E (.var 23) (env2.set 22 (.str (A.take (A.length - csl A B)))) st = some (.str B, st) := by simp [eE, stepE, get_set', g23]
      have o1' : (ev L2.P (n + 21)).E orE (env2.set 22 (.str (A.take (A.length - csl A B)))) st = some (orv (csl A B), st) := or_eval (n + 17) _ _ st (by rw [← hE]; simp [get_set'])
      rw [eE]; simp only [stepE, v, optE, o1', rd_str, slice_post B j2 lB'])
    have all : (ev L2.P (n + 23)).S levBody env st = some (.ret (.int r), env', st ++ rows) := by
      rw [eS]
      unfold levBody
      rw [seqS c1, seqS c2, seqS c3, seqS c4, seqS c5, seqS c6, seqS c7, seqS c8, seqS c9]
      exact d1
    rw [all]; rfl
end Mine
end
section
set_option backward.eqns.nonrecursive false
set_option maxRecDepth 4000
namespace Mine
open PySem
theorem set_last {α : Type} (l : List α) (x y : α) : (l ++ [x]).set l.length y = l ++ [y] := by simp
theorem floor_c {i j : Int} (h1 : small i = true) (h0 : 0 < j) (h2 : small j = true) : pbin .FloorDiv (.int i) (.int j) = some (.int (i / j)) := by
  show (bif small i && decide (0 < j) && small j then _ else _) = _
  rw [h1, h2, decide_eq_true h0]; rfl
theorem mod_c {i j : Int} (h0 : 0 < j) : pbin .Mod (.int i) (.int j) = some (.int (i % j)) := by
  show (bif decide (0 < j) then _ else _) = _
  rw [decide_eq_true h0]; rfl
theorem aug_floor {i j : Int} (h1 : small i = true) (h0 : 0 < j) (h2 : small j = true) : paug .FloorDiv (.int i) (.int j) = some (.int (i / j)) := floor_c h1 h0 h2
theorem sL_c {α : Type} {st : Store} {r : Nat} {xs : List PV} {f : List PV → Option α} (h : st[r]? = some (.list xs)) : sL st r f = f xs := by unfold sL; rw [h]
theorem insert_c {st : Store} {r : Nat} {xs : List PV} (h : st[r]? = some (.list xs)) (v : PV) (hl : xs.length ≤ lim) : pmeth .insert (.ref r) [.int 0, v] st = some (.none, st.set r (.list (v :: xs))) := (sL_c h).trans (bif_le hl ..)
theorem append_c {st : Store} {r : Nat} {xs : List PV} (h : st[r]? = some (.list xs)) (v : PV) (hl : xs.length ≤ lim) : pmeth .append (.ref r) [v] st = some (.none, st.set r (.list (xs ++ [v]))) := (sL_c h).trans (bif_le hl ..)
theorem pop_c {st : Store} {r : Nat} {xs : List PV} {v : PV} (h : st[r]? = some (.list (xs ++ [v]))) (hl : (xs ++ [v]).length ≤ lim) : pmeth .pop (.ref r) [] st = some (v, st.set r (.list xs)) := by
  refine (sL_c h).trans ?_
  rw [List.getLast?_concat, List.dropLast_concat]
  exact bif_le hl ..
theorem extend_c {st : Store} {r : Nat} {xs ys : List PV} (h : st[r]? = some (.list xs)) (hl : xs.length + ys.length ≤ lim) : pmeth .extend (.ref r) [.list ys] st = some (.none, st.set r (.list (xs ++ ys))) := (sL_c h).trans (bif_le hl ..)
theorem ok_list {st : Store} {r : Nat} {xs : List PV} (h : st[r]? = some (.list xs)) : meOk .insert (.ref r) st = true ∧ meOk .append (.ref r) st = true ∧ meOk .pop (.ref r) st = true ∧ meOk .extend (.ref r) st = true :=
  have k : isL (rd st (.ref r)) = true := by rw [rd_ref h]; rfl
  ⟨k, k, k, k⟩
noncomputable def octs (n : Nat) : List Nat := if n < 64 then [n + 128] else if n < 4096 then [n / 64 + 192, n % 64] else [n / 4096 + 192, n / 64 % 64 + 64, n % 64]
noncomputable def octT : PE := .cmp .Gt (.var 65) (.cint 63)
noncomputable def octB : List PS := [
          .aug 65 .FloorDiv (.cint 64),
          .expr (.meth .insert (.var 28) [(.cint 0), (.bin .Add (.bin .Mod (.var 65) (.cint 64)) (.cint 64))])]
theorem small_int' {i : Int} (h : i.natAbs ≤ 4000000000) : small i = true := Nat.ble_eq_true_of_le (by omega)
theorem small64 : small 64 = true := by decide
theorem oct_step (n : Nat) (m r : Nat) (xs : List PV) (env : PEnv) (st : Store) (h65 : env.get 65 = some (.int m)) (h28 : env.get 28 = some (.ref r)) (hst : st[r]? = some (.list xs)) (hm : m < 262144) (hl : xs.length ≤ 50) :
    (ev L2.P (n + 8)).S octB env st = some (.next, env.set 65 (.int ((m / 64 : Nat) : Int)), st.set r (.list (.int ((m / 64 % 64 + 64 : Nat) : Int) :: xs))) := by
  have sm : small (m : Int) = true := small_int' (by omega)
  have e1 : (m : Int) / 64 = ((m / 64 : Nat) : Int) := by omega
  have e2 : ((m / 64 : Nat) : Int) % 64 + 64 = ((m / 64 % 64 + 64 : Nat) : Int) := by omega
  have la : xs.length ≤ lim := by have : lim = 100000 := rfl; omega
  simp only [octB, eS, stepS, stepS1, eE, stepE, get_set', h65, h28, aug_floor sm (show (0 : Int) < 64 by decide) small64, e1, (ok_list hst).1, cond_true, evList, rd_int, mod_c (show (0 : Int) < 64 by decide), add_c, e2, insert_c hst _ la, Nat.reduceEqDiff, ↓reduceIte]
theorem oct_test (n m : Nat) (env : PEnv) (st : Store) (h65 : env.get 65 = some (.int m)) : evTest (ev L2.P (n + 3)).E octT env st = some (decide (63 < m), st) := by
  have e : decide ((63 : Int) < (m : Int)) = decide (63 < m) := by
    by_cases h : 63 < m
    · rw [decide_eq_true h, decide_eq_true (by omega)]
    · rw [decide_eq_false h, decide_eq_false (by omega)]
  simp only [octT, evTest, eE, stepE, h65, rd_int, gt_c, tb_c, e]
theorem while_done {test : PEnv → Store → Option (Bool × Store)} {body : PEnv → Store → Option (PFlow × PEnv × Store)} {env : PEnv} {st : Store} (f : Nat) (h : test env st = some (false, st)) : whileN test body (f + 1) env st = some (.next, env, st) := by
  simp only [whileN, h]
theorem while_next {test : PEnv → Store → Option (Bool × Store)} {body : PEnv → Store → Option (PFlow × PEnv × Store)} {env env1 : PEnv} {st st1 : Store} (f : Nat) (h : test env st = some (true, st)) (hb : body env st = some (.next, env1, st1)) : whileN test body (f + 1) env st = whileN test body f env1 st1 := by
  simp only [whileN, h, hb]
noncomputable def octBody : List PS :=
      .assign 28 (.newlist [(.bin .Mod (.var 65) (.cint 64))]) ::
      .whileS octT octB ::
      .augItem (.var 28) (.cint 0) .Add (.cint 128) ::
      .ret (.var 28) :: []
theorem oct_def : L2.P.F 8 = some ([65], octBody) := by rfl
theorem idx0_c (x : PV) (xs : List PV) : pidx (.list (x :: xs)) (.int 0) = some x := by simp [pidx]
theorem set0_c {st : Store} {r : Nat} {x : PV} {xs : List PV} (h : st[r]? = some (.list (x :: xs))) (v : PV) (hl : xs.length ≤ 50) : setAt (.ref r) (.int 0) v st = some (st.set r (.list (v :: xs))) := setAt_c h (i := 0) (Nat.succ_pos _) (Nat.le_trans (Nat.succ_le_succ hl) (by decide)) v
theorem oct_loop (n m : Nat) (st : Store) (hm : m < 262144) (env : PEnv) (h65 : env.get 65 = some (.int m)) (h28 : env.get 28 = some (.ref st.length)) :
    ∃ env' x xs, whileN (evTest (ev L2.P (n + 8)).E octT) ((ev L2.P (n + 8)).S octB) 64 env (st ++ [.list [.int ((m % 64 : Nat) : Int)]]) = some (.next, env', st ++ [.list (natV (x :: xs))]) ∧ env'.get 28 = some (.ref st.length) ∧ (x + 128) :: xs = octs m ∧ xs.length ≤ 2 := by
  by_cases h1 : m < 64
  · refine ⟨env, m, [], ?_, h28, by simp [octs, h1], by simp⟩
    rw [while_done 63 (by rw [oct_test (n + 5) m env _ h65, decide_eq_false (by omega)])]
    simp [natV, Nat.mod_eq_of_lt h1]
  · have g1 := get_last st (PObj.list [PV.int ((m % 64 : Nat) : Int)])
    have s1 := oct_step n m st.length _ env (st ++ [.list [.int ((m % 64 : Nat) : Int)]]) h65 h28 g1 hm (by simp)
    rw [set_last] at s1
    by_cases h2 : m < 4096
    · refine ⟨env.set 65 (.int ((m / 64 : Nat) : Int)), m / 64 + 64, [m % 64], ?_, by simp [get_set', h28], by simp [octs, h1, h2], by simp⟩
      rw [while_next 63 (by rw [oct_test (n + 5) m env _ h65, decide_eq_true (by omega)]) s1, while_done 62 (by rw [oct_test (n + 5) (m / 64) _ _ (by simp [get_set']), decide_eq_false (by omega)])]
      have : m / 64 % 64 = m / 64 := Nat.mod_eq_of_lt (by omega)
      simp [natV, this]
    · have g2 := get_last st (PObj.list [PV.int ((m / 64 % 64 + 64 : Nat) : Int), PV.int ((m % 64 : Nat) : Int)])
      have s2 := oct_step n (m / 64) st.length _ (env.set 65 (.int ((m / 64 : Nat) : Int))) (st ++ [.list [.int ((m / 64 % 64 + 64 : Nat) : Int), .int ((m % 64 : Nat) : Int)]]) (by simp [get_set']) (by simp [get_set', h28]) g2 (by omega) (by simp)
      rw [set_last] at s2
      refine ⟨(env.set 65 (.int ((m / 64 : Nat) : Int))).set 65 (.int ((m / 64 / 64 : Nat) : Int)), m / 4096 + 64, [m / 64 % 64 + 64, m % 64], ?_, by simp [get_set', h28], by simp [octs, h1, h2], by simp⟩
      rw [while_next 63 (by rw [oct_test (n + 5) m env _ h65, decide_eq_true (by omega)]) s1, while_next 62 (by rw [oct_test (n + 5) (m / 64) _ _ (by simp [get_set']), decide_eq_true (by omega)]) s2,
        while_done 61 (by rw [oct_test (n + 5) (m / 64 / 64) _ _ (by simp [get_set']), decide_eq_false (by omega)])]
      have : m / 64 / 64 % 64 = m / 4096 := by omega
      simp [natV, this]
theorem octets_c (n m : Nat) (st : Store) (hm : m < 262144) : (ev L2.P (n + 12)).C 8 [.int m] st = some (.list (natV (octs m)), st ++ [.dead]) := by
  have e0 : (m : Int) % 64 = ((m % 64 : Nat) : Int) := by omega
  obtain ⟨env', x, xs, w1, w2, w3, w4⟩ := oct_loop (n + 2) m st hm (PEnv.set (PEnv.set [] 65 (.int m)) 28 (.ref st.length)) (by simp [get_set']) (by simp [get_set'])
  have g := get_last st (PObj.list (natV (x :: xs)))
  have e1 : (x : Int) + 128 = ((x + 128 : Nat) : Int) := by omega
  have e2 : natV (x :: xs) = .int x :: natV xs := rfl
  rw [e2] at w1 g
  have c1 : stepS1 (ev L2.P (n + 10)).E (ev L2.P (n + 10)).S (.assign 28 (.newlist [(.bin .Mod (.var 65) (.cint 64))])) (PEnv.set [] 65 (.int m)) st = some (.next, (PEnv.set [] 65 (.int m)).set 28 (.ref st.length), st ++ [.list [.int ((m % 64 : Nat) : Int)]]) := assign_c (by
    have h65 : (PEnv.set [] 65 (PV.int m)).get 65 = some (.int m) := by simp [get_set']
    have l1 : ([PV.int ((m % 64 : Nat) : Int)] : List PV).length ≤ lim := by show 1 ≤ 100000; decide
    simp only [eE, stepE, evList, h65, rd_int, mod_c (show (0 : Int) < 64 by decide), e0, bif_le l1])
  have c2 : stepS1 (ev L2.P (n + 10)).E (ev L2.P (n + 10)).S (.whileS octT octB) ((PEnv.set [] 65 (.int m)).set 28 (.ref st.length)) (st ++ [.list [.int ((m % 64 : Nat) : Int)]]) = some (.next, env', st ++ [.list (.int x :: natV xs)]) := by
    simp only [stepS1]; exact w1
  have c3 : stepS1 (ev L2.P (n + 10)).E (ev L2.P (n + 10)).S (.augItem (.var 28) (.cint 0) .Add (.cint 128)) env' (st ++ [.list (.int x :: natV xs)]) = some (.next, env', st ++ [.list (natV (octs m))]) := by
    simp only [stepS1, eE, stepE, w2, rd_ref g, idx0_c, aug_add, e1, set0_c g _ (show (natV xs).length ≤ 50 by simp [natV]; omega), set_last]
    rw [← w3]; rfl
  have all : (ev L2.P (n + 11)).S octBody (PEnv.set [] 65 (.int m)) st = some (.ret (.ref st.length), env', st ++ [.list (natV (octs m))]) := by
    rw [eS]
    unfold octBody
    rw [seqS c1, seqS c2, seqS c3]
    simp only [stepS, stepS1, eE, stepE, w2]
  rw [eC]
  unfold stepC
  rw [oct_def]
  have b0 : bindAll [65] [.int (m : Int)] [] = some (PEnv.set [] 65 (.int m)) := rfl
  simp only [b0, all]
  simp only [freeze, get_last, set_last]
end Mine
end
section
set_option backward.eqns.nonrecursive false
set_option maxRecDepth 4000
namespace Mine
open PySem
theorem and0 (v q : Nat) (h : q < 64) : (v * 64) &&& q = 0 := by
  have e1 : q = 63 &&& q := by
    rw [Nat.and_comm]
    have := Nat.and_two_pow_sub_one_eq_mod q 6
    simp at this
    rw [this, Nat.mod_eq_of_lt h]
  have e2 : (v * 64) &&& 63 = 0 := by
    have := Nat.and_two_pow_sub_one_eq_mod (v * 64) 6
    simp at this
    exact this
  rw [e1, ← Nat.and_assoc, e2, Nat.zero_and]
theorem or_c (v q : Nat) (h : q < 64) : Builtin.bitOr ((v * 64 : Nat) : Int) (q : Int) = ((v * 64 + q : Nat) : Int) := by
  rw [PyProof.Rows.bitOr_and, PyProof.Rows.bitAnd_pp (by omega) (by omega)]
  simp only [Int.toNat_natCast, and0 v q h]
  omega
theorem and_first : ∀ q : Nat, q < 64 → Builtin.bitAnd ((q + 192 : Nat) : Int) 63 = (q : Int) ∧ Builtin.bitAnd ((q + 192 : Nat) : Int) 64 = 64 ∧ Builtin.bitAnd ((q + 128 : Nat) : Int) 63 = (q : Int) ∧ Builtin.bitAnd ((q + 128 : Nat) : Int) 64 = 0 ∧
    Builtin.bitAnd ((q + 64 : Nat) : Int) 63 = (q : Int) ∧ Builtin.bitAnd ((q + 64 : Nat) : Int) 64 = 64 ∧ Builtin.bitAnd (q : Int) 63 = (q : Int) ∧ Builtin.bitAnd (q : Int) 64 = 0 := by decide +kernel
noncomputable def varT : PE := .bin .BitAnd (.var 23) (.cint 64)
noncomputable def varB : List PS := [
          .aug 38 .LShift (.cint 6),
          .assign 23 (.bi .next [(.var 37)]),
          .aug 38 .BitOr (.bin .BitAnd (.var 23) (.cint 63))]
noncomputable def varBody : List PS :=
      .assign 23 (.bi .next [(.var 37)]) ::
      .assign 38 (.bin .BitAnd (.var 23) (.cint 63)) ::
      .whileS varT varB ::
      .ret (.var 38) :: []
theorem var_def : L2.P.F 2 = some ([37], varBody) := by rfl
theorem and_c (i j : Int) : pbin .BitAnd (.int i) (.int j) = some (.int (Builtin.bitAnd i j)) := id rfl
theorem aug_or (i j : Int) : paug .BitOr (.int i) (.int j) = some (.int (Builtin.bitOr i j)) := id rfl
theorem aug_shl {i : Int} (h : small i = true) : paug .LShift (.int i) (.int 6) = some (.int (i * 64)) := by
  show (bif small i && decide ((0 : Int) ≤ 6) && decide ((6 : Int) ≤ 1000) then some (PV.int (i * 2 ^ (6 : Int).toNat)) else none) = _
  rw [h]; rfl
theorem next_c {st : Store} {r : Nat} {x : PV} {xs : List PV} (h : st[r]? = some (.iter (x :: xs))) : pbi .next [.ref r] st = some (x, st.set r (.iter xs)) := by
  show sT st r _ = _
  unfold sT
  rw [h]; rfl
theorem get_setS {st : Store} {r : Nat} {x : PObj} {y : PObj} (h : st[r]? = some x) : (st.set r y)[r]? = some y := by
  rw [List.getElem?_set]; simp; exact (List.getElem?_eq_some_iff.mp h).1
theorem var_step (n v q b : Nat) (r : Nat) (xs : List PV) (env : PEnv) (st : Store) (h37 : env.get 37 = some (.ref r)) (h38 : env.get 38 = some (.int v)) (hst : st[r]? = some (.iter (.int b :: xs))) (hv : v < 262144) (hq : q < 64) (hb : Builtin.bitAnd (b : Int) 63 = (q : Int)) :
    (ev L2.P (n + 8)).S varB env st = some (.next, ((env.set 38 (.int ((v : Int) * 64))).set 23 (.int b)).set 38 (.int ((v * 64 + q : Nat) : Int)), st.set r (.iter xs)) := by
  have sv : small (v : Int) = true := small_int' (by omega)
  have e1 : (v : Int) * 64 = ((v * 64 : Nat) : Int) := by omega
  simp only [varB, eS, stepS, stepS1, eE, stepE, get_set', h37, h38, aug_shl sv, e1, evList, next_c hst, and_c, hb, rd_int, aug_or, or_c v q hq, Nat.reduceEqDiff, ↓reduceIte]
theorem var_test (n : Nat) (b : Nat) (t : Int) (env : PEnv) (st : Store) (h23 : env.get 23 = some (.int b)) (hb : Builtin.bitAnd (b : Int) 64 = t) : evTest (ev L2.P (n + 3)).E varT env st = some (t != 0, st) := by
  simp only [varT, evTest, eE, stepE, h23, rd_int, and_c, hb, int_t]
theorem var_loop (n m r : Nat) (xs : List PV) (hm : m < 262144) (st : Store) (env : PEnv) (h37 : env.get 37 = some (.ref r)) (hst : st[r]? = some (.iter (natV (octs m) ++ xs))) :
    ∃ env', stepS (ev L2.P (n + 10)).E (ev L2.P (n + 10)).S varBody env st = some (.ret (.int m), env', st.set r (.iter xs)) := by
  have tail : ∀ (b q : Nat) (ys : List PV), st[r]? = some (.iter (.int b :: ys)) → Builtin.bitAnd (b : Int) 63 = (q : Int) → ∀ env' st', whileN (evTest (ev L2.P (n + 10)).E varT) ((ev L2.P (n + 10)).S varB) 64 ((env.set 23 (.int b)).set 38 (.int q)) (st.set r (.iter ys)) = some (.next, env', st') → env'.get 38 = some (.int m) → st' = st.set r (.iter xs) →
      ∃ env', stepS (ev L2.P (n + 10)).E (ev L2.P (n + 10)).S varBody env st = some (.ret (.int m), env', st.set r (.iter xs)) := fun b q ys hs hb env' st' hw h38 hst' => by
    have c1 : stepS1 (ev L2.P (n + 10)).E (ev L2.P (n + 10)).S (.assign 23 (.bi .next [(.var 37)])) env st = some (.next, env.set 23 (.int b), st.set r (.iter ys)) := assign_c (by simp only [eE, stepE, evList, h37, next_c hs])
    have c2 : stepS1 (ev L2.P (n + 10)).E (ev L2.P (n + 10)).S (.assign 38 (.bin .BitAnd (.var 23) (.cint 63))) (env.set 23 (.int b)) (st.set r (.iter ys)) = some (.next, (env.set 23 (.int b)).set 38 (.int q), st.set r (.iter ys)) := assign_c (by
      simp only [eE, stepE, get_set', rd_int, and_c, hb, Nat.reduceEqDiff, ↓reduceIte])
    have c3 : stepS1 (ev L2.P (n + 10)).E (ev L2.P (n + 10)).S (.whileS varT varB) ((env.set 23 (.int b)).set 38 (.int q)) (st.set r (.iter ys)) = some (.next, env', st') := by simp only [stepS1]; exact hw
    refine ⟨env', ?_⟩
    unfold varBody
    rw [seqS c1, seqS c2, seqS c3]
    simp only [stepS, stepS1, eE, stepE, h38, hst']
  have t64 : ((64 : Int) != 0) = true := by decide
  have t0 : ((0 : Int) != 0) = false := by decide
  by_cases h1 : m < 64
  · have ho : natV (octs m) ++ xs = .int ((m + 128 : Nat) : Int) :: xs := by simp [octs, h1, natV]
    rw [ho] at hst
    obtain ⟨_, _, a3, a4, _⟩ := and_first m h1
    exact tail (m + 128) m xs hst a3 _ _ (while_done 63 (by rw [var_test (n + 7) (m + 128) 0 _ _ (by simp [get_set']) a4, t0])) (by simp [get_set']) rfl
  · by_cases h2 : m < 4096
    · have ho : natV (octs m) ++ xs = .int ((m / 64 + 192 : Nat) : Int) :: .int ((m % 64 : Nat) : Int) :: xs := by simp [octs, h1, h2, natV]
      rw [ho] at hst
      obtain ⟨a1, a2, _⟩ := and_first (m / 64) (by omega)
      obtain ⟨_, _, _, _, _, _, b7, b8⟩ := and_first (m % 64) (by omega)
      have s1 := var_step (n + 2) (m / 64) (m % 64) (m % 64) r xs ((env.set 23 (.int ((m / 64 + 192 : Nat) : Int))).set 38 (.int ((m / 64 : Nat) : Int))) (st.set r (.iter (.int ((m % 64 : Nat) : Int) :: xs))) (by simp [get_set', h37]) (by simp [get_set']) (get_setS hst) (by omega) (by omega) b7
      rw [List.set_set] at s1
      refine tail (m / 64 + 192) (m / 64) _ hst a1 _ _ ((while_next 63 (by rw [var_test (n + 7) (m / 64 + 192) 64 _ _ (by simp [get_set']) a2, t64]) s1).trans (while_done 62 (by rw [var_test (n + 7) (m % 64) 0 _ _ (by simp [get_set']) b8, t0]))) ?_ rfl
      have : m / 64 * 64 + m % 64 = m := by omega
      simp [get_set', this]
    · have ho : natV (octs m) ++ xs = .int ((m / 4096 + 192 : Nat) : Int) :: .int ((m / 64 % 64 + 64 : Nat) : Int) :: .int ((m % 64 : Nat) : Int) :: xs := by simp [octs, h1, h2, natV]
      rw [ho] at hst
      obtain ⟨a1, a2, _⟩ := and_first (m / 4096) (by omega)
      obtain ⟨_, _, _, _, b5, b6, _, _⟩ := and_first (m / 64 % 64) (by omega)
      obtain ⟨_, _, _, _, _, _, c7, c8⟩ := and_first (m % 64) (by omega)
      have s1 := var_step (n + 2) (m / 4096) (m / 64 % 64) (m / 64 % 64 + 64) r (.int ((m % 64 : Nat) : Int) :: xs) ((env.set 23 (.int ((m / 4096 + 192 : Nat) : Int))).set 38 (.int ((m / 4096 : Nat) : Int))) (st.set r (.iter (.int ((m / 64 % 64 + 64 : Nat) : Int) :: .int ((m % 64 : Nat) : Int) :: xs))) (by simp [get_set', h37]) (by simp [get_set']) (get_setS hst) (by omega) (by omega) b5
      rw [List.set_set] at s1
      have s2 := var_step (n + 2) (m / 4096 * 64 + m / 64 % 64) (m % 64) (m % 64) r xs (((((env.set 23 (.int ((m / 4096 + 192 : Nat) : Int))).set 38 (.int ((m / 4096 : Nat) : Int))).set 38 (.int (((m / 4096 : Nat) : Int) * 64))).set 23 (.int ((m / 64 % 64 + 64 : Nat) : Int))).set 38 (.int ((m / 4096 * 64 + m / 64 % 64 : Nat) : Int))) (st.set r (.iter (.int ((m % 64 : Nat) : Int) :: xs))) (by simp [get_set', h37]) (by simp [get_set']) (get_setS hst) (by omega) (by omega) c7
      rw [List.set_set] at s2
      refine tail (m / 4096 + 192) (m / 4096) _ hst a1 _ _ ((while_next 63 (by rw [var_test (n + 7) (m / 4096 + 192) 64 _ _ (by simp [get_set']) a2, t64]) s1).trans ((while_next 62 (by rw [var_test (n + 7) (m / 64 % 64 + 64) 64 _ _ (by simp [get_set']) b6, t64]) s2).trans (while_done 61 (by rw [var_test (n + 7) (m % 64) 0 _ _ (by simp [get_set']) c8, t0])))) ?_ rfl
      have : (m / 4096 * 64 + m / 64 % 64) * 64 + m % 64 = m := by omega
      simp [get_set', this]
theorem parse_c (n m r : Nat) (xs : List PV) (hm : m < 262144) (st : Store) (hst : st[r]? = some (.iter (natV (octs m) ++ xs))) : (ev L2.P (n + 12)).C 2 [.ref r] st = some (.int m, st.set r (.iter xs)) := by
  obtain ⟨env', h⟩ := var_loop n m r xs hm st (PEnv.set [] 37 (.ref r)) (by simp [get_set']) hst
  rw [eC]
  unfold stepC
  rw [var_def]
  have b0 : bindAll [37] [.ref r] [] = some (PEnv.set [] 37 (.ref r)) := rfl
  have h' : (ev L2.P (n + 11)).S varBody (PEnv.set [] 37 (.ref r)) st = some (.ret (.int m), env', st.set r (.iter xs)) := h
  simp only [b0, h', freeze]
end Mine
end
section
set_option backward.eqns.nonrecursive false
set_option maxRecDepth 4000
namespace Mine
open PySem
theorem eqI_c (i j : Int) : pcmp .Eq (.int i) (.int j) = some (i == j) := id rfl
theorem G44 : L2.P.G 44 = some (.int 0) := id rfl
theorem G43 : L2.P.G 43 = some (.int 256) := id rfl
theorem eof_def : L2.P.F 5 = some ([42], [.ret (.cmp .Eq (.var 42) (.glob 44))]) := by rfl
theorem non_def : L2.P.F 4 = some ([42], [.ret (.cmp .GtE (.var 42) (.glob 43))]) := by rfl
theorem eof_c (n : Nat) (m : Nat) (st : Store) : (ev L2.P (n + 4)).C 5 [.int m] st = some (.bool (decide (m = 0)), st) := by
  have e : ((m : Int) == 0) = decide (m = 0) := by
    by_cases h : m = 0
    · subst h; rfl
    · rw [decide_eq_false h, beq_eq_false_iff_ne]; omega
  have b0 : bindAll [42] [.int (m : Int)] [] = some (PEnv.set [] 42 (.int m)) := rfl
  rw [eC]; unfold stepC; rw [eof_def]
  simp only [b0, eS, stepS, stepS1, eE, stepE, get_set', rd_int, G44, eqI_c, e, freeze, ↓reduceIte]
theorem ge_c (i j : Int) : pcmp .GtE (.int i) (.int j) = some (decide (j ≤ i)) := id rfl
theorem non_c (n : Nat) (m : Nat) (st : Store) : (ev L2.P (n + 4)).C 4 [.int m] st = some (.bool (decide (256 ≤ m)), st) := by
  have e : decide ((256 : Int) ≤ (m : Int)) = decide (256 ≤ m) := by
    by_cases h : 256 ≤ m
    · rw [decide_eq_true h, decide_eq_true (by omega)]
    · rw [decide_eq_false h, decide_eq_false (by omega)]
  have b0 : bindAll [42] [.int (m : Int)] [] = some (PEnv.set [] 42 (.int m)) := rfl
  rw [eC]; unfold stepC; rw [non_def]
  simp only [b0, eS, stepS, stepS1, eE, stepE, get_set', rd_int, G43, ge_c, e, freeze, ↓reduceIte]
noncomputable def tapeOf : List Nat → List PV
  | [] => []
  | m :: r => natV (octs m) ++ tapeOf r
theorem tapeOf_app : ∀ a b : List Nat, tapeOf (a ++ b) = tapeOf a ++ tapeOf b
  | [], _ => rfl
  | m :: a, b => by simp [tapeOf, tapeOf_app a b]
noncomputable def readT : PE := .cmp .Is (.call 5 [(.var 65)]) (.cbool false)
noncomputable def readB : List PS := [
          .expr (.meth .append (.var 60) [(.var 65)]),
          .assign 65 (.call 2 [(.var 66)])]
noncomputable def readBody : List PS :=
      .assign 60 (.newlist []) ::
      .assign 65 (.call 2 [(.var 66)]) ::
      .whileS readT readB ::
      .ret (.var 60) :: []
theorem read_def : L2.P.F 9 = some ([66], readBody) := by rfl
theorem is_c (a b : Bool) : pcmp .Is (.bool a) (.bool b) = some (a == b) := id rfl
theorem set_app_lt {α : Type} {l : List α} {x : α} {r : Nat} (y : α) (h : r < l.length) : (l ++ [x]).set r y = l.set r y ++ [x] := by
  rw [List.set_append_left _ _ h]
theorem get_app_lt {α : Type} {l : List α} {x : α} {r : Nat} (h : r < l.length) : (l ++ [x])[r]? = l[r]? := List.getElem?_append_left h
theorem read_loop (n r : Nat) (xs : List PV) (st : Store) (hr : r < st.length) : ∀ (ns done : List Nat) (env : PEnv) (f h : Nat) (tl : List Nat), (∀ m ∈ ns, 0 < m ∧ m < 262144) → ns ++ [0] = h :: tl → env.get 60 = some (.ref st.length) → env.get 65 = some (.int h) → env.get 66 = some (.ref r) → ns.length < f → done.length + ns.length ≤ 50 →
    ∃ env', whileN (evTest (ev L2.P (n + 16)).E readT) ((ev L2.P (n + 16)).S readB) f env (st.set r (PObj.iter (tapeOf tl ++ xs)) ++ [PObj.list (natV done)]) = some (.next, env', st.set r (PObj.iter xs) ++ [PObj.list (natV (done ++ ns))]) ∧ env'.get 60 = some (.ref st.length)
  | [], done, env, f + 1, h, tl, hm, e, h60, h65, h66, hf, hl => by
    simp only [List.nil_append, List.cons.injEq] at e
    obtain ⟨rfl, rfl⟩ := e
    refine ⟨env, ?_, h60⟩
    have ef : (ev L2.P (n + 14)).C 5 [.int ((0 : Nat) : Int)] (st.set r (PObj.iter (tapeOf [] ++ xs)) ++ [PObj.list (natV done)]) = some (.bool true, (st.set r (PObj.iter (tapeOf [] ++ xs)) ++ [PObj.list (natV done)])) := eof_c (n + 10) 0 _
    have t : evTest (ev L2.P (n + 16)).E readT env (st.set r (PObj.iter (tapeOf [] ++ xs)) ++ [PObj.list (natV done)]) = some (false, st.set r (PObj.iter (tapeOf [] ++ xs)) ++ [PObj.list (natV done)]) := by
      simp only [readT, evTest, eE, stepE, evList, h65, ef, rd_bool, is_c, tb_c, b2]
    rw [while_done f t]
    simp [tapeOf]
  | a :: ns, done, env, f + 1, h, tl, hm, e, h60, h65, h66, hf, hl => by
    simp only [List.cons_append, List.cons.injEq] at e
    obtain ⟨rfl, rfl⟩ := e
    obtain ⟨ha0, ha1⟩ := hm a List.mem_cons_self
    obtain ⟨h', tl', e'⟩ : ∃ h' tl', ns ++ [0] = h' :: tl' := by
      cases ns with
      | nil => exact ⟨0, [], rfl⟩
      | cons b ns => exact ⟨b, ns ++ [0], rfl⟩
    have hh' : h' < 262144 := by
      cases ns with
      | nil => simp only [List.nil_append, List.cons.injEq] at e'; omega
      | cons b ns =>
        simp only [List.cons_append, List.cons.injEq] at e'
        have := (hm b (by simp)).2; omega
    have lset : (st.set r (PObj.iter (tapeOf (ns ++ [0]) ++ xs))).length = st.length := by simp
    have ef : (ev L2.P (n + 14)).C 5 [.int (a : Int)] (st.set r (PObj.iter (tapeOf (ns ++ [0]) ++ xs)) ++ [PObj.list (natV done)]) = some (.bool false, (st.set r (PObj.iter (tapeOf (ns ++ [0]) ++ xs)) ++ [PObj.list (natV done)])) := by
      have := eof_c (n + 10) a (st.set r (PObj.iter (tapeOf (ns ++ [0]) ++ xs)) ++ [PObj.list (natV done)])
      rwa [decide_eq_false (by omega)] at this
    have t : evTest (ev L2.P (n + 16)).E readT env (st.set r (PObj.iter (tapeOf (ns ++ [0]) ++ xs)) ++ [PObj.list (natV done)]) = some (true, st.set r (PObj.iter (tapeOf (ns ++ [0]) ++ xs)) ++ [PObj.list (natV done)]) := by
      simp only [readT, evTest, eE, stepE, evList, h65, ef, rd_bool, is_c, tb_c, b1]
    have g1 : (st.set r (PObj.iter (tapeOf (ns ++ [0]) ++ xs)) ++ [PObj.list (natV done)])[st.length]? = some (.list (natV done)) := by rw [← lset]; exact get_last _ _
    have ll : (natV done).length ≤ lim := by have : lim = 100000 := rfl; simp [natV]; omega
    have ap := append_c g1 (.int (a : Int)) ll
    have s1 : (st.set r (PObj.iter (tapeOf (ns ++ [0]) ++ xs)) ++ [PObj.list (natV done)]).set st.length (PObj.list (natV done ++ [.int (a : Int)])) = st.set r (PObj.iter (tapeOf (ns ++ [0]) ++ xs)) ++ [PObj.list (natV (done ++ [a]))] := by
      rw [← lset, set_last]; simp [natV]
    rw [s1] at ap
    have pr : (ev L2.P (n + 14)).C 2 [.ref r] (st.set r (PObj.iter (tapeOf (ns ++ [0]) ++ xs)) ++ [PObj.list (natV (done ++ [a]))]) = some (.int (h' : Int), st.set r (PObj.iter (tapeOf tl' ++ xs)) ++ [PObj.list (natV (done ++ [a]))]) := by
      have := parse_c (n + 2) h' r (tapeOf tl' ++ xs) hh' (st.set r (PObj.iter (tapeOf (ns ++ [0]) ++ xs)) ++ [PObj.list (natV (done ++ [a]))]) (by
        rw [get_app_lt (by simpa using hr), List.getElem?_set]
        simp [hr, e', tapeOf])
      rw [set_app_lt _ (by simpa using hr), List.set_set] at this
      exact this
    have b : (ev L2.P (n + 16)).S readB env (st.set r (PObj.iter (tapeOf (ns ++ [0]) ++ xs)) ++ [PObj.list (natV done)]) = some (.next, env.set 65 (.int (h' : Int)), st.set r (PObj.iter (tapeOf tl' ++ xs)) ++ [PObj.list (natV (done ++ [a]))]) := by
      simp only [readB, eS, stepS, stepS1, eE, stepE, h60, h65, h66, (ok_list g1).2.1, cond_true, evList, ap, pr]
    rw [while_next f t b]
    obtain ⟨env', w, g⟩ := read_loop n r xs st hr ns (done ++ [a]) (env.set 65 (.int (h' : Int))) f h' tl' (fun m hmm => hm m (List.mem_cons_of_mem _ hmm)) e' (by simp [get_set', h60]) (by simp [get_set']) (by simp [get_set', h66]) (by simp at hf; omega) (by simp at hl ⊢; omega)
    exact ⟨env', by rw [w]; simp, g⟩
  | _, _, _, 0, _, _, _, _, _, _, _, hf, _ => by omega
theorem read_c (n r : Nat) (xs : List PV) (ns : List Nat) (st : Store) (hst : st[r]? = some (PObj.iter (tapeOf (ns ++ [0]) ++ xs))) (hm : ∀ m ∈ ns, 0 < m ∧ m < 262144) (hl : ns.length ≤ 50) :
    (ev L2.P (n + 20)).C 9 [.ref r] st = some (.list (natV ns), st.set r (PObj.iter xs) ++ [PObj.dead]) := by
  have hr := (List.getElem?_eq_some_iff.mp hst).1
  obtain ⟨h', tl', e'⟩ : ∃ h' tl', ns ++ [0] = h' :: tl' := by
    cases ns with
    | nil => exact ⟨0, [], rfl⟩
    | cons b ns => exact ⟨b, ns ++ [0], rfl⟩
  have hh' : h' < 262144 := by
    cases ns with
    | nil => simp only [List.nil_append, List.cons.injEq] at e'; omega
    | cons b ns =>
      simp only [List.cons_append, List.cons.injEq] at e'
      have := (hm b (by simp)).2; omega
  have pr : (ev L2.P (n + 17)).C 2 [.ref r] (st ++ [PObj.list []]) = some (.int (h' : Int), st.set r (PObj.iter (tapeOf tl' ++ xs)) ++ [PObj.list (natV [])]) := by
    have := parse_c (n + 5) h' r (tapeOf tl' ++ xs) hh' (st ++ [PObj.list []]) (by rw [get_app_lt hr, hst, e']; simp [tapeOf])
    rw [set_app_lt _ hr] at this
    exact this
  obtain ⟨env', w, g⟩ := read_loop (n + 2) r xs st hr ns [] (((PEnv.set [] 66 (.ref r)).set 60 (.ref st.length)).set 65 (.int (h' : Int))) 64 h' tl' hm e' (by simp [get_set']) (by simp [get_set']) (by simp [get_set']) (by omega) (by simpa using hl)
  have z : ([] : List PV).length ≤ lim := Nat.zero_le _
  have c1 : stepS1 (ev L2.P (n + 18)).E (ev L2.P (n + 18)).S (.assign 60 (.newlist [])) (PEnv.set [] 66 (.ref r)) st = some (.next, (PEnv.set [] 66 (.ref r)).set 60 (.ref st.length), st ++ [PObj.list []]) := assign_c (by
    simp only [eE, stepE, evList, bif_le z])
  have c2 : stepS1 (ev L2.P (n + 18)).E (ev L2.P (n + 18)).S (.assign 65 (.call 2 [(.var 66)])) ((PEnv.set [] 66 (.ref r)).set 60 (.ref st.length)) (st ++ [PObj.list []]) = some (.next, ((PEnv.set [] 66 (.ref r)).set 60 (.ref st.length)).set 65 (.int (h' : Int)), st.set r (PObj.iter (tapeOf tl' ++ xs)) ++ [PObj.list (natV [])]) := assign_c (by
    simp only [eE, stepE, evList, get_set', pr, Nat.reduceEqDiff, ↓reduceIte])
  have c3 : stepS1 (ev L2.P (n + 18)).E (ev L2.P (n + 18)).S (.whileS readT readB) (((PEnv.set [] 66 (.ref r)).set 60 (.ref st.length)).set 65 (.int (h' : Int))) (st.set r (PObj.iter (tapeOf tl' ++ xs)) ++ [PObj.list (natV [])]) = some (.next, env', st.set r (PObj.iter xs) ++ [PObj.list (natV ns)]) := by
    simp only [stepS1]; exact w
  have all : (ev L2.P (n + 19)).S readBody (PEnv.set [] 66 (.ref r)) st = some (.ret (.ref st.length), env', st.set r (PObj.iter xs) ++ [PObj.list (natV ns)]) := by
    rw [eS]
    unfold readBody
    rw [seqS c1, seqS c2, seqS c3]
    simp only [stepS, stepS1, eE, stepE, g]
  rw [eC]; unfold stepC; rw [read_def]
  have b0 : bindAll [66] [.ref r] [] = some (PEnv.set [] 66 (.ref r)) := rfl
  have gl : (st.set r (PObj.iter xs) ++ [PObj.list (natV ns)])[st.length]? = some (PObj.list (natV ns)) := by
    have : (st.set r (PObj.iter xs)).length = st.length := by simp
    rw [← this]; exact get_last _ _
  have sl : (st.set r (PObj.iter xs) ++ [PObj.list (natV ns)]).set st.length PObj.dead = st.set r (PObj.iter xs) ++ [PObj.dead] := by
    have : (st.set r (PObj.iter xs)).length = st.length := by simp
    rw [← this, set_last]
  simp only [b0, all, freeze, gl, sl]
end Mine
end
section
set_option backward.eqns.nonrecursive false
set_option maxRecDepth 4000
namespace Mine
open PySem
theorem keepGet (fv : List Nat) (i : Nat) (hi : i ∈ fv) : ∀ env : PEnv, (keep fv env).get i = env.get i
  | [] => rfl
  | (j, v) :: r => by
    have ih := keepGet fv i hi r
    unfold keep
    by_cases h : j = i
    · subst h
      have : fv.any (Nat.beq j) = true := by rw [List.any_eq_true]; exact ⟨j, hi, Nat.beq_refl j⟩
      rw [this]; simp [PEnv.get]
    · have nb' : Nat.beq j i = false := by rw [nb, decide_eq_false h]
      cases fv.any (Nat.beq j) with
      | true => simp only [cond_true, PEnv.get, nb', cond_false]; exact ih
      | false => simp only [cond_false, PEnv.get, nb']; exact ih
inductive F2 {α β : Type} (R : α → β → Prop) : List α → List β → Prop
  | nil : F2 R [] []
  | cons {a : α} {b : β} {l : List α} {m : List β} : R a b → F2 R l m → F2 R (a :: l) (b :: m)
theorem F2.map {α β : Type} {f : α → β} : ∀ {l : List α} {m : List β}, F2 (fun a b => b = f a) l m → m = l.map f
  | _, _, .nil => rfl
  | _, _, .cons h r => by rw [h, r.map]; rfl
theorem gen_rel {rec : EvE} {elt : PE} {t : Nat} (R : PV → PV → Prop) (Q : PEnv → Prop) (W : Store → Prop) : ∀ (items : List PV) (env : PEnv) (st : Store) (acc : List PV), Q env → W st → acc.length + items.length ≤ lim →
    (∀ x ∈ items, ∀ (e : PEnv) (s : Store), Q e → W s → ∃ v s', rec elt (e.set t x) s = some (v, s') ∧ R x v ∧ Q (e.set t x) ∧ W s') →
    ∃ vs env' st', evGen (evGens rec (emitL rec elt) []) (.one t) (evTests rec []) items env st acc = some (acc ++ vs, env', st') ∧ F2 R items vs ∧ W st'
  | [], env, st, acc, hQ, hW, hl, h => ⟨[], env, st, by simp [evGen], .nil, hW⟩
  | x :: items, env, st, acc, hQ, hW, hl, h => by
    obtain ⟨v, s', h1, h2, h3, h4⟩ := h x List.mem_cons_self env st hQ hW
    have hl' : acc.length + 1 + items.length ≤ lim := by simp only [List.length_cons] at hl; omega
    obtain ⟨vs, env', st', g1, g2, g3⟩ := gen_rel R Q W items (env.set t x) s' (acc ++ [v]) h3 h4 (by simpa using hl') (fun y hy => h y (List.mem_cons_of_mem _ hy))
    refine ⟨v :: vs, env', st', ?_, .cons h2 g2, g3⟩
    have : acc.length ≤ lim := by omega
    have te : evTests rec [] (env.set t x) st = some (true, st) := rfl
    have em : evGens rec (emitL rec elt) [] (env.set t x) st acc = some (acc ++ [v], env.set t x, s') := by simp only [evGens, emitL, h1, bif_le this]
    rw [evGen]
    simp only [bindTgt, te, em]
    rw [g1, List.append_assoc]; rfl
theorem comp_rel {P : PProg} {n : Nat} {src elt : PE} {env : PEnv} {st st1 st2 : Store} {v : PV} {items : List PV} {t : Nat} {fv : List Nat} (R : PV → PV → Prop) (W : Store → Prop)
    (h1 : (ev P n).E src env st = some (v, st1)) (h2 : itemsOf st1 v = some (items, st2)) (hl : items.length ≤ lim) (hW : W st2)
    (h : ∀ x ∈ items, ∀ (e : PEnv) (s : Store), (∀ i ∈ fv, i ≠ t → e.get i = env.get i) → W s → ∃ v s', (ev P n).E elt (e.set t x) s = some (v, s') ∧ R x v ∧ W s') :
    ∃ vs s', (ev P (n + 1)).E (.comp elt [(.one t, src, [])] fv) env st = some (.list vs, s') ∧ F2 R items vs ∧ W s' := by
  obtain ⟨vs, env', st', g1, g2, g3⟩ := gen_rel (rec := (ev P n).E) (elt := elt) (t := t) R (fun e => ∀ i ∈ fv, i ≠ t → e.get i = env.get i) W items (keep fv env) st2 [] (fun i hi _ => keepGet fv i hi env) hW (by simpa using hl) (fun x hx e s hQ hs => by
    obtain ⟨v, s', k1, k2, k3⟩ := h x hx e s hQ hs
    exact ⟨v, s', k1, k2, fun i hi hne => by rw [get_set', if_neg hne]; exact hQ i hi hne, k3⟩)
  refine ⟨vs, st', ?_, g2, g3⟩
  rw [eE]
  simp only [stepE, evComp, h1, h2, g1]
  simp
theorem comp_pure {P : PProg} {n : Nat} {src elt : PE} {env : PEnv} {st st1 st2 : Store} {v : PV} {items : List PV} {t : Nat} {fv : List Nat} (f : PV → PV)
    (h1 : (ev P n).E src env st = some (v, st1)) (h2 : itemsOf st1 v = some (items, st2)) (hl : items.length ≤ lim)
    (h : ∀ x ∈ items, ∀ (e : PEnv), (∀ i ∈ fv, i ≠ t → e.get i = env.get i) → (ev P n).E elt (e.set t x) st2 = some (f x, st2)) :
    (ev P (n + 1)).E (.comp elt [(.one t, src, [])] fv) env st = some (.list (items.map f), st2) := by
  obtain ⟨vs, s', g1, g2, g3⟩ := comp_rel (fun a b => b = f a) (fun s => s = st2) h1 h2 hl rfl (fun x hx e s he hs => ⟨f x, st2, by rw [hs]; exact h x hx e he, rfl, rfl⟩)
  rw [g1, g2.map, g3]
theorem comp4 {P : PProg} {n : Nat} {elt : PE} {env : PEnv} {st : Store} {t : Nat} {fv : List Nat} (f : Nat → PV)
    (h : ∀ k : Nat, k < 4 → ∀ (e : PEnv), (∀ i ∈ fv, i ≠ t → e.get i = env.get i) → (ev P (n + 2)).E elt (e.set t (.int k)) st = some (f k, st)) :
    (ev P (n + 3)).E (.comp elt [(.one t, .bi .range [.cint 4], [])] fv) env st = some (.list [f 0, f 1, f 2, f 3], st) := by
  have := comp_pure (P := P) (n := n + 2) (src := .bi .range [.cint 4]) (elt := elt) (env := env) (st := st) (st1 := st) (st2 := st) (v := .rng 0 4 1) (items := [.int 0, .int 1, .int 2, .int 3]) (t := t) (fv := fv) (fun x => match x with | .int k => f k.toNat | _ => .none)
    (by rw [eE]; simp only [stepE, eE, evList, range1_c]; exact rng0 4 st (by omega)) rfl (by show 4 ≤ 100000; decide) (by
      intro x hx e he
      simp only [List.mem_cons, List.not_mem_nil, or_false] at hx
      rcases hx with rfl | rfl | rfl | rfl
      · exact h 0 (by omega) e he
      · exact h 1 (by omega) e he
      · exact h 2 (by omega) e he
      · exact h 3 (by omega) e he)
  exact this
noncomputable def mrow (A : Nat → Nat → Int) (i : Nat) : PV := .list [.int (A i 0), .int (A i 1), .int (A i 2), .int (A i 3)]
noncomputable def mat (A : Nat → Nat → Int) : PV := .list [mrow A 0, mrow A 1, mrow A 2, mrow A 3]
noncomputable def behind (A B : Nat → Nat → Int) (i j : Nat) : Int := minL [A i 0 + B 0 j, A i 1 + B 1 j, A i 2 + B 2 j, A i 3 + B 3 j]
noncomputable def either (A B : Nat → Nat → Int) (i j : Nat) : Int := min (A i j) (B i j)
theorem behind_c (n : Nat) (A B : Nat → Nat → Int) (st : Store) : (ev L2.P (n + 14)).C 12 [mat A, mat B] st = some (mat (behind A B), st) := by kernel_rfl
theorem either_c (n : Nat) (A B : Nat → Nat → Int) (st : Store) : (ev L2.P (n + 14)).C 13 [mat A, mat B] st = some (mat (either A B), st) := by kernel_rfl
theorem join_c (n : Nat) (A B : Nat → Nat → Int) (st : Store) (c : Nat) (hc : c = 124 ∨ c = 43) : (ev L2.P (n + 18)).C 15 [.str [c], mat A, mat B] st = some (mat (if c = 124 then either A B else behind A B), st) := by
  rcases hc with rfl | rfl
  · have e : (ev L2.P (n + 15)).C 13 [mat A, mat B] st = some (mat (either A B), st) := either_c (n + 1) A B st
    rw [if_pos rfl]; kernel_rfl
  · rw [if_neg (by decide)]; kernel_rfl
theorem b3_0 (n : Nat) (st : Store) : (ev L2.P (n + 8)).C 3 [.str [64256]] st = some (.str [102, 102], st) := by kernel_rfl
theorem b3_1 (n : Nat) (st : Store) : (ev L2.P (n + 8)).C 3 [.str [64257]] st = some (.str [102, 105], st) := by kernel_rfl
theorem b3_2 (n : Nat) (st : Store) : (ev L2.P (n + 8)).C 3 [.str [64261]] st = some (.str [115, 116], st) := by kernel_rfl
theorem b3_3 (n : Nat) (st : Store) : (ev L2.P (n + 8)).C 3 [.str [64262]] st = some (.str [115, 116], st) := by kernel_rfl
theorem b3_4 (n : Nat) (st : Store) : (ev L2.P (n + 8)).C 3 [.str [383]] st = some (.str [115], st) := by kernel_rfl
theorem b3_5 (n : Nat) (st : Store) : (ev L2.P (n + 8)).C 3 [.str [119813]] st = some (.str [102], st) := by kernel_rfl
theorem b3_6 (n : Nat) (st : Store) : (ev L2.P (n + 8)).C 3 [.str [119816]] st = some (.str [105], st) := by kernel_rfl
theorem b3_7 (n : Nat) (st : Store) : (ev L2.P (n + 8)).C 3 [.str [119826]] st = some (.str [115], st) := by kernel_rfl
theorem b3_8 (n : Nat) (st : Store) : (ev L2.P (n + 8)).C 3 [.str [119827]] st = some (.str [116], st) := by kernel_rfl
end Mine
end
section
set_option backward.eqns.nonrecursive false
namespace Mine
noncomputable def seg (T : List Nat) (i j : Nat) : List Nat := (T.take j).drop i
theorem seg_len {T : List Nat} (hT : T.length = 3) {i j : Nat} (hj : j ≤ 3) : (seg T i j).length = j - i := by simp [seg, hT]; omega
theorem seg_drop (T : List Nat) (i j k : Nat) : (seg T i j).drop k = seg T (i + k) j := by simp [seg, List.drop_drop]
theorem seg_take (T : List Nat) {i j k : Nat} (h : i + k ≤ j) : (seg T i j).take k = seg T i (i + k) := by
  unfold seg
  rw [List.take_drop, List.take_take, Nat.min_eq_left h]
theorem seg_app (T : List Nat) {i k j : Nat} (h1 : i ≤ k) (h2 : k ≤ j) : seg T i j = seg T i k ++ seg T k j := by
  have e1 := seg_take T (i := i) (j := j) (k := k - i) (by omega)
  have e2 := seg_drop T i j (k - i)
  rw [show i + (k - i) = k by omega] at e1 e2
  rw [← e1, ← e2, List.take_append_drop]
theorem ed_le (x u : List Nat) : ed x u ≤ 2 * x.length + 2 * u.length := by
  have := ed_app_le x [] [] u
  rw [ed_nil', ed_nil] at this
  simpa using this
theorem min4_ex (f : Nat → Int) : ∃ k, k ≤ 3 ∧ minL [f 0, f 1, f 2, f 3] = f k := by
  simp only [minL]
  have : min (f 0) (min (f 1) (min (f 2) (f 3))) = f 0 ∨ min (f 0) (min (f 1) (min (f 2) (f 3))) = f 1 ∨ min (f 0) (min (f 1) (min (f 2) (f 3))) = f 2 ∨ min (f 0) (min (f 1) (min (f 2) (f 3))) = f 3 := by omega
  rcases this with h | h | h | h
  · exact ⟨0, by omega, h⟩
  · exact ⟨1, by omega, h⟩
  · exact ⟨2, by omega, h⟩
  · exact ⟨3, by omega, h⟩
theorem min4_le (f : Nat → Int) {k : Nat} (h : k ≤ 3) : minL [f 0, f 1, f 2, f 3] ≤ f k := by
  simp only [minL]
  have : k = 0 ∨ k = 1 ∨ k = 2 ∨ k = 3 := by omega
  rcases this with rfl | rfl | rfl | rfl <;> omega
structure Rep (T : List Nat) (L : Nat) (A : Nat → Nat → Int) (U : List (List Nat)) : Prop where
  ex : ∀ i j, i ≤ j → j ≤ 3 → ∃ u ∈ U, A i j = (ed (seg T i j) u : Nat)
  le : ∀ i j u, i ≤ j → j ≤ 3 → u ∈ U → A i j ≤ (ed (seg T i j) u : Nat)
  far : ∀ i j, j < i → i ≤ 3 → 99 ≤ A i j
  len : ∀ u ∈ U, u.length ≤ L
theorem Rep.pos {T : List Nat} {L : Nat} {A : Nat → Nat → Int} {U : List (List Nat)} (h : Rep T L A U) (i j : Nat) (hi : i ≤ 3) (hj : j ≤ 3) : 0 ≤ A i j := by
  by_cases hij : i ≤ j
  · obtain ⟨u, _, e⟩ := h.ex i j hij hj
    omega
  · have := h.far i j (by omega) hi
    omega
theorem Rep.congr {T : List Nat} {L : Nat} {A : Nat → Nat → Int} {U V : List (List Nat)} (h : Rep T L A U) (he : ∀ u, u ∈ V ↔ u ∈ U) : Rep T L A V where
  ex i j h1 h2 := by obtain ⟨u, hu, e⟩ := h.ex i j h1 h2; exact ⟨u, (he u).mpr hu, e⟩
  le i j u h1 h2 hu := h.le i j u h1 h2 ((he u).mp hu)
  far := h.far
  len u hu := h.len u ((he u).mp hu)
theorem Rep.mono {T : List Nat} {L M : Nat} {A : Nat → Nat → Int} {U : List (List Nat)} (h : Rep T L A U) (hLM : L ≤ M) : Rep T M A U where
  ex := h.ex
  le := h.le
  far := h.far
  len u hu := Nat.le_trans (h.len u hu) hLM
noncomputable def prod (U V : List (List Nat)) : List (List Nat) := U.flatMap fun u => V.map (u ++ ·)
theorem mem_prod {U V : List (List Nat)} {w : List Nat} : w ∈ prod U V ↔ ∃ u ∈ U, ∃ v ∈ V, u ++ v = w := by simp [prod]
theorem Rep.behind {T : List Nat} (hT : T.length = 3) {L M : Nat} {A B : Nat → Nat → Int} {U V : List (List Nat)} (h : Rep T L A U) (g : Rep T M B V) (hLM : L + M ≤ 40) : Rep T (L + M) (behind A B) (prod U V) := by
  have le : ∀ i j u v, i ≤ j → j ≤ 3 → u ∈ U → v ∈ V → Mine.behind A B i j ≤ (ed (seg T i j) (u ++ v) : Nat) := by
    intro i j u v h1 h2 hu hv
    obtain ⟨k, k1, k2⟩ := ed_app_ex (seg T i j) u v
    rw [seg_len hT h2] at k1
    rw [seg_take T (by omega), seg_drop] at k2
    have a := h.le i (i + k) u (by omega) (by omega) hu
    have b := g.le (i + k) j v (by omega) h2 hv
    have m := min4_le (fun k => A i k + B k j) (k := i + k) (by omega)
    unfold Mine.behind
    omega
  refine ⟨?_, ?_, ?_, ?_⟩
  · intro i j h1 h2
    obtain ⟨u0, hu0, _⟩ := h.ex i i (Nat.le_refl _) (by omega)
    obtain ⟨v0, hv0, _⟩ := g.ex i i (Nat.le_refl _) (by omega)
    have b0 := le i j u0 v0 h1 h2 hu0 hv0
    have b1 := ed_le (seg T i j) (u0 ++ v0)
    rw [seg_len hT h2, List.length_append] at b1
    have l1 := h.len u0 hu0
    have l2 := g.len v0 hv0
    obtain ⟨k, k1, k2⟩ := min4_ex (fun k => A i k + B k j)
    have k3 : Mine.behind A B i j = A i k + B k j := k2
    have p1 := h.pos i k (by omega) k1
    have p2 := g.pos k j k1 h2
    have hik : i ≤ k := by
      apply Classical.byContradiction; intro hc
      have := h.far i k (by omega) (by omega)
      omega
    have hkj : k ≤ j := by
      apply Classical.byContradiction; intro hc
      have := g.far k j (by omega) (by omega)
      omega
    obtain ⟨u, hu, eu⟩ := h.ex i k hik k1
    obtain ⟨v, hv, ev⟩ := g.ex k j hkj h2
    refine ⟨u ++ v, mem_prod.mpr ⟨u, hu, v, hv, rfl⟩, ?_⟩
    have t1 := le i j u v h1 h2 hu hv
    have t2 := ed_app_le (seg T i k) (seg T k j) u v
    rw [← seg_app T hik hkj] at t2
    omega
  · intro i j w h1 h2 hw
    obtain ⟨u, hu, v, hv, rfl⟩ := mem_prod.mp hw
    exact le i j u v h1 h2 hu hv
  · intro i j h1 h2
    obtain ⟨k, k1, k2⟩ := min4_ex (fun k => A i k + B k j)
    have k3 : Mine.behind A B i j = A i k + B k j := k2
    have p1 := h.pos i k (by omega) k1
    have p2 := g.pos k j k1 (by omega)
    by_cases hki : k < i
    · have := h.far i k hki h2
      omega
    · have := g.far k j (by omega) k1
      omega
  · intro w hw
    obtain ⟨u, hu, v, hv, rfl⟩ := mem_prod.mp hw
    have l1 := h.len u hu
    have l2 := g.len v hv
    simp only [List.length_append]; omega
theorem Rep.either {T : List Nat} {L : Nat} {A B : Nat → Nat → Int} {U V : List (List Nat)} (h : Rep T L A U) (g : Rep T L B V) : Rep T L (either A B) (U ++ V) where
  ex i j h1 h2 := by
    obtain ⟨u, hu, eu⟩ := h.ex i j h1 h2
    obtain ⟨v, hv, ev⟩ := g.ex i j h1 h2
    by_cases hm : A i j ≤ B i j
    · exact ⟨u, List.mem_append_left _ hu, by unfold Mine.either; omega⟩
    · exact ⟨v, List.mem_append_right _ hv, by unfold Mine.either; omega⟩
  le i j w h1 h2 hw := by
    unfold Mine.either
    rcases List.mem_append.mp hw with hu | hv
    · have := h.le i j w h1 h2 hu; omega
    · have := g.le i j w h1 h2 hv; omega
  far i j h1 h2 := by
    have := h.far i j h1 h2
    have := g.far i j h1 h2
    unfold Mine.either; omega
  len w hw := by
    rcases List.mem_append.mp hw with hu | hv
    · exact h.len w hu
    · exact g.len w hv
noncomputable def nothing (i j : Nat) : Int := if i ≤ j then 2 * ((j : Int) - i) else 99
theorem rep_nothing {T : List Nat} (hT : T.length = 3) : Rep T 0 nothing [[]] where
  ex i j h1 h2 := ⟨[], by simp, by unfold nothing; rw [if_pos h1, ed_nil', seg_len hT h2]; omega⟩
  le i j u h1 h2 hu := by
    simp only [List.mem_singleton] at hu; subst hu
    unfold nothing; rw [if_pos h1, ed_nil', seg_len hT h2]; omega
  far i j h1 h2 := by unfold nothing; rw [if_neg (by omega)]; omega
  len u hu := by simp only [List.mem_singleton] at hu; subst hu; simp
noncomputable def oneV (s : List Nat) (c : Nat) : Int := if s = [] then 2 else 2 * (s.length : Int) - 2 + minL (s.map fun x => (sub x c : Int))
theorem minL_cons {a : Int} {r : List Int} (h : r ≠ []) : minL (a :: r) = min a (minL r) := by cases r with | nil => exact absurd rfl h | cons _ _ => rfl
theorem ed_one (c : Nat) : ∀ s : List Nat, (ed s [c] : Int) = oneV s c
  | [] => by simp [oneV, ed_nil]
  | [a] => by
    have := sub_le a c
    rw [ed_cons, ed_nil, ed_nil, ed_nil']
    simp [oneV, minL]; omega
  | a :: b :: s => by
    have ih := ed_one c (b :: s)
    have := sub_le a c
    rw [ed_cons, ed_nil', ed_nil']
    unfold oneV at *
    rw [if_neg (by simp)] at ih ⊢
    rw [List.map_cons, minL_cons (by simp)]
    simp only [List.length_cons] at ih ⊢
    omega
noncomputable def letM (T : List Nat) (c : Nat) (i j : Nat) : Int := if i ≤ j then oneV (seg T i j) c else 99
theorem rep_letter (T : List Nat) (c : Nat) : Rep T 1 (letM T c) [[c]] where
  ex i j h1 h2 := ⟨[c], by simp, by unfold letM; rw [if_pos h1, ed_one]⟩
  le i j u h1 h2 hu := by
    simp only [List.mem_singleton] at hu; subst hu
    unfold letM; rw [if_pos h1, ed_one]; omega
  far i j h1 h2 := by unfold letM; rw [if_neg (by omega)]; omega
  len u hu := by simp only [List.mem_singleton] at hu; subst hu; simp
noncomputable def wordM (T : List Nat) : List Nat → (Nat → Nat → Int) → Nat → Nat → Int
  | [], A => A
  | c :: r, A => wordM T r (behind A (letM T c))
theorem rep_word {T : List Nat} (hT : T.length = 3) : ∀ (w p : List Nat) (A : Nat → Nat → Int), p.length + w.length ≤ 40 → Rep T p.length A [p] → Rep T (p ++ w).length (wordM T w A) [p ++ w]
  | [], p, A, hl, h => by simpa [wordM] using h
  | c :: r, p, A, hl, h => by
    have h1 := Rep.behind hT h (rep_letter T c) (by simp at hl; omega)
    have e : prod [p] [[c]] = [p ++ [c]] := rfl
    rw [e] at h1
    have := rep_word hT r (p ++ [c]) _ (by simp at hl ⊢; omega) (by simpa using h1)
    simpa [wordM] using this
noncomputable def markWords (w mk : List Nat) : List (List Nat) := if mk = [126] then [[], w] else if mk = [42] then [[], w, w ++ w, w ++ w ++ w] else [w]
noncomputable def partM (T w mk : List Nat) : Nat → Nat → Int :=
  if mk = [126] then either nothing (wordM T w nothing)
  else if mk = [42] then either nothing (behind (wordM T w nothing) (either nothing (behind (wordM T w nothing) (either nothing (behind (wordM T w nothing) nothing)))))
  else wordM T w nothing
theorem rep_part {T : List Nat} (hT : T.length = 3) {w : List Nat} (hw : w.length ≤ 2) (mk : List Nat) : Rep T 6 (partM T w mk) (markWords w mk) := by
  have t : Rep T 2 (wordM T w nothing) [w] := by
    have := rep_word hT w [] nothing (by simp; omega) (rep_nothing hT)
    exact Rep.mono (by simpa using this) hw
  have n0 : Rep T 2 nothing [[]] := (rep_nothing hT).mono (by omega)
  unfold partM markWords
  by_cases h1 : mk = [126]
  · rw [if_pos h1, if_pos h1]; exact (n0.either t).mono (by omega)
  · rw [if_neg h1, if_neg h1]
    by_cases h2 : mk = [42]
    · rw [if_pos h2, if_pos h2]
      have a1 := (rep_nothing hT).mono (show 0 ≤ 2 by omega) |>.either (t.behind hT (rep_nothing hT) (by omega))
      have a2 := (rep_nothing hT).mono (show 0 ≤ 2 + 2 by omega) |>.either (t.behind hT a1 (by omega))
      have a3 := (rep_nothing hT).mono (show 0 ≤ 2 + (2 + 2) by omega) |>.either (t.behind hT a2 (by omega))
      refine a3.congr fun u => ?_
      simp [prod]
    · rw [if_neg h2, if_neg h2]; exact t.mono (by omega)
noncomputable def joinM (c : Nat) (A B : Nat → Nat → Int) : Nat → Nat → Int := if c = 124 then either A B else behind A B
noncomputable def joinW (c : Nat) (U V : List (List Nat)) : List (List Nat) := if c = 124 then U ++ V else prod U V
theorem rep_join {T : List Nat} (hT : T.length = 3) {L M : Nat} {A B : Nat → Nat → Int} {U V : List (List Nat)} (c : Nat) (h : Rep T L A U) (g : Rep T M B V) (hLM : L + M ≤ 40) : Rep T (L + M) (joinM c A B) (joinW c U V) := by
  unfold joinM joinW
  by_cases hc : c = 124
  · rw [if_pos hc, if_pos hc]; exact (h.mono (by omega)).either (g.mono (by omega))
  · rw [if_neg hc, if_neg hc]; exact h.behind hT g hLM
end Mine
end
section
set_option backward.eqns.nonrecursive false
set_option maxRecDepth 4000
namespace Mine
open PySem
theorem intsOf_map : ∀ l : List Int, intsOf (l.map .int) = some l
  | [] => rfl
  | a :: l => by simp [intsOf, intsOf_map l]
theorem minl_c {l : List Int} (st : Store) (h : l ≠ []) : pbi .min [.list (l.map .int)] st = some (.int (minL l), st) := by
  cases l with
  | nil => exact absurd rfl h
  | cons a r =>
    show oO (intsOf ((a :: r).map PV.int)) _ = _
    rw [intsOf_map]; rfl
theorem items_str {l : List Nat} (st : Store) (h : l.length ≤ lim) : itemsOf st (.str l) = some (l.map fun c => .str [c], st) := by
  show (bif decide (l.length ≤ lim) then _ else _) = _
  rw [bif_le h]
noncomputable def oneElt : PE := .ite (.cmp .Eq (.var 63) (.var 75)) (.cint 0) (.ite (.cmp .Eq (.meth .lower (.var 63) []) (.var 75)) (.cint 1) (.cint 2))
theorem lower_c {x : Nat} (hx : x < 128) (st : Store) : pmeth .lower (.str [x]) [] st = some (.str [lowC x], st) := by
  show Option.map _ (plower [x]) = _
  rw [low_one hx]; rfl
theorem lower_ok (l : List Nat) (st : Store) : meOk .lower (.str l) st = true := id rfl
theorem oneElt_c (n x c : Nat) (hx : x < 128) (hc : lowC c = c) (env : PEnv) (st : Store) (h63 : env.get 63 = some (.str [x])) (h75 : env.get 75 = some (.str [c])) : (ev L2.P (n + 5)).E oneElt env st = some (.int (sub x c), st) := by
  by_cases h : x = c
  · subst h
    have : ([x] == [x]) = true := by simp
    simp only [oneElt, eE, stepE, evTest, h63, h75, rd_str, eq_c, this, tb_c, sub_self]; rfl
  · have h1 : ([x] == [c]) = false := by simpa using h
    by_cases h2 : lowC x = c
    · have h3 : ([lowC x] == [c]) = true := by simpa using h2
      have h4 : sub x c = 1 := by unfold sub; rw [if_neg h, if_pos (by rw [h2, hc])]
      simp only [oneElt, eE, stepE, evTest, h63, h75, rd_str, eq_c, h1, tb_c, lower_ok, evList, cond_true, lower_c hx, h3, h4]; rfl
    · have h3 : ([lowC x] == [c]) = false := by simpa using h2
      have h4 : sub x c = 2 := by unfold sub; rw [if_neg h, if_neg (by rw [hc]; exact h2)]
      simp only [oneElt, eE, stepE, evTest, h63, h75, rd_str, eq_c, h1, tb_c, lower_ok, evList, cond_true, lower_c hx, h3, h4]; rfl
noncomputable def oneBody : List PS :=
      .ifS (.cmp .Eq (.var 74) (.cstr []))
        [
          .ret (.cint 2)]
        [] ::
      .ret (.bin .Add (.bin .Sub (.bin .Mult (.cint 2) (.bi .len [(.var 74)])) (.cint 2)) (.bi .min [(.comp oneElt [((.one 63), (.var 74), [])] [75])])) :: []
theorem one_def : L2.P.F 11 = some ([74, 75], oneBody) := by rfl
theorem one_c (n : Nat) (s : List Nat) (c : Nat) (st : Store) (hs : ∀ x ∈ s, x < 128) (hl : s.length ≤ 40) (hc : lowC c = c) : (ev L2.P (n + 14)).C 11 [.str s, .str [c]] st = some (.int (oneV s c), st) := by
  have b0 : bindAll [74, 75] [.str s, .str [c]] [] = some ((PEnv.set [] 74 (.str s)).set 75 (.str [c])) := rfl
  have ll : s.length ≤ lim := by have : lim = 100000 := rfl; omega
  rw [eC]; unfold stepC; rw [one_def]
  by_cases h : s = []
  · subst h
    have e : ([] : List Nat) == [] := rfl
    have e' : (([] : List Nat) == []) = true := rfl
    simp only [b0, oneBody, eS, stepS, stepS1, evTest, eE, stepE, get_set', rd_str, eq_c, e', tb_c, freeze, Nat.reduceEqDiff, ↓reduceIte, oneV]
  · have e : (s == []) = false := by simpa using h
    have cp : (ev L2.P (n + 10)).E (.comp oneElt [((.one 63), (.var 74), [])] [75]) ((PEnv.set [] 74 (.str s)).set 75 (.str [c])) st = some (.list ((s.map fun x => (sub x c : Int)).map .int), st) := by
      have := comp_pure (P := L2.P) (n := n + 9) (src := .var 74) (elt := oneElt) (env := (PEnv.set [] 74 (.str s)).set 75 (.str [c])) (st := st) (st1 := st) (st2 := st) (v := .str s) (items := s.map fun c => .str [c]) (t := 63) (fv := [75]) (fun x => match x with | .str [x] => .int (sub x c) | _ => .none)
        (by simp only [eE, stepE, get_set', Nat.reduceEqDiff, ↓reduceIte]) (items_str st ll) (by simpa using ll) (by
          intro x hx e he
          obtain ⟨y, hy, rfl⟩ := List.mem_map.mp hx
          exact oneElt_c (n + 4) y c (hs y hy) hc _ st (by simp [get_set']) (by rw [get_set', if_neg (by decide), he 75 (by simp) (by decide)]; rfl))
      rw [this]; simp
    have sm : small (s.length : Int) = true := small_nat (by omega)
    have sm2 : small 2 = true := by decide
    have mn := minl_c (l := s.map fun x => (sub x c : Int)) st (by simpa using h)
    have m1 : (ev L2.P (n + 11)).E (.bi .min [(.comp oneElt [((.one 63), (.var 74), [])] [75])]) ((PEnv.set [] 74 (.str s)).set 75 (.str [c])) st = some (.int (minL (s.map fun x => (sub x c : Int))), st) := by
      rw [eE]; simp only [stepE, evList, cp, mn]
    have m2 : (ev L2.P (n + 11)).E (.bin .Sub (.bin .Mult (.cint 2) (.bi .len [(.var 74)])) (.cint 2)) ((PEnv.set [] 74 (.str s)).set 75 (.str [c])) st = some (.int (2 * (s.length : Int) - 2), st) := by
      simp only [eE, stepE, evList, get_set', len_c st ll, rd_int, mult_c sm2 sm, sub_c', Nat.reduceEqDiff, ↓reduceIte]
    have m3 : (ev L2.P (n + 12)).E (.bin .Add (.bin .Sub (.bin .Mult (.cint 2) (.bi .len [(.var 74)])) (.cint 2)) (.bi .min [(.comp oneElt [((.one 63), (.var 74), [])] [75])])) ((PEnv.set [] 74 (.str s)).set 75 (.str [c])) st = some (.int (oneV s c), st) := by
      rw [eE]; simp only [stepE, m1, m2, rd_int, add_c, oneV, if_neg h]
    have m4 : evTest (ev L2.P (n + 12)).E (.cmp .Eq (.var 74) (.cstr [])) ((PEnv.set [] 74 (.str s)).set 75 (.str [c])) st = some (false, st) := by
      simp only [evTest, eE, stepE, get_set', rd_str, eq_c, e, tb_c, Nat.reduceEqDiff, ↓reduceIte]
    have m5 : (ev L2.P (n + 12)).S [] ((PEnv.set [] 74 (.str s)).set 75 (.str [c])) st = some (.next, (PEnv.set [] 74 (.str s)).set 75 (.str [c]), st) := rfl
    simp only [b0, oneBody]
    rw [eS]
    simp only [stepS, stepS1, m4, m5, m3, freeze]
noncomputable def nothE : PE := .comp (.comp (.ite (.cmp .LtE (.var 76) (.var 77)) (.bin .Mult (.cint 2) (.bin .Sub (.var 77) (.var 76))) (.cint 99)) [((.one 77), (.bi .range [(.cint 4)]), [])] [76]) [((.one 76), (.bi .range [(.cint 4)]), [])] []
theorem noth_c (n : Nat) (T w mk : List Nat) (st : Store) : (ev L2.P (n + 14)).E nothE [(51, .str T), (61, .str w), (62, .str mk)] st = some (mat nothing, st) := by kernel_rfl
noncomputable def letE : PE := .comp (.comp (.ite (.cmp .LtE (.var 76) (.var 77)) (.call 11 [(.slice (.var 51) (some (.var 76)) (some (.var 77)) none), (.var 75)]) (.cint 99)) [((.one 77), (.bi .range [(.cint 4)]), [])] [51, 75, 76]) [((.one 76), (.bi .range [(.cint 4)]), [])] [51, 75]
theorem slice_seg {T : List Nat} (hT : T.length = 3) {i j : Nat} (hij : i ≤ j) (hj : j ≤ 3) : pslice (.str T) (.int i) (.int j) .none = some (.str (seg T i j)) := by
  have e := slice_str_c T (lo := .int i) (hi := .int j) (hT ▸ by decide) rfl rfl
  rw [pick_at T (cut_nat (hT ▸ Nat.le_trans hij hj)) (cut_nat (hT ▸ hj)) (hT ▸ hj), ← List.drop_take] at e
  exact e
theorem le_c (i j : Int) : pcmp .LtE (.int i) (.int j) = some (decide (i ≤ j)) := id rfl
theorem let_c (n : Nat) (T : List Nat) (c : Nat) (hT : T.length = 3) (ha : ∀ x ∈ T, x < 128) (hc : lowC c = c) (env : PEnv) (st : Store) (h51 : env.get 51 = some (.str T)) (h75 : env.get 75 = some (.str [c])) : (ev L2.P (n + 22)).E letE env st = some (mat (letM T c), st) := by
  have := comp4 (P := L2.P) (n := n + 19) (elt := (.comp (.ite (.cmp .LtE (.var 76) (.var 77)) (.call 11 [(.slice (.var 51) (some (.var 76)) (some (.var 77)) none), (.var 75)]) (.cint 99)) [((.one 77), (.bi .range [(.cint 4)]), [])] [51, 75, 76])) (env := env) (st := st) (t := 76) (fv := [51, 75]) (mrow (letM T c)) (by
    intro i hi e he
    have g51 : e.get 51 = some (.str T) := by rw [he 51 (by simp) (by decide), h51]
    have g75 : e.get 75 = some (.str [c]) := by rw [he 75 (by simp) (by decide), h75]
    have := comp4 (P := L2.P) (n := n + 18) (elt := (.ite (.cmp .LtE (.var 76) (.var 77)) (.call 11 [(.slice (.var 51) (some (.var 76)) (some (.var 77)) none), (.var 75)]) (.cint 99))) (env := e.set 76 (.int i)) (st := st) (t := 77) (fv := [51, 75, 76]) (fun j => .int (letM T c i j)) (by
      intro j hj e' he'
      have k51 : e'.get 51 = some (.str T) := by rw [he' 51 (by simp) (by decide), get_set', if_neg (by decide), g51]
      have k75 : e'.get 75 = some (.str [c]) := by rw [he' 75 (by simp) (by decide), get_set', if_neg (by decide), g75]
      have k76 : e'.get 76 = some (.int i) := by rw [he' 76 (by simp) (by decide), get_set', if_pos rfl]
      unfold letM
      by_cases hij : i ≤ j
      · have oc := one_c (n + 4) (seg T i j) c st (fun x hx => ha x (List.mem_of_mem_take (List.mem_of_mem_drop hx))) (by rw [seg_len hT (by omega)]; omega) hc
        have d : decide ((i : Int) ≤ (j : Int)) = true := decide_eq_true (by omega)
        rw [if_pos hij]
        simp only [eE, stepE, evTest, get_set', k51, k75, k76, rd_int, le_c, d, tb_c, evList, optE, rd_str, slice_seg hT hij (show j ≤ 3 by omega), oc, Nat.reduceEqDiff, ↓reduceIte]
      · have d : decide ((i : Int) ≤ (j : Int)) = false := decide_eq_false (by omega)
        rw [if_neg hij]
        simp only [eE, stepE, evTest, get_set', k51, k75, k76, rd_int, le_c, d, tb_c, Nat.reduceEqDiff, ↓reduceIte])
    exact this)
  exact this
noncomputable def partLoopB : List PS := [.assign 79 (.call 12 [(.var 79), letE])]
noncomputable def partBody : List PS :=
      .assign 78 nothE ::
      .assign 79 (.var 78) ::
      .forS (.one 75) (.var 61) partLoopB ::
      .ifS (.cmp .NotEq (.var 62) (.cstr [42]))
        [
          .ret (.ite (.cmp .Eq (.var 62) (.cstr [126])) (.call 13 [(.var 78), (.var 79)]) (.var 79))]
        [] ::
      .assign 80 (.var 78) ::
      .forS (.one 50) (.bi .range [(.cint 3)])
        [
          .assign 80 (.call 13 [(.var 78), (.call 12 [(.var 79), (.var 80)])])] ::
      .ret (.var 80) :: []
theorem part_def : L2.P.F 14 = some ([51, 61, 62], partBody) := by rfl
theorem part_loop (n : Nat) (T mk : List Nat) (hT : T.length = 3) (ha : ∀ x ∈ T, x < 128) (st : Store) : ∀ (w : List Nat) (A : Nat → Nat → Int) (env : PEnv), (∀ c ∈ w, lowC c = c) → env.get 51 = some (.str T) → env.get 62 = some (.str mk) → env.get 78 = some (mat nothing) → env.get 79 = some (mat A) →
    ∃ env', forN ((ev L2.P (n + 24)).S partLoopB) (.one 75) (w.map fun c => .str [c]) env st = some (.next, env', st) ∧ env'.get 62 = some (.str mk) ∧ env'.get 78 = some (mat nothing) ∧ env'.get 79 = some (mat (wordM T w A))
  | [], A, env, hw, h51, h62, h78, h79 => ⟨env, rfl, h62, h78, h79⟩
  | c :: w, A, env, hw, h51, h62, h78, h79 => by
    have lc := let_c n T c hT ha (hw c List.mem_cons_self) (env.set 75 (.str [c])) st (by simp [get_set', h51]) (by simp [get_set'])
    have bc := behind_c (n + 8) A (letM T c) st
    have s : (ev L2.P (n + 24)).S partLoopB (env.set 75 (.str [c])) st = some (.next, (env.set 75 (.str [c])).set 79 (mat (behind A (letM T c))), st) := by
      have h79' : (env.set 75 (.str [c])).get 79 = some (mat A) := by simp [get_set', h79]
      have v : (ev L2.P (n + 22)).E (.var 79) (env.set 75 (.str [c])) st = some (mat A, st) := by rw [eE]; simp only [stepE, h79']
      rw [eS]
      simp only [partLoopB, stepS, stepS1]
      rw [eE]
      simp only [stepE, evList, v, lc, bc]
    obtain ⟨env', h1, h2⟩ := part_loop n T mk hT ha st w (behind A (letM T c)) ((env.set 75 (.str [c])).set 79 (mat (behind A (letM T c)))) (fun d hd => hw d (List.mem_cons_of_mem _ hd)) (by simp [get_set', h51]) (by simp [get_set', h62]) (by simp [get_set', h78]) (by simp [get_set'])
    refine ⟨env', ?_, h2⟩
    rw [List.map_cons, forN]
    simp only [bindTgt, s]
    exact h1
theorem ne_c (a b : List Nat) : pcmp .NotEq (.str a) (.str b) = some (!(a == b)) := id rfl
theorem part_c (n : Nat) (T w mk : List Nat) (hT : T.length = 3) (ha : ∀ x ∈ T, x < 128) (hw : ∀ c ∈ w, lowC c = c) (hwl : w.length ≤ 40) (hmk : mk = [] ∨ mk = [126] ∨ mk = [42]) (st : Store) : (ev L2.P (n + 27)).C 14 [.str T, .str w, .str mk] st = some (mat (partM T w mk), st) := by
  have b0 : bindAll [51, 61, 62] [.str T, .str w, .str mk] [] = some [(51, .str T), (61, .str w), (62, .str mk)] := rfl
  have ll : w.length ≤ lim := by have : lim = 100000 := rfl; omega
  obtain ⟨env', w1, h62, h78, h79⟩ := part_loop (n + 1) T mk hT ha st w nothing ((PEnv.set [(51, .str T), (61, .str w), (62, .str mk)] 78 (mat nothing)).set 79 (mat nothing)) hw rfl rfl rfl rfl
  have c1 : stepS1 (ev L2.P (n + 25)).E (ev L2.P (n + 25)).S (.assign 78 nothE) [(51, .str T), (61, .str w), (62, .str mk)] st = some (.next, PEnv.set [(51, .str T), (61, .str w), (62, .str mk)] 78 (mat nothing), st) := assign_c (noth_c (n + 11) T w mk st)
  have c2 : stepS1 (ev L2.P (n + 25)).E (ev L2.P (n + 25)).S (.assign 79 (.var 78)) (PEnv.set [(51, .str T), (61, .str w), (62, .str mk)] 78 (mat nothing)) st = some (.next, (PEnv.set [(51, .str T), (61, .str w), (62, .str mk)] 78 (mat nothing)).set 79 (mat nothing), st) := assign_c (by
    rw [eE]; simp only [stepE]; rfl)
  have c3 : stepS1 (ev L2.P (n + 25)).E (ev L2.P (n + 25)).S (.forS (.one 75) (.var 61) partLoopB) ((PEnv.set [(51, .str T), (61, .str w), (62, .str mk)] 78 (mat nothing)).set 79 (mat nothing)) st = some (.next, env', st) := by
    have v : (ev L2.P (n + 25)).E (.var 61) ((PEnv.set [(51, .str T), (61, .str w), (62, .str mk)] 78 (mat nothing)).set 79 (mat nothing)) st = some (.str w, st) := rfl
    simp only [stepS1, v, items_str st ll]
    exact w1
  have all : ∃ env2, (ev L2.P (n + 26)).S partBody [(51, .str T), (61, .str w), (62, .str mk)] st = some (.ret (mat (partM T w mk)), env2, st) := by
    rw [eS]
    unfold partBody
    rw [seqS c1, seqS c2, seqS c3]
    by_cases h : mk = [42]
    · have e : (([42] : List Nat) == [42]) = true := rfl
      subst h
      have c4 : stepS1 (ev L2.P (n + 25)).E (ev L2.P (n + 25)).S (.ifS (.cmp .NotEq (.var 62) (.cstr [42])) [ .ret (.ite (.cmp .Eq (.var 62) (.cstr [126])) (.call 13 [(.var 78), (.var 79)]) (.var 79))] []) env' st = some (.next, env', st) := by
        simp only [stepS1, evTest, eE, eS, stepE, stepS, h62, rd_str, ne_c, e, Bool.not_true, tb_c]
      have c5 : stepS1 (ev L2.P (n + 25)).E (ev L2.P (n + 25)).S (.assign 80 (.var 78)) env' st = some (.next, env'.set 80 (mat nothing), st) := assign_c (by simp only [eE, stepE, h78])
      have step : ∀ (A : Nat → Nat → Int) (e : PEnv) (k : PV), e.get 78 = some (mat nothing) → e.get 79 = some (mat (wordM T w nothing)) → e.get 80 = some (mat A) →
          (ev L2.P (n + 25)).S [.assign 80 (.call 13 [(.var 78), (.call 12 [(.var 79), (.var 80)])])] (e.set 50 k) st = some (.next, (e.set 50 k).set 80 (mat (either nothing (behind (wordM T w nothing) A))), st) := by
        intro A e k g78 g79 g80
        have b := behind_c (n + 8) (wordM T w nothing) A st
        have b' := either_c (n + 9) nothing (behind (wordM T w nothing) A) st
        simp only [eS, stepS, stepS1, eE, stepE, evList, get_set', g78, g79, g80, b, b', Nat.reduceEqDiff, ↓reduceIte]
      have r3 : pbi .range [.int 3] st = some (.rng 0 3 1, st) := rng0 3 st (by omega)
      have s1 := step nothing (env'.set 80 (mat nothing)) (.int 0) (by simp [get_set', h78]) (by simp [get_set', h79]) (by simp [get_set'])
      generalize hM1 : either nothing (behind (wordM T w nothing) nothing) = M1 at s1
      have s2 := step M1 (((env'.set 80 (mat nothing)).set 50 (.int 0)).set 80 (mat M1)) (.int 1) (by simp [get_set', h78]) (by simp [get_set', h79]) (by simp [get_set'])
      generalize hM2 : either nothing (behind (wordM T w nothing) M1) = M2 at s2
      have s3 := step M2 (((((env'.set 80 (mat nothing)).set 50 (.int 0)).set 80 (mat M1)).set 50 (.int 1)).set 80 (mat M2)) (.int 2) (by simp [get_set', h78]) (by simp [get_set', h79]) (by simp [get_set'])
      have pm : partM T w [42] = either nothing (behind (wordM T w nothing) M2) := by rw [← hM2, ← hM1]; rfl
      rw [← pm] at s3
      have it : itemsOf st (.rng 0 3 1) = some ([.int 0, .int 1, .int 2], st) := rfl
      have c6 : stepS1 (ev L2.P (n + 25)).E (ev L2.P (n + 25)).S (.forS (.one 50) (.bi .range [(.cint 3)]) [ .assign 80 (.call 13 [(.var 78), (.call 12 [(.var 79), (.var 80)])])]) (env'.set 80 (mat nothing)) st = some (.next, (((((((env'.set 80 (mat nothing)).set 50 (.int 0)).set 80 (mat M1)).set 50 (.int 1)).set 80 (mat M2)).set 50 (.int 2)).set 80 (mat (partM T w [42]))), st) := by
        have v : (ev L2.P (n + 25)).E (.bi .range [(.cint 3)]) (env'.set 80 (mat nothing)) st = some (.rng 0 3 1, st) := by
          rw [eE]; simp only [stepE, evList, eE, r3]
        simp only [stepS1, v, it, forN, bindTgt, s1, s2, s3]
      rw [seqS c4, seqS c5, seqS c6]
      exact ⟨_, by simp only [stepS, stepS1, eE, stepE, get_set', ↓reduceIte]; rfl⟩
    · have e : (mk == [42]) = false := by simpa using h
      by_cases h' : mk = [126]
      · subst h'
        have e2 : (([126] : List Nat) == [126]) = true := rfl
        have b := either_c (n + 8) nothing (wordM T w nothing) st
        refine ⟨env', ?_⟩
        simp only [stepS, stepS1, evTest, eE, eS, stepE, evList, h62, h78, h79, rd_str, ne_c, eq_c, e, e2, Bool.not_false, tb_c, b]
        rfl
      · have e2 : (mk == [126]) = false := by simpa using h'
        refine ⟨env', ?_⟩
        have pm : partM T w mk = wordM T w nothing := by unfold partM; rw [if_neg h', if_neg h]
        simp only [stepS, stepS1, evTest, eE, eS, stepE, evList, h62, h78, h79, rd_str, ne_c, eq_c, e, e2, Bool.not_false, tb_c, pm]
  obtain ⟨env2, all⟩ := all
  rw [eC]; unfold stepC; rw [part_def]
  simp only [b0, all]
  rfl
end Mine
end
section
set_option backward.eqns.nonrecursive false
set_option maxRecDepth 4000
namespace Mine
open PySem
noncomputable def toldE1 : PE := .comp (.call 14 [(.var 51), (.var 61), (.var 62)]) [((.tup [39, 61, 62]), (.var 56), [])] [51]
noncomputable def toldBody : List PS :=
      .assignTup [72, 73, 81] toldE1 ::
      .ifS (.cmp .Eq (.var 57) (.cint 0))
        [
          .ret (.idx (.call 15 [(.var 59), (.call 15 [(.var 58), (.var 72), (.var 73)]), (.var 81)]) (.cint 0))]
        [] ::
      .ret (.idx (.call 15 [(.var 59), (.var 72), (.call 15 [(.var 58), (.var 73), (.var 81)])]) (.cint 0)) :: []
theorem told_def : L2.P.F 16 = some ([51, 56, 57, 58, 59], toldBody) := by rfl
noncomputable def partV (c : Nat) (w mk : List Nat) : PV := .tuple [.int c, .str w, .str mk]
theorem assignTup_c {rec : EvE} {recS : EvS} {ts : List Nat} {e : PE} {env env' : PEnv} {st st' : Store} {v : PV} {vs : List PV} (h : rec e env st = some (v, st')) (hu : unpackL v = some vs) (hb : bindAll ts vs env = some env') : stepS1 rec recS (.assignTup ts e) env st = some (.next, env', st') := by
  simp only [stepS1, h, hu, hb]
structure GoodP (w mk : List Nat) : Prop where
  low : ∀ c ∈ w, lowC c = c
  len : w.length ≤ 2
  mark : mk = [] ∨ mk = [126] ∨ mk = [42]
theorem mat0 (A : Nat → Nat → Int) : pidx (mat A) (.int 0) = some (mrow A 0) := by rfl
theorem rd_mat (A : Nat → Nat → Int) (st : Store) : rd st (mat A) = mat A := by rfl
theorem rd_mrow (A : Nat → Nat → Int) (i : Nat) (st : Store) : rd st (mrow A i) = mrow A i := by rfl
theorem eqI_c' (i j : Int) : pcmp .Eq (.int i) (.int j) = some (i == j) := id rfl
noncomputable def toldM (T : List Nat) (w1 m1 w2 m2 w3 m3 : List Nat) (shape : Nat) (inner outer : Nat) : Nat → Nat → Int :=
  if shape = 0 then joinM outer (joinM inner (partM T w1 m1) (partM T w2 m2)) (partM T w3 m3) else joinM outer (partM T w1 m1) (joinM inner (partM T w2 m2) (partM T w3 m3))
theorem join_c' (n : Nat) (A B : Nat → Nat → Int) (st : Store) (c : Nat) (hc : c = 124 ∨ c = 43) : (ev L2.P (n + 18)).C 15 [.str [c], mat A, mat B] st = some (mat (joinM c A B), st) := join_c n A B st c hc
noncomputable def toldEnv (T : List Nat) (ps : PV) (shape inner outer : Nat) : PEnv := [(51, .str T), (56, ps), (57, .int shape), (58, .str [inner]), (59, .str [outer])]
theorem told_c (n : Nat) (T w1 m1 w2 m2 w3 m3 : List Nat) (c1 c2 c3 : Nat) (hT : T.length = 3) (ha : ∀ x ∈ T, x < 128) (g1 : GoodP w1 m1) (g2 : GoodP w2 m2) (g3 : GoodP w3 m3) (shape inner outer : Nat) (hs : shape < 2) (hi : inner = 124 ∨ inner = 43) (ho : outer = 124 ∨ outer = 43) (st : Store) :
    (ev L2.P (n + 33)).C 16 [.str T, .list [partV c1 w1 m1, partV c2 w2 m2, partV c3 w3 m3], .int shape, .str [inner], .str [outer]] st = some (mrow (toldM T w1 m1 w2 m2 w3 m3 shape inner outer) 0, st) := by
  have b0 : bindAll [51, 56, 57, 58, 59] [.str T, .list [partV c1 w1 m1, partV c2 w2 m2, partV c3 w3 m3], .int shape, .str [inner], .str [outer]] [] = some (toldEnv T (.list [partV c1 w1 m1, partV c2 w2 m2, partV c3 w3 m3]) shape inner outer) := rfl
  have p1 := part_c (n + 2) T w1 m1 hT ha g1.low (by have := g1.len; omega) g1.mark st
  have p2 := part_c (n + 2) T w2 m2 hT ha g2.low (by have := g2.len; omega) g2.mark st
  have p3 := part_c (n + 2) T w3 m3 hT ha g3.low (by have := g3.len; omega) g3.mark st
  generalize hM1 : partM T w1 m1 = M1 at p1
  generalize hM2 : partM T w2 m2 = M2 at p2
  generalize hM3 : partM T w3 m3 = M3 at p3
  have lst : itemsOf st (.list [partV c1 w1 m1, partV c2 w2 m2, partV c3 w3 m3]) = some ([partV c1 w1 m1, partV c2 w2 m2, partV c3 w3 m3], st) := rfl
  have e1 : (ev L2.P (n + 31)).E toldE1 (toldEnv T (.list [partV c1 w1 m1, partV c2 w2 m2, partV c3 w3 m3]) shape inner outer) st = some (.list [mat M1, mat M2, mat M3], st) := by
    have v : (ev L2.P (n + 30)).E (.var 56) (toldEnv T (.list [partV c1 w1 m1, partV c2 w2 m2, partV c3 w3 m3]) shape inner outer) st = some (.list [partV c1 w1 m1, partV c2 w2 m2, partV c3 w3 m3], st) := rfl
    have k0 : keep [51] (toldEnv T (.list [partV c1 w1 m1, partV c2 w2 m2, partV c3 w3 m3]) shape inner outer) = [(51, .str T)] := rfl
    have ce : ∀ (e : PEnv) (c : Nat) (w m : List Nat) (M : Nat → Nat → Int), e.get 51 = some (.str T) → (ev L2.P (n + 29)).C 14 [.str T, .str w, .str m] st = some (mat M, st) → (ev L2.P (n + 30)).E (.call 14 [(.var 51), (.var 61), (.var 62)]) (((e.set 39 (.int c)).set 61 (.str w)).set 62 (.str m)) st = some (mat M, st) := by
      intro e c w m M h51 hp
      simp only [eE, stepE, evList, get_set', h51, hp, Nat.reduceEqDiff, ↓reduceIte]
    have bt : ∀ (e : PEnv) (c : Nat) (w m : List Nat), bindTgt (.tup [39, 61, 62]) (partV c w m) e = some (((e.set 39 (.int c)).set 61 (.str w)).set 62 (.str m)) := fun _ _ _ _ => rfl
    have te : ∀ (e : PEnv) (s : Store), evTests (ev L2.P (n + 30)).E [] e s = some (true, s) := fun _ _ => rfl
    have em : ∀ (e : PEnv) (acc : List PV) (c : Nat) (w m : List Nat) (M : Nat → Nat → Int), e.get 51 = some (.str T) → (ev L2.P (n + 29)).C 14 [.str T, .str w, .str m] st = some (mat M, st) → acc.length ≤ 3 → evGens (ev L2.P (n + 30)).E (emitL (ev L2.P (n + 30)).E (.call 14 [(.var 51), (.var 61), (.var 62)])) [] (((e.set 39 (.int c)).set 61 (.str w)).set 62 (.str m)) st acc = some (acc ++ [mat M], (((e.set 39 (.int c)).set 61 (.str w)).set 62 (.str m)), st) := by
      intro e acc c w m M h51 hp hl
      have : acc.length ≤ lim := by have : lim = 100000 := rfl; omega
      simp only [evGens, emitL, ce e c w m M h51 hp, bif_le this]
    rw [eE]
    simp only [toldE1, stepE, evComp, v, lst, k0]
    rw [evGen]; simp only [bt, te]; rw [em _ [] c1 w1 m1 M1 rfl p1 (by simp)]; simp only []
    rw [evGen]; simp only [bt, te]; rw [em _ _ c2 w2 m2 M2 (by simp [get_set', PEnv.get]) p2 (by simp)]; simp only []
    rw [evGen]; simp only [bt, te]; rw [em _ _ c3 w3 m3 M3 (by simp [get_set', PEnv.get]) p3 (by simp)]; simp only []
    rw [evGen]
    rfl
  have h57 : PEnv.get (toldEnv T (.list [partV c1 w1 m1, partV c2 w2 m2, partV c3 w3 m3]) shape inner outer) 57 = some (.int shape) := rfl
  have h58 : PEnv.get (toldEnv T (.list [partV c1 w1 m1, partV c2 w2 m2, partV c3 w3 m3]) shape inner outer) 58 = some (.str [inner]) := rfl
  have h59 : PEnv.get (toldEnv T (.list [partV c1 w1 m1, partV c2 w2 m2, partV c3 w3 m3]) shape inner outer) 59 = some (.str [outer]) := rfl
  rw [eC]; unfold stepC; rw [told_def]
  simp only [b0]
  generalize (toldEnv T (.list [partV c1 w1 m1, partV c2 w2 m2, partV c3 w3 m3]) shape inner outer) = E0 at *
  have c1' : stepS1 (ev L2.P (n + 31)).E (ev L2.P (n + 31)).S (.assignTup [72, 73, 81] toldE1) E0 st = some (.next, ((E0.set 72 (mat M1)).set 73 (mat M2)).set 81 (mat M3), st) := assignTup_c e1 (vs := [mat M1, mat M2, mat M3]) rfl rfl
  rw [eS]
  unfold toldBody
  rw [seqS c1']
  have hs' : shape = 0 ∨ shape = 1 := by omega
  rcases hs' with rfl | rfl
  · have j1 := join_c' (n + 9) M1 M2 st inner hi
    have j2 := join_c' (n + 10) (joinM inner M1 M2) M3 st outer ho
    have e : (((0 : Nat) : Int) == 0) = true := rfl
    simp only [stepS, stepS1, evTest, eE, eS, stepE, evList, get_set', h57, h58, h59, rd_int, eqI_c', e, tb_c, j1, j2, rd_mat, mat0, Nat.reduceEqDiff, ↓reduceIte]
    simp only [toldM, ↓reduceIte, hM1, hM2, hM3]
    rfl
  · have j1 := join_c' (n + 10) M2 M3 st inner hi
    have j2 := join_c' (n + 11) M1 (joinM inner M2 M3) st outer ho
    have e : (((1 : Nat) : Int) == 0) = false := rfl
    simp only [stepS, stepS1, evTest, eE, eS, stepE, evList, get_set', h57, h58, h59, rd_int, eqI_c', e, tb_c, j1, j2, rd_mat, mat0, Nat.reduceEqDiff, ↓reduceIte]
    simp only [toldM, ↓reduceIte, hM1, hM2, hM3, Nat.succ_ne_self]
    rfl
end Mine
end
section
set_option backward.eqns.nonrecursive false
set_option maxRecDepth 4000
namespace Mine
open PySem
noncomputable def opNum (c : Nat) : Nat := if c = 124 then 18 else 14
noncomputable def partSyms (c : Nat) (mk : List Nat) : List Nat := if mk = [126] then [c, 31] else if mk = [42] then [c, 16] else [c]
noncomputable def symsOf (c1 : Nat) (m1 : List Nat) (c2 : Nat) (m2 : List Nat) (c3 : Nat) (m3 : List Nat) (shape inner outer : Nat) : List Nat :=
  if shape = 0 then partSyms c1 m1 ++ partSyms c2 m2 ++ [opNum inner] ++ partSyms c3 m3 ++ [opNum outer] else partSyms c1 m1 ++ partSyms c2 m2 ++ partSyms c3 m3 ++ [opNum inner, opNum outer]
noncomputable def numD : PObj := .dict [(.str [124], .int 18), (.str [43], .int 14), (.str [126], .int 31), (.str [42], .int 16)]
noncomputable def symGoal (m1 m2 m3 : List Nat) (shape inner outer : Nat) : Prop := ∀ (n : Nat) (c1 c2 c3 : Nat) (w1 w2 w3 : List Nat), (ev L2.P (n + 20)).C 7 [.list [partV c1 w1 m1, partV c2 w2 m2, partV c3 w3 m3], .int shape, .str [inner], .str [outer]] [.list []] = some (.list (natV (symsOf c1 m1 c2 m2 c3 m3 shape inner outer)), [.list [], numD])
theorem sym_1 (m1 m2 m3 : List Nat) (shape inner outer : Nat) (h1 : m1 = [] ∨ m1 = [126]) (h2 : m2 = [] ∨ m2 = [126] ∨ m2 = [42]) (h3 : m3 = []) (hs : shape = 0 ∨ shape = 1) (hi : inner = 124 ∨ inner = 43) (ho : outer = 124 ∨ outer = 43) : symGoal m1 m2 m3 shape inner outer := by
  subst h3
  rcases h1 with rfl | rfl <;> rcases h2 with rfl | rfl | rfl <;> rcases hs with rfl | rfl <;> rcases hi with rfl | rfl <;> rcases ho with rfl | rfl <;> (intro n c1 c2 c3 w1 w2 w3; kernel_rfl)
noncomputable def wordD : PV := .dict [(.int 18, .str [124]), (.int 14, .str [43]), (.int 31, .str [126]), (.int 16, .str [42])]
noncomputable def prodE : PE := .comp (.bin .Add (.var 72) (.var 73)) [((.one 72), (.var 71), []), ((.one 73), (.var 70), [])] [70]
noncomputable def starE : PE := .comp (.bin .Mult (.var 61) (.var 50)) [((.one 50), (.bi .range [(.cint 4)]), [])] [61]
noncomputable def wB1 : List PS := [.expr (.meth .append (.var 69) [(.list [(.call 3 [(.bi .chr [(.var 65)])])])])]
noncomputable def wB2 : List PS := [.expr (.meth .append (.var 69) [(.bin .Add (.list [(.cstr [])]) (.meth .pop (.var 69) []))])]
noncomputable def wB3 : List PS := [
                      .assign 61 (.idx (.meth .pop (.var 69) []) (.cint 0)),
                      .expr (.meth .append (.var 69) [starE])]
noncomputable def wB4 : List PS := [
                      .assign 70 (.meth .pop (.var 69) []),
                      .assign 71 (.meth .pop (.var 69) []),
                      .expr (.meth .append (.var 69) [(.ite (.cmp .Eq (.idx (.var 68) (.var 65)) (.cstr [124])) (.bin .Add (.var 71) (.var 70)) prodE)])]
noncomputable def wT1 : PE := .cmp .Is (.call 4 [(.var 65)]) (.cbool true)
noncomputable def wT2 : PE := .cmp .Eq (.idx (.var 68) (.var 65)) (.cstr [126])
noncomputable def wT3 : PE := .cmp .Eq (.idx (.var 68) (.var 65)) (.cstr [42])
noncomputable def wBody : List PS := [.ifS wT1 wB1 [.ifS wT2 wB2 [.ifS wT3 wB3 wB4]]]
noncomputable def wordsE : PE := .dcomp (.idx (.glob 67) (.var 63)) (.var 63) [((.one 63), (.cstr [124, 43, 126, 42]), [])] []
noncomputable def wordsBody : List PS :=
      .assign 68 wordsE ::
      .assign 69 (.newlist []) ::
      .forS (.one 65) (.var 60) wBody ::
      .ret (.meth .pop (.var 69) []) :: []
theorem words_def : L2.P.F 10 = some ([60], wordsBody) := by rfl
theorem wordsE_c (n : Nat) (v : PV) (st : Store) : (ev L2.P (n + 8)).E wordsE [(60, v)] st = some (wordD, st) := by kernel_rfl
noncomputable def strV (U : List (List Nat)) : PV := .list (U.map .str)
structure WI (r : Nat) (env : PEnv) : Prop where
  d : env.get 68 = some wordD
  p : env.get 69 = some (.ref r)
theorem WI.set {r : Nat} {env : PEnv} (h : WI r env) (k : Nat) (v : PV) (h1 : k ≠ 68) (h2 : k ≠ 69) : WI r (env.set k v) where
  d := by rw [get_set', if_neg (Ne.symm h1)]; exact h.d
  p := by rw [get_set', if_neg (Ne.symm h2)]; exact h.p
theorem ifT {n : Nat} {t : PE} {b o : List PS} {env : PEnv} {st : Store} (h : evTest (ev L2.P n).E t env st = some (true, st)) : stepS1 (ev L2.P n).E (ev L2.P n).S (.ifS t b o) env st = (ev L2.P n).S b env st := by
  simp only [stepS1, h]
theorem ifF {n : Nat} {t : PE} {b o : List PS} {env : PEnv} {st : Store} (h : evTest (ev L2.P n).E t env st = some (false, st)) : stepS1 (ev L2.P n).E (ev L2.P n).S (.ifS t b o) env st = (ev L2.P n).S o env st := by
  simp only [stepS1, h]
theorem oneS {n : Nat} {x : PS} {env env' : PEnv} {st st' : Store} (h : stepS1 (ev L2.P n).E (ev L2.P n).S x env st = some (.next, env', st')) : (ev L2.P (n + 1)).S [x] env st = some (.next, env', st') := by
  rw [eS]; simp only [stepS, h]
theorem expr_c {rec : EvE} {recS : EvS} {e : PE} {env : PEnv} {st st' : Store} (h : rec e env st = some (.none, st')) : stepS1 rec recS (.expr e) env st = some (.next, env, st') := by
  simp only [stepS1, h]
theorem app_e {n r : Nat} {e : PE} {env : PEnv} {st st1 : Store} {v : PV} {xs0 xs : List PV} (h69 : env.get 69 = some (.ref r)) (h0 : st[r]? = some (.list xs0)) (he : (ev L2.P (n + 1)).E e env st = some (v, st1)) (h1 : st1[r]? = some (.list xs)) (hl : xs.length ≤ lim) : (ev L2.P (n + 2)).E (.meth .append (.var 69) [e]) env st = some (.none, st1.set r (.list (xs ++ [v]))) := by
  have v1 : (ev L2.P (n + 1)).E (.var 69) env st = some (.ref r, st) := by rw [eE]; simp only [stepE, h69]
  rw [eE]
  simp only [stepE, v1, (ok_list h0).2.1, cond_true, evList, he, append_c h1 v hl]
theorem pop_e {n r : Nat} {env : PEnv} {st : Store} {v : PV} {xs : List PV} (h69 : env.get 69 = some (.ref r)) (h0 : st[r]? = some (.list (xs ++ [v]))) (hl : (xs ++ [v]).length ≤ lim) : (ev L2.P (n + 2)).E (.meth .pop (.var 69) []) env st = some (v, st.set r (.list xs)) := by
  have v1 : (ev L2.P (n + 1)).E (.var 69) env st = some (.ref r, st) := by rw [eE]; simp only [stepE, h69]
  rw [eE]
  simp only [stepE, v1, (ok_list h0).2.2.1, cond_true, evList, pop_c h0 hl]
theorem idxD {n m : Nat} {env : PEnv} {st : Store} {v : PV} {r : Nat} (W : WI r env) (h65 : env.get 65 = some (.int m)) (h : pidx wordD (.int m) = some v) : (ev L2.P (n + 2)).E (.idx (.var 68) (.var 65)) env st = some (v, st) := by
  have e : rd st wordD = wordD := rfl
  simp only [eE, stepE, W.d, h65, e, h]
theorem get2 {α : Type} (l : List α) (x : α) : (l ++ [x])[l.length]? = some x := by simp
theorem wT1_c (n m r : Nat) {env : PEnv} (st : Store) (h65 : env.get 65 = some (.int m)) : evTest (ev L2.P (n + 8)).E wT1 env st = some (decide (256 ≤ m), st) := by
  have c := non_c (n + 2) m st
  have e : (decide (256 ≤ m) == true) = decide (256 ≤ m) := by cases decide (256 ≤ m) <;> rfl
  simp only [wT1, evTest, eE, stepE, evList, h65, c, rd_bool, is_c, e, tb_c]
theorem wTS {n m r : Nat} {s t : List Nat} {env : PEnv} {st : Store} (W : WI r env) (h65 : env.get 65 = some (.int m)) (h : pidx wordD (.int m) = some (.str s)) : evTest (ev L2.P (n + 4)).E (.cmp .Eq (.idx (.var 68) (.var 65)) (.cstr t)) env st = some (s == t, st) := by
  have i := idxD (n := n + 1) (st := st) W h65 h
  simp only [evTest]
  rw [eE]; simp only [stepE, i]
  rw [eE]; simp only [stepE, rd_str, eq_c, tb_c]
theorem chr_c {m : Nat} (h : m ≤ 1114111) (st : Store) : pbi .chr [.int m] st = some (.str [m], st) := by
  have h1 : decide (0 ≤ (m : Int)) = true := decide_eq_true (by omega)
  have h2 : decide ((m : Int) ≤ 1114111) = true := decide_eq_true (by omega)
  show (bif decide (0 ≤ (m : Int)) && decide ((m : Int) ≤ 0x10FFFF) then _ else _) = _
  rw [h1, h2]; rfl
section
variable (n : Nat) (st : Store) {env : PEnv} (W : WI st.length env) (xs : List PV) (hx : xs.length ≤ 10)
include W hx
theorem lx (k : PV) : (xs ++ [k]).length ≤ lim := by have : lim = 100000 := rfl; simp; omega
omit W hx in
theorem lim' {m : Nat} (h : m ≤ 100) : m ≤ lim := by have : lim = 100000 := rfl; omega
theorem w_push (c : Nat) (w : List Nat) (h65 : env.get 65 = some (.int c)) (hc : 256 ≤ c) (hc' : c ≤ 1114111) (h3 : ∀ (n : Nat) (s : Store), (ev L2.P (n + 8)).C 3 [.str [c]] s = some (.str w, s)) :
    (ev L2.P (n + 20)).S wBody env (st ++ [.list xs]) = some (.next, env, st ++ [.list (xs ++ [strV [w]])]) := by
  have t : evTest (ev L2.P (n + 19)).E wT1 env (st ++ [.list xs]) = some (true, st ++ [.list xs]) := by
    rw [wT1_c (n + 11) c st.length _ h65, decide_eq_true hc]
  have z : ([.str w] : List PV).length ≤ lim := by show 1 ≤ 100000; decide
  have e : (ev L2.P (n + 17)).E (.list [(.call 3 [(.bi .chr [(.var 65)])])]) env (st ++ [.list xs]) = some (strV [w], st ++ [.list xs]) := by
    have h := h3 (n + 7) (st ++ [.list xs])
    simp only [eE, stepE, evList, h65, chr_c hc', h, bif_le z]; rfl
  have a := app_e (n := n + 16) W.p (get_last st _) e (get_last st _) (lim' (by omega))
  rw [set_last] at a
  refine oneS ?_
  rw [ifT t]
  exact oneS (expr_c a)
theorem w_tilde (w : List Nat) (h65 : env.get 65 = some (.int (31 : Nat))) :
    (ev L2.P (n + 20)).S wBody env (st ++ [.list (xs ++ [strV [w]])]) = some (.next, env, st ++ [.list (xs ++ [strV [[], w]])]) := by
  have t : evTest (ev L2.P (n + 19)).E wT1 env (st ++ [.list (xs ++ [strV [w]])]) = some (false, st ++ [.list (xs ++ [strV [w]])]) := wT1_c (n + 11) 31 st.length _ h65
  have t2 : evTest (ev L2.P (n + 18)).E wT2 env (st ++ [.list (xs ++ [strV [w]])]) = some (true, st ++ [.list (xs ++ [strV [w]])]) := wTS (n := n + 14) W h65 rfl
  have p := pop_e (n := n + 13) W.p (get_last st (.list (xs ++ [strV [w]]))) (lx st W xs hx _)
  rw [set_last] at p
  have e : (ev L2.P (n + 16)).E (.bin .Add (.list [(.cstr [])]) (.meth .pop (.var 69) [])) env (st ++ [.list (xs ++ [strV [w]])]) = some (strV [[], w], st ++ [.list xs]) := by
    have l : (ev L2.P (n + 15)).E (.list [(.cstr [])]) env (st ++ [.list (xs ++ [strV [w]])]) = some (.list [.str []], st ++ [.list (xs ++ [strV [w]])]) := rfl
    rw [eE]; simp only [stepE, l, p]; rfl
  have a := app_e (n := n + 15) W.p (get_last st _) e (get_last st _) (lim' (by omega))
  rw [set_last] at a
  refine oneS ?_
  rw [ifF t]
  refine oneS ?_
  rw [ifT t2]
  exact oneS (expr_c a)
theorem w_star (w : List Nat) (hw : w.length ≤ 2) (h65 : env.get 65 = some (.int (16 : Nat))) :
    ∃ env', (ev L2.P (n + 20)).S wBody env (st ++ [.list (xs ++ [strV [w]])]) = some (.next, env', st ++ [.list (xs ++ [strV [[], w, w ++ w, w ++ w ++ w]])]) ∧ WI st.length env' := by
  refine ⟨env.set 61 (.str w), ?_, W.set 61 _ (by decide) (by decide)⟩
  have t : evTest (ev L2.P (n + 19)).E wT1 env (st ++ [.list (xs ++ [strV [w]])]) = some (false, st ++ [.list (xs ++ [strV [w]])]) := wT1_c (n + 11) 16 st.length _ h65
  have t2 : evTest (ev L2.P (n + 18)).E wT2 env (st ++ [.list (xs ++ [strV [w]])]) = some (false, st ++ [.list (xs ++ [strV [w]])]) := wTS (n := n + 14) W h65 rfl
  have t3 : evTest (ev L2.P (n + 17)).E wT3 env (st ++ [.list (xs ++ [strV [w]])]) = some (true, st ++ [.list (xs ++ [strV [w]])]) := wTS (n := n + 13) W h65 rfl
  have p := pop_e (n := n + 13) W.p (get_last st (.list (xs ++ [strV [w]]))) (lx st W xs hx _)
  rw [set_last] at p
  have i : (ev L2.P (n + 16)).E (.idx (.meth .pop (.var 69) []) (.cint 0)) env (st ++ [.list (xs ++ [strV [w]])]) = some (.str w, st ++ [.list xs]) := by
    rw [eE]; simp only [stepE, p]; rfl
  have c := comp4 (P := L2.P) (n := n + 12) (elt := .bin .Mult (.var 61) (.var 50)) (env := env.set 61 (.str w)) (st := st ++ [.list xs]) (t := 50) (fv := [61]) (fun k => .str (List.replicate k w).flatten) (by
    intro k hk e he
    have g61 : e.get 61 = some (.str w) := by rw [he 61 (by simp) (by decide)]; simp [get_set']
    have m : pbin .Mult (.str w) (.int k) = some (.str (List.replicate k w).flatten) := by
      have h1 : decide (0 ≤ (k : Int)) = true := decide_eq_true (by omega)
      have h2 : decide ((k : Int) ≤ 1000) = true := decide_eq_true (by omega)
      have h3 : decide (w.length * k ≤ 100000) = true := decide_eq_true (by
        have : w.length * k ≤ 2 * 4 := Nat.mul_le_mul hw (by omega)
        omega)
      show (bif decide (0 ≤ (k : Int)) && decide ((k : Int) ≤ 1000) && decide (w.length * k ≤ 100000) then _ else _) = _
      rw [h1, h2, h3]; rfl
    simp only [eE, stepE, get_set', g61, rd_str, rd_int, m, Nat.reduceEqDiff, ↓reduceIte])
  have c' : (ev L2.P (n + 15)).E starE (env.set 61 (.str w)) (st ++ [.list xs]) = some (strV [[], w, w ++ w, w ++ w ++ w], st ++ [.list xs]) := by
    unfold starE; rw [c]; simp [strV, List.replicate]
  have a := app_e (n := n + 14) (W.set 61 (.str w) (by decide) (by decide)).p (get_last st _) c' (get_last st _) (lim' (by omega))
  rw [set_last] at a
  refine oneS ?_
  rw [ifF t]
  refine oneS ?_
  rw [ifF t2]
  refine oneS ?_
  rw [ifT t3, eS]
  unfold wB3
  rw [seqS (assign_c i), seqS (expr_c a)]
  rfl
omit W hx in
theorem prod_in {rec : EvE} (u : List Nat) (hu : u.length ≤ 20) (s : Store) (hrec : ∀ (e : PEnv) (v : List Nat), e.get 72 = some (.str u) → e.get 73 = some (.str v) → v.length ≤ 20 → rec (.bin .Add (.var 72) (.var 73)) e s = some (.str (u ++ v), s)) (R : PV) : ∀ (V : List (List Nat)) (e : PEnv) (acc : List PV), e.get 72 = some (.str u) → e.get 70 = some R → (∀ v ∈ V, v.length ≤ 20) → acc.length + V.length ≤ 1000 →
    ∃ e', evGen (evGens rec (emitL rec (.bin .Add (.var 72) (.var 73))) []) (.one 73) (evTests rec []) (V.map .str) e s acc = some (acc ++ V.map (fun v => .str (u ++ v)), e', s) ∧ e'.get 70 = some R
  | [], e, acc, h72, h70, hV, hl => ⟨e, by simp [evGen], h70⟩
  | v :: V, e, acc, h72, h70, hV, hl => by
    have h := hrec (e.set 73 (.str v)) v (by simp [get_set', h72]) (by simp [get_set']) (hV v List.mem_cons_self)
    have la : acc.length ≤ lim := by have : lim = 100000 := rfl; omega
    have te : evTests rec [] (e.set 73 (.str v)) s = some (true, s) := rfl
    have em : evGens rec (emitL rec (.bin .Add (.var 72) (.var 73))) [] (e.set 73 (.str v)) s acc = some (acc ++ [.str (u ++ v)], e.set 73 (.str v), s) := by simp only [evGens, emitL, h, bif_le la]
    obtain ⟨e', g1, g2⟩ := prod_in u hu s hrec R V (e.set 73 (.str v)) (acc ++ [.str (u ++ v)]) (by simp [get_set', h72]) (by simp [get_set', h70]) (fun w hw => hV w (List.mem_cons_of_mem _ hw)) (by simp at hl ⊢; omega)
    refine ⟨e', ?_, g2⟩
    rw [List.map_cons, evGen]
    simp only [bindTgt, te, em]
    rw [g1, List.append_assoc]; rfl
omit W hx in
theorem prod_out {rec : EvE} (s : Store) (V : List (List Nat)) (hV : ∀ v ∈ V, v.length ≤ 20) (hVl : V.length ≤ 16) (hrec : ∀ (e : PEnv) (u v : List Nat), e.get 72 = some (.str u) → e.get 73 = some (.str v) → u.length ≤ 20 → v.length ≤ 20 → rec (.bin .Add (.var 72) (.var 73)) e s = some (.str (u ++ v), s)) (hv : ∀ e : PEnv, e.get 70 = some (strV V) → rec (.var 70) e s = some (strV V, s)) : ∀ (U : List (List Nat)) (e : PEnv) (acc : List PV), e.get 70 = some (strV V) → (∀ u ∈ U, u.length ≤ 20) → acc.length + U.length * 16 ≤ 1000 →
    ∃ e', evGen (evGens rec (emitL rec (.bin .Add (.var 72) (.var 73))) [((.one 73), (.var 70), [])]) (.one 72) (evTests rec []) (U.map .str) e s acc = some (acc ++ (prod U V).map .str, e', s)
  | [], e, acc, h70, hU, hl => ⟨e, by simp [evGen, prod]⟩
  | u :: U, e, acc, h70, hU, hl => by
    have te : evTests rec [] (e.set 72 (.str u)) s = some (true, s) := rfl
    have hl' : acc.length + 16 + U.length * 16 ≤ 1000 := by simp only [List.length_cons] at hl; omega
    obtain ⟨e1, g1, g2⟩ := prod_in u (hU u List.mem_cons_self) s (fun e v h1 h2 h3 => hrec e u v h1 h2 (hU u List.mem_cons_self) h3) (strV V) V (e.set 72 (.str u)) acc (by simp [get_set']) (by simp [get_set', h70]) hV (by omega)
    obtain ⟨e2, k⟩ := prod_out s V hV hVl hrec hv U e1 (acc ++ V.map (fun v => .str (u ++ v))) g2 (fun w hw => hU w (List.mem_cons_of_mem _ hw)) (by simp; omega)
    have it : itemsOf s (strV V) = some (V.map .str, s) := by
      have : (V.map PV.str).length ≤ lim := by have : lim = 100000 := rfl; simp; omega
      show (bif decide ((V.map PV.str).length ≤ lim) then _ else _) = _
      rw [bif_le this]
    have em : evGens rec (emitL rec (.bin .Add (.var 72) (.var 73))) [((.one 73), (.var 70), [])] (e.set 72 (.str u)) s acc = some (acc ++ V.map (fun v => .str (u ++ v)), e1, s) := by
      rw [evGens]
      simp only [hv (e.set 72 (.str u)) (by simp [get_set', h70]), it]
      exact g1
    refine ⟨e2, ?_⟩
    rw [List.map_cons, evGen]
    simp only [bindTgt, te, em]
    rw [k]
    simp [prod]
omit W hx in
theorem addS_c {u v : List Nat} (hu : u.length ≤ 20) (hv : v.length ≤ 20) : pbin .Add (.str u) (.str v) = some (.str (u ++ v)) := by
  have h : decide (u.length + v.length ≤ 100000) = true := decide_eq_true (by omega)
  show (bif decide (u.length + v.length ≤ 100000) then _ else _) = _
  rw [h]; rfl
omit W hx in
theorem addL_c {u v : List PV} (hu : u.length ≤ 1000) (hv : v.length ≤ 1000) : pbin .Add (.list u) (.list v) = some (.list (u ++ v)) := by
  have h : decide (u.length + v.length ≤ 100000) = true := decide_eq_true (by omega)
  show (bif decide (u.length + v.length ≤ 100000) then _ else _) = _
  rw [h]; rfl
omit W hx in
theorem prodE_c (s : Store) (U V : List (List Nat)) (env : PEnv) (h70 : env.get 70 = some (strV V)) (h71 : env.get 71 = some (strV U)) (hU : ∀ u ∈ U, u.length ≤ 20) (hUl : U.length ≤ 16) (hV : ∀ v ∈ V, v.length ≤ 20) (hVl : V.length ≤ 16) : (ev L2.P (n + 4)).E prodE env s = some (strV (prod U V), s) := by
  obtain ⟨e', g⟩ := prod_out (rec := (ev L2.P (n + 3)).E) s V hV hVl (fun e u v h1 h2 h3 h4 => by
    simp only [eE, stepE, h1, h2, rd_str, addS_c h3 h4]) (fun e h => by simp only [eE, stepE, h]) U (keep [70] env) [] (by rw [keepGet _ _ (by simp), h70]) hU (by simp; omega)
  have it : itemsOf s (strV U) = some (U.map .str, s) := by
    have : (U.map PV.str).length ≤ lim := by have : lim = 100000 := rfl; simp; omega
    show (bif decide ((U.map PV.str).length ≤ lim) then _ else _) = _
    rw [bif_le this]
  have v : (ev L2.P (n + 3)).E (.var 71) env s = some (strV U, s) := by rw [eE]; simp only [stepE, h71]
  rw [eE]
  simp only [prodE, stepE, evComp, v, it, g]
  rfl
theorem w_join (c : Nat) (hc : c = 124 ∨ c = 43) (U V : List (List Nat)) (hU : ∀ u ∈ U, u.length ≤ 20) (hUl : U.length ≤ 16) (hV : ∀ v ∈ V, v.length ≤ 20) (hVl : V.length ≤ 16) (h65 : env.get 65 = some (.int (opNum c))) :
    ∃ env', (ev L2.P (n + 20)).S wBody env (st ++ [.list (xs ++ [strV U, strV V])]) = some (.next, env', st ++ [.list (xs ++ [strV (joinW c U V)])]) ∧ WI st.length env' := by
  have W2 := (W.set 70 (strV V) (by decide) (by decide)).set 71 (strV U) (by decide) (by decide)
  refine ⟨(env.set 70 (strV V)).set 71 (strV U), ?_, W2⟩
  have ix : pidx wordD (.int (opNum c)) = some (.str [c]) := by rcases hc with rfl | rfl <;> rfl
  have t : evTest (ev L2.P (n + 19)).E wT1 env (st ++ [.list (xs ++ [strV U, strV V])]) = some (false, st ++ [.list (xs ++ [strV U, strV V])]) := by
    rw [wT1_c (n + 11) (opNum c) st.length _ h65, decide_eq_false (by rcases hc with rfl | rfl <;> decide)]
  have t2 : evTest (ev L2.P (n + 18)).E wT2 env (st ++ [.list (xs ++ [strV U, strV V])]) = some (false, st ++ [.list (xs ++ [strV U, strV V])]) := by
    have := wTS (n := n + 14) (t := [126]) (st := st ++ [.list (xs ++ [strV U, strV V])]) W h65 ix
    rwa [show ([c] == [126]) = false by rcases hc with rfl | rfl <;> rfl] at this
  have t3 : evTest (ev L2.P (n + 17)).E wT3 env (st ++ [.list (xs ++ [strV U, strV V])]) = some (false, st ++ [.list (xs ++ [strV U, strV V])]) := by
    have := wTS (n := n + 13) (t := [42]) (st := st ++ [.list (xs ++ [strV U, strV V])]) W h65 ix
    rwa [show ([c] == [42]) = false by rcases hc with rfl | rfl <;> rfl] at this
  have e2 : xs ++ [strV U, strV V] = (xs ++ [strV U]) ++ [strV V] := by simp
  have p := pop_e (n := n + 14) W.p (by rw [← e2]; exact get_last st (.list (xs ++ [strV U, strV V]))) (by have : lim = 100000 := rfl; simp; omega)
  rw [set_last] at p
  have p2 := pop_e (n := n + 14) (W.set 70 (strV V) (by decide) (by decide)).p (get_last st (.list (xs ++ [strV U]))) (lx st W xs hx _)
  rw [set_last] at p2
  have h70 : ((env.set 70 (strV V)).set 71 (strV U)).get 70 = some (strV V) := by simp [get_set']
  have h71 : ((env.set 70 (strV V)).set 71 (strV U)).get 71 = some (strV U) := by simp [get_set']
  have g65 : ((env.set 70 (strV V)).set 71 (strV U)).get 65 = some (.int (opNum c)) := by simp [get_set', h65]
  have tt := wTS (n := n + 10) (t := [124]) (st := st ++ [.list xs]) W2 g65 ix
  have i : (ev L2.P (n + 15)).E (.ite (.cmp .Eq (.idx (.var 68) (.var 65)) (.cstr [124])) (.bin .Add (.var 71) (.var 70)) prodE) ((env.set 70 (strV V)).set 71 (strV U)) (st ++ [.list xs]) = some (strV (joinW c U V), st ++ [.list xs]) := by
    rw [eE]
    rcases hc with rfl | rfl
    · have e : (([124] : List Nat) == [124]) = true := rfl
      rw [e] at tt
      have ad := addL_c (u := U.map .str) (v := V.map .str) (by simp; omega) (by simp; omega)
      have ad2 : (ev L2.P (n + 14)).E (.bin .Add (.var 71) (.var 70)) ((env.set 70 (strV V)).set 71 (strV U)) (st ++ [.list xs]) = some (.list (U.map .str ++ V.map .str), st ++ [.list xs]) := by
        have r1 : ∀ X : List (List Nat), rd (st ++ [.list xs]) (strV X) = .list (X.map .str) := fun _ => rfl
        simp only [eE, stepE, h70, h71, r1, ad]
      simp only [stepE, tt, ad2]
      simp [strV, joinW]
    · have e : (([43] : List Nat) == [124]) = false := rfl
      rw [e] at tt
      have pr := prodE_c (n + 10) (st ++ [.list xs]) U V ((env.set 70 (strV V)).set 71 (strV U)) h70 h71 hU hUl hV hVl
      simp only [stepE, tt, pr]
      simp [joinW]
  have a := app_e (n := n + 14) W2.p (get_last st _) i (get_last st _) (lim' (by omega))
  rw [set_last] at a
  refine oneS ?_
  rw [ifF t]
  refine oneS ?_
  rw [ifF t2]
  refine oneS ?_
  rw [ifF t3, eS]
  unfold wB4
  rw [seqS (assign_c p), seqS (assign_c p2), seqS (expr_c a)]
  rfl
end
theorem forN_app {body : PEnv → Store → Option (PFlow × PEnv × Store)} {t : Tgt} : ∀ (a b : List PV) (env : PEnv) (st : Store), forN body t (a ++ b) env st = match forN body t a env st with
    | some (.next, env, st) => forN body t b env st
    | x => x
  | [], b, env, st => rfl
  | v :: a, b, env, st => by
    rw [List.cons_append, forN, forN]
    cases bindTgt t v env with
    | none => rfl
    | some env1 =>
      simp only []
      cases hb : body env1 st with
      | none => rfl
      | some x =>
        obtain ⟨f, e2, s2⟩ := x
        cases f with
        | next => simp only []; exact forN_app a b e2 s2
        | ret v => rfl
noncomputable def WRun (n : Nat) (st : Store) (syms : List Nat) (p q : List PV) : Prop := ∀ env, WI st.length env → ∃ env', forN ((ev L2.P (n + 20)).S wBody) (.one 65) (natV syms) env (st ++ [.list p]) = some (.next, env', st ++ [.list q]) ∧ WI st.length env'
theorem WRun.app {n : Nat} {st : Store} {a b : List Nat} {p q r : List PV} (h : WRun n st a p q) (g : WRun n st b q r) : WRun n st (a ++ b) p r := by
  intro env W
  obtain ⟨e1, h1, W1⟩ := h env W
  obtain ⟨e2, h2, W2⟩ := g e1 W1
  refine ⟨e2, ?_, W2⟩
  have : natV (a ++ b) = natV a ++ natV b := by simp [natV]
  rw [this, forN_app, h1]; exact h2
theorem WRun.one {n : Nat} {st : Store} {a : Nat} {p q : List PV} (h : ∀ env : PEnv, WI st.length env → env.get 65 = some (.int a) → ∃ env', (ev L2.P (n + 20)).S wBody env (st ++ [.list p]) = some (.next, env', st ++ [.list q]) ∧ WI st.length env') : WRun n st [a] p q := by
  intro env W
  obtain ⟨e1, h1, W1⟩ := h (env.set 65 (.int a)) (W.set 65 _ (by decide) (by decide)) (by simp [get_set'])
  refine ⟨e1, ?_, W1⟩
  have : natV [a] = [.int a] := rfl
  rw [this]; simp only [forN, bindTgt, h1]
structure Code (c : Nat) (w : List Nat) : Prop where
  lo : 256 ≤ c
  hi : c < 262144
  b3 : ∀ (n : Nat) (s : Store), (ev L2.P (n + 8)).C 3 [.str [c]] s = some (.str w, s)
  len : w.length ≤ 2
theorem WRun.part {n : Nat} {st : Store} {xs : List PV} (hx : xs.length ≤ 10) {c : Nat} {w mk : List Nat} (h : Code c w) (hm : mk = [] ∨ mk = [126] ∨ mk = [42]) : WRun n st (partSyms c mk) xs (xs ++ [strV (markWords w mk)]) := by
  have p0 : WRun n st [c] xs (xs ++ [strV [w]]) := WRun.one fun env W h65 => ⟨env, w_push n st W xs hx c w h65 h.lo (by have := h.hi; omega) h.b3, W⟩
  rcases hm with rfl | rfl | rfl
  · exact p0
  · exact p0.app (b := [31]) (WRun.one fun env W h65 => ⟨env, w_tilde n st W xs hx w h65, W⟩)
  · exact p0.app (b := [16]) (WRun.one fun env W h65 => w_star n st W xs hx w h.len h65)
theorem WRun.join {n : Nat} {st : Store} {xs : List PV} (hx : xs.length ≤ 10) {c : Nat} (hc : c = 124 ∨ c = 43) {U V : List (List Nat)} (hU : ∀ u ∈ U, u.length ≤ 20) (hUl : U.length ≤ 16) (hV : ∀ v ∈ V, v.length ≤ 20) (hVl : V.length ≤ 16) : WRun n st [opNum c] (xs ++ [strV U, strV V]) (xs ++ [strV (joinW c U V)]) :=
  WRun.one fun env W h65 => w_join n st W xs hx c hc U V hU hUl hV hVl h65
noncomputable def wordsOf (w1 m1 w2 m2 w3 m3 : List Nat) (shape inner outer : Nat) : List (List Nat) :=
  if shape = 0 then joinW outer (joinW inner (markWords w1 m1) (markWords w2 m2)) (markWords w3 m3) else joinW outer (markWords w1 m1) (joinW inner (markWords w2 m2) (markWords w3 m3))
theorem mark_len {w mk : List Nat} (hw : w.length ≤ 2) : (markWords w mk).length ≤ 4 ∧ ∀ u ∈ markWords w mk, u.length ≤ 6 := by
  unfold markWords
  split
  · simp; omega
  · split
    · simp; omega
    · simp; omega
theorem prod_len : ∀ U V : List (List Nat), (prod U V).length = U.length * V.length
  | [], V => by simp [prod]
  | u :: U, V => by
    have := prod_len U V
    unfold prod at *
    rw [List.flatMap_cons, List.length_append, this, List.length_map, List.length_cons, Nat.succ_mul]; omega
theorem join_len {c : Nat} {U V : List (List Nat)} {a b : Nat} (h1 : U.length ≤ 4) (h2 : V.length ≤ 4) (g1 : ∀ u ∈ U, u.length ≤ a) (g2 : ∀ u ∈ V, u.length ≤ b) : (joinW c U V).length ≤ 16 ∧ ∀ u ∈ joinW c U V, u.length ≤ a + b := by
  unfold joinW
  split
  · refine ⟨by simp; omega, fun u hu => ?_⟩
    rcases List.mem_append.mp hu with h | h
    · have := g1 u h; omega
    · have := g2 u h; omega
  · refine ⟨?_, fun u hu => ?_⟩
    · rw [prod_len]
      exact Nat.mul_le_mul h1 h2
    · obtain ⟨x, hx, y, hy, rfl⟩ := mem_prod.mp hu
      have := g1 x hx
      have := g2 y hy
      simp; omega
theorem run_all {n : Nat} {st : Store} {c1 c2 c3 : Nat} {w1 m1 w2 m2 w3 m3 : List Nat} (h1 : Code c1 w1) (h2 : Code c2 w2) (h3 : Code c3 w3) (g1 : m1 = [] ∨ m1 = [126] ∨ m1 = [42]) (g2 : m2 = [] ∨ m2 = [126] ∨ m2 = [42]) (g3 : m3 = [] ∨ m3 = [126] ∨ m3 = [42]) {shape inner outer : Nat} (hi : inner = 124 ∨ inner = 43) (ho : outer = 124 ∨ outer = 43) :
    WRun n st (symsOf c1 m1 c2 m2 c3 m3 shape inner outer) [] [strV (wordsOf w1 m1 w2 m2 w3 m3 shape inner outer)] := by
  obtain ⟨l1, k1⟩ := mark_len (mk := m1) h1.len
  obtain ⟨l2, k2⟩ := mark_len (mk := m2) h2.len
  obtain ⟨l3, k3⟩ := mark_len (mk := m3) h3.len
  have r1 : WRun n st (partSyms c1 m1) [] [strV (markWords w1 m1)] := WRun.part (xs := []) (by simp) h1 g1
  have r2 : WRun n st (partSyms c2 m2) [strV (markWords w1 m1)] [strV (markWords w1 m1), strV (markWords w2 m2)] := WRun.part (xs := [strV (markWords w1 m1)]) (by simp) h2 g2
  unfold symsOf wordsOf
  split
  · obtain ⟨l4, k4⟩ := join_len (c := inner) l1 l2 k1 k2
    have j1 : WRun n st [opNum inner] [strV (markWords w1 m1), strV (markWords w2 m2)] [strV (joinW inner (markWords w1 m1) (markWords w2 m2))] := WRun.join (xs := []) (by simp) hi (fun u hu => by have := k1 u hu; omega) (by omega) (fun u hu => by have := k2 u hu; omega) (by omega)
    have r3 : WRun n st (partSyms c3 m3) [strV (joinW inner (markWords w1 m1) (markWords w2 m2))] [strV (joinW inner (markWords w1 m1) (markWords w2 m2)), strV (markWords w3 m3)] := WRun.part (xs := [_]) (by simp) h3 g3
    have j2 : WRun n st [opNum outer] [strV (joinW inner (markWords w1 m1) (markWords w2 m2)), strV (markWords w3 m3)] [strV (joinW outer (joinW inner (markWords w1 m1) (markWords w2 m2)) (markWords w3 m3))] := WRun.join (xs := []) (by simp) ho (fun u hu => by have := k4 u hu; omega) (by omega) (fun u hu => by have := k3 u hu; omega) (by omega)
    exact (((r1.app r2).app j1).app r3).app j2
  · obtain ⟨l4, k4⟩ := join_len (c := inner) l2 l3 k2 k3
    have r3 : WRun n st (partSyms c3 m3) [strV (markWords w1 m1), strV (markWords w2 m2)] [strV (markWords w1 m1), strV (markWords w2 m2), strV (markWords w3 m3)] := WRun.part (xs := [_, _]) (by simp) h3 g3
    have j1 : WRun n st [opNum inner] [strV (markWords w1 m1), strV (markWords w2 m2), strV (markWords w3 m3)] [strV (markWords w1 m1), strV (joinW inner (markWords w2 m2) (markWords w3 m3))] := WRun.join (xs := [_]) (by simp) hi (fun u hu => by have := k2 u hu; omega) (by omega) (fun u hu => by have := k3 u hu; omega) (by omega)
    have j2 : WRun n st [opNum outer] [strV (markWords w1 m1), strV (joinW inner (markWords w2 m2) (markWords w3 m3))] [strV (joinW outer (markWords w1 m1) (joinW inner (markWords w2 m2) (markWords w3 m3)))] := WRun.join (xs := []) (by simp) ho (fun u hu => by have := k1 u hu; omega) (by omega) (fun u hu => by have := k4 u hu; omega) (by omega)
    have := ((r1.app r2).app r3).app (j1.app j2)
    exact this
theorem words_c {n : Nat} {st : Store} {c1 c2 c3 : Nat} {w1 m1 w2 m2 w3 m3 : List Nat} (h1 : Code c1 w1) (h2 : Code c2 w2) (h3 : Code c3 w3) (g1 : m1 = [] ∨ m1 = [126] ∨ m1 = [42]) (g2 : m2 = [] ∨ m2 = [126] ∨ m2 = [42]) (g3 : m3 = [] ∨ m3 = [126] ∨ m3 = [42]) {shape inner outer : Nat} (hi : inner = 124 ∨ inner = 43) (ho : outer = 124 ∨ outer = 43) (hl : (symsOf c1 m1 c2 m2 c3 m3 shape inner outer).length ≤ 40) :
    (ev L2.P (n + 22)).C 10 [.list (natV (symsOf c1 m1 c2 m2 c3 m3 shape inner outer))] st = some (strV (wordsOf w1 m1 w2 m2 w3 m3 shape inner outer), st ++ [.list []]) := by
  have b0 : bindAll [60] [.list (natV (symsOf c1 m1 c2 m2 c3 m3 shape inner outer))] [] = some [(60, .list (natV (symsOf c1 m1 c2 m2 c3 m3 shape inner outer)))] := rfl
  have W0 : WI st.length ((PEnv.set [(60, .list (natV (symsOf c1 m1 c2 m2 c3 m3 shape inner outer)))] 68 wordD).set 69 (.ref st.length)) := ⟨by simp [get_set'], by simp [get_set']⟩
  obtain ⟨e1, r, W1⟩ := run_all (n := n) (st := st) h1 h2 h3 g1 g2 g3 (shape := shape) hi ho _ W0
  have h60 : ((PEnv.set [(60, .list (natV (symsOf c1 m1 c2 m2 c3 m3 shape inner outer)))] 68 wordD).set 69 (.ref st.length)).get 60 = some (.list (natV (symsOf c1 m1 c2 m2 c3 m3 shape inner outer))) := by simp [get_set', PEnv.get]
  have ll : (natV (symsOf c1 m1 c2 m2 c3 m3 shape inner outer)).length ≤ lim := lim' (by simpa [natV] using Nat.le_trans hl (by omega))
  generalize natV (symsOf c1 m1 c2 m2 c3 m3 shape inner outer) = N at *
  have c1 : stepS1 (ev L2.P (n + 20)).E (ev L2.P (n + 20)).S (.assign 68 wordsE) [(60, .list N)] st = some (.next, PEnv.set [(60, .list N)] 68 wordD, st) := assign_c (wordsE_c (n + 12) _ st)
  have z : ([] : List PV).length ≤ lim := Nat.zero_le _
  have c2 : stepS1 (ev L2.P (n + 20)).E (ev L2.P (n + 20)).S (.assign 69 (.newlist [])) (PEnv.set [(60, .list N)] 68 wordD) st = some (.next, (PEnv.set [(60, .list N)] 68 wordD).set 69 (.ref st.length), st ++ [.list []]) := assign_c (by
    rw [eE]; simp only [stepE, evList, bif_le z])
  have c3 : stepS1 (ev L2.P (n + 20)).E (ev L2.P (n + 20)).S (.forS (.one 65) (.var 60) wBody) ((PEnv.set [(60, .list N)] 68 wordD).set 69 (.ref st.length)) (st ++ [.list []]) = some (.next, e1, st ++ [.list [strV (wordsOf w1 m1 w2 m2 w3 m3 shape inner outer)]]) := by
    have v : (ev L2.P (n + 20)).E (.var 60) ((PEnv.set [(60, .list N)] 68 wordD).set 69 (.ref st.length)) (st ++ [.list []]) = some (.list N, st ++ [.list []]) := by rw [eE]; simp only [stepE, h60]
    have it : itemsOf (st ++ [PObj.list []]) (.list N) = some (N, st ++ [.list []]) := by
      show (bif decide (N.length ≤ lim) then _ else _) = _
      rw [bif_le ll]
    simp only [stepS1, v, it]
    exact r
  have p := pop_e (n := n + 18) (v := strV (wordsOf w1 m1 w2 m2 w3 m3 shape inner outer)) (xs := []) W1.p (get_last st _) (lim' (by simp))
  rw [set_last] at p
  rw [eC]; unfold stepC; rw [words_def]
  simp only [b0]
  rw [eS]; unfold wordsBody
  rw [seqS c1, seqS c2, seqS c3]
  simp only [stepS, stepS1]
  rw [List.nil_append] at p
  rw [p]
  rfl
end Mine
end
section
set_option backward.eqns.nonrecursive false
set_option maxRecDepth 4000
namespace Mine
open PySem
theorem comp3 {P : PProg} {n : Nat} {elt : PE} {env : PEnv} {st : Store} {t : Nat} {fv : List Nat} (f : Nat → PV)
    (h : ∀ k : Nat, k < 3 → ∀ (e : PEnv), (∀ i ∈ fv, i ≠ t → e.get i = env.get i) → (ev P (n + 2)).E elt (e.set t (.int k)) st = some (f k, st)) :
    (ev P (n + 3)).E (.comp elt [(.one t, .bi .range [.cint 3], [])] fv) env st = some (.list [f 0, f 1, f 2], st) := by
  have := comp_pure (P := P) (n := n + 2) (src := .bi .range [.cint 3]) (elt := elt) (env := env) (st := st) (st1 := st) (st2 := st) (v := .rng 0 3 1) (items := [.int 0, .int 1, .int 2]) (t := t) (fv := fv) (fun x => match x with | .int k => f k.toNat | _ => .none)
    (by rw [eE]; simp only [stepE, eE, evList, range1_c]; exact rng0 3 st (by omega)) rfl (by show 3 ≤ 100000; decide) (by
      intro x hx e he
      simp only [List.mem_cons, List.not_mem_nil, or_false] at hx
      rcases hx with rfl | rfl | rfl
      · exact h 0 (by omega) e he
      · exact h 1 (by omega) e he
      · exact h 2 (by omega) e he)
  exact this
theorem pick_map {α β : Type} (g : α → β) (l : List α) (a b : Option Int) (c : Int) : Mine.pick (l.map g) a b c = (Mine.pick l a b c).map g := by
  unfold Mine.pick
  rw [List.length_map, List.map_filterMap]
  congr 1
  funext i
  simp
theorem cut_big {k n d : Nat} (h : n ≤ k) : cutAt n d (some (k : Int)) = (n : Int) := by
  show max 0 (min (if (k : Int) < 0 then _ else _) (n : Int)) = _
  rw [if_neg (Int.not_lt.mpr (Int.natCast_nonneg k)), Int.min_eq_right (Int.ofNat_le.mpr h), Int.max_eq_right (Int.natCast_nonneg n)]
theorem slice63 (ns : List Int) (h : ns.length ≤ 63) : pslice (.list (ns.map .int)) .none (.int 63) .none = some (.list (ns.map .int)) := by
  have hl : (ns.map PV.int).length ≤ 63 := (List.length_map ..).symm ▸ h
  have p : Mine.pick (ns.map PV.int) none (some 63) 1 = ns.map .int := (pick_at _ (a := 0) rfl (cut_big (k := 63) hl) (Nat.le_refl _)).trans List.take_length
  show (bif true && decide ((ns.map PV.int).length ≤ lim) then some (PV.list (Mine.pick (ns.map PV.int) none (some 63) 1)) else none) = _
  rw [p, decide_eq_true (Nat.le_trans hl (by decide))]; rfl
theorem step_len : ∀ n, n ≤ 63 → ∀ k, k < 4 → (Builtin.Str.strSliceIndices (some ((k : Nat) : Int)) none 4 n).length ≤ 1000 := by decide +kernel
theorem pick_len (ns : List Int) (h : ns.length ≤ 63) (k : Nat) (hk : k < 4) : (Mine.pick ns (some (k : Int)) none 4).length ≤ 1000 := by
  unfold Mine.pick
  exact Nat.le_trans (List.length_filterMap_le _ _) (step_len _ h k hk)
theorem slice4 (ns : List Int) (h : ns.length ≤ 63) (k : Nat) : pslice (.list (ns.map .int)) (.int k) .none (.int 4) = some (.list ((Mine.pick ns (some (k : Int)) none 4).map .int)) := by
  have l : ns.length ≤ 100000 := by omega
  simp [pslice, partO, pick_map, l, lim]
theorem sum_c {l : List Int} (st : Store) (h : l.length ≤ 1000) : pbi .sum [.list (l.map .int)] st = some (.int (sumL l), st) := by
  have h' : (l.map PV.int).length ≤ lim := by have : lim = 100000 := rfl; simp; omega
  show oO (intsOf (l.map PV.int)) _ = _
  rw [intsOf_map]
  exact bif_le h' ..
noncomputable def drawE1 : PE := .bin .Mod (.bin .Add (.idx (.list [(.cint 169), (.cint 523), (.cint 5), (.cint 3)]) (.var 50)) (.bi .sum [(.slice (.slice (.var 45) none (some (.cint 63)) none) (some (.var 50)) none (some (.cint 4)))])) (.bin .Pow (.cint 10) (.cint 9))
noncomputable def baseK (k : Nat) : Int := match k with
  | 0 => 169
  | 1 => 523
  | 2 => 5
  | _ => 3
noncomputable def numK (ns : List Int) (k : Nat) : Int := (baseK k + sumL (Mine.pick ns (some (k : Int)) none 4)) % 1000000000
theorem numK_bd (ns : List Int) (k : Nat) : 0 ≤ numK ns k ∧ numK ns k < 1000000000 := by unfold numK; omega
theorem draw1_c (n : Nat) (ns : List Int) (h : ns.length ≤ 63) (k : Nat) (hk : k < 4) (e : PEnv) (st : Store) (h45 : e.get 45 = some (.list (ns.map .int))) (h50 : e.get 50 = some (.int k)) : (ev L2.P (n + 6)).E drawE1 e st = some (.int (numK ns k), st) := by
  have b : (ev L2.P (n + 4)).E (.idx (.list [(.cint 169), (.cint 523), (.cint 5), (.cint 3)]) (.var 50)) e st = some (.int (baseK k), st) := by
    have l : (ev L2.P (n + 3)).E (.list [(.cint 169), (.cint 523), (.cint 5), (.cint 3)]) e st = some (.list [.int 169, .int 523, .int 5, .int 3], st) := rfl
    have v : (ev L2.P (n + 3)).E (.var 50) e st = some (.int k, st) := by rw [eE]; simp only [stepE, h50]
    rw [eE]; simp only [stepE, l, v, rd_list]
    have : k = 0 ∨ k = 1 ∨ k = 2 ∨ k = 3 := by omega
    rcases this with rfl | rfl | rfl | rfl <;> rfl
  have s : (ev L2.P (n + 4)).E (.bi .sum [(.slice (.slice (.var 45) none (some (.cint 63)) none) (some (.var 50)) none (some (.cint 4)))]) e st = some (.int (sumL (Mine.pick ns (some (k : Int)) none 4)), st) := by
    simp only [eE, stepE, evList, optE, h45, h50, rd_list, slice63 ns h, slice4 ns h, sum_c st (pick_len ns h k hk)]
  have p : (ev L2.P (n + 5)).E (.bin .Pow (.cint 10) (.cint 9)) e st = some (.int 1000000000, st) := rfl
  have a : (ev L2.P (n + 5)).E (.bin .Add (.idx (.list [(.cint 169), (.cint 523), (.cint 5), (.cint 3)]) (.var 50)) (.bi .sum [(.slice (.slice (.var 45) none (some (.cint 63)) none) (some (.var 50)) none (some (.cint 4)))])) e st = some (.int (baseK k + sumL (Mine.pick ns (some (k : Int)) none 4)), st) := by
    rw [eE]; simp only [stepE, b, s, rd_int, add_c]
  unfold drawE1
  rw [eE]; simp only [stepE, a, p, rd_int, mod_c (show (0 : Int) < 1000000000 by decide)]
  rfl
noncomputable def lettersL : List Nat := [102, 70, 105, 73, 115, 83, 116, 84]
noncomputable def digit (x : Int) (b k : Nat) : Nat := (x / ((b ^ k : Nat) : Int) % (b : Int)).toNat
theorem small9 {x : Int} (h : 0 ≤ x ∧ x < 1000000000) : small x = true := small_int' (by omega)
theorem digit_c (n : Nat) (x : Int) (hx : 0 ≤ x ∧ x < 1000000000) (v b k : Nat) (hb : b = 8 ∨ b = 9) (hk : k < 3) (e : PEnv) (st : Store) (hv : e.get v = some (.int x)) (h50 : e.get 50 = some (.int k)) : (ev L2.P (n + 4)).E (.bin .Mod (.bin .FloorDiv (.var v) (.bin .Pow (.cint b) (.var 50))) (.cint b)) e st = some (.int (digit x b k), st) := by
  have hk' : k = 0 ∨ k = 1 ∨ k = 2 := by omega
  have p : pbin .Pow (.int b) (.int k) = some (.int ((b ^ k : Nat) : Int)) := by
    rcases hb with rfl | rfl <;> rcases hk' with rfl | rfl | rfl <;> rfl
  have pp : 0 < ((b ^ k : Nat) : Int) := by rcases hb with rfl | rfl <;> rcases hk' with rfl | rfl | rfl <;> decide
  have ps : small ((b ^ k : Nat) : Int) = true := by rcases hb with rfl | rfl <;> rcases hk' with rfl | rfl | rfl <;> decide
  have pb : (0 : Int) < (b : Int) := by omega
  have d : x / ((b ^ k : Nat) : Int) % (b : Int) = (digit x b k : Int) := by
    unfold digit
    have := Int.emod_nonneg (x / ((b ^ k : Nat) : Int)) (show (b : Int) ≠ 0 by omega)
    omega
  simp only [eE, stepE, hv, h50, rd_int, p, floor_c (small9 hx) pp ps, mod_c pb, d]
theorem digit_lt (x : Int) (b k : Nat) (hb : 0 < b) : digit x b k < b := by
  unfold digit
  have := Int.emod_lt_of_pos (x / ((b ^ k : Nat) : Int)) (show (0 : Int) < b by omega)
  omega
noncomputable def letterOf (d : Nat) : Nat := lettersL.getD d 0
theorem letter_c {d : Nat} (h : d < 8) : pidx (.str lettersL) (.int d) = some (.str [letterOf d]) := by
  have : d = 0 ∨ d = 1 ∨ d = 2 ∨ d = 3 ∨ d = 4 ∨ d = 5 ∨ d = 6 ∨ d = 7 := by omega
  rcases this with rfl | rfl | rfl | rfl | rfl | rfl | rfl | rfl <;> rfl
theorem letter_lt {d : Nat} (h : d < 8) : letterOf d < 128 := by
  have : d = 0 ∨ d = 1 ∨ d = 2 ∨ d = 3 ∨ d = 4 ∨ d = 5 ∨ d = 6 ∨ d = 7 := by omega
  rcases this with rfl | rfl | rfl | rfl | rfl | rfl | rfl | rfl <;> decide
noncomputable def typedE : PE := .meth .join (.cstr []) [(.comp (.idx (.cstr [102, 70, 105, 73, 115, 83, 116, 84]) (.bin .Mod (.bin .FloorDiv (.var 46) (.bin .Pow (.cint 8) (.var 50))) (.cint 8))) [((.one 50), (.bi .range [(.cint 3)]), [])] [46])]
theorem typed_c (n : Nat) (x : Int) (hx : 0 ≤ x ∧ x < 1000000000) (env : PEnv) (st : Store) (h46 : env.get 46 = some (.int x)) : (ev L2.P (n + 8)).E typedE env st = some (.str [letterOf (digit x 8 0), letterOf (digit x 8 1), letterOf (digit x 8 2)], st) := by
  have c := comp3 (P := L2.P) (n := n + 4) (elt := .idx (.cstr [102, 70, 105, 73, 115, 83, 116, 84]) (.bin .Mod (.bin .FloorDiv (.var 46) (.bin .Pow (.cint 8) (.var 50))) (.cint 8))) (env := env) (st := st) (t := 50) (fv := [46]) (fun k => .str [letterOf (digit x 8 k)]) (by
    intro k hk e he
    have g46 : (e.set 50 (.int k)).get 46 = some (.int x) := by rw [get_set', if_neg (by decide), he 46 (by simp) (by decide), h46]
    have g50 : (e.set 50 (.int k)).get 50 = some (.int k) := by simp [get_set']
    have d := digit_c (n + 1) x hx 46 8 k (.inl rfl) hk _ st g46 g50
    have s : (ev L2.P (n + 5)).E (.cstr [102, 70, 105, 73, 115, 83, 116, 84]) (e.set 50 (.int k)) st = some (.str lettersL, st) := rfl
    have d' : (ev L2.P (n + 5)).E (.bin .Mod (.bin .FloorDiv (.var 46) (.bin .Pow (.cint 8) (.var 50))) (.cint 8)) (e.set 50 (.int k)) st = some (.int (digit x 8 k), st) := d
    rw [eE]; simp only [stepE, s, d', rd_str, letter_c (digit_lt x 8 k (by omega))])
  have o : meOk .join (.str []) st = true := rfl
  have s : (ev L2.P (n + 7)).E (.cstr []) env st = some (.str [], st) := rfl
  unfold typedE
  rw [eE]; simp only [stepE, s, o, cond_true, evList, c]
  rfl
noncomputable def figE : PE := .comp (.bin .Mod (.bin .FloorDiv (.var 47) (.bin .Pow (.cint 9) (.var 50))) (.cint 9)) [((.one 50), (.bi .range [(.cint 3)]), [])] [47]
theorem fig_c (n : Nat) (x : Int) (hx : 0 ≤ x ∧ x < 1000000000) (env : PEnv) (st : Store) (h47 : env.get 47 = some (.int x)) : (ev L2.P (n + 8)).E figE env st = some (.list [.int (digit x 9 0), .int (digit x 9 1), .int (digit x 9 2)], st) := by
  exact comp3 (P := L2.P) (n := n + 5) (elt := .bin .Mod (.bin .FloorDiv (.var 47) (.bin .Pow (.cint 9) (.var 50))) (.cint 9)) (env := env) (st := st) (t := 50) (fv := [47]) (fun k => .int (digit x 9 k)) (by
    intro k hk e he
    have g47 : (e.set 50 (.int k)).get 47 = some (.int x) := by rw [get_set', if_neg (by decide), he 47 (by simp) (by decide), h47]
    have g50 : (e.set 50 (.int k)).get 50 = some (.int k) := by simp [get_set']
    exact digit_c (n + 3) x hx 47 9 k (.inr rfl) hk _ st g47 g50)
noncomputable def codeOf (f : Nat) : Nat := [64256, 64257, 64261, 64262, 383, 119813, 119816, 119826, 119827].getD f 0
noncomputable def wordOf (f : Nat) : List Nat := [[102, 102], [102, 105], [115, 116], [115, 116], [115], [102], [105], [115], [116]].getD f []
noncomputable def codesV : PV := .list [.int 64256, .int 64257, .int 64261, .int 64262, .int 383, .int 119813, .int 119816, .int 119826, .int 119827]
noncomputable def wordsV : PV := .list [.str [102, 102], .str [102, 105], .str [115, 116], .str [115, 116], .str [115], .str [102], .str [105], .str [115], .str [116]]
theorem nine {P : Nat → Prop} (h0 : P 0) (h1 : P 1) (h2 : P 2) (h3 : P 3) (h4 : P 4) (h5 : P 5) (h6 : P 6) (h7 : P 7) (h8 : P 8) {f : Nat} (h : f < 9) : P f := by
  have : f = 0 ∨ f = 1 ∨ f = 2 ∨ f = 3 ∨ f = 4 ∨ f = 5 ∨ f = 6 ∨ f = 7 ∨ f = 8 := by omega
  rcases this with rfl | rfl | rfl | rfl | rfl | rfl | rfl | rfl | rfl <;> assumption
theorem code_c {f : Nat} (h : f < 9) : pidx codesV (.int f) = some (.int (codeOf f)) := nine (P := fun f => pidx codesV (.int f) = some (.int (codeOf f))) rfl rfl rfl rfl rfl rfl rfl rfl rfl h
theorem word_c {f : Nat} (h : f < 9) : pidx wordsV (.int f) = some (.str (wordOf f)) := nine (P := fun f => pidx wordsV (.int f) = some (.str (wordOf f))) rfl rfl rfl rfl rfl rfl rfl rfl rfl h
theorem code_ok {f : Nat} (h : f < 9) : Code (codeOf f) (wordOf f) := by
  refine nine (P := fun f => Code (codeOf f) (wordOf f)) ?_ ?_ ?_ ?_ ?_ ?_ ?_ ?_ ?_ h
  · exact ⟨by decide, by decide, b3_0, by decide⟩
  · exact ⟨by decide, by decide, b3_1, by decide⟩
  · exact ⟨by decide, by decide, b3_2, by decide⟩
  · exact ⟨by decide, by decide, b3_3, by decide⟩
  · exact ⟨by decide, by decide, b3_4, by decide⟩
  · exact ⟨by decide, by decide, b3_5, by decide⟩
  · exact ⟨by decide, by decide, b3_6, by decide⟩
  · exact ⟨by decide, by decide, b3_7, by decide⟩
  · exact ⟨by decide, by decide, b3_8, by decide⟩
theorem word_low {f : Nat} (h : f < 9) : ∀ c ∈ wordOf f, lowC c = c ∧ c < 128 := nine (P := fun f => ∀ c ∈ wordOf f, lowC c = c ∧ c < 128) (by decide) (by decide) (by decide) (by decide) (by decide) (by decide) (by decide) (by decide) (by decide) h
noncomputable def modN (x : Int) (a b : Nat) : Nat := (x / (a : Int) % (b : Int)).toNat
theorem modN_lt (x : Int) (a b : Nat) (hb : 0 < b) : modN x a b < b := by
  unfold modN
  have := Int.emod_lt_of_pos (x / (a : Int)) (show (0 : Int) < b by omega)
  omega
theorem modN_eq (x : Int) (a b : Nat) (hb : 0 < b) : x / (a : Int) % (b : Int) = (modN x a b : Int) := by
  unfold modN
  have := Int.emod_nonneg (x / (a : Int)) (show (b : Int) ≠ 0 by omega)
  omega
theorem modN_eq1 (x : Int) (b : Nat) (hb : 0 < b) : x % (b : Int) = (modN x 1 b : Int) := by
  have := modN_eq x 1 b hb
  simpa using this
noncomputable def m1Of (d : Nat) : List Nat := if d = 0 then [] else [126]
noncomputable def m2Of (d : Nat) : List Nat := if d = 0 then [] else if d = 1 then [126] else [42]
noncomputable def opOf (d : Nat) : Nat := if d = 0 then 124 else 43
theorem m1_c {d : Nat} (h : d < 2) : pidx (.list [.str [], .str [126]]) (.int d) = some (.str (m1Of d)) := by
  have : d = 0 ∨ d = 1 := by omega
  rcases this with rfl | rfl <;> rfl
theorem m2_c {d : Nat} (h : d < 3) : pidx (.list [.str [], .str [126], .str [42]]) (.int d) = some (.str (m2Of d)) := by
  have : d = 0 ∨ d = 1 ∨ d = 2 := by omega
  rcases this with rfl | rfl | rfl <;> rfl
theorem op_c {d : Nat} (h : d < 2) : pidx (.str [124, 43]) (.int d) = some (.str [opOf d]) := by
  have : d = 0 ∨ d = 1 := by omega
  rcases this with rfl | rfl <;> rfl
noncomputable def marksE : PE := .list [(.idx (.list [(.cstr []), (.cstr [126])]) (.bin .Mod (.var 48) (.cint 2))), (.idx (.list [(.cstr []), (.cstr [126]), (.cstr [42])]) (.bin .Mod (.bin .FloorDiv (.var 48) (.cint 2)) (.cint 3))), (.cstr [])]
theorem small_2 : small 2 = true := by decide
theorem small_6 : small 6 = true := by decide
theorem three_le (x y z : PV) : [x, y, z].length ≤ lim := by show 3 ≤ 100000; decide
theorem mod1_c (n v b : Nat) (hb : 0 < b) (x : Int) (env : PEnv) (st : Store) (hv : env.get v = some (.int x)) : (ev L2.P (n + 2)).E (.bin .Mod (.var v) (.cint b)) env st = some (.int (modN x 1 b), st) := by
  simp only [eE, stepE, hv, rd_int, mod_c (show (0 : Int) < b by omega), modN_eq1 x b hb]
theorem mod2_c (n v a b : Nat) (ha : 0 < a) (hs : small a = true) (hb : 0 < b) (x : Int) (hx : 0 ≤ x ∧ x < 1000000000) (env : PEnv) (st : Store) (hv : env.get v = some (.int x)) : (ev L2.P (n + 3)).E (.bin .Mod (.bin .FloorDiv (.var v) (.cint a)) (.cint b)) env st = some (.int (modN x a b), st) := by
  simp only [eE, stepE, hv, rd_int, floor_c (small9 hx) (show (0 : Int) < a by omega) hs, mod_c (show (0 : Int) < b by omega), modN_eq x a b hb]
theorem marks_c (n : Nat) (x : Int) (hx : 0 ≤ x ∧ x < 1000000000) (env : PEnv) (st : Store) (h48 : env.get 48 = some (.int x)) : (ev L2.P (n + 8)).E marksE env st = some (.list [.str (m1Of (modN x 1 2)), .str (m2Of (modN x 2 3)), .str []], st) := by
  have a := mod1_c (n + 4) 48 2 (by decide) x env st h48
  have b := mod2_c (n + 3) 48 2 3 (by decide) small_2 (by decide) x hx env st h48
  have i1 : (ev L2.P (n + 7)).E (.idx (.list [(.cstr []), (.cstr [126])]) (.bin .Mod (.var 48) (.cint 2))) env st = some (.str (m1Of (modN x 1 2)), st) := by
    have l : (ev L2.P (n + 6)).E (.list [(.cstr []), (.cstr [126])]) env st = some (.list [.str [], .str [126]], st) := rfl
    have a' : (ev L2.P (n + 6)).E (.bin .Mod (.var 48) (.cint 2)) env st = some (.int (modN x 1 2), st) := a
    rw [eE]; simp only [stepE, l, a', rd_list, m1_c (modN_lt x 1 2 (by decide))]
  have i2 : (ev L2.P (n + 7)).E (.idx (.list [(.cstr []), (.cstr [126]), (.cstr [42])]) (.bin .Mod (.bin .FloorDiv (.var 48) (.cint 2)) (.cint 3))) env st = some (.str (m2Of (modN x 2 3)), st) := by
    have l : (ev L2.P (n + 6)).E (.list [(.cstr []), (.cstr [126]), (.cstr [42])]) env st = some (.list [.str [], .str [126], .str [42]], st) := rfl
    have b' : (ev L2.P (n + 6)).E (.bin .Mod (.bin .FloorDiv (.var 48) (.cint 2)) (.cint 3)) env st = some (.int (modN x 2 3), st) := b
    rw [eE]; simp only [stepE, l, b', rd_list, m2_c (modN_lt x 2 3 (by decide))]
  have i3 : (ev L2.P (n + 7)).E (.cstr []) env st = some (.str [], st) := rfl
  unfold marksE
  rw [eE]; simp only [stepE, evList, i1, i2, i3, bif_le (three_le _ _ _)]
noncomputable def partsE : PE := .comp (.tuple [(.idx (.var 52) (.idx (.var 54) (.var 50))), (.idx (.var 53) (.idx (.var 54) (.var 50))), (.idx (.var 55) (.var 50))]) [((.one 50), (.bi .range [(.cint 3)]), [])] [52, 53, 54, 55]
theorem parts_c (n : Nat) (f : Nat → Nat) (hf : ∀ k, f k < 9) (m : Nat → List Nat) (env : PEnv) (st : Store) (h52 : env.get 52 = some codesV) (h53 : env.get 53 = some wordsV) (h54 : env.get 54 = some (.list [.int (f 0), .int (f 1), .int (f 2)])) (h55 : env.get 55 = some (.list [.str (m 0), .str (m 1), .str (m 2)])) :
    (ev L2.P (n + 8)).E partsE env st = some (.list [partV (codeOf (f 0)) (wordOf (f 0)) (m 0), partV (codeOf (f 1)) (wordOf (f 1)) (m 1), partV (codeOf (f 2)) (wordOf (f 2)) (m 2)], st) := by
  exact comp3 (P := L2.P) (n := n + 5) (elt := .tuple [(.idx (.var 52) (.idx (.var 54) (.var 50))), (.idx (.var 53) (.idx (.var 54) (.var 50))), (.idx (.var 55) (.var 50))]) (env := env) (st := st) (t := 50) (fv := [52, 53, 54, 55]) (fun k => partV (codeOf (f k)) (wordOf (f k)) (m k)) (by
    intro k hk e he
    have g52 := he 52 (by simp) (by decide)
    have g53 := he 53 (by simp) (by decide)
    have g54 := he 54 (by simp) (by decide)
    have g55 := he 55 (by simp) (by decide)
    rw [h52] at g52; rw [h53] at g53; rw [h54] at g54; rw [h55] at g55
    have p1 : pidx (.list [.int (f 0), .int (f 1), .int (f 2)]) (.int k) = some (.int (f k)) := by
      have : k = 0 ∨ k = 1 ∨ k = 2 := by omega
      rcases this with rfl | rfl | rfl <;> rfl
    have p2 : pidx (.list [.str (m 0), .str (m 1), .str (m 2)]) (.int k) = some (.str (m k)) := by
      have : k = 0 ∨ k = 1 ∨ k = 2 := by omega
      rcases this with rfl | rfl | rfl <;> rfl
    have r1 : rd st codesV = codesV := rfl
    have r2 : rd st wordsV = wordsV := rfl
    simp only [eE, stepE, evList, get_set', g52, g53, g54, g55, rd_list, p1, p2, r1, r2, code_c (hf k), word_c (hf k), bif_le (three_le _ _ _), Nat.reduceEqDiff, ↓reduceIte]
    rfl)
noncomputable def drawBody : List PS :=
      .assignTup [46, 47, 48, 49] (.comp drawE1 [((.one 50), (.bi .range [(.cint 4)]), [])] [45]) ::
      .assign 51 typedE ::
      .assign 52 (.list [(.cint 64256), (.cint 64257), (.cint 64261), (.cint 64262), (.cint 383), (.cint 119813), (.cint 119816), (.cint 119826), (.cint 119827)]) ::
      .assign 53 (.list [(.cstr [102, 102]), (.cstr [102, 105]), (.cstr [115, 116]), (.cstr [115, 116]), (.cstr [115]), (.cstr [102]), (.cstr [105]), (.cstr [115]), (.cstr [116])]) ::
      .assign 54 figE ::
      .assign 55 marksE ::
      .assign 56 partsE ::
      .ret (.tuple [(.var 51), (.var 56), (.bin .Mod (.bin .FloorDiv (.var 48) (.cint 6)) (.cint 2)), (.idx (.cstr [124, 43]) (.bin .Mod (.var 49) (.cint 2))), (.idx (.cstr [124, 43]) (.bin .Mod (.bin .FloorDiv (.var 49) (.cint 2)) (.cint 2)))]) :: []
theorem draw_def : L2.P.F 6 = some ([45], drawBody) := by rfl
noncomputable def typedOf (ns : List Int) : List Nat := [letterOf (digit (numK ns 0) 8 0), letterOf (digit (numK ns 0) 8 1), letterOf (digit (numK ns 0) 8 2)]
noncomputable def fOf (ns : List Int) (k : Nat) : Nat := digit (numK ns 1) 9 k
noncomputable def mOf (ns : List Int) (k : Nat) : List Nat := if k = 0 then m1Of (modN (numK ns 2) 1 2) else if k = 1 then m2Of (modN (numK ns 2) 2 3) else []
theorem five_le (x y z u v : PV) : [x, y, z, u, v].length ≤ lim := by show 5 ≤ 100000; decide
theorem draw_c (n : Nat) (ns : List Int) (h : ns.length ≤ 63) (st : Store) : (ev L2.P (n + 12)).C 6 [.list (ns.map .int)] st =
    some (.tuple [.str (typedOf ns), .list [partV (codeOf (fOf ns 0)) (wordOf (fOf ns 0)) (mOf ns 0), partV (codeOf (fOf ns 1)) (wordOf (fOf ns 1)) (mOf ns 1), partV (codeOf (fOf ns 2)) (wordOf (fOf ns 2)) (mOf ns 2)], .int (modN (numK ns 2) 6 2), .str [opOf (modN (numK ns 3) 1 2)], .str [opOf (modN (numK ns 3) 2 2)]], st) := by
  have b0 : bindAll [45] [.list (ns.map .int)] [] = some (PEnv.set [] 45 (.list (ns.map .int))) := rfl
  have h45 : PEnv.get (PEnv.set [] 45 (.list (ns.map .int))) 45 = some (.list (ns.map .int)) := rfl
  rw [eC]; unfold stepC; rw [draw_def]
  simp only [b0]
  generalize PEnv.set [] 45 (.list (ns.map .int)) = E0 at *
  have e1 := comp4 (P := L2.P) (n := n + 7) (elt := drawE1) (env := E0) (st := st) (t := 50) (fv := [45]) (fun k => .int (numK ns k)) (by
    intro k hk e he
    exact draw1_c (n + 3) ns h k hk _ st (by rw [get_set', if_neg (by decide), he 45 (by simp) (by decide), h45]) (by simp [get_set']))
  have c1 : stepS1 (ev L2.P (n + 10)).E (ev L2.P (n + 10)).S (.assignTup [46, 47, 48, 49] (.comp drawE1 [((.one 50), (.bi .range [(.cint 4)]), [])] [45])) E0 st = some (.next, (((E0.set 46 (.int (numK ns 0))).set 47 (.int (numK ns 1))).set 48 (.int (numK ns 2))).set 49 (.int (numK ns 3)), st) :=
    assignTup_c e1 (vs := [.int (numK ns 0), .int (numK ns 1), .int (numK ns 2), .int (numK ns 3)]) rfl rfl
  have g46 : ((((E0.set 46 (.int (numK ns 0))).set 47 (.int (numK ns 1))).set 48 (.int (numK ns 2))).set 49 (.int (numK ns 3))).get 46 = some (.int (numK ns 0)) := by simp [get_set']
  have g47 : ((((E0.set 46 (.int (numK ns 0))).set 47 (.int (numK ns 1))).set 48 (.int (numK ns 2))).set 49 (.int (numK ns 3))).get 47 = some (.int (numK ns 1)) := by simp [get_set']
  have g48 : ((((E0.set 46 (.int (numK ns 0))).set 47 (.int (numK ns 1))).set 48 (.int (numK ns 2))).set 49 (.int (numK ns 3))).get 48 = some (.int (numK ns 2)) := by simp [get_set']
  have g49 : ((((E0.set 46 (.int (numK ns 0))).set 47 (.int (numK ns 1))).set 48 (.int (numK ns 2))).set 49 (.int (numK ns 3))).get 49 = some (.int (numK ns 3)) := by simp [get_set']
  generalize (((E0.set 46 (.int (numK ns 0))).set 47 (.int (numK ns 1))).set 48 (.int (numK ns 2))).set 49 (.int (numK ns 3)) = E1 at *
  have c2 := assign_c (recS := (ev L2.P (n + 10)).S) (t := 51) (typed_c (n + 2) (numK ns 0) (numK_bd ns 0) E1 st g46)
  have c3 : stepS1 (ev L2.P (n + 10)).E (ev L2.P (n + 10)).S (.assign 52 (.list [(.cint 64256), (.cint 64257), (.cint 64261), (.cint 64262), (.cint 383), (.cint 119813), (.cint 119816), (.cint 119826), (.cint 119827)])) (E1.set 51 (.str (typedOf ns))) st = some (.next, (E1.set 51 (.str (typedOf ns))).set 52 codesV, st) := assign_c rfl
  have c4 : stepS1 (ev L2.P (n + 10)).E (ev L2.P (n + 10)).S (.assign 53 (.list [(.cstr [102, 102]), (.cstr [102, 105]), (.cstr [115, 116]), (.cstr [115, 116]), (.cstr [115]), (.cstr [102]), (.cstr [105]), (.cstr [115]), (.cstr [116])])) ((E1.set 51 (.str (typedOf ns))).set 52 codesV) st = some (.next, ((E1.set 51 (.str (typedOf ns))).set 52 codesV).set 53 wordsV, st) := assign_c rfl
  have c5 := assign_c (recS := (ev L2.P (n + 10)).S) (t := 54) (fig_c (n + 2) (numK ns 1) (numK_bd ns 1) (((E1.set 51 (.str (typedOf ns))).set 52 codesV).set 53 wordsV) st (by simp [get_set', g47]))
  have c6 := assign_c (recS := (ev L2.P (n + 10)).S) (t := 55) (marks_c (n + 2) (numK ns 2) (numK_bd ns 2) ((((E1.set 51 (.str (typedOf ns))).set 52 codesV).set 53 wordsV).set 54 (.list [.int (digit (numK ns 1) 9 0), .int (digit (numK ns 1) 9 1), .int (digit (numK ns 1) 9 2)])) st (by simp [get_set', g48]))
  have pc := parts_c (n + 2) (fOf ns) (fun k => digit_lt _ 9 k (by decide)) (mOf ns) (((((E1.set 51 (.str (typedOf ns))).set 52 codesV).set 53 wordsV).set 54 (.list [.int (digit (numK ns 1) 9 0), .int (digit (numK ns 1) 9 1), .int (digit (numK ns 1) 9 2)])).set 55 (.list [.str (m1Of (modN (numK ns 2) 1 2)), .str (m2Of (modN (numK ns 2) 2 3)), .str []])) st (by simp [get_set']) (by simp [get_set']) (by simp [get_set', fOf]) (by simp [get_set', mOf])
  have c7 := assign_c (recS := (ev L2.P (n + 10)).S) (t := 56) pc
  have q48 : ((((((E1.set 51 (.str (typedOf ns))).set 52 codesV).set 53 wordsV).set 54 (.list [.int (digit (numK ns 1) 9 0), .int (digit (numK ns 1) 9 1), .int (digit (numK ns 1) 9 2)])).set 55 (.list [.str (m1Of (modN (numK ns 2) 1 2)), .str (m2Of (modN (numK ns 2) 2 3)), .str []])).set 56 (.list [partV (codeOf (fOf ns 0)) (wordOf (fOf ns 0)) (mOf ns 0), partV (codeOf (fOf ns 1)) (wordOf (fOf ns 1)) (mOf ns 1), partV (codeOf (fOf ns 2)) (wordOf (fOf ns 2)) (mOf ns 2)])).get 48 = some (.int (numK ns 2)) := by simp [get_set', g48]
  have q49 : ((((((E1.set 51 (.str (typedOf ns))).set 52 codesV).set 53 wordsV).set 54 (.list [.int (digit (numK ns 1) 9 0), .int (digit (numK ns 1) 9 1), .int (digit (numK ns 1) 9 2)])).set 55 (.list [.str (m1Of (modN (numK ns 2) 1 2)), .str (m2Of (modN (numK ns 2) 2 3)), .str []])).set 56 (.list [partV (codeOf (fOf ns 0)) (wordOf (fOf ns 0)) (mOf ns 0), partV (codeOf (fOf ns 1)) (wordOf (fOf ns 1)) (mOf ns 1), partV (codeOf (fOf ns 2)) (wordOf (fOf ns 2)) (mOf ns 2)])).get 49 = some (.int (numK ns 3)) := by simp [get_set', g49]
  have q51 : ((((((E1.set 51 (.str (typedOf ns))).set 52 codesV).set 53 wordsV).set 54 (.list [.int (digit (numK ns 1) 9 0), .int (digit (numK ns 1) 9 1), .int (digit (numK ns 1) 9 2)])).set 55 (.list [.str (m1Of (modN (numK ns 2) 1 2)), .str (m2Of (modN (numK ns 2) 2 3)), .str []])).set 56 (.list [partV (codeOf (fOf ns 0)) (wordOf (fOf ns 0)) (mOf ns 0), partV (codeOf (fOf ns 1)) (wordOf (fOf ns 1)) (mOf ns 1), partV (codeOf (fOf ns 2)) (wordOf (fOf ns 2)) (mOf ns 2)])).get 51 = some (.str (typedOf ns)) := by simp [get_set']
  have q56 : ((((((E1.set 51 (.str (typedOf ns))).set 52 codesV).set 53 wordsV).set 54 (.list [.int (digit (numK ns 1) 9 0), .int (digit (numK ns 1) 9 1), .int (digit (numK ns 1) 9 2)])).set 55 (.list [.str (m1Of (modN (numK ns 2) 1 2)), .str (m2Of (modN (numK ns 2) 2 3)), .str []])).set 56 (.list [partV (codeOf (fOf ns 0)) (wordOf (fOf ns 0)) (mOf ns 0), partV (codeOf (fOf ns 1)) (wordOf (fOf ns 1)) (mOf ns 1), partV (codeOf (fOf ns 2)) (wordOf (fOf ns 2)) (mOf ns 2)])).get 56 = some (.list [partV (codeOf (fOf ns 0)) (wordOf (fOf ns 0)) (mOf ns 0), partV (codeOf (fOf ns 1)) (wordOf (fOf ns 1)) (mOf ns 1), partV (codeOf (fOf ns 2)) (wordOf (fOf ns 2)) (mOf ns 2)]) := by simp [get_set']
  rw [eS]
  unfold drawBody
  have t0 : typedOf ns = [letterOf (digit (numK ns 0) 8 0), letterOf (digit (numK ns 0) 8 1), letterOf (digit (numK ns 0) 8 2)] := rfl
  rw [← t0] at c2
  rw [seqS c1, seqS c2, seqS c3, seqS c4, seqS c5, seqS c6, seqS c7]
  generalize ((((((E1.set 51 (.str (typedOf ns))).set 52 codesV).set 53 wordsV).set 54 (.list [.int (digit (numK ns 1) 9 0), .int (digit (numK ns 1) 9 1), .int (digit (numK ns 1) 9 2)])).set 55 (.list [.str (m1Of (modN (numK ns 2) 1 2)), .str (m2Of (modN (numK ns 2) 2 3)), .str []])).set 56 (.list [partV (codeOf (fOf ns 0)) (wordOf (fOf ns 0)) (mOf ns 0), partV (codeOf (fOf ns 1)) (wordOf (fOf ns 1)) (mOf ns 1), partV (codeOf (fOf ns 2)) (wordOf (fOf ns 2)) (mOf ns 2)])) = E2 at *
  have v1 : (ev L2.P (n + 9)).E (.var 51) E2 st = some (.str (typedOf ns), st) := by rw [eE]; simp only [stepE, q51]
  have v2 : (ev L2.P (n + 9)).E (.var 56) E2 st = some (.list [partV (codeOf (fOf ns 0)) (wordOf (fOf ns 0)) (mOf ns 0), partV (codeOf (fOf ns 1)) (wordOf (fOf ns 1)) (mOf ns 1), partV (codeOf (fOf ns 2)) (wordOf (fOf ns 2)) (mOf ns 2)], st) := by rw [eE]; simp only [stepE, q56]
  have v3 : (ev L2.P (n + 9)).E (.bin .Mod (.bin .FloorDiv (.var 48) (.cint 6)) (.cint 2)) E2 st = some (.int (modN (numK ns 2) 6 2), st) := mod2_c (n + 6) 48 6 2 (by decide) small_6 (by decide) _ (numK_bd ns 2) E2 st q48
  have k1 : (ev L2.P (n + 8)).E (.bin .Mod (.var 49) (.cint 2)) E2 st = some (.int (modN (numK ns 3) 1 2), st) := mod1_c (n + 6) 49 2 (by decide) _ E2 st q49
  have k2 : (ev L2.P (n + 8)).E (.bin .Mod (.bin .FloorDiv (.var 49) (.cint 2)) (.cint 2)) E2 st = some (.int (modN (numK ns 3) 2 2), st) := mod2_c (n + 5) 49 2 2 (by decide) small_2 (by decide) _ (numK_bd ns 3) E2 st q49
  have s0 : (ev L2.P (n + 8)).E (.cstr [124, 43]) E2 st = some (.str [124, 43], st) := rfl
  have v4 : (ev L2.P (n + 9)).E (.idx (.cstr [124, 43]) (.bin .Mod (.var 49) (.cint 2))) E2 st = some (.str [opOf (modN (numK ns 3) 1 2)], st) := by
    rw [eE]; simp only [stepE, s0, k1, rd_str, op_c (modN_lt (numK ns 3) 1 2 (by decide))]
  have v5 : (ev L2.P (n + 9)).E (.idx (.cstr [124, 43]) (.bin .Mod (.bin .FloorDiv (.var 49) (.cint 2)) (.cint 2))) E2 st = some (.str [opOf (modN (numK ns 3) 2 2)], st) := by
    rw [eE]; simp only [stepE, s0, k2, rd_str, op_c (modN_lt (numK ns 3) 2 2 (by decide))]
  simp only [stepS, stepS1]
  rw [eE]
  simp only [stepE, evList, v1, v2, v3, v4, v5, bif_le (five_le _ _ _ _ _), freeze]
end Mine
end
section
set_option backward.eqns.nonrecursive false
set_option maxRecDepth 4000
namespace Mine
open PySem
noncomputable def tapeB : List PS := [.expr (.meth .extend (.var 82) [(.call 8 [(.var 65)])])]
theorem octs_len (m : Nat) : (octs m).length ≤ 3 := by unfold octs; split <;> (try split) <;> simp
theorem tape_loop (n : Nat) : ∀ (ms : List Nat) (X : List PV) (rest : Store) (env : PEnv), env.get 82 = some (.ref 0) → (∀ m ∈ ms, m < 262144) → X.length + 3 * ms.length ≤ 1000 →
    ∃ env' rest', forN ((ev L2.P (n + 16)).S tapeB) (.one 65) (natV ms) env (.list X :: rest) = some (.next, env', .list (X ++ tapeOf ms) :: rest') ∧ ∀ i, i ≠ 65 → env'.get i = env.get i
  | [], X, rest, env, h82, hm, hl => ⟨env, rest, by simp [natV, forN, tapeOf], fun _ _ => rfl⟩
  | m :: ms, X, rest, env, h82, hm, hl => by
    have oc := octets_c (n + 1) m (.list X :: rest) (hm m List.mem_cons_self)
    have g0 : (PObj.list X :: (rest ++ [PObj.dead]))[0]? = some (.list X) := rfl
    have ol := octs_len m
    have ex := extend_c (ys := natV (octs m)) g0 (by have : lim = 100000 := rfl; simp [natV] at hl ⊢; omega)
    have h82' : (env.set 65 (.int m)).get 82 = some (.ref 0) := by simp [get_set', h82]
    have g1 : (PObj.list X :: rest)[0]? = some (.list X) := rfl
    have s : (ev L2.P (n + 16)).S tapeB (env.set 65 (.int m)) (.list X :: rest) = some (.next, env.set 65 (.int m), .list (X ++ natV (octs m)) :: (rest ++ [.dead])) := by
      refine oneS (n := n + 15) (expr_c ?_)
      have v : (ev L2.P (n + 14)).E (.var 82) (env.set 65 (.int m)) (.list X :: rest) = some (.ref 0, .list X :: rest) := by rw [eE]; simp only [stepE, h82']
      have a : (ev L2.P (n + 14)).E (.call 8 [(.var 65)]) (env.set 65 (.int m)) (.list X :: rest) = some (.list (natV (octs m)), .list X :: (rest ++ [.dead])) := by
        simp only [eE, stepE, evList, get_set', oc, ↓reduceIte]; rfl
      rw [eE]
      simp only [stepE, v, (ok_list g1).2.2.2, cond_true, evList, a, ex]
      rfl
    obtain ⟨env', rest', h1, h2⟩ := tape_loop n ms (X ++ natV (octs m)) (rest ++ [.dead]) (env.set 65 (.int m)) h82' (fun k hk => hm k (List.mem_cons_of_mem _ hk)) (by simp [natV] at hl ⊢; omega)
    refine ⟨env', rest', ?_, fun i hi => by rw [h2 i hi, get_set', if_neg hi]⟩
    have : natV (m :: ms) = .int m :: natV ms := rfl
    rw [this, forN]
    simp only [bindTgt, s]
    rw [h1]; simp [tapeOf]
noncomputable def leastF (x : List Nat) : List (List Nat) → Int → Int
  | [], l => l
  | u :: U, l => leastF x U (min l (ed x u : Nat))
theorem leastF_le (x : List Nat) : ∀ (U : List (List Nat)) (l : Int), leastF x U l ≤ l ∧ ∀ u ∈ U, leastF x U l ≤ (ed x u : Nat)
  | [], l => ⟨Int.le_refl _, by simp⟩
  | u :: U, l => by
    obtain ⟨h1, h2⟩ := leastF_le x U (min l (ed x u : Nat))
    refine ⟨by unfold leastF; omega, fun v hv => ?_⟩
    rcases List.mem_cons.mp hv with rfl | hv
    · unfold leastF; omega
    · exact h2 v hv
theorem leastF_ex (x : List Nat) : ∀ (U : List (List Nat)) (l : Int), leastF x U l = l ∨ ∃ u ∈ U, leastF x U l = (ed x u : Nat)
  | [], l => .inl rfl
  | u :: U, l => by
    rcases leastF_ex x U (min l (ed x u : Nat)) with h | ⟨v, hv, h⟩
    · by_cases hm : l ≤ (ed x u : Nat)
      · exact .inl (by unfold leastF; omega)
      · exact .inr ⟨u, List.mem_cons_self, by unfold leastF; omega⟩
    · exact .inr ⟨v, List.mem_cons_of_mem _ hv, h⟩
noncomputable def Asc (U : List (List Nat)) : Prop := ∀ u ∈ U, u.length ≤ 40 ∧ ∀ c ∈ u, c < 128
noncomputable def askB : List PS := [.assign 86 (.bi .min [(.var 86), (.call 1 [(.slice (.var 83) none (some (.var 85)) none), (.var 61), (.var 86)])])]
theorem ask_in (n : Nat) (T : List Nat) (hT : T.length = 3) (ha : ∀ c ∈ T, c < 128) (k : Nat) (hk : k ≤ 3) : ∀ (U : List (List Nat)) (l : Int) (env : PEnv) (st : Store), Asc U → env.get 83 = some (.str T) → env.get 85 = some (.int k) → env.get 86 = some (.int l) →
    ∃ env' rows, forN ((ev L2.P (n + 27)).S askB) (.one 61) (U.map .str) env st = some (.next, env', st ++ rows) ∧ env'.get 86 = some (.int (leastF (T.take k) U l)) ∧ ∀ i, i ≠ 61 → i ≠ 86 → env'.get i = env.get i
  | [], l, env, st, hU, h83, h85, h86 => ⟨env, [], by simp [forN], h86, fun _ _ _ => rfl⟩
  | u :: U, l, env, st, hU, h83, h85, h86 => by
    obtain ⟨hul, hua⟩ := hU u List.mem_cons_self
    obtain ⟨r, rows, lc, hr⟩ := lev_c n (T.take k) u l st (by simp; omega) hul (fun c hc => ha c (List.mem_of_mem_take hc)) hua
    have sl := slice_to T (k := k) (by omega) (by rw [hT]; show 3 ≤ 100000; decide)
    have hm : min l r = min l (ed (T.take k) u : Nat) := by omega
    have s : (ev L2.P (n + 27)).S askB (env.set 61 (.str u)) st = some (.next, (env.set 61 (.str u)).set 86 (.int (min l (ed (T.take k) u : Nat))), st ++ rows) := by
      refine oneS (n := n + 26) (assign_c ?_)
      simp only [eE, stepE, evList, optE, get_set', h83, h85, h86, rd_str, sl, lc, min2_c, hm, Nat.reduceEqDiff, ↓reduceIte]
    obtain ⟨env', rows', h1, h2, h3⟩ := ask_in n T hT ha k hk U (min l (ed (T.take k) u : Nat)) ((env.set 61 (.str u)).set 86 (.int (min l (ed (T.take k) u : Nat)))) (st ++ rows) (fun v hv => hU v (List.mem_cons_of_mem _ hv)) (by simp [get_set', h83]) (by simp [get_set', h85]) (by simp only [get_set', ↓reduceIte])
    refine ⟨env', rows ++ rows', ?_, h2, fun i i1 i2 => by rw [h3 i i1 i2, get_set', if_neg i2, get_set', if_neg i1]⟩
    rw [List.map_cons, forN]
    simp only [bindTgt, s]
    rw [h1, List.append_assoc]
noncomputable def mrowL (f : Nat → Int) : PObj := .list [.int (f 0), .int (f 1), .int (f 2), .int (f 3)]
noncomputable def askBody : List PS := [
          .assign 86 (.cint 99),
          .forS (.one 61) (.var 53) askB,
          .expr (.meth .append (.var 84) [(.var 86)])]
theorem ask_step (n : Nat) (T : List Nat) (hT : T.length = 3) (ha : ∀ c ∈ T, c < 128) (k : Nat) (hk : k ≤ 3) (U : List (List Nat)) (hU : Asc U) (hUl : U.length ≤ 100) (A : List PV) (hA : A.length ≤ 10) (p : Nat) (env : PEnv) (st : Store) (h53 : env.get 53 = some (strV U)) (h83 : env.get 83 = some (.str T)) (h84 : env.get 84 = some (.ref p)) (hp : st[p]? = some (.list A)) :
    ∃ env' st', (ev L2.P (n + 28)).S askBody (env.set 85 (.int k)) st = some (.next, env', st') ∧ st'[p]? = some (.list (A ++ [.int (leastF (T.take k) U 99)])) ∧ env'.get 86 = some (.int (leastF (T.take k) U 99)) ∧ ∀ i, i ≠ 61 → i ≠ 86 → i ≠ 85 → env'.get i = env.get i := by
  obtain ⟨env', rows, h1, h2, h3⟩ := ask_in n T hT ha k hk U 99 ((env.set 85 (.int k)).set 86 (.int 99)) st hU (by simp [get_set', h83]) (by simp [get_set']) (by simp [get_set'])
  have hpl := (List.getElem?_eq_some_iff.mp hp).1
  have hp' : (st ++ rows)[p]? = some (.list A) := by rw [List.getElem?_append_left hpl]; exact hp
  refine ⟨env', (st ++ rows).set p (.list (A ++ [.int (leastF (T.take k) U 99)])), ?_, by rw [List.getElem?_set]; simp; omega, h2, fun i i1 i2 i3 => by rw [h3 i i1 i2, get_set', if_neg i2, get_set', if_neg i3]⟩
  have c1 : stepS1 (ev L2.P (n + 27)).E (ev L2.P (n + 27)).S (.assign 86 (.cint 99)) (env.set 85 (.int k)) st = some (.next, (env.set 85 (.int k)).set 86 (.int 99), st) := assign_c rfl
  have c2 : stepS1 (ev L2.P (n + 27)).E (ev L2.P (n + 27)).S (.forS (.one 61) (.var 53) askB) ((env.set 85 (.int k)).set 86 (.int 99)) st = some (.next, env', st ++ rows) := by
    have v : (ev L2.P (n + 27)).E (.var 53) ((env.set 85 (.int k)).set 86 (.int 99)) st = some (strV U, st) := by
      have : ((env.set 85 (.int k)).set 86 (.int 99)).get 53 = some (strV U) := by simp [get_set', h53]
      rw [eE]; simp only [stepE, this]
    have it : itemsOf st (strV U) = some (U.map .str, st) := by
      have : (U.map PV.str).length ≤ lim := by have : lim = 100000 := rfl; simp; omega
      show (bif decide ((U.map PV.str).length ≤ lim) then _ else _) = _
      rw [bif_le this]
    simp only [stepS1, v, it]
    exact h1
  have h84' : env'.get 84 = some (.ref p) := by rw [h3 84 (by decide) (by decide)]; simp [get_set', h84]
  have v84 : (ev L2.P (n + 26)).E (.var 84) env' (st ++ rows) = some (.ref p, st ++ rows) := by rw [eE]; simp only [stepE, h84']
  have v86 : (ev L2.P (n + 26)).E (.var 86) env' (st ++ rows) = some (.int (leastF (T.take k) U 99), st ++ rows) := by rw [eE]; simp only [stepE, h2]
  have c3 : stepS1 (ev L2.P (n + 27)).E (ev L2.P (n + 27)).S (.expr (.meth .append (.var 84) [(.var 86)])) env' (st ++ rows) = some (.next, env', (st ++ rows).set p (.list (A ++ [.int (leastF (T.take k) U 99)]))) := expr_c (by
    rw [eE]; simp only [stepE, v84, (ok_list hp').2.1, cond_true, evList, v86, append_c hp' _ (lim' (show A.length ≤ 100 by omega))])
  rw [eS]
  unfold askBody
  rw [seqS c1, seqS c2, seqS c3]
  rfl
theorem ask_all (n : Nat) (T : List Nat) (hT : T.length = 3) (ha : ∀ c ∈ T, c < 128) (U : List (List Nat)) (hU : Asc U) (hUl : U.length ≤ 100) (p : Nat) (env : PEnv) (st : Store) (h53 : env.get 53 = some (strV U)) (h83 : env.get 83 = some (.str T)) (h84 : env.get 84 = some (.ref p)) (hp : st[p]? = some (.list [])) :
    ∃ env' st', forN ((ev L2.P (n + 28)).S askBody) (.one 85) [.int 0, .int 1, .int 2, .int 3] env st = some (.next, env', st') ∧ st'[p]? = some (mrowL (fun k => leastF (T.take k) U 99)) ∧ env'.get 86 = some (.int (leastF (T.take 3) U 99)) ∧ ∀ i, i ≠ 61 → i ≠ 86 → i ≠ 85 → env'.get i = env.get i := by
  obtain ⟨e1, s1, a1, b1, c1, d1⟩ := ask_step n T hT ha 0 (by omega) U hU hUl [] (by simp) p env st h53 h83 h84 hp
  obtain ⟨e2, s2, a2, b2, c2, d2⟩ := ask_step n T hT ha 1 (by omega) U hU hUl _ (by simp) p e1 s1 (by rw [d1 _ (by decide) (by decide) (by decide), h53]) (by rw [d1 _ (by decide) (by decide) (by decide), h83]) (by rw [d1 _ (by decide) (by decide) (by decide), h84]) b1
  obtain ⟨e3, s3, a3, b3, c3, d3⟩ := ask_step n T hT ha 2 (by omega) U hU hUl _ (by simp) p e2 s2 (by rw [d2 _ (by decide) (by decide) (by decide), d1 _ (by decide) (by decide) (by decide), h53]) (by rw [d2 _ (by decide) (by decide) (by decide), d1 _ (by decide) (by decide) (by decide), h83]) (by rw [d2 _ (by decide) (by decide) (by decide), d1 _ (by decide) (by decide) (by decide), h84]) b2
  obtain ⟨e4, s4, a4, b4, c4, d4⟩ := ask_step n T hT ha 3 (by omega) U hU hUl _ (by simp) p e3 s3 (by rw [d3 _ (by decide) (by decide) (by decide), d2 _ (by decide) (by decide) (by decide), d1 _ (by decide) (by decide) (by decide), h53]) (by rw [d3 _ (by decide) (by decide) (by decide), d2 _ (by decide) (by decide) (by decide), d1 _ (by decide) (by decide) (by decide), h83]) (by rw [d3 _ (by decide) (by decide) (by decide), d2 _ (by decide) (by decide) (by decide), d1 _ (by decide) (by decide) (by decide), h84]) b3
  refine ⟨e4, s4, ?_, b4, c4, fun i i1 i2 i3 => by rw [d4 i i1 i2 i3, d3 i i1 i2 i3, d2 i i1 i2 i3, d1 i i1 i2 i3]⟩
  have a1' : (ev L2.P (n + 28)).S askBody (env.set 85 (.int 0)) st = some (.next, e1, s1) := a1
  have a2' : (ev L2.P (n + 28)).S askBody (e1.set 85 (.int 1)) s1 = some (.next, e2, s2) := a2
  have a3' : (ev L2.P (n + 28)).S askBody (e2.set 85 (.int 2)) s2 = some (.next, e3, s3) := a3
  have a4' : (ev L2.P (n + 28)).S askBody (e3.set 85 (.int 3)) s3 = some (.next, e4, s4) := a4
  simp only [forN, bindTgt, a1', a2', a3', a4']
end Mine
end
section
set_option backward.eqns.nonrecursive false
set_option maxRecDepth 4000
namespace Mine
open PySem
theorem F2.ints {R : List Nat → Int → Prop} : ∀ {U : List (List Nat)} {vs : List PV}, F2 (fun x v => ∃ u r, x = .str u ∧ v = .int r ∧ R u r) (U.map PV.str) vs → ∃ rs : List Int, vs = rs.map .int ∧ rs.length = U.length ∧ (∀ r ∈ rs, ∃ u ∈ U, R u r) ∧ ∀ u ∈ U, ∃ r ∈ rs, R u r
  | [], _, .nil => ⟨[], rfl, rfl, by simp, by simp⟩
  | u :: U, _, .cons ⟨u', r, e1, e2, h⟩ t => by
    cases e1
    obtain ⟨rs, g1, g2, g3, g4⟩ := F2.ints t
    refine ⟨r :: rs, by rw [e2, g1]; rfl, by simp [g2], fun x hx => ?_, fun v hv => ?_⟩
    · rcases List.mem_cons.mp hx with rfl | hx
      · exact ⟨u, List.mem_cons_self, h⟩
      · obtain ⟨w, hw, k⟩ := g3 x hx; exact ⟨w, List.mem_cons_of_mem _ hw, k⟩
    · rcases List.mem_cons.mp hv with rfl | hv
      · exact ⟨r, List.mem_cons_self, h⟩
      · obtain ⟨x, hx, k⟩ := g4 v hv; exact ⟨x, List.mem_cons_of_mem _ hx, k⟩
theorem minL_ge : ∀ (rs : List Int) (l : Int), rs ≠ [] → (∀ r ∈ rs, l ≤ r) → l ≤ minL rs
  | [], l, h, _ => absurd rfl h
  | [a], l, _, h => by simpa [minL] using h a (by simp)
  | a :: b :: rs, l, _, h => by
    have := minL_ge (b :: rs) l (by simp) (fun r hr => h r (List.mem_cons_of_mem _ hr))
    have := h a List.mem_cons_self
    rw [minL_cons (by simp)]; omega
theorem minL_le : ∀ (rs : List Int) (r : Int), r ∈ rs → minL rs ≤ r
  | [a], r, h => by simp only [List.mem_singleton] at h; subst h; simp [minL]
  | a :: b :: rs, r, h => by
    rw [minL_cons (by simp)]
    rcases List.mem_cons.mp h with rfl | h
    · omega
    · have := minL_le (b :: rs) r h; omega
noncomputable def againE : PE := .comp (.call 1 [(.var 61), (.var 83), (.var 86)]) [((.one 61), (.var 53), [])] [83, 86]
noncomputable def belowE : PE := .comp (.call 1 [(.var 83), (.var 61), (.bin .Sub (.var 86) (.cint 1))]) [((.one 61), (.var 53), [])] [83, 86]
theorem items_U {U : List (List Nat)} (h : U.length ≤ 100) (st : Store) : itemsOf st (strV U) = some (U.map .str, st) := by
  have : (U.map PV.str).length ≤ lim := by have : lim = 100000 := rfl; simp; omega
  show (bif decide ((U.map PV.str).length ≤ lim) then _ else _) = _
  rw [bif_le this]
theorem again_c (n : Nat) (T : List Nat) (hT : T.length = 3) (ha : ∀ c ∈ T, c < 128) (U : List (List Nat)) (hU : Asc U) (hUl : U.length ≤ 100) (l : Int) (p : Nat) (o : PObj) (env : PEnv) (st : Store) (h53 : env.get 53 = some (strV U)) (h83 : env.get 83 = some (.str T)) (h86 : env.get 86 = some (.int l)) (hp : st[p]? = some o) :
    ∃ (rs : List Int) (st' : Store), (ev L2.P (n + 26)).E againE env st = some (.list (rs.map .int), st') ∧ st'[p]? = some o ∧ rs.length = U.length ∧ (∀ r ∈ rs, ∃ u ∈ U, r = (ed u T : Nat) ∨ (r = l + 1 ∧ l < (ed u T : Nat))) ∧ ∀ u ∈ U, ∃ r ∈ rs, r = (ed u T : Nat) ∨ (r = l + 1 ∧ l < (ed u T : Nat)) := by
  obtain ⟨vs, s', g1, g2, g3⟩ := comp_rel (P := L2.P) (n := n + 25) (src := .var 53) (elt := .call 1 [(.var 61), (.var 83), (.var 86)]) (env := env) (st := st) (st1 := st) (st2 := st) (v := strV U) (items := U.map .str) (t := 61) (fv := [83, 86]) (fun x v => ∃ u r, x = .str u ∧ v = .int r ∧ (r = (ed u T : Nat) ∨ (r = l + 1 ∧ l < (ed u T : Nat)))) (fun s => s[p]? = some o)
    (by rw [eE]; simp only [stepE, h53]) (items_U hUl st) (lim' (by simpa using hUl)) hp (by
      intro x hx e s he hs
      obtain ⟨u, hu, rfl⟩ := List.mem_map.mp hx
      obtain ⟨hul, hua⟩ := hU u hu
      obtain ⟨r, rows, lc, hr⟩ := lev_c n u T l s hul (by omega) hua ha
      have k83 := he 83 (by simp) (by decide)
      have k86 := he 86 (by simp) (by decide)
      rw [h83] at k83; rw [h86] at k86
      refine ⟨.int r, s ++ rows, ?_, ⟨u, r, rfl, rfl, hr⟩, by rw [List.getElem?_append_left (List.getElem?_eq_some_iff.mp hs).1]; exact hs⟩
      simp only [eE, stepE, evList, get_set', k83, k86, lc, Nat.reduceEqDiff, ↓reduceIte])
  obtain ⟨rs, e1, e2, e3, e4⟩ := g2.ints
  exact ⟨rs, s', by rw [← e1]; exact g1, g3, e2, e3, e4⟩
theorem below_c (n : Nat) (T : List Nat) (hT : T.length = 3) (ha : ∀ c ∈ T, c < 128) (U : List (List Nat)) (hU : Asc U) (hUl : U.length ≤ 100) (l : Int) (p : Nat) (o : PObj) (env : PEnv) (st : Store) (h53 : env.get 53 = some (strV U)) (h83 : env.get 83 = some (.str T)) (h86 : env.get 86 = some (.int l)) (hp : st[p]? = some o) :
    ∃ (rs : List Int) (st' : Store), (ev L2.P (n + 26)).E belowE env st = some (.list (rs.map .int), st') ∧ st'[p]? = some o ∧ rs.length = U.length ∧ (∀ r ∈ rs, ∃ u ∈ U, r = (ed T u : Nat) ∨ (r = l - 1 + 1 ∧ l - 1 < (ed T u : Nat))) := by
  obtain ⟨vs, s', g1, g2, g3⟩ := comp_rel (P := L2.P) (n := n + 25) (src := .var 53) (elt := .call 1 [(.var 83), (.var 61), (.bin .Sub (.var 86) (.cint 1))]) (env := env) (st := st) (st1 := st) (st2 := st) (v := strV U) (items := U.map .str) (t := 61) (fv := [83, 86]) (fun x v => ∃ u r, x = .str u ∧ v = .int r ∧ (r = (ed T u : Nat) ∨ (r = l - 1 + 1 ∧ l - 1 < (ed T u : Nat)))) (fun s => s[p]? = some o)
    (by rw [eE]; simp only [stepE, h53]) (items_U hUl st) (lim' (by simpa using hUl)) hp (by
      intro x hx e s he hs
      obtain ⟨u, hu, rfl⟩ := List.mem_map.mp hx
      obtain ⟨hul, hua⟩ := hU u hu
      obtain ⟨r, rows, lc, hr⟩ := lev_c n T u (l - 1) s (by omega) hul ha hua
      have k83 := he 83 (by simp) (by decide)
      have k86 := he 86 (by simp) (by decide)
      rw [h83] at k83; rw [h86] at k86
      refine ⟨.int r, s ++ rows, ?_, ⟨u, r, rfl, rfl, hr⟩, by rw [List.getElem?_append_left (List.getElem?_eq_some_iff.mp hs).1]; exact hs⟩
      simp only [eE, stepE, evList, get_set', k83, k86, rd_int, sub_c', lc, Nat.reduceEqDiff, ↓reduceIte])
  obtain ⟨rs, e1, e2, e3, e4⟩ := g2.ints
  exact ⟨rs, s', by rw [← e1]; exact g1, g3, e2, e3⟩
theorem rep_told {T : List Nat} (hT : T.length = 3) {w1 w2 w3 : List Nat} (h1 : w1.length ≤ 2) (h2 : w2.length ≤ 2) (h3 : w3.length ≤ 2) (m1 m2 m3 : List Nat) (shape inner outer : Nat) : Rep T 18 (toldM T w1 m1 w2 m2 w3 m3 shape inner outer) (wordsOf w1 m1 w2 m2 w3 m3 shape inner outer) := by
  have r1 := rep_part hT h1 m1
  have r2 := rep_part hT h2 m2
  have r3 := rep_part hT h3 m3
  unfold toldM wordsOf
  split
  · exact rep_join hT outer (rep_join hT inner r1 r2 (by omega)) r3 (by omega)
  · exact rep_join hT outer r1 (rep_join hT inner r2 r3 (by omega)) (by omega)
noncomputable def Low (U : List (List Nat)) : Prop := ∀ u ∈ U, ∀ c ∈ u, c < 128
theorem low_mark {w : List Nat} (h : ∀ c ∈ w, c < 128) (mk : List Nat) : Low (markWords w mk) := by
  unfold markWords Low
  split
  · simpa using h
  · split
    · intro u hu c hc
      simp only [List.mem_cons, List.not_mem_nil, or_false] at hu
      rcases hu with rfl | rfl | rfl | rfl
      · simp at hc
      · exact h c hc
      · simp only [List.mem_append] at hc
        rcases hc with hc | hc <;> exact h c hc
      · simp only [List.mem_append] at hc
        rcases hc with (hc | hc) | hc <;> exact h c hc
    · simpa using h
theorem low_join {U V : List (List Nat)} (c : Nat) (h : Low U) (g : Low V) : Low (joinW c U V) := by
  unfold joinW
  split
  · intro u hu
    rcases List.mem_append.mp hu with k | k
    · exact h u k
    · exact g u k
  · intro u hu
    obtain ⟨x, hx, y, hy, rfl⟩ := mem_prod.mp hu
    intro c hc
    rcases List.mem_append.mp hc with k | k
    · exact h x hx c k
    · exact g y hy c k
theorem low_words {w1 w2 w3 : List Nat} (h1 : ∀ c ∈ w1, c < 128) (h2 : ∀ c ∈ w2, c < 128) (h3 : ∀ c ∈ w3, c < 128) (m1 m2 m3 : List Nat) (shape inner outer : Nat) : Low (wordsOf w1 m1 w2 m2 w3 m3 shape inner outer) := by
  unfold wordsOf
  split
  · exact low_join _ (low_join _ (low_mark h1 _) (low_mark h2 _)) (low_mark h3 _)
  · exact low_join _ (low_mark h1 _) (low_join _ (low_mark h2 _) (low_mark h3 _))
theorem jn_len {c : Nat} {U V : List (List Nat)} {a b : Nat} (h1 : U.length ≤ a) (h2 : V.length ≤ b) (ha : 2 ≤ a) (hb : 2 ≤ b) : (joinW c U V).length ≤ a * b := by
  have e : a + b ≤ a * b := by
    obtain ⟨a', rfl⟩ : ∃ a', a = a' + 2 := ⟨a - 2, by omega⟩
    obtain ⟨b', rfl⟩ : ∃ b', b = b' + 2 := ⟨b - 2, by omega⟩
    simp only [Nat.add_mul, Nat.mul_add]; omega
  unfold joinW
  split
  · simp; omega
  · rw [prod_len]; exact Nat.mul_le_mul h1 h2
theorem words_len {w1 w2 w3 : List Nat} (h1 : w1.length ≤ 2) (h2 : w2.length ≤ 2) (h3 : w3.length ≤ 2) (m1 m2 m3 : List Nat) (shape inner outer : Nat) : (wordsOf w1 m1 w2 m2 w3 m3 shape inner outer).length ≤ 100 := by
  have l1 := (mark_len (mk := m1) h1).1
  have l2 := (mark_len (mk := m2) h2).1
  have l3 := (mark_len (mk := m3) h3).1
  unfold wordsOf
  split
  · have := jn_len (c := outer) (jn_len (c := inner) l1 l2 (by omega) (by omega)) l3 (by omega) (by omega)
    omega
  · have := jn_len (c := outer) l1 (jn_len (c := inner) l2 l3 (by omega) (by omega)) (by omega) (by omega)
    omega
theorem asked_told {T : List Nat} (hT : T.length = 3) {M : Nat → Nat → Int} {U : List (List Nat)} (R : Rep T 18 M U) (k : Nat) (hk : k ≤ 3) : leastF (T.take k) U 99 = M 0 k := by
  have sg : seg T 0 k = T.take k := by simp [seg]
  obtain ⟨u, hu, e⟩ := R.ex 0 k (by omega) hk
  rw [sg] at e
  obtain ⟨l1, l2⟩ := leastF_le (T.take k) U 99
  have a := l2 u hu
  have b1 := ed_le (T.take k) u
  have b2 := R.len u hu
  have b3 : (T.take k).length ≤ 3 := by simp; omega
  rcases leastF_ex (T.take k) U 99 with h | ⟨v, hv, h⟩
  · omega
  · have c := R.le 0 k v (by omega) hk hv
    rw [sg] at c
    omega
end Mine
end
section
set_option backward.eqns.nonrecursive false
set_option maxRecDepth 4000
namespace Mine
open PySem
noncomputable def numsE : PE := .bin .Add (.bin .Add (.bin .Add (.comp (.bi .ord [(.var 63)]) [((.one 63), (.var 51), [])] []) (.list [(.cint 0)])) (.call 7 [(.var 56), (.var 57), (.var 58), (.var 59)])) (.list [(.cint 0)])
noncomputable def textE : PE := .meth .join (.cstr []) [(.comp (.bi .chr [(.var 65)]) [((.one 65), (.call 9 [(.var 66)]), [])] [])]
noncomputable def retE : PE := .boolop true [(.cmp .Eq (.var 84) (.call 16 [(.var 51), (.var 56), (.var 57), (.var 58), (.var 59)])), (.cmp .Eq (.bi .min [(.var 80)]) (.var 86)), (.cmp .GtE (.bi .min [(.var 87)]) (.var 86))]
noncomputable def lawBody : List PS :=
      .assignTup [51, 56, 57, 58, 59] (.call 6 [(.var 45)]) ::
      .assign 82 (.newlist []) ::
      .forS (.one 65) numsE tapeB ::
      .assign 66 (.bi .iter [(.var 82)]) ::
      .assign 83 textE ::
      .assign 53 (.call 10 [(.call 9 [(.var 66)])]) ::
      .assign 84 (.newlist []) ::
      .forS (.one 85) (.bi .range [(.cint 4)]) askBody ::
      .assign 80 againE ::
      .assign 87 belowE ::
      .ret retE :: []
theorem law_def : L2.P.F 17 = some ([45], lawBody) := by rfl
theorem nums_c (n : Nat) (T : List Nat) (hT : T.length = 3) (c1 c2 c3 : Nat) (w1 m1 w2 m2 w3 m3 : List Nat) (shape inner outer : Nat) (hs : (symsOf c1 m1 c2 m2 c3 m3 shape inner outer).length ≤ 10) (hg : symGoal m1 m2 m3 shape inner outer) (env : PEnv)
    (h51 : env.get 51 = some (.str T)) (h56 : env.get 56 = some (.list [partV c1 w1 m1, partV c2 w2 m2, partV c3 w3 m3])) (h57 : env.get 57 = some (.int shape)) (h58 : env.get 58 = some (.str [inner])) (h59 : env.get 59 = some (.str [outer])) :
    (ev L2.P (n + 24)).E numsE env [.list []] = some (.list (natV ((T ++ [0]) ++ (symsOf c1 m1 c2 m2 c3 m3 shape inner outer ++ [0]))), [.list [], numD]) := by
  have o : (ev L2.P (n + 21)).E (.comp (.bi .ord [(.var 63)]) [((.one 63), (.var 51), [])] []) env [.list []] = some (.list (natV T), [.list []]) := by
    have := comp_pure (P := L2.P) (n := n + 20) (src := .var 51) (elt := .bi .ord [(.var 63)]) (env := env) (st := [.list []]) (st1 := [.list []]) (st2 := [.list []]) (v := .str T) (items := T.map fun c => .str [c]) (t := 63) (fv := []) (fun x => match x with | .str [c] => .int c | _ => .none)
      (by rw [eE]; simp only [stepE, h51]) (items_str _ (lim' (by omega))) (lim' (by simp; omega)) (by
        intro x hx e he
        obtain ⟨c, hc, rfl⟩ := List.mem_map.mp hx
        simp only [eE, stepE, evList, get_set', ↓reduceIte]
        rfl)
    rw [this]; simp [natV]
  have z : ∀ (k : Nat) (s : Store), (ev L2.P (k + 2)).E (.list [(.cint 0)]) env s = some (.list (natV [0]), s) := fun _ _ => rfl
  have a1 : (ev L2.P (n + 22)).E (.bin .Add (.comp (.bi .ord [(.var 63)]) [((.one 63), (.var 51), [])] []) (.list [(.cint 0)])) env [.list []] = some (.list (natV (T ++ [0])), [.list []]) := by
    have ad := addL_c (u := natV T) (v := natV [0]) (by simp [natV]; omega) (by simp [natV])
    rw [eE]; simp only [stepE, o, z (n + 19), rd_list, ad]; simp [natV]
  have sy : (ev L2.P (n + 22)).E (.call 7 [(.var 56), (.var 57), (.var 58), (.var 59)]) env [.list []] = some (.list (natV (symsOf c1 m1 c2 m2 c3 m3 shape inner outer)), [.list [], numD]) := by
    have := hg (n + 1) c1 c2 c3 w1 w2 w3
    simp only [eE, stepE, evList, h56, h57, h58, h59, this]
  have a2 : (ev L2.P (n + 23)).E (.bin .Add (.bin .Add (.comp (.bi .ord [(.var 63)]) [((.one 63), (.var 51), [])] []) (.list [(.cint 0)])) (.call 7 [(.var 56), (.var 57), (.var 58), (.var 59)])) env [.list []] = some (.list (natV ((T ++ [0]) ++ symsOf c1 m1 c2 m2 c3 m3 shape inner outer)), [.list [], numD]) := by
    have ad := addL_c (u := natV (T ++ [0])) (v := natV (symsOf c1 m1 c2 m2 c3 m3 shape inner outer)) (by simp [natV]; omega) (by simp [natV]; omega)
    rw [eE]; simp only [stepE, a1, sy, rd_list, ad]; simp [natV]
  have ad := addL_c (u := natV ((T ++ [0]) ++ symsOf c1 m1 c2 m2 c3 m3 shape inner outer)) (v := natV [0]) (by simp [natV]; omega) (by simp [natV])
  unfold numsE
  rw [eE]; simp only [stepE, a2, z (n + 21), rd_list, ad]; simp [natV]
theorem text_c (n r : Nat) (T : List Nat) (hT : T.length = 3) (ha : ∀ c ∈ T, 0 < c ∧ c < 128) (xs : List PV) (env : PEnv) (st : Store) (h66 : env.get 66 = some (.ref r)) (hr : st[r]? = some (.iter (tapeOf (T ++ [0]) ++ xs))) :
    (ev L2.P (n + 24)).E textE env st = some (.str T, st.set r (PObj.iter xs) ++ [PObj.dead]) := by
  have rc := read_c (n + 1) r xs T st hr (fun m hm => ⟨(ha m hm).1, by have := (ha m hm).2; omega⟩) (by omega)
  have src : (ev L2.P (n + 22)).E (.call 9 [(.var 66)]) env st = some (.list (natV T), st.set r (PObj.iter xs) ++ [PObj.dead]) := by
    simp only [eE, stepE, evList, h66, rc]
  have it : itemsOf (st.set r (PObj.iter xs) ++ [PObj.dead]) (.list (natV T)) = some (natV T, st.set r (PObj.iter xs) ++ [PObj.dead]) := by
    show (bif decide ((natV T).length ≤ lim) then _ else _) = _
    rw [bif_le (lim' (by simp [natV]; omega))]
  have c : (ev L2.P (n + 23)).E (.comp (.bi .chr [(.var 65)]) [((.one 65), (.call 9 [(.var 66)]), [])] []) env st = some (.list (T.map fun c => .str [c]), st.set r (PObj.iter xs) ++ [PObj.dead]) := by
    have := comp_pure (P := L2.P) (n := n + 22) (src := .call 9 [(.var 66)]) (elt := .bi .chr [(.var 65)]) (env := env) (st := st) (v := .list (natV T)) (items := natV T) (t := 65) (fv := []) (fun x => match x with | .int i => .str [i.toNat] | _ => .none) src it (lim' (by simp [natV]; omega)) (by
      intro x hx e he
      obtain ⟨c, hc, rfl⟩ := List.mem_map.mp hx
      have := chr_c (m := c) (by have := (ha c hc).2; omega) (st.set r (PObj.iter xs) ++ [PObj.dead])
      simp only [eE, stepE, evList, get_set', ↓reduceIte, this]
      rfl)
    rw [this]; simp [natV]
  have s : (ev L2.P (n + 23)).E (.cstr []) env st = some (.str [], st) := rfl
  have o : meOk .join (.str []) st = true := rfl
  have so : ∀ T : List Nat, strsOf (T.map fun c => .str [c]) = some (T.map fun c => [c]) := by
    intro T; induction T with
    | nil => rfl
    | cons a T ih => simp [strsOf, ih]
  have fl : (T.map fun c => [c]).flatten = T := by clear so c it src rc hr ha hT; induction T with | nil => rfl | cons a T ih => simp [ih]
  have l1 : T.length ≤ 100000 := by omega
  unfold textE
  rw [eE]; simp only [stepE, s, o, cond_true, evList, c]
  show oO (strsOf (T.map fun c => .str [c])) _ = _
  rw [so]
  show (bif decide (_ ≤ lim) && decide (_ ≤ lim) then _ else _) = _
  rw [fl, List.length_map, decide_eq_true (show T.length ≤ lim from l1)]
  rfl
theorem eqv_row (f : Nat → Int) : PV.eqv (.list [.int (f 0), .int (f 1), .int (f 2), .int (f 3)]) (.list [.int (f 0), .int (f 1), .int (f 2), .int (f 3)]) = some true := by
  simp [PV.eqv, eqs, eq1, eqF]
theorem syms_len {c1 c2 c3 : Nat} {m1 m2 m3 : List Nat} {shape inner outer : Nat} : (symsOf c1 m1 c2 m2 c3 m3 shape inner outer).length ≤ 10 := by
  have p : ∀ c mk, (partSyms c mk).length ≤ 2 := by intro c mk; unfold partSyms; split <;> (try split) <;> simp
  have := p c1 m1
  have := p c2 m2
  have := p c3 m3
  unfold symsOf
  split <;> simp <;> omega
theorem syms_pos {c1 c2 c3 : Nat} {w1 w2 w3 : List Nat} {m1 m2 m3 : List Nat} {shape inner outer : Nat} (h1 : Code c1 w1) (h2 : Code c2 w2) (h3 : Code c3 w3) : ∀ m ∈ symsOf c1 m1 c2 m2 c3 m3 shape inner outer, 0 < m ∧ m < 262144 := by
  have p : ∀ {c : Nat} {w : List Nat} (mk : List Nat), Code c w → ∀ m ∈ partSyms c mk, 0 < m ∧ m < 262144 := by
    intro c w mk h m hm
    have := h.lo
    have := h.hi
    unfold partSyms at hm
    split at hm
    · simp at hm; omega
    · split at hm
      · simp at hm; omega
      · simp at hm; omega
  have q : ∀ c, 0 < opNum c ∧ opNum c < 262144 := by intro c; unfold opNum; split <;> omega
  intro m hm
  unfold symsOf at hm
  split at hm
  · simp only [List.mem_append, List.mem_singleton] at hm
    rcases hm with (((hm | hm) | rfl) | hm) | rfl
    · exact p _ h1 m hm
    · exact p _ h2 m hm
    · exact q _
    · exact p _ h3 m hm
    · exact q _
  · simp only [List.mem_append, List.mem_cons, List.not_mem_nil, or_false] at hm
    rcases hm with ((hm | hm) | hm) | rfl | rfl
    · exact p _ h1 m hm
    · exact p _ h2 m hm
    · exact p _ h3 m hm
    · exact q _
    · exact q _
theorem law_run (n : Nat) (script : PV) (T : List Nat) (hT : T.length = 3) (ha : ∀ c ∈ T, 0 < c ∧ c < 128) (c1 c2 c3 : Nat) (w1 m1 w2 m2 w3 m3 : List Nat) (h1 : Code c1 w1) (h2 : Code c2 w2) (h3 : Code c3 w3)
    (lw1 : ∀ c ∈ w1, lowC c = c ∧ c < 128) (lw2 : ∀ c ∈ w2, lowC c = c ∧ c < 128) (lw3 : ∀ c ∈ w3, lowC c = c ∧ c < 128)
    (g1 : m1 = [] ∨ m1 = [126]) (g2 : m2 = [] ∨ m2 = [126] ∨ m2 = [42]) (g3 : m3 = []) (shape inner outer : Nat) (hs : shape < 2) (hi : inner = 124 ∨ inner = 43) (ho : outer = 124 ∨ outer = 43)
    (hd : (ev L2.P (n + 37)).C 6 [script] [] = some (.tuple [.str T, .list [partV c1 w1 m1, partV c2 w2 m2, partV c3 w3 m3], .int shape, .str [inner], .str [outer]], [])) :
    ∃ st', (ev L2.P (n + 40)).C 17 [script] [] = some (.bool true, st') := by
  have ha' : ∀ c ∈ T, c < 128 := fun c hc => (ha c hc).2
  have hsg : symGoal m1 m2 m3 shape inner outer := sym_1 m1 m2 m3 shape inner outer g1 g2 g3 (by omega) hi ho
  have g1' : m1 = [] ∨ m1 = [126] ∨ m1 = [42] := by rcases g1 with h | h; exact .inl h; exact .inr (.inl h)
  have g3' : m3 = [] ∨ m3 = [126] ∨ m3 = [42] := .inl g3
  have hU : Asc (wordsOf w1 m1 w2 m2 w3 m3 shape inner outer) := fun u hu => ⟨by have := (rep_told hT h1.len h2.len h3.len m1 m2 m3 shape inner outer).len u hu; omega, low_words (fun c hc => (lw1 c hc).2) (fun c hc => (lw2 c hc).2) (fun c hc => (lw3 c hc).2) m1 m2 m3 shape inner outer u hu⟩
  have hUl := words_len h1.len h2.len h3.len m1 m2 m3 shape inner outer
  have R := rep_told hT h1.len h2.len h3.len m1 m2 m3 shape inner outer
  have b0 : bindAll [45] [script] [] = some (PEnv.set [] 45 script) := rfl
  have d : (ev L2.P (n + 38)).E (.call 6 [(.var 45)]) (PEnv.set [] 45 script) [] = some (.tuple [.str T, .list [partV c1 w1 m1, partV c2 w2 m2, partV c3 w3 m3], .int shape, .str [inner], .str [outer]], []) := by
    have h45 : (PEnv.set [] 45 script).get 45 = some script := rfl
    simp only [eE, stepE, evList, h45, hd]
  have s1 : stepS1 (ev L2.P (n + 38)).E (ev L2.P (n + 38)).S (.assignTup [51, 56, 57, 58, 59] (.call 6 [(.var 45)])) (PEnv.set [] 45 script) [] = some (.next, (((((PEnv.set [] 45 script).set 51 (.str T)).set 56 (.list [partV c1 w1 m1, partV c2 w2 m2, partV c3 w3 m3])).set 57 (.int shape)).set 58 (.str [inner])).set 59 (.str [outer]), []) := assignTup_c d (vs := [.str T, .list [partV c1 w1 m1, partV c2 w2 m2, partV c3 w3 m3], .int shape, .str [inner], .str [outer]]) rfl rfl
  rw [eC]; unfold stepC; rw [law_def]
  simp only [b0]
  rw [eS]
  unfold lawBody
  rw [seqS s1]
  have e51 : ((((((PEnv.set [] 45 script).set 51 (.str T)).set 56 (.list [partV c1 w1 m1, partV c2 w2 m2, partV c3 w3 m3])).set 57 (.int shape)).set 58 (.str [inner])).set 59 (.str [outer])).get 51 = some (.str T) := by simp [get_set']
  have e56 : ((((((PEnv.set [] 45 script).set 51 (.str T)).set 56 (.list [partV c1 w1 m1, partV c2 w2 m2, partV c3 w3 m3])).set 57 (.int shape)).set 58 (.str [inner])).set 59 (.str [outer])).get 56 = some (.list [partV c1 w1 m1, partV c2 w2 m2, partV c3 w3 m3]) := by simp [get_set']
  have e57 : ((((((PEnv.set [] 45 script).set 51 (.str T)).set 56 (.list [partV c1 w1 m1, partV c2 w2 m2, partV c3 w3 m3])).set 57 (.int shape)).set 58 (.str [inner])).set 59 (.str [outer])).get 57 = some (.int shape) := by simp [get_set']
  have e58 : ((((((PEnv.set [] 45 script).set 51 (.str T)).set 56 (.list [partV c1 w1 m1, partV c2 w2 m2, partV c3 w3 m3])).set 57 (.int shape)).set 58 (.str [inner])).set 59 (.str [outer])).get 58 = some (.str [inner]) := by simp [get_set']
  have e59 : ((((((PEnv.set [] 45 script).set 51 (.str T)).set 56 (.list [partV c1 w1 m1, partV c2 w2 m2, partV c3 w3 m3])).set 57 (.int shape)).set 58 (.str [inner])).set 59 (.str [outer])).get 59 = some (.str [outer]) := by simp [get_set']
  generalize ((((((PEnv.set [] 45 script).set 51 (.str T)).set 56 (.list [partV c1 w1 m1, partV c2 w2 m2, partV c3 w3 m3])).set 57 (.int shape)).set 58 (.str [inner])).set 59 (.str [outer])) = E1 at e51 e56 e57 e58 e59 ⊢
  clear d s1 hd b0
  have z : ([] : List PV).length ≤ lim := Nat.zero_le _
  have s2 : stepS1 (ev L2.P (n + 38)).E (ev L2.P (n + 38)).S (.assign 82 (.newlist [])) E1 [] = some (.next, E1.set 82 (.ref 0), [.list []]) := assign_c (by rw [eE]; simp only [stepE, evList, bif_le z]; rfl)
  have nm := nums_c (n + 14) T hT c1 c2 c3 w1 m1 w2 m2 w3 m3 shape inner outer syms_len hsg (E1.set 82 (.ref 0)) (by simp [get_set', e51]) (by simp [get_set', e56]) (by simp [get_set', e57]) (by simp [get_set', e58]) (by simp [get_set', e59])
  have sl := syms_len (c1 := c1) (c2 := c2) (c3 := c3) (m1 := m1) (m2 := m2) (m3 := m3) (shape := shape) (inner := inner) (outer := outer)
  have sp := syms_pos (m1 := m1) (m2 := m2) (m3 := m3) (shape := shape) (inner := inner) (outer := outer) h1 h2 h3
  have wc := fun st => words_c (n := n + 15) (st := st) h1 h2 h3 g1' g2 g3' (shape := shape) hi ho (by omega)
  obtain ⟨E3, rest, t1, t2⟩ := tape_loop (n + 22) ((T ++ [0]) ++ (symsOf c1 m1 c2 m2 c3 m3 shape inner outer ++ [0])) [] [numD] (E1.set 82 (.ref 0)) (by simp [get_set']) (by
    intro m hm
    simp only [List.mem_append, List.mem_singleton] at hm
    rcases hm with (hm | rfl) | (hm | rfl)
    · have := ha' m hm; omega
    · omega
    · exact (sp m hm).2
    · omega) (by simp; omega)
  have s3 : stepS1 (ev L2.P (n + 38)).E (ev L2.P (n + 38)).S (.forS (.one 65) numsE tapeB) (E1.set 82 (.ref 0)) [.list []] = some (.next, E3, .list ([] ++ tapeOf ((T ++ [0]) ++ (symsOf c1 m1 c2 m2 c3 m3 shape inner outer ++ [0]))) :: rest) := by
    have it : itemsOf [.list [], numD] (.list (natV ((T ++ [0]) ++ (symsOf c1 m1 c2 m2 c3 m3 shape inner outer ++ [0])))) = some (natV ((T ++ [0]) ++ (symsOf c1 m1 c2 m2 c3 m3 shape inner outer ++ [0])), [.list [], numD]) := by
      show (bif decide (_ ≤ lim) then _ else _) = _
      rw [bif_le (lim' (by simp [natV]; omega))]
    simp only [stepS1, nm, it]
    exact t1
  have k51 : E3.get 51 = some (.str T) := by rw [t2 _ (by decide)]; simp [get_set', e51]
  have k56 : E3.get 56 = some (.list [partV c1 w1 m1, partV c2 w2 m2, partV c3 w3 m3]) := by rw [t2 _ (by decide)]; simp [get_set', e56]
  have k57 : E3.get 57 = some (.int shape) := by rw [t2 _ (by decide)]; simp [get_set', e57]
  have k58 : E3.get 58 = some (.str [inner]) := by rw [t2 _ (by decide)]; simp [get_set', e58]
  have k59 : E3.get 59 = some (.str [outer]) := by rw [t2 _ (by decide)]; simp [get_set', e59]
  have k82 : E3.get 82 = some (.ref 0) := by rw [t2 _ (by decide)]; simp [get_set']
  rw [seqS s2, seqS s3]
  clear s2 s3 t1 t2 nm e51 e56 e57 e58 e59
  rw [List.nil_append, tapeOf_app]
  have s4 : stepS1 (ev L2.P (n + 38)).E (ev L2.P (n + 38)).S (.assign 66 (.bi .iter [(.var 82)])) E3 (.list (tapeOf (T ++ [0]) ++ tapeOf (symsOf c1 m1 c2 m2 c3 m3 shape inner outer ++ [0])) :: rest) = some (.next, E3.set 66 (.ref (rest.length + 1)), (.dead :: rest) ++ [PObj.iter (tapeOf (T ++ [0]) ++ tapeOf (symsOf c1 m1 c2 m2 c3 m3 shape inner outer ++ [0]))]) := assign_c (by
    simp only [eE, stepE, evList, k82]
    rfl)
  rw [seqS s4]
  clear s4
  have lb : (PObj.dead :: rest).length = rest.length + 1 := rfl
  generalize hb : (PObj.dead :: rest) = base at *
  rw [← lb] at *
  have tc := text_c (n + 14) base.length T hT ha (tapeOf (symsOf c1 m1 c2 m2 c3 m3 shape inner outer ++ [0])) (E3.set 66 (.ref base.length)) _ (by simp [get_set']) (get_last base (.iter (tapeOf (T ++ [0]) ++ tapeOf (symsOf c1 m1 c2 m2 c3 m3 shape inner outer ++ [0]))))
  rw [set_last] at tc
  rw [seqS (assign_c tc)]
  clear tc
  have rc := read_c (n + 16) base.length [] (symsOf c1 m1 c2 m2 c3 m3 shape inner outer) (base ++ [PObj.iter (tapeOf (symsOf c1 m1 c2 m2 c3 m3 shape inner outer ++ [0]))] ++ [PObj.dead]) (by
    rw [List.getElem?_append_left (by simp), List.append_nil]; exact get_last _ _) sp (by omega)
  have wd := wc ((base ++ [PObj.iter (tapeOf (symsOf c1 m1 c2 m2 c3 m3 shape inner outer ++ [0]))] ++ [PObj.dead]).set base.length (PObj.iter []) ++ [PObj.dead])
  generalize (base ++ [PObj.iter (tapeOf (symsOf c1 m1 c2 m2 c3 m3 shape inner outer ++ [0]))] ++ [PObj.dead]) = S5 at *
  generalize S5.set base.length (PObj.iter []) ++ [PObj.dead] = S6 at *
  have s6 : stepS1 (ev L2.P (n + 38)).E (ev L2.P (n + 38)).S (.assign 53 (.call 10 [(.call 9 [(.var 66)])])) ((E3.set 66 (.ref base.length)).set 83 (.str T)) S5 = some (.next, ((E3.set 66 (.ref base.length)).set 83 (.str T)).set 53 (strV (wordsOf w1 m1 w2 m2 w3 m3 shape inner outer)), S6 ++ [.list []]) := assign_c (by
    simp only [eE, stepE, evList, get_set', rc, wd, Nat.reduceEqDiff, ↓reduceIte])
  rw [seqS s6]
  clear s6 rc wd wc
  generalize S6 ++ [PObj.list []] = S7
  have s7 : stepS1 (ev L2.P (n + 38)).E (ev L2.P (n + 38)).S (.assign 84 (.newlist [])) (((E3.set 66 (.ref base.length)).set 83 (.str T)).set 53 (strV (wordsOf w1 m1 w2 m2 w3 m3 shape inner outer))) S7 = some (.next, (((E3.set 66 (.ref base.length)).set 83 (.str T)).set 53 (strV (wordsOf w1 m1 w2 m2 w3 m3 shape inner outer))).set 84 (.ref S7.length), S7 ++ [.list []]) := assign_c (by rw [eE]; simp only [stepE, evList, bif_le z])
  rw [seqS s7]
  clear s7
  obtain ⟨E8, S8, a1, a2, a3, a4⟩ := ask_all (n + 10) T hT ha' _ hU hUl S7.length ((((E3.set 66 (.ref base.length)).set 83 (.str T)).set 53 (strV (wordsOf w1 m1 w2 m2 w3 m3 shape inner outer))).set 84 (.ref S7.length)) (S7 ++ [.list []]) (by simp [get_set']) (by simp [get_set']) (by simp [get_set']) (get_last _ _)
  have q51 : E8.get 51 = some (.str T) := by rw [a4 _ (by decide) (by decide) (by decide)]; simp [get_set', k51]
  have q56 : E8.get 56 = some (.list [partV c1 w1 m1, partV c2 w2 m2, partV c3 w3 m3]) := by rw [a4 _ (by decide) (by decide) (by decide)]; simp [get_set', k56]
  have q57 : E8.get 57 = some (.int shape) := by rw [a4 _ (by decide) (by decide) (by decide)]; simp [get_set', k57]
  have q58 : E8.get 58 = some (.str [inner]) := by rw [a4 _ (by decide) (by decide) (by decide)]; simp [get_set', k58]
  have q59 : E8.get 59 = some (.str [outer]) := by rw [a4 _ (by decide) (by decide) (by decide)]; simp [get_set', k59]
  have q83 : E8.get 83 = some (.str T) := by rw [a4 _ (by decide) (by decide) (by decide)]; simp [get_set']
  have q53 : E8.get 53 = some (strV (wordsOf w1 m1 w2 m2 w3 m3 shape inner outer)) := by rw [a4 _ (by decide) (by decide) (by decide)]; simp [get_set']
  have q84 : E8.get 84 = some (.ref S7.length) := by rw [a4 _ (by decide) (by decide) (by decide)]; simp [get_set']
  have s8 : stepS1 (ev L2.P (n + 38)).E (ev L2.P (n + 38)).S (.forS (.one 85) (.bi .range [(.cint 4)]) askBody) ((((E3.set 66 (.ref base.length)).set 83 (.str T)).set 53 (strV (wordsOf w1 m1 w2 m2 w3 m3 shape inner outer))).set 84 (.ref S7.length)) (S7 ++ [.list []]) = some (.next, E8, S8) := by
    have r4 : pbi .range [.int 4] (S7 ++ [PObj.list []]) = some (.rng 0 4 1, S7 ++ [.list []]) := rng0 4 _ (by omega)
    have v : (ev L2.P (n + 38)).E (.bi .range [(.cint 4)]) ((((E3.set 66 (.ref base.length)).set 83 (.str T)).set 53 (strV (wordsOf w1 m1 w2 m2 w3 m3 shape inner outer))).set 84 (.ref S7.length)) (S7 ++ [.list []]) = some (.rng 0 4 1, S7 ++ [.list []]) := by
      rw [eE]; simp only [stepE, evList, eE, r4]
    have it : itemsOf (S7 ++ [PObj.list []]) (.rng 0 4 1) = some ([.int 0, .int 1, .int 2, .int 3], S7 ++ [.list []]) := rfl
    simp only [stepS1, v, it]
    exact a1
  rw [seqS s8]
  clear s8 a1 a4
  generalize hL : leastF (T.take 3) (wordsOf w1 m1 w2 m2 w3 m3 shape inner outer) 99 = L at a3
  obtain ⟨rs, S9, u1, u2, u3, u4, u5⟩ := again_c (n + 12) T hT ha' _ hU hUl L S7.length _ E8 S8 q53 q83 a3 a2
  rw [seqS (assign_c u1)]
  obtain ⟨ss, S10, v1, v2, v3, v4⟩ := below_c (n + 12) T hT ha' _ hU hUl L S7.length _ (E8.set 80 (.list (rs.map .int))) S9 (by simp [get_set', q53]) (by simp [get_set', q83]) (by simp [get_set', a3]) u2
  rw [seqS (assign_c v1)]
  clear u1 v1
  have tk : T.take 3 = T := List.take_of_length_le (by omega)
  rw [tk] at hL
  have Ud : ∃ u0, u0 ∈ wordsOf w1 m1 w2 m2 w3 m3 shape inner outer := by obtain ⟨u, hu, _⟩ := R.ex 0 3 (by omega) (by omega); exact ⟨u, hu⟩
  obtain ⟨u0, hu0⟩ := Ud
  have le := (leastF_le T (wordsOf w1 m1 w2 m2 w3 m3 shape inner outer) 99).2
  rw [hL] at le
  have ex : ∃ u ∈ wordsOf w1 m1 w2 m2 w3 m3 shape inner outer, L = (ed T u : Nat) := by
    have le' := leastF_ex T (wordsOf w1 m1 w2 m2 w3 m3 shape inner outer) 99
    rw [hL] at le'
    rcases le' with h | h
    · exfalso
      have b1 := ed_le T u0
      have b2 := R.len u0 hu0
      have b3 := le u0 hu0
      omega
    · exact h
  have rne : rs ≠ [] := by
    intro h; obtain ⟨r, hr, _⟩ := u5 u0 hu0; rw [h] at hr; simp at hr
  have sne : ss ≠ [] := by
    intro h; rw [h] at v3
    rw [List.eq_nil_of_length_eq_zero v3.symm] at hu0; simp at hu0
  have told0 : ∀ k, k ≤ 3 → leastF (T.take k) (wordsOf w1 m1 w2 m2 w3 m3 shape inner outer) 99 = toldM T w1 m1 w2 m2 w3 m3 shape inner outer 0 k := fun k hk => asked_told hT R k hk
  have a2' : S10[S7.length]? = some (.list [.int (toldM T w1 m1 w2 m2 w3 m3 shape inner outer 0 0), .int (toldM T w1 m1 w2 m2 w3 m3 shape inner outer 0 1), .int (toldM T w1 m1 w2 m2 w3 m3 shape inner outer 0 2), .int (toldM T w1 m1 w2 m2 w3 m3 shape inner outer 0 3)]) := by
    rw [v2]; simp only [mrowL, told0 0 (by omega), told0 1 (by omega), told0 2 (by omega), told0 3 (by omega)]
  have mr : minL rs = L := by
    have ge : L ≤ minL rs := minL_ge rs L rne (fun r hr => by
      obtain ⟨u, hu, h⟩ := u4 r hr
      have := le u hu
      rw [ed_comm] at this
      omega)
    obtain ⟨u, hu, h⟩ := ex
    obtain ⟨r, hr, h'⟩ := u5 u hu
    have := minL_le rs r hr
    rw [ed_comm] at h
    omega
  have ms : L ≤ minL ss := minL_ge ss L sne (fun r hr => by
    obtain ⟨u, hu, h⟩ := v4 r hr
    have := le u hu
    omega)
  have tl := told_c (n + 2) T w1 m1 w2 m2 w3 m3 c1 c2 c3 hT ha' ⟨fun c hc => (lw1 c hc).1, h1.len, g1'⟩ ⟨fun c hc => (lw2 c hc).1, h2.len, g2⟩ ⟨fun c hc => (lw3 c hc).1, h3.len, g3'⟩ shape inner outer hs hi ho S10
  have mn1 := minl_c S10 rne
  have mn2 := minl_c S10 sne
  generalize hE : (E8.set 80 (.list (rs.map .int))).set 87 (.list (ss.map .int)) = E10
  have x51 : E10.get 51 = some (.str T) := by rw [← hE]; simp [get_set', q51]
  have x56 : E10.get 56 = some (.list [partV c1 w1 m1, partV c2 w2 m2, partV c3 w3 m3]) := by rw [← hE]; simp [get_set', q56]
  have x57 : E10.get 57 = some (.int shape) := by rw [← hE]; simp [get_set', q57]
  have x58 : E10.get 58 = some (.str [inner]) := by rw [← hE]; simp [get_set', q58]
  have x59 : E10.get 59 = some (.str [outer]) := by rw [← hE]; simp [get_set', q59]
  have x84 : E10.get 84 = some (.ref S7.length) := by rw [← hE]; simp [get_set', q84]
  have x86 : E10.get 86 = some (.int L) := by rw [← hE]; simp only [get_set', a3, Nat.reduceEqDiff, ↓reduceIte]
  have x80 : E10.get 80 = some (.list (rs.map .int)) := by rw [← hE]; simp [get_set']
  have x87 : E10.get 87 = some (.list (ss.map .int)) := by rw [← hE]; simp [get_set']
  have y1 : (ev L2.P (n + 37)).E (.cmp .Eq (.var 84) (.call 16 [(.var 51), (.var 56), (.var 57), (.var 58), (.var 59)])) E10 S10 = some (.bool true, S10) := by
    have w1' : (ev L2.P (n + 36)).E (.call 16 [(.var 51), (.var 56), (.var 57), (.var 58), (.var 59)]) E10 S10 = some (mrow (toldM T w1 m1 w2 m2 w3 m3 shape inner outer) 0, S10) := by
      simp only [eE, stepE, evList, x51, x56, x57, x58, x59, tl]
    have w2' : (ev L2.P (n + 36)).E (.var 84) E10 S10 = some (.ref S7.length, S10) := by rw [eE]; simp only [stepE, x84]
    have w3' : pcmp .Eq (.list [.int (toldM T w1 m1 w2 m2 w3 m3 shape inner outer 0 0), .int (toldM T w1 m1 w2 m2 w3 m3 shape inner outer 0 1), .int (toldM T w1 m1 w2 m2 w3 m3 shape inner outer 0 2), .int (toldM T w1 m1 w2 m2 w3 m3 shape inner outer 0 3)]) (mrow (toldM T w1 m1 w2 m2 w3 m3 shape inner outer) 0) = some true := eqv_row _
    rw [eE]; simp only [stepE, w1', w2', rd_ref a2', rd_mrow, w3']
  have y2 : (ev L2.P (n + 37)).E (.cmp .Eq (.bi .min [(.var 80)]) (.var 86)) E10 S10 = some (.bool true, S10) := by
    have : (L == L) = true := by simp
    simp only [eE, stepE, evList, x80, x86, mn1, rd_int, mr, eqI_c', this]
  have y3 : (ev L2.P (n + 37)).E (.cmp .GtE (.bi .min [(.var 87)]) (.var 86)) E10 S10 = some (.bool true, S10) := by
    simp only [eE, stepE, evList, x87, x86, mn2, rd_int, ge_c, decide_eq_true ms]
  have rt : (ev L2.P (n + 38)).E retE E10 S10 = some (.bool true, S10) := by
    unfold retE
    rw [eE]
    simp only [stepE, evBool, y1, y2, y3, tb_c, b3, cond_true]
  refine ⟨S10, ?_⟩
  simp only [stepS, stepS1, rt, freeze]
theorem m1_ok (d : Nat) : m1Of d = [] ∨ m1Of d = [126] := by unfold m1Of; split <;> simp
theorem m2_ok (d : Nat) : m2Of d = [] ∨ m2Of d = [126] ∨ m2Of d = [42] := by unfold m2Of; split <;> (try split) <;> simp
theorem op_ok (d : Nat) : opOf d = 124 ∨ opOf d = 43 := by unfold opOf; split <;> simp
theorem letter_pos {d : Nat} (h : d < 8) : 0 < letterOf d := by
  have : d = 0 ∨ d = 1 ∨ d = 2 ∨ d = 3 ∨ d = 4 ∨ d = 5 ∨ d = 6 ∨ d = 7 := by omega
  rcases this with rfl | rfl | rfl | rfl | rfl | rfl | rfl | rfl <;> decide
theorem plain2 : ∀ ns : List Int, ns.length ≤ 63 → ∃ st', (ev L2.P 40).C 17 [.list (ns.map .int)] [] = some (.bool true, st') := by
  intro ns h
  have hd := draw_c 25 ns h []
  have f9 : ∀ k, fOf ns k < 9 := fun k => digit_lt _ 9 k (by decide)
  refine law_run 0 (.list (ns.map .int)) (typedOf ns) rfl ?_ _ _ _ _ _ _ _ _ _ (code_ok (f9 0)) (code_ok (f9 1)) (code_ok (f9 2)) (word_low (f9 0)) (word_low (f9 1)) (word_low (f9 2)) (m1_ok _) (m2_ok _) rfl _ _ _ (modN_lt _ 6 2 (by decide)) (op_ok _) (op_ok _) hd
  intro c hc
  simp only [typedOf, List.mem_cons, List.not_mem_nil, or_false] at hc
  have d8 : ∀ k, digit (numK ns 0) 8 k < 8 := fun k => digit_lt _ 8 k (by decide)
  rcases hc with rfl | rfl | rfl
  · exact ⟨letter_pos (d8 0), letter_lt (d8 0)⟩
  · exact ⟨letter_pos (d8 1), letter_lt (d8 1)⟩
  · exact ⟨letter_pos (d8 2), letter_lt (d8 2)⟩
end Mine
end
section
set_option maxRecDepth 100000
set_option maxHeartbeats 0
namespace Mine.J2
open PySem PySem.W PyProof.Rows Mine.Hd Mine.H2
theorem and_t {a b : Bool} (h : a = true) (k : b = true) : (a && b) = true := Bool.and_eq_true_iff.mpr ⟨h, k⟩
theorem said1 : looksOpen PySem.Challenge.rw_sn0073_02.row.prog = true := by
  unfold looksOpen
  repeat' with_reducible refine and_t ?_ ?_
  all_goals as_aux_lemma => kernel_rfl
theorem said2 : PySem.Challenge.rw_sn0073_02.row.partSaid = true := by
  unfold OpenRow.partSaid
  rw [said1, Bool.true_and]
  kernel_rfl
theorem said3 : PySem.Challenge.rw_sn0073_02.row.wellSaid = true := by
  unfold OpenRow.wellSaid
  rw [said2, Bool.true_and]
  kernel_rfl
theorem said : PySem.Challenge.rw_sn0073_02.wellSaid = true := by
  unfold OpenLaw.wellSaid
  repeat' with_reducible first | exact said3 | refine and_t ?_ ?_
  all_goals as_aux_lemma => kernel_rfl
theorem main (hp : ∀ ns : List Int, ns.length ≤ 63 → ∃ st', (ev L2.P 40).C 17 [.list (ns.map .int)] [] = some (.bool true, st')) : PySem.Challenge.rw_sn0073_02.Holds := by
  w_on
  refine holds_law said fun said => ?_
  refine PySem.W.holds_open (r := row) (q := q) (loose := loose) (Xt := Xt) (XP := XL q []) (Yf := hook.obs) (Ya := hook.val) (YP := hook.says) (N := 40000) left hook.of hook.keeps (fun s e => xl_of s (Bool.and_eq_true_iff.mp e).1) XL.keeps (by rfl) (by rfl) (by rfl) (fun s e => recFacts_of (Bool.and_eq_true_iff.mp e).2) (by rfl) (by assumption) (by decide +kernel) ⟨rfl, rfl, rfl, rfl, rfl, by decide +kernel⟩ ?hw ?hc
  case hw => w_witness2
  intro w s₀ s₁ mg mb G Y a o pm cd doc dV kV ho hd hcd hD hmg hg args vals as hpre hlay hrd hwl hlo
  have KX : (K w.params).In s₁.heap := kIn_of Y
  have hma : mg "law" = some (.ref 164) := mg_of KX G.T.g (by kernel_rfl)
  have ha : a = 164 := by
    have h1 : mg "law" = some (.ref a) := hmg
    rw [hma] at h1; cases h1; rfl
  clear ho hd hcd hD hmg Y
  subst ha
  refine Ground.open G ?_
  intro T B D TE TW
  wrow_args hpre hlay hrd hwl hlo
  rename_i ns _ _ _ _ _ _ _ l vs _ hL _ hW _ hI _ hlen _
  have hobj : s₁.heap.get? l = some { cls := .type "list", data := .seq vs.toArray } := by
    obtain ⟨ol, hol, hcl, n, hdl⟩ := hL
    cases hW with
    | list h1 _ =>
      rw [hol] at h1; cases h1
      cases hdl
      exact hol
  have hG := glob KX T.g T.b T.builtins T.nolimit
  have hS : SndC (cx w s₁.heap) L2.P (ev L2.P 40).C 40 := (ev_sound hG (fun f ps body e => fns KX f (ps, body) e) 40).1.C
  have hlen' : ns.length ≤ 63 := by
    have := hlen
    omega
  obtain ⟨st', he⟩ := hp ns hlen'
  have ok : OkZ (cx w s₁.heap) ⟨[], s₁.heap.get?, [], s₁.heap⟩ := startOk (cx := cx w s₁.heap) ⟨boot_o_1 w.params, KX 1 _ (by kernel_rfl)⟩
  have hv : VRs (cx w s₁.heap) ⟨[], s₁.heap.get?, [], s₁.heap⟩ [.list (ns.map .int)] [.ref l] := .cons (.list (items := vs.toArray) hobj ⟨0, rfl⟩ (by rw [List.toList_toArray]; exact intsAre_vr (cx := cx w s₁.heap) (z := ⟨[], s₁.heap.get?, [], s₁.heap⟩) hI)) .nil
  refine hS (f := 17) (z := ⟨[], s₁.heap.get?, [], s₁.heap⟩) (A := callerA) ok rfl ⟨rfl, by decide, by decide⟩ hv he _ _ fun x z' tk k' e' _ v' => ?_
  cases v'
  refine GoodW.toG ⟨.inl ⟨.bool true, .bool true, [], rfl, fun _ => rfl, .bool true, ?_, fun _ => ?_⟩, fun b o hb => k'.sub _ _ (k'.base _ _ hb), rfl, hg⟩
  · first | rfl | kernel_rfl | (show _ = true; simp)
  · simp
end Mine.J2
end
theorem PySem.Challenge.cw_sn0073_02_holds : PySem.Challenge.rw_sn0073_02.Holds := by
  exact Mine.J2.main Mine.plain2
