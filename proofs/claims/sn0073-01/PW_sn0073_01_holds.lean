import PyProof.Rows.All
import Wide.All
import OpenK.AllK
import Wide.FinOn
import PySem.Challenge.RW_sn0073_01
set_option Elab.async false
set_option linter.all false
section
set_option maxRecDepth 100000
namespace Mine.Hd
open PySem PySem.W PyProof.Rows
structure Pl where
  p : Program
  w : World
  n₀ : Nat
  ann : Option Value
  b : List Stmt
  env : Env
  q : Pos
noncomputable abbrev Pl.seg (Z : Pl) (n : Nat) (s : Shared) (cur : Sem Fin) (pos : Pos) : Option (Shared × Thread) :=
  segGo treeTable Z.p Z.w Z.n₀ Z.ann 1 n s ⟨cur, .body Z.b Z.env, pos, [topFrame Z.q]⟩
noncomputable abbrev Pl.at (Z : Pl) (s : Shared) (cur : Sem Fin) (pos : Pos) : Option (Shared × Thread) :=
  some (s, ⟨cur, .body Z.b Z.env, pos, [topFrame Z.q]⟩)
noncomputable def Go (Z : Pl) (b : Nat) {α : Type} (x : Sem α) (s : Shared) (pos : Pos) (a : α) (s' : Shared) (pos' : Pos) : Prop :=
  ∃ n, n ≤ b ∧ ∀ (K : α → Sem Fin) (H : Value → Sem Fin) (gd : Bool → Bool) (lv : List Value → List Value), Z.seg n s (x.wrap K H gd lv) pos = Z.at s' (K a) pos'
theorem segGo_add {tb : String → Option Builtin} {p : Program} {w : World} {n₀ : Nat} {ann : Option Value} {b : Nat} (n m : Nat) : ∀ (s : Shared) (t : Thread) (s₁ : Shared) (t₁ : Thread),
    segGo tb p w n₀ ann b n s t = some (s₁, t₁) → segGo tb p w n₀ ann b (n + m) s t = segGo tb p w n₀ ann b m s₁ t₁ := by
  induction n with
  | zero =>
    intro s t s₁ t₁ h
    obtain ⟨⟩ : (s, t) = (s₁, t₁) := Option.some.inj h
    rw [Nat.zero_add]
  | succ n ih =>
    intro s t s₁ t₁ h
    rw [Nat.add_right_comm]
    revert h
    simp only [segGo]
    cases endAt b t <;> cases stepOk n₀ ann t <;> cases step (denote tb) p w s t <;> intro h <;> first | exact ih _ _ _ _ h | cases h
variable {Z : Pl} {α β : Type} {s s₁ s₂ s' : Shared} {pos pos₁ pos₂ pos' : Pos}
theorem seg_one {cur cur₁ : Sem Fin} {n : Nat} {r : Option (Shared × Thread)}
    (he : endAt 1 ⟨cur, .body Z.b Z.env, pos, [topFrame Z.q]⟩ = none) (hk : stepOk Z.n₀ Z.ann ⟨cur, .body Z.b Z.env, pos, [topFrame Z.q]⟩ = true)
    (hs : step (denote treeTable) Z.p Z.w s ⟨cur, .body Z.b Z.env, pos, [topFrame Z.q]⟩ = .go s₁ ⟨cur₁, .body Z.b Z.env, pos₁, [topFrame Z.q]⟩)
    (h : Z.seg n s₁ cur₁ pos₁ = r) : Z.seg (n + 1) s cur pos = r := by
  unfold Pl.seg segGo
  rw [he]
  dsimp only
  rw [hk]
  dsimp only
  rw [hs]
  exact h
variable {b b' : Nat}
theorem go_le {x : Sem α} {a : α} (h : Go Z b x s pos a s₁ pos₁) (le : b ≤ b') : Go Z b' x s pos a s₁ pos₁ := let ⟨n, hn, h⟩ := h; ⟨n, Nat.le_trans hn le, h⟩
theorem go_pure {a : α} : Go Z b (pure a) s pos a s pos := ⟨0, Nat.zero_le _, fun _ _ _ _ => rfl⟩
theorem go_bind {x : Sem α} {f : α → Sem β} {a : α} {c : β} (h : Go Z b x s pos a s₁ pos₁) (k : Go Z (b' - b) (f a) s₁ pos₁ c s₂ pos₂) (le : b ≤ b' := by omega) : Go Z b' (x >>= f) s pos c s₂ pos₂ := by
  obtain ⟨n, hn, h⟩ := h
  obtain ⟨m, hm, k⟩ := k
  refine ⟨n + m, by omega, fun K H gd lv => ?_⟩
  rw [Sem.bind_eq_wrap', Sem.wrap_wrap]
  exact (segGo_add n m _ _ _ _ (h _ _ _ _)).trans (k K H gd lv)
theorem go_keep {x : Sem α} {vs : List Value} {a : α} (h : Go Z b x s pos a s₁ pos₁) : Go Z b (x.keep vs) s pos a s₁ pos₁ := by
  obtain ⟨n, hn, h⟩ := h
  refine ⟨n, hn, fun K H gd lv => ?_⟩
  rw [Sem.keep_eq_wrap, Sem.wrap_wrap]
  exact h _ _ _ _
theorem go_holding {x : Sem α} {vs : List Value} {a : α} (h : Go Z b x s pos a s₁ pos₁) : Go Z b (holding vs x) s pos a s₁ pos₁ := by
  unfold holding
  split
  · exact h
  · exact go_keep h
theorem go_onRaise {x : Sem α} {k : Value → Sem Unit} {a : α} (h : Go Z b x s pos a s₁ pos₁) : Go Z b (x.onRaise k) s pos a s₁ pos₁ := by
  obtain ⟨n, hn, h⟩ := h
  refine ⟨n, hn, fun K H gd lv => ?_⟩
  rw [Sem.onRaise_eq_wrap, Sem.wrap_wrap]
  exact h _ _ _ _
theorem go_tryCatch {x : Sem α} {k : Value → Sem α} {a : α} (h : Go Z b x s pos a s₁ pos₁) : Go Z b (x.tryCatch k) s pos a s₁ pos₁ := by
  obtain ⟨n, hn, h⟩ := h
  refine ⟨n, hn, fun K H gd lv => ?_⟩
  rw [Sem.tryCatch_eq_wrap, Sem.wrap_wrap]
  exact h _ _ _ _
theorem go_rule {t : String} : Go Z 1 (rule t) s pos () s pos := ⟨1, Nat.le_refl _, fun K H gd lv => seg_one (cur₁ := K ()) rfl rfl rfl rfl⟩
theorem go_at {p' : Pos} : Go Z 1 (standAt p') s pos () s p' := ⟨1, Nat.le_refl _, fun K H gd lv => seg_one (cur₁ := K ()) rfl rfl rfl rfl⟩
theorem go_fresh : Go Z 1 fresh s pos s.toks { s with toks := s.toks + 1 } pos := ⟨1, Nat.le_refl _, fun K H gd lv => seg_one (cur₁ := K s.toks) rfl rfl rfl rfl⟩
theorem go_ask : Go Z 1 ask s pos ⟨Z.p, Z.w.params⟩ s pos := ⟨1, Nat.le_refl _, fun K H gd lv => seg_one (cur₁ := K ⟨Z.p, Z.w.params⟩) rfl rfl rfl rfl⟩
theorem go_loadPart {a : Addr} {part : Option Value} {o : Obj} (ho : s.heap.get? a = some o) : Go Z 1 (loadPart a part) s pos o s pos :=
  ⟨1, Nat.le_refl _, fun K H gd lv => seg_one (cur₁ := K o) rfl rfl (by
    obtain ⟨heap, gens, drawn, toks, os⟩ := s
    show (match heap.get? a with | some o => _ | none => _) = _
    dsimp only at ho
    rw [ho]
    rfl) rfl⟩
theorem go_updatePart {a : Addr} {part : Option Value} {f : Obj → Obj} {o : Obj} (ho : s.heap.get? a = some o) (ha : Nat.ble Z.n₀ a = true) :
    Go Z 1 (updatePart a part f) s pos () { s with heap := s.heap.update a f } pos :=
  ⟨1, Nat.le_refl _, fun K H gd lv => seg_one (cur₁ := K ()) rfl (by
    show (true && (Nat.ble Z.n₀ a || a == mainNs || a == cStatics || Z.ann == some (.ref a))) = true
    rw [ha]; rfl) (by
    obtain ⟨heap, gens, drawn, toks, os⟩ := s
    show (if (heap.get? a).isSome then _ else _) = _
    dsimp only at ho
    rw [ho]
    rfl) rfl⟩
theorem go_alloc {o : Obj} : Go Z 1 (alloc o) s pos s.heap.objs.size { s with heap := s.heap.push o } pos :=
  ⟨1, Nat.le_refl _, fun K H gd lv => seg_one (cur₁ := K s.heap.objs.size) rfl rfl rfl rfl⟩
theorem go_callHash {k : Int} {t : Tok} : Go Z 4 (call (.builtin "int.__hash__") [.int k t]) s pos (.int (rawHash k) s.toks) { s with toks := s.toks + 1 } pos := by
  refine ⟨4, Nat.le_refl _, fun K H gd lv => ?_⟩
  obtain ⟨p, w, n₀, ann, b, env, q⟩ := Z
  obtain ⟨heap, gens, drawn, toks, os⟩ := s
  kernel_rfl
end Mine.Hd
end
section
set_option maxRecDepth 100000
namespace Mine.Hd
open PySem PySem.W PyProof.Rows
variable {Z : Pl} {α β : Type} {s s₁ s₂ s' : Shared} {pos pos₁ pos₂ pos' : Pos}
theorem spec_hash (k : Int) (t : Tok) : specialOf (.int k t) (Str.ofString "__hash__") = pure (some (.builtin "int.__hash__")) := by kernel_rfl
theorem bind_hash (k : Int) (t : Tok) : bindSpecial (.builtin "int.__hash__") (.int k t) = pure (.builtin "int.__hash__", [.int k t]) := by kernel_rfl
theorem go_bindIf {k : Int} {t : Tok} : Go Z 1 (bindSpecialIfBound? (.int k t) (Str.ofString "__hash__")) s pos (some (.builtin "int.__hash__", [.int k t])) s pos := by
  unfold bindSpecialIfBound?
  rw [spec_hash, pure_bind]
  dsimp only
  refine go_bind go_ask ?_
  rw [bind_hash]
  split
  · exact go_pure
  · refine go_tryCatch ?_
    exact go_pure
theorem go_hash {k : Int} {t : Tok} : Go Z 5 (pyHash (.int k t)) s pos (hashInt k) { s with toks := s.toks + 1 } pos := by
  show Go Z 5 (pyHashByItsType (.int k t)) s pos _ _ pos
  unfold pyHashByItsType
  rw [show cRoomFor "hash" [Value.int k t] = pure () from rfl, spec_hash]
  refine go_bind (b := 0) go_pure (go_bind (b := 0) go_pure ?_)
  rw [show (some (Value.builtin "int.__hash__") == some Value.none) = false from by decide]
  refine go_bind (b := 0) go_pure ?_
  have hc : ∀ refuse : Sem Value, Go Z 5 (callSpecialIfBoundUnlessNone? (.int k t) (Str.ofString "__hash__") refuse) s pos (some (.int (rawHash k) s.toks)) { s with toks := s.toks + 1 } pos := by
    intro refuse
    unfold callSpecialIfBoundUnlessNone?
    refine go_holding (go_bind go_bindIf ?_)
    dsimp only
    rw [show (Value.builtin "int.__hash__" == Value.none) = false from by decide]
    exact go_bind go_callHash go_pure
  refine go_bind (hc _) ?_
  dsimp only
  unfold pyHashByItsType.reduced
  have hr := rawHash_range k
  rw [if_pos (by simp only [Bool.and_eq_true, decide_eq_true_eq]; exact hr)]
  exact go_pure
structure Below (es : List DictEntry) (k : Int) : Prop where
  hash : ∀ e ∈ es, e.hash ≠ hashInt k
theorem places_none {es : Array DictEntry} {h : Int} (hb : ∀ e ∈ es, e.hash ≠ h) : placesWithHash es.size (fun i => es[i]?.map (·.hash)) h = [] := by
  unfold placesWithHash
  rw [List.filter_eq_nil_iff]
  intro i hi
  have hlt : i < es.size := List.mem_range.mp hi
  simp only [Array.getElem?_eq_getElem hlt, Option.map_some, beq_iff_eq, Option.some.injEq]
  exact hb _ (Array.getElem_mem hlt)
noncomputable abbrev dobj (es : List DictEntry) (n : Nat) : Obj := { cls := .type "dict", data := .dict es.toArray n }
theorem go_entries {a : Addr} {part : Option Value} {es : List DictEntry} {n : Nat} (ho : s.heap.get? a = some (dobj es n)) : Go Z 1 (dictEntries a part) s pos es.toArray s pos := by
  unfold dictEntries
  exact go_bind (go_loadPart ho) go_pure
theorem go_epoch {a : Addr} {part : Option Value} {es : List DictEntry} {n : Nat} (ho : s.heap.get? a = some (dobj es n)) : Go Z 1 (dictEpoch a part) s pos n s pos := by
  unfold dictEpoch
  exact go_bind (go_loadPart ho) go_pure
theorem go_find {a : Addr} {es : List DictEntry} {n : Nat} {k : Int} {t : Tok} {h : Int} (ho : s.heap.get? a = some (dobj es n)) (hb : ∀ e ∈ es, e.hash ≠ h) :
    Go Z 1 (dictFind a (.int k t) h) s pos none s pos := by
  unfold dictFind
  refine go_holding (go_bind (go_entries ho) ?_)
  dsimp only
  rw [places_none (by simpa using hb)]
  unfold dictWalkPlain
  exact go_bind (b := 0) go_pure (go_bind (b := 0) go_pure go_pure)
theorem go_updateKeys {a : Addr} {part : Option Value} {f : Array DictEntry → Array DictEntry} {es es' : List DictEntry} {n : Nat} (ho : s.heap.get? a = some (dobj es n)) (ha : Nat.ble Z.n₀ a = true) (hf : f es.toArray = es'.toArray)
    (hz : es'.length ≤ 100000) : Go Z 3 (updateDictKeys a f part) s pos () { s with heap := s.heap.update a (Obj.mapDictKeys f) } pos := by
  unfold updateDictKeys
  refine go_bind (go_loadPart ho) ?_
  dsimp only
  refine go_bind (go_updatePart ho ha) ?_
  unfold lookBehind
  have ho' : (s.heap.update a (Obj.mapDictKeys f)).get? a = some (dobj es' (n + 1)) := by
    have := Heap.get?_update_self (Obj.mapDictKeys f) ho (by rfl)
    rw [this]
    show some (Obj.mapDictKeys f (dobj es n)) = _
    unfold Obj.mapDictKeys dobj
    dsimp only
    rw [hf]
  refine go_bind (go_loadPart ho') ?_
  rw [show (dobj es' (n + 1)).data.pastItsLine = none from pastItsLine_dict (by rw [List.size_toArray]; unfold sizeLine; omega)]
  exact go_pure
theorem go_set {a : Addr} {es : List DictEntry} {n : Nat} {k : Int} {t : Tok} {v : Value} (ho : s.heap.get? a = some (dobj es n)) (ha : Nat.ble Z.n₀ a = true) (hb : ∀ e ∈ es, e.hash ≠ hashInt k) (hz : es.length < 100000) :
    Go Z 10 (dictSet a (.int k t) v) s pos () { s with heap := s.heap.update a (Obj.mapDictKeys (·.push ⟨hashInt k, .int k t, v⟩)), toks := s.toks + 1 } pos := by
  unfold dictSet
  refine go_holding (go_bind go_hash ?_)
  unfold dictSetHashed
  refine go_holding (go_bind (go_find ho hb) ?_)
  refine go_bind go_rule ?_
  exact go_le (go_updateKeys (es' := es ++ [⟨hashInt k, .int k t, v⟩]) ho ha (by simp) (by simp; omega)) (by omega)
theorem go_put {a : Addr} {es : List DictEntry} {n : Nat} {k : Int} {t : Tok} {h : Int} {v : Value} (ho : s.heap.get? a = some (dobj es n)) (ha : Nat.ble Z.n₀ a = true) (hb : ∀ e ∈ es, e.hash ≠ h) (hz : es.length < 100000) :
    Go Z 4 (dictPut a h (.int k t) v) s pos () { s with heap := s.heap.update a (Obj.mapDictKeys (·.push ⟨h, .int k t, v⟩)) } pos := by
  unfold dictPut
  refine go_bind (go_find ho hb) ?_
  exact go_le (go_updateKeys (es' := es ++ [⟨h, .int k t, v⟩]) ho ha (by simp) (by simp; omega)) (by omega)
end Mine.Hd
end
section
set_option maxRecDepth 100000
namespace Mine.Hd
open PySem PySem.W PyProof.Rows
variable {Z : Pl} {α β : Type} {s s₁ s₂ s' : Shared} {pos pos₁ pos₂ pos' : Pos}
structure It where
  k : Int
  s : Str
  kp : Pos
  vp : Pos
noncomputable def H (h : Heap) (os : List Obj) : Heap := ⟨h.objs ++ os.toArray, h.life⟩
theorem H_size (h : Heap) (os : List Obj) : (H h os).objs.size = h.objs.size + os.length := by simp [H]
theorem H_push (h : Heap) (os : List Obj) (o : Obj) : (H h os).push o = H h (os ++ [o]) := by
  obtain ⟨a, l⟩ := h
  show Heap.mk ((a ++ os.toArray).push o) l = Heap.mk (a ++ (os ++ [o]).toArray) l
  congr 1
  apply Array.ext'
  simp
theorem H_update (h : Heap) (os : List Obj) (i : Nat) (f : Obj → Obj) : (H h os).update (h.objs.size + i) f = H h (os.modify i f) := by
  obtain ⟨a, l⟩ := h
  show Heap.mk ((a ++ os.toArray).modify (a.size + i) f) l = Heap.mk (a ++ (os.modify i f).toArray) l
  congr 1
  apply Array.ext_getElem?
  intro j
  rw [Array.getElem?_modify]
  simp only [Array.getElem?_append, List.getElem?_toArray, List.getElem?_modify]
  by_cases h1 : j < a.size
  · have : ¬ a.size + i = j := by omega
    simp [h1, this]
  · simp only [h1, if_false]
    by_cases h2 : a.size + i = j
    · subst h2
      simp
    · have : ¬ i = j - a.size := by omega
      simp [h2, this]
theorem H_get {h : Heap} {os : List Obj} {i : Nat} {es : List DictEntry} {n : Nat} (e : os[i]? = some (dobj es n)) : (H h os).get? (h.objs.size + i) = some (dobj es n) := by
  unfold Heap.get? H
  have : (h.objs ++ os.toArray)[h.objs.size + i]? = some (dobj es n) := by
    rw [Array.getElem?_append_right (by omega)]
    simpa using e
  dsimp only
  rw [this]
noncomputable abbrev St (h : Heap) (os : List Obj) (g : Array GenState) (d : Drawn) (T : Nat) (o : OsState) : Shared := ⟨H h os, g, d, T, o⟩
variable {h : Heap} {os : List Obj} {g : Array GenState} {dr : Drawn} {T : Nat} {ost : OsState}
noncomputable def kS (env : Env) (i : It) : Sem Value := eval (.Constant (.int i.k) 0 i.kp) env
noncomputable def vS (env : Env) (dp : Pos) (i : It) : Sem Value := do let x ← eval (.Constant (.str i.s) 0 i.vp) env; standAt dp; pure x
noncomputable def pr (env : Env) (dp : Pos) (l : List It) : List (Sem Value × Sem Value) := l.map fun i => (kS env i, vS env dp i)
theorem go_key {env : Env} {i : It} : Go Z 1 (kS env i) s pos (.int i.k s.toks) { s with toks := s.toks + 1 } pos := by
  show Go Z 1 (mkInt i.k) s pos _ _ pos
  exact go_bind go_fresh go_pure
theorem go_val {env : Env} {dp : Pos} {i : It} : Go Z 2 (vS env dp i) s pos (.str i.s s.toks) { s with toks := s.toks + 1 } dp := by
  unfold vS
  refine go_bind (b := 1) (s₁ := { s with toks := s.toks + 1 }) (pos₁ := pos) (a := .str i.s s.toks) ?_ (go_bind go_at go_pure)
  show Go Z 1 (mkText i.s) s pos _ _ pos
  exact go_bind go_fresh go_pure
noncomputable def entL (T : Nat) : List It → List DictEntry
  | [] => []
  | i :: r => ⟨hashInt i.k, .int i.k T, .str i.s (T + 1)⟩ :: entL (T + 3) r
noncomputable def entS (T : Nat) : List It → List DictEntry
  | [] => []
  | i :: r => ⟨hashInt i.k, .int i.k T, .str i.s (T + 1)⟩ :: entS (T + 2) r
theorem entL_length : ∀ (l : List It) (T : Nat), (entL T l).length = l.length
  | [], _ => rfl
  | _ :: r, T => by simp [entL, entL_length r]
theorem entS_length : ∀ (l : List It) (T : Nat), (entS T l).length = l.length
  | [], _ => rfl
  | _ :: r, T => by simp [entS, entS_length r]
theorem entL_hash : ∀ (l : List It) (T : Nat), (entL T l).map (·.hash) = l.map fun i => hashInt i.k
  | [], _ => rfl
  | _ :: r, T => by simp [entL, entL_hash r]
theorem entS_hash : ∀ (l : List It) (T : Nat), (entS T l).map (·.hash) = l.map fun i => hashInt i.k
  | [], _ => rfl
  | _ :: r, T => by simp [entS, entS_hash r]
noncomputable abbrev Apart (l : List Int) : Prop := l.Pairwise (· ≠ ·)
theorem modify_last {os : List Obj} {o : Obj} {f : Obj → Obj} : (os ++ [o]).modify os.length f = os ++ [f o] := by
  apply List.ext_getElem?
  intro j
  rw [List.getElem?_modify]
  by_cases h1 : j < os.length
  · simp [List.getElem?_append_left h1, Nat.ne_of_gt h1]
  · by_cases h2 : j = os.length
    · subst h2; simp
    · have : os.length < j := by omega
      have h3 : (os ++ [o])[j]? = none := List.getElem?_eq_none (by simp; omega)
      have h4 : (os ++ [f o])[j]? = none := List.getElem?_eq_none (by simp; omega)
      rw [h3, h4]; simp
theorem mapKeys_push {es : List DictEntry} {n : Nat} {e : DictEntry} : Obj.mapDictKeys (·.push e) (dobj es n) = dobj (es ++ [e]) (n + 1) := by
  show (⟨.type "dict", none, .dict (es.toArray.push e) (n + 1), #[]⟩ : Obj) = ⟨.type "dict", none, .dict (es ++ [e]).toArray (n + 1), #[]⟩
  congr 2
  simp
theorem go_setLast {es : List DictEntry} {n : Nat} {k : Int} {t : Tok} {v : Value} (ha : Nat.ble Z.n₀ (h.objs.size + os.length) = true) (hb : ∀ e ∈ es, e.hash ≠ hashInt k) (hz : es.length < 100000) :
    Go Z 10 (dictSet (h.objs.size + os.length) (.int k t) v) (St h (os ++ [dobj es n]) g dr T ost) pos () (St h (os ++ [dobj (es ++ [⟨hashInt k, .int k t, v⟩]) (n + 1)]) g dr (T + 1) ost) pos := by
  have ho : (H h (os ++ [dobj es n])).get? (h.objs.size + os.length) = some (dobj es n) := H_get (by simp)
  have := go_set (Z := Z) (s := St h (os ++ [dobj es n]) g dr T ost) (pos := pos) (t := t) (v := v) ho ha hb hz
  simpa only [H_update, modify_last, mapKeys_push] using this
theorem not_mem_hash {es : List DictEntry} {l : List Int} {x : Int} (h : Apart (es.map (·.hash) ++ x :: l)) : ∀ e ∈ es, e.hash ≠ x := by
  intro e he q
  have := (List.pairwise_append.mp h).2.2 e.hash (List.mem_map_of_mem he) x (by simp)
  exact this q
theorem go_long {env : Env} {dp : Pos} (ha : Nat.ble Z.n₀ (h.objs.size + os.length) = true) (f : Sem Value × Sem Value → PUnit → Sem (ForInStep PUnit))
    (hf : ∀ k v u, f (k, v) u = (do let kv ← k; let vv ← holding [kv] v; holding [kv, vv] (dictSet (h.objs.size + os.length) kv vv); pure (.yield ⟨⟩))) : ∀ (l : List It) (es : List DictEntry) (T : Nat) (pos : Pos), l ≠ [] →
      Apart (es.map (·.hash) ++ l.map fun i => hashInt i.k) → es.length + l.length < 100000 →
      Go Z (14 * l.length) (forIn (pr env dp l) ⟨⟩ f) (St h (os ++ [dobj es es.length]) g dr T ost) pos ⟨⟩ (St h (os ++ [dobj (es ++ entL T l) (es.length + l.length)]) g dr (T + 3 * l.length) ost) dp
  | [], _, _, _, h0, _, _ => absurd rfl h0
  | i :: r, es, T, pos, _, hA, hz => by
    simp only [List.length_cons] at hz
    unfold pr
    rw [List.map_cons, List.forIn_cons, hf]
    have step : Go Z 14 (do let kv ← kS env i; let vv ← holding [kv] (vS env dp i); holding [kv, vv] (dictSet (h.objs.size + os.length) kv vv); pure (ForInStep.yield (⟨⟩ : PUnit))) (St h (os ++ [dobj es es.length]) g dr T ost) pos
        (.yield ⟨⟩) (St h (os ++ [dobj (es ++ [⟨hashInt i.k, .int i.k T, .str i.s (T + 1)⟩]) (es.length + 1)]) g dr (T + 3) ost) dp := by
      refine go_bind go_key (go_bind (go_holding go_val) (go_bind (go_holding (go_setLast (n := es.length) ha (not_mem_hash hA) (by omega))) ?_))
      exact go_pure
    simp only [List.length_cons]
    refine go_bind step ?_
    dsimp only
    cases r with
    | nil =>
      simp only [List.map_nil, List.forIn_nil, entL, List.length_cons, List.length_nil]
      exact go_pure
    | cons j r =>
      have ih := go_long (env := env) (dp := dp) ha f hf (j :: r) (es ++ [⟨hashInt i.k, .int i.k T, .str i.s (T + 1)⟩]) (T + 3) dp (by simp) (by simpa using hA) (by simp only [List.length_append, List.length_cons, List.length_nil] at hz ⊢; omega)
      simp only [List.length_append, List.length_cons, List.length_nil, Nat.zero_add, List.append_assoc, List.singleton_append] at ih
      have e1 : es.length + 1 + (r.length + 1) = es.length + (j :: r).length.succ := by simp; omega
      have e2 : T + 3 + 3 * (r.length + 1) = T + 3 * (i :: j :: r).length := by simp; omega
      rw [e1, e2] at ih
      exact go_le ih (by simp only [List.length_cons]; omega)
theorem go_long0 {env : Env} {dp : Pos} (ha : Nat.ble Z.n₀ (h.objs.size + os.length) = true) (f : Sem Value × Sem Value → PUnit → Sem (ForInStep PUnit))
    (hf : ∀ k v u, f (k, v) u = (do let kv ← k; let vv ← holding [kv] v; holding [kv, vv] (dictSet (h.objs.size + os.length) kv vv); pure (.yield ⟨⟩))) (l : List It) (T : Nat) (pos : Pos) (h0 : l ≠ [])
    (hA : Apart (l.map fun i => hashInt i.k)) (hz : l.length < 100000) :
      Go Z (14 * l.length) (forIn (pr env dp l) ⟨⟩ f) (St h (os ++ [dobj [] 0]) g dr T ost) pos ⟨⟩ (St h (os ++ [dobj (entL T l) l.length]) g dr (T + 3 * l.length) ost) dp := by
  have := go_long (Z := Z) (env := env) (dp := dp) (g := g) (dr := dr) (ost := ost) ha f hf l [] T pos h0 (by simpa using hA) (by simpa using hz)
  simpa only [List.nil_append, List.length_nil, Nat.zero_add] using this
theorem go_subLong {env : Env} {dp : Pos} {l : List It} (ha : Nat.ble Z.n₀ (h.objs.size + os.length) = true) (hl : 15 < l.length) (hA : Apart (l.map fun i => hashInt i.k)) (hz : l.length < 100000) :
    Go Z (14 * l.length + 2) (subDict (pr env dp l)) (St h os g dr T ost) pos (h.objs.size + os.length) (St h (os ++ [dobj (entL T l) l.length]) g dr (T + 3 * l.length) ost) dp := by
  unfold subDict
  refine go_bind (b := 1) (s₁ := St h (os ++ [dobj [] 0]) g dr T ost) (a := h.objs.size + os.length) (pos₁ := pos) ?_ ?_
  · have := go_alloc (Z := Z) (s := St h os g dr T ost) (pos := pos) (o := dobj [] 0)
    simpa only [H_size, H_push] using this
  refine go_bind (b := 14 * l.length + 1) (a := ⟨⟩) (go_holding ?_) go_pure
  rw [if_neg (by simp [pr]; omega)]
  refine go_bind go_rule ?_
  exact go_bind (go_long0 ha _ (fun _ _ _ => rfl) l T pos (by intro e; subst e; simp at hl) hA hz) go_pure
end Mine.Hd
end
section
set_option maxRecDepth 100000
namespace Mine.Hd
open PySem PySem.W PyProof.Rows
variable {Z : Pl} {α β : Type} {s s₁ s₂ s' : Shared} {pos pos₁ pos₂ pos' : Pos} {h : Heap} {os : List Obj} {g : Array GenState} {dr : Drawn} {T : Nat} {ost : OsState}
noncomputable def valS (T : Nat) : List It → List (Value × Value)
  | [] => []
  | i :: r => (.int i.k T, .str i.s (T + 1)) :: valS (T + 2) r
theorem go_pairs {env : Env} {dp : Pos} : ∀ (l : List It) (T : Nat) (pos : Pos), l ≠ [] →
    Go Z (3 * l.length) (evalPairs (pr env dp l)) (St h os g dr T ost) pos (valS T l) (St h os g dr (T + 2 * l.length) ost) dp
  | [], _, _, h0 => absurd rfl h0
  | i :: r, T, pos, _ => by
    unfold pr
    rw [List.map_cons]
    unfold evalPairs
    simp only [List.length_cons]
    refine go_bind go_key (go_bind (go_holding go_val) ?_)
    cases r with
    | nil => exact go_bind (b := 0) (go_holding (by rw [List.map_nil]; unfold evalPairs; exact go_pure)) go_pure
    | cons j r =>
      have ih := go_pairs (env := env) (dp := dp) (j :: r) (T + 2) dp (by simp)
      rw [show T + 2 + 2 * (j :: r).length = T + 2 * (i :: j :: r).length by simp; omega] at ih
      exact go_bind (go_holding ih) go_pure (by simp only [List.length_cons]; omega)
theorem go_sets (ha : Nat.ble Z.n₀ (h.objs.size + os.length) = true) (f : Value × Value → PUnit → Sem (ForInStep PUnit))
    (hf : ∀ k v u, f (k, v) u = (do dictSet (h.objs.size + os.length) k v; pure (.yield ⟨⟩))) : ∀ (l : List It) (es : List DictEntry) (T U : Nat) (pos : Pos),
      Apart (es.map (·.hash) ++ l.map fun i => hashInt i.k) → es.length + l.length < 100000 →
      Go Z (11 * l.length) (forIn (valS T l) ⟨⟩ f) (St h (os ++ [dobj es es.length]) g dr U ost) pos ⟨⟩ (St h (os ++ [dobj (es ++ entS T l) (es.length + l.length)]) g dr (U + l.length) ost) pos
  | [], es, T, U, pos, _, _ => by
    simp only [valS, List.forIn_nil, entS, List.append_nil, List.length_nil, Nat.add_zero]
    exact go_pure
  | i :: r, es, T, U, pos, hA, hz => by
    simp only [List.length_cons] at hz
    unfold valS
    rw [List.forIn_cons, hf]
    have step : Go Z 10 (do dictSet (h.objs.size + os.length) (.int i.k T) (.str i.s (T + 1)); pure (ForInStep.yield (⟨⟩ : PUnit))) (St h (os ++ [dobj es es.length]) g dr U ost) pos
        (.yield ⟨⟩) (St h (os ++ [dobj (es ++ [⟨hashInt i.k, .int i.k T, .str i.s (T + 1)⟩]) (es.length + 1)]) g dr (U + 1) ost) pos :=
      go_bind (go_setLast (n := es.length) ha (not_mem_hash hA) (by omega)) go_pure
    simp only [List.length_cons]
    refine go_bind step ?_
    dsimp only
    have ih := go_sets ha f hf r (es ++ [⟨hashInt i.k, .int i.k T, .str i.s (T + 1)⟩]) (T + 2) (U + 1) pos (by simpa using hA) (by simp only [List.length_append, List.length_cons, List.length_nil] at hz ⊢; omega)
    simp only [List.length_append, List.length_cons, List.length_nil, Nat.zero_add, List.append_assoc, List.singleton_append] at ih
    rw [show es.length + 1 + r.length = es.length + (i :: r).length by simp; omega, show U + 1 + r.length = U + (i :: r).length by simp; omega] at ih
    exact go_le ih (by omega)
theorem go_subShort {env : Env} {dp : Pos} {l : List It} (h0 : l ≠ []) (ha : Nat.ble Z.n₀ (h.objs.size + os.length) = true) (hl : l.length ≤ 15) (hA : Apart (l.map fun i => hashInt i.k)) :
    Go Z (14 * l.length + 2) (subDict (pr env dp l)) (St h os g dr T ost) pos (h.objs.size + os.length) (St h (os ++ [dobj (entS T l) l.length]) g dr (T + 3 * l.length) ost) dp := by
  unfold subDict
  refine go_bind (b := 1) (s₁ := St h (os ++ [dobj [] 0]) g dr T ost) (a := h.objs.size + os.length) (pos₁ := pos) ?_ ?_
  · have := go_alloc (Z := Z) (s := St h os g dr T ost) (pos := pos) (o := dobj [] 0)
    simpa only [H_size, H_push] using this
  refine go_bind (b := 14 * l.length + 1) (a := ⟨⟩) (go_holding ?_) go_pure
  rw [if_pos (by simpa [pr] using hl)]
  refine go_bind (go_pairs l T pos h0) (go_holding ?_)
  have := go_sets (Z := Z) (g := g) (dr := dr) (ost := ost) (h := h) (os := os) ha (fun x _ => match x with | (k, v) => (do dictSet (h.objs.size + os.length) k v; pure (.yield ⟨⟩))) (fun _ _ _ => rfl) l [] T (T + 2 * l.length) dp (by simpa using hA) (by simp; omega)
  simp only [List.nil_append, List.length_nil, Nat.zero_add] at this
  rw [show T + 2 * l.length + l.length = T + 3 * l.length by omega] at this
  exact go_bind this go_pure
theorem sub_dict : isSubtype (.type "dict") (.type "dict") = pure true := by kernel_rfl
theorem iter_dict : typeLookup (.type "dict") (Str.ofString "__iter__") = pure (some (.builtin "dict.__iter__")) := by kernel_rfl
theorem go_isDict {a : Addr} {es : List DictEntry} {n : Nat} (ho : s.heap.get? a = some (dobj es n)) : Go Z 1 (isInstance (.ref a) (.type "dict")) s pos true s pos := by
  unfold isInstance
  refine go_bind (b := 1) (a := .type "dict") (s₁ := s) (pos₁ := pos) ?_ ?_
  · show Go Z 1 (do return (← loadPart a (some headPart)).cls) s pos _ _ _
    exact go_bind (go_loadPart ho) go_pure
  · rw [sub_dict]; exact go_pure
theorem go_iterDict {a : Addr} {es : List DictEntry} {n : Nat} (ho : s.heap.get? a = some (dobj es n)) : Go Z 1 (specialOf (.ref a) (Str.ofString "__iter__")) s pos (some (.builtin "dict.__iter__")) s pos := by
  unfold specialOf
  refine go_bind (b := 1) (a := .type "dict") (s₁ := s) (pos₁ := pos) ?_ ?_
  · show Go Z 1 (do return (← loadPart a (some headPart)).cls) s pos _ _ _
    exact go_bind (go_loadPart ho) go_pure
  · rw [iter_dict]; exact go_pure
noncomputable def IntEnt (e : DictEntry) : Prop := ∃ k t, e.key = .int k t
theorem modify_head {o : Obj} {r : List Obj} {f : Obj → Obj} : (o :: r).modify 0 f = f o :: r := rfl
theorem go_merge {mid : List Obj} {E : List DictEntry} {en : Nat} (ha : Nat.ble Z.n₀ h.objs.size = true) (hI : ∀ e ∈ E, IntEnt e)
    (f : Nat → PUnit → Sem (ForInStep PUnit))
    (hf : ∀ i (hlt : i < E.length) u M mn M' mn' pos, Go Z 4 (dictPut h.objs.size E[i].hash E[i].key E[i].val) (St h (dobj M mn :: (mid ++ [dobj E en])) g dr T ost) pos () (St h (dobj M' mn' :: (mid ++ [dobj E en])) g dr T ost) pos →
      Go Z 6 (f i u) (St h (dobj M mn :: (mid ++ [dobj E en])) g dr T ost) pos (.yield ⟨⟩) (St h (dobj M' mn' :: (mid ++ [dobj E en])) g dr T ost) pos) : ∀ (m i : Nat) (M : List DictEntry) (mn : Nat) (pos : Pos), i + m = E.length → Apart (M.map (·.hash) ++ (E.drop i).map (·.hash)) → M.length + m < 100000 →
      Go Z (6 * m) (forIn (List.range' i m) ⟨⟩ f) (St h (dobj M mn :: (mid ++ [dobj E en])) g dr T ost) pos ⟨⟩ (St h (dobj (M ++ E.drop i) (mn + m) :: (mid ++ [dobj E en])) g dr T ost) pos
  | 0, i, M, mn, pos, hi, hA, hz => by
    have : E.drop i = [] := List.drop_eq_nil_of_le (by omega)
    rw [this]
    simp only [List.range'_zero, List.forIn_nil, List.append_nil, Nat.add_zero]
    exact go_pure
  | m + 1, i, M, mn, pos, hi, hA, hz => by
    have hlt : i < E.length := by omega
    have hd : E.drop i = E[i] :: E.drop (i + 1) := List.drop_eq_getElem_cons hlt
    rw [List.range'_succ, List.forIn_cons]
    obtain ⟨k, t, hk⟩ := hI E[i] (List.getElem_mem hlt)
    have gs : ∀ M' mn', (St h (dobj M' mn' :: (mid ++ [dobj E en])) g dr T ost).heap.get? (h.objs.size + (mid.length + 1)) = some (dobj E en) := fun M' mn' => H_get (by simp)
    have gm : (St h (dobj M mn :: (mid ++ [dobj E en])) g dr T ost).heap.get? h.objs.size = some (dobj M mn) := H_get (i := 0) rfl
    have hA' : Apart (M.map (·.hash) ++ E[i].hash :: (E.drop (i + 1)).map (·.hash)) := by rw [hd, List.map_cons] at hA; exact hA
    have hput : Go Z 4 (dictPut h.objs.size E[i].hash E[i].key E[i].val) (St h (dobj M mn :: (mid ++ [dobj E en])) g dr T ost) pos () (St h (dobj (M ++ [E[i]]) (mn + 1) :: (mid ++ [dobj E en])) g dr T ost) pos := by
      have := go_put (Z := Z) (s := St h (dobj M mn :: (mid ++ [dobj E en])) g dr T ost) (pos := pos) (k := k) (t := t) (h := E[i].hash) (v := E[i].val) gm ha (not_mem_hash hA') (by omega)
      rw [← hk] at this
      have e0 : h.objs.size = h.objs.size + 0 := rfl
      have e1 : (H h (dobj M mn :: (mid ++ [dobj E en]))).update h.objs.size (Obj.mapDictKeys (·.push ⟨E[i].hash, E[i].key, E[i].val⟩)) = H h (dobj (M ++ [E[i]]) (mn + 1) :: (mid ++ [dobj E en])) := by
        conv => lhs; rw [e0, H_update, modify_head, mapKeys_push]
      rw [e1] at this
      exact this
    refine go_bind (b := 6) (a := .yield ⟨⟩) (s₁ := St h (dobj (M ++ [E[i]]) (mn + 1) :: (mid ++ [dobj E en])) g dr T ost) (pos₁ := pos) ?_ ?_
    · exact hf i hlt _ _ _ _ _ _ hput
    · dsimp only
      have ih := go_merge ha hI f hf m (i + 1) (M ++ [E[i]]) (mn + 1) pos (by omega) (by simpa using hA') (by simp; omega)
      rw [show M ++ [E[i]] ++ E.drop (i + 1) = M ++ E.drop i by rw [hd]; simp, show mn + 1 + m = mn + (m + 1) by omega] at ih
      exact go_le ih (by omega)
theorem go_mergeAll {mid : List Obj} {M E : List DictEntry} {mn en : Nat} (ha : Nat.ble Z.n₀ h.objs.size = true) (hm : M ≠ []) (hI : ∀ e ∈ E, IntEnt e) (hs : 1 < h.objs.size) (hA : Apart (M.map (·.hash) ++ E.map (·.hash))) (hz : M.length + E.length < 100000) :
    Go Z (6 * E.length + 8) (mergeMapping h.objs.size (.ref (h.objs.size + (mid.length + 1))) false) (St h (dobj M mn :: (mid ++ [dobj E en])) g dr T ost) pos ⟨⟩ (St h (dobj (M ++ E) (mn + E.length) :: (mid ++ [dobj E en])) g dr T ost) pos := by
  have gs : (St h (dobj M mn :: (mid ++ [dobj E en])) g dr T ost).heap.get? (h.objs.size + (mid.length + 1)) = some (dobj E en) := H_get (by simp)
  have gm : (St h (dobj M mn :: (mid ++ [dobj E en])) g dr T ost).heap.get? h.objs.size = some (dobj M mn) := H_get (i := 0) rfl
  unfold mergeMapping
  refine go_bind (x := isInstance (.ref (h.objs.size + (mid.length + 1))) (.type "dict")) (go_isDict gs) ?_
  rw [if_pos rfl]
  refine go_bind (x := specialOf (.ref (h.objs.size + (mid.length + 1))) (Str.ofString "__iter__")) (go_iterDict gs) ?_
  refine go_bind (b := 0) go_pure ?_
  rw [show (some (Value.builtin "dict.__iter__") == some (Value.builtin "dict.__iter__")) = true from by decide]
  dsimp only
  have hsys : (h.objs.size + (mid.length + 1) == sysModules) = false := beq_eq_false_iff_ne.mpr (by show _ ≠ 1; omega)
  rw [if_neg (by rw [hsys]; decide)]
  refine go_bind (go_entries gm) ?_
  rw [if_neg (by cases M <;> simp_all)]
  refine go_bind (go_entries gs) (go_bind (go_epoch gs) ?_)
  rw [List.range_eq_range', List.size_toArray]
  refine go_bind (b := 6 * E.length) (s₁ := St h (dobj (M ++ E) (mn + E.length) :: (mid ++ [dobj E en])) g dr T ost) (pos₁ := pos) (a := ⟨⟩) ?_ go_pure
  have := fun f hf => go_merge (Z := Z) (g := g) (dr := dr) (T := T) (ost := ost) (h := h) (mid := mid) (E := E) (en := en) ha hI f hf E.length 0 M mn pos (by omega) (by simpa using hA) hz
  rw [List.drop_zero] at this
  refine this _ fun i hlt u M mn M' mn' pos hp => ?_
  have gs' : ∀ M mn, (St h (dobj M mn :: (mid ++ [dobj E en])) g dr T ost).heap.get? (h.objs.size + (mid.length + 1)) = some (dobj E en) := fun M mn => H_get (by simp)
  refine go_bind (go_entries (gs' _ _)) ?_
  rw [show E.toArray[i]? = some E[i] by simp [hlt]]
  dsimp only
  refine go_bind (go_holding (by rw [if_neg (by decide)]; exact hp)) ?_
  refine go_bind (go_epoch (gs' _ _)) ?_
  rw [if_neg (by simp)]
  exact go_pure
end Mine.Hd
end
section
set_option maxRecDepth 100000
namespace Mine.Hd
open PySem PySem.W PyProof.Rows
variable {Z : Pl} {α β : Type} {s s₁ s₂ s' : Shared} {pos pos₁ pos₂ pos' : Pos} {h : Heap} {os : List Obj} {g : Array GenState} {dr : Drawn} {T : Nat} {ost : OsState}
noncomputable def its (env : Env) (dp : Pos) (l : List It) : List (Option (Sem Value) × Sem Value) := l.map fun i => (some (kS env i), vS env dp i)
noncomputable abbrev RunT := List (Sem Value × Sem Value)
noncomputable def flushD (run : RunT) (main : Option Addr) : Sem (Option Addr) :=
  if run.isEmpty = true then pure main
  else
    match main with
    | none => do
      let __do_lift ← subDict run
      pure (some __do_lift)
    | some d => do
      let sub ← holding [Value.ref d] (subDict run)
      (holding [Value.ref d, Value.ref sub] (mergeMapping d (Value.ref sub) false)).onRaise fun x => do
          let _ ← holding [Value.ref d, x] (runValue (Code.builtin "proto.let_go" { }))
          pure ()
      pure (some d)
noncomputable abbrev FTy := Option (Sem Value) × Sem Value → Option Addr × RunT → Sem (ForInStep (Option Addr × RunT))
noncomputable def FOk (f : FTy) : Prop := ∀ k v m r, f (some k, v) (m, r) = if ((r ++ [(k, v)]).length == 17) = true then (do let main ← flushD (r ++ [(k, v)]) m; pure (.yield (main, []))) else pure (.yield (m, r ++ [(k, v)]))
theorem acc1 {b : Nat} {env : Env} {dp : Pos} {f : FTy} (hf : FOk f) {m : Option Addr} {a : Option Addr × RunT} {rest : List It} : ∀ (l r : List It), r.length + l.length < 17 →
    Go Z b (forIn (its env dp rest) (m, pr env dp (r ++ l)) f) s pos a s' pos' → Go Z b (forIn (its env dp (l ++ rest)) (m, pr env dp r) f) s pos a s' pos'
  | [], r, _, k => by simpa using k
  | i :: l, r, hl, k => by
    simp only [List.length_cons] at hl
    unfold its
    rw [List.cons_append, List.map_cons, List.forIn_cons, hf]
    rw [if_neg (by simp [pr]; omega), pure_bind]
    dsimp only
    have e : pr env dp r ++ [(kS env i, vS env dp i)] = pr env dp (r ++ [i]) := by simp [pr]
    rw [e]
    exact acc1 hf l (r ++ [i]) (by simp; omega) (by simpa using k)
theorem chunk {b b' : Nat} {env : Env} {dp : Pos} {f : FTy} (hf : FOk f) {m m' : Option Addr} {a : Option Addr × RunT} {c rest : List It} (hc : c.length = 17)
    (k1 : Go Z b (flushD (pr env dp c) m) s pos m' s₁ pos₁) (k : Go Z (b' - b) (forIn (its env dp rest) (m', []) f) s₁ pos₁ a s' pos') (le : b ≤ b' := by omega) :
    Go Z b' (forIn (its env dp (c ++ rest)) (m, []) f) s pos a s' pos' := by
  obtain ⟨l, x, rfl⟩ : ∃ l x, c = l ++ [x] := ⟨c.dropLast, c.getLast (by intro e; subst e; simp at hc), (List.dropLast_concat_getLast _).symm⟩
  simp only [List.length_append, List.length_cons, List.length_nil] at hc
  rw [List.append_assoc]
  refine acc1 hf (r := []) l (by simp; omega) ?_
  unfold its
  rw [List.singleton_append, List.map_cons, List.forIn_cons, hf, List.nil_append]
  have e3 : pr env dp l ++ [(kS env x, vS env dp x)] = pr env dp (l ++ [x]) := by simp [pr]
  rw [e3, if_pos (by simp [pr]; omega)]
  refine go_bind (b := b) (a := .yield (m', [])) (s₁ := s₁) (pos₁ := pos₁) (go_bind k1 go_pure) ?_
  exact k
noncomputable def subsL (T : Nat) : List (List It) → List Obj
  | [] => []
  | c :: r => dobj (entL T c) c.length :: subsL (T + 3 * c.length) r
theorem entL_app : ∀ (a b : List It) (T : Nat), entL T (a ++ b) = entL T a ++ entL (T + 3 * a.length) b
  | [], b, T => by simp [entL]
  | i :: a, b, T => by
    have := entL_app a b (T + 3)
    simp only [List.cons_append, entL, this, List.length_cons]
    rw [show T + 3 + 3 * a.length = T + 3 * (a.length + 1) by omega]
theorem entL_int (l : List It) : ∀ (T : Nat), ∀ e ∈ entL T l, IntEnt e := by
  induction l with
  | nil => exact fun T e he => absurd he List.not_mem_nil
  | cons i r ih => exact fun T e he => (List.mem_cons.mp he).elim (fun h => h ▸ ⟨_, _, rfl⟩) (ih _ e)
theorem entS_int (l : List It) : ∀ (T : Nat), ∀ e ∈ entS T l, IntEnt e := by
  induction l with
  | nil => exact fun T e he => absurd he List.not_mem_nil
  | cons i r ih => exact fun T e he => (List.mem_cons.mp he).elim (fun h => h ▸ ⟨_, _, rfl⟩) (ih _ e)
noncomputable abbrev hs (l : List It) : List Int := l.map fun i => hashInt i.k
theorem go_flushLong {env : Env} {dp : Pos} {c : List It} {M : List DictEntry} {mn : Nat} {mid : List Obj} (hn : Nat.ble Z.n₀ h.objs.size = true) (h1 : 1 < h.objs.size) (hc : 15 < c.length) (hM : M ≠ []) (hA : Apart (M.map (·.hash) ++ hs c)) (hz : M.length + c.length < 100000) :
    Go Z (20 * c.length + 10) (flushD (pr env dp c) (some h.objs.size)) (St h (dobj M mn :: mid) g dr T ost) pos (some h.objs.size) (St h (dobj (M ++ entL T c) (mn + c.length) :: (mid ++ [dobj (entL T c) c.length])) g dr (T + 3 * c.length) ost) dp := by
  unfold flushD
  rw [if_neg (by cases c <;> simp_all [pr])]
  dsimp only
  have hn' := Nat.le_of_ble_eq_true hn
  have hcA : Apart (hs c) := (List.pairwise_append.mp hA).2.1
  have k1 := go_subLong (Z := Z) (h := h) (os := dobj M mn :: mid) (g := g) (dr := dr) (T := T) (ost := ost) (pos := pos) (env := env) (dp := dp) (l := c) (Nat.ble_eq_true_of_le (by omega)) hc hcA (by omega)
  refine go_bind (go_holding k1) ?_
  have k2 := go_mergeAll (Z := Z) (h := h) (mid := mid) (M := M) (E := entL T c) (mn := mn) (en := c.length) (g := g) (dr := dr) (T := T + 3 * c.length) (ost := ost) (pos := dp) hn hM (entL_int c T) h1 (by rw [entL_hash]; exact hA) (by rw [entL_length]; exact hz)
  rw [entL_length] at k2
  refine go_bind (go_onRaise (go_holding k2)) go_pure
theorem go_flushShort {env : Env} {dp : Pos} {c : List It} {M : List DictEntry} {mn : Nat} {mid : List Obj} (hn : Nat.ble Z.n₀ h.objs.size = true) (h1 : 1 < h.objs.size) (h0 : c ≠ []) (hc : c.length ≤ 15) (hM : M ≠ []) (hA : Apart (M.map (·.hash) ++ hs c)) (hz : M.length + c.length < 100000) :
    Go Z (20 * c.length + 10) (flushD (pr env dp c) (some h.objs.size)) (St h (dobj M mn :: mid) g dr T ost) pos (some h.objs.size) (St h (dobj (M ++ entS T c) (mn + c.length) :: (mid ++ [dobj (entS T c) c.length])) g dr (T + 3 * c.length) ost) dp := by
  unfold flushD
  rw [if_neg (by cases c <;> simp_all [pr])]
  dsimp only
  have hn' := Nat.le_of_ble_eq_true hn
  have hcA : Apart (hs c) := (List.pairwise_append.mp hA).2.1
  have k1 := go_subShort (Z := Z) (h := h) (os := dobj M mn :: mid) (g := g) (dr := dr) (T := T) (ost := ost) (pos := pos) (env := env) (dp := dp) (l := c) h0 (Nat.ble_eq_true_of_le (by omega)) hc hcA
  refine go_bind (go_holding k1) ?_
  have k2 := go_mergeAll (Z := Z) (h := h) (mid := mid) (M := M) (E := entS T c) (mn := mn) (en := c.length) (g := g) (dr := dr) (T := T + 3 * c.length) (ost := ost) (pos := dp) hn hM (entS_int c T) h1 (by rw [entS_hash]; exact hA) (by rw [entS_length]; exact hz)
  rw [entS_length] at k2
  refine go_bind (go_onRaise (go_holding k2)) go_pure
theorem go_flushFirst {env : Env} {dp : Pos} {c : List It} (hn : Nat.ble Z.n₀ h.objs.size = true) (hc : 15 < c.length) (hA : Apart (hs c)) (hz : c.length < 100000) :
    Go Z (20 * c.length + 10) (flushD (pr env dp c) none) (St h [] g dr T ost) pos (some h.objs.size) (St h [dobj (entL T c) c.length] g dr (T + 3 * c.length) ost) dp := by
  unfold flushD
  rw [if_neg (by cases c <;> simp_all [pr])]
  dsimp only
  have k1 := go_subLong (Z := Z) (h := h) (os := []) (g := g) (dr := dr) (T := T) (ost := ost) (pos := pos) (env := env) (dp := dp) (l := c) (by simpa using hn) hc hA hz
  exact go_bind k1 go_pure
theorem go_chunks {env : Env} {dp : Pos} {f : FTy} (hf : FOk f) (hn : Nat.ble Z.n₀ h.objs.size = true) (h1 : 1 < h.objs.size) {last : List It} (hl0 : last ≠ []) (hl : last.length ≤ 15) : ∀ (cs : List (List It)) (M : List DictEntry) (mid : List Obj) (T : Nat) (pos : Pos), M ≠ [] → (∀ c ∈ cs, c.length = 17) →
    Apart (M.map (·.hash) ++ hs (cs.flatten ++ last)) → M.length + (cs.flatten ++ last).length < 100000 →
    Go Z (30 * (cs.flatten ++ last).length) (forIn (its env dp (cs.flatten ++ last)) (some h.objs.size, []) f) (St h (dobj M M.length :: mid) g dr T ost) pos (some h.objs.size, pr env dp last)
      (St h (dobj (M ++ entL T cs.flatten) (M.length + cs.flatten.length) :: (mid ++ subsL T cs)) g dr (T + 3 * cs.flatten.length) ost) (if cs = [] then pos else dp)
  | [], M, mid, T, pos, hM, hc, hA, hz => by
    simp only [List.flatten_nil, List.nil_append, entL, List.append_nil, List.length_nil, Nat.add_zero, Nat.mul_zero, subsL, if_pos]
    have := acc1 (Z := Z) (b := 30 * last.length) (env := env) (dp := dp) hf (m := some h.objs.size) (rest := []) (s := St h (dobj M M.length :: mid) g dr T ost) (pos := pos) (a := (some h.objs.size, pr env dp last)) (s' := St h (dobj M M.length :: mid) g dr T ost) (pos' := pos) last [] (by simp; omega)
      (by simp only [its, List.map_nil, List.forIn_nil, List.nil_append]; exact go_pure)
    rw [List.append_nil] at this
    exact this
  | c :: cs, M, mid, T, pos, hM, hc, hA, hz => by
    have hc17 : c.length = 17 := hc c (by simp)
    have e : (c :: cs).flatten ++ last = c ++ (cs.flatten ++ last) := by simp
    rw [e] at hA hz ⊢
    have hA1 : Apart (M.map (·.hash) ++ hs c) := by
      rw [hs, List.map_append, ← List.append_assoc] at hA
      exact (List.pairwise_append.mp hA).1
    simp only [List.length_append] at hz
    have k1 := go_flushLong (Z := Z) (h := h) (env := env) (dp := dp) (c := c) (M := M) (mn := M.length) (mid := mid) (g := g) (dr := dr) (T := T) (ost := ost) (pos := pos) hn h1 (by omega) hM hA1 (by omega)
    have lz : (c ++ (cs.flatten ++ last)).length = 17 + (cs.flatten ++ last).length := by simp only [List.length_append]; omega
    rw [lz]
    refine chunk hf hc17 k1 ?_
    have ih := go_chunks (env := env) (dp := dp) hf hn h1 hl0 hl cs (M ++ entL T c) (mid ++ [dobj (entL T c) c.length]) (T + 3 * c.length) dp (by simp [hM]) (fun x hx => hc x (List.mem_cons_of_mem _ hx))
      (by rw [List.map_append, entL_hash, List.append_assoc]; rw [hs, List.map_append] at hA; exact hA) (by simp only [List.length_append, entL_length]; omega)
    simp only [List.length_append, entL_length, List.append_assoc, List.singleton_append] at ih
    rw [show (if cs = [] then dp else dp) = dp by split <;> rfl] at ih
    rw [if_neg (by simp)]
    simp only [List.flatten_cons, List.length_append, entL_app, subsL]
    rw [show M.length + (c.length + cs.flatten.length) = M.length + c.length + cs.flatten.length by omega, show T + 3 * (c.length + cs.flatten.length) = T + 3 * c.length + 3 * cs.flatten.length by omega]
    exact go_le ih (by omega)
theorem go_display {env : Env} {dp : Pos} (hn : Nat.ble Z.n₀ h.objs.size = true) (h1 : 1 < h.objs.size) {c last : List It} {cs : List (List It)} (hc : c.length = 17) (hcs : ∀ c ∈ cs, c.length = 17) (hl0 : last ≠ []) (hl : last.length ≤ 15)
    (hA : Apart (hs (c ++ (cs.flatten ++ last)))) (hz : (c ++ (cs.flatten ++ last)).length < 100000) :
    Go Z (30 * (c ++ (cs.flatten ++ last)).length + 30 * last.length) (dictDisplay (its env dp (c ++ (cs.flatten ++ last)))) (St h [] g dr T ost) pos (.ref h.objs.size)
      (St h (dobj (entL T (c ++ cs.flatten) ++ entS (T + 3 * (c ++ cs.flatten).length) last) ((c ++ cs.flatten).length + last.length) :: (subsL (T + 51) cs ++ [dobj (entS (T + 3 * (c ++ cs.flatten).length) last) last.length])) g dr (T + 3 * (c ++ (cs.flatten ++ last)).length) ost) dp := by
  have hcA : Apart (hs c) := by rw [hs, List.map_append] at hA; exact (List.pairwise_append.mp hA).1
  simp only [List.length_append] at hz
  unfold dictDisplay
  have hcne : c ≠ [] := by intro e; subst e; simp at hc
  refine go_bind (b := 30 * (c ++ (cs.flatten ++ last)).length) (a := (some h.objs.size, pr env dp last)) (s₁ := St h (dobj (entL T c ++ entL (T + 3 * c.length) cs.flatten) (c.length + cs.flatten.length) :: ([] ++ subsL (T + 3 * c.length) cs)) g dr (T + 3 * c.length + 3 * cs.flatten.length) ost) (pos₁ := dp) ?_ ?_
  · refine chunk (m' := some h.objs.size) (fun k v m r => ?_) hc (go_flushFirst (Z := Z) hn (by omega) hcA (by omega)) ?_ (by simp only [List.length_append]; omega)
    · rfl
    · have := fun f (hf : FOk f) => go_chunks (Z := Z) (env := env) (dp := dp) (g := g) (dr := dr) (ost := ost) hf hn h1 hl0 hl cs (entL T c) [] (T + 3 * c.length) dp (by cases c <;> simp_all [entL]) hcs (by rw [entL_hash]; rw [hs, List.map_append] at hA; exact hA) (by simp only [List.length_append, entL_length]; omega)
      rw [show (if cs = [] then dp else dp) = dp by split <;> rfl] at this
      simp only [entL_length] at this
      exact go_le (this _ fun k v m r => rfl) (by simp only [List.length_append]; omega)
  · dsimp only
    have hA2 : Apart ((entL T c ++ entL (T + 3 * c.length) cs.flatten).map (·.hash) ++ hs last) := by
      rw [List.map_append, entL_hash, entL_hash, List.append_assoc]
      rw [hs, List.map_append, List.map_append] at hA
      exact hA
    have k := go_flushShort (Z := Z) (h := h) (env := env) (dp := dp) (c := last) (M := entL T c ++ entL (T + 3 * c.length) cs.flatten) (mn := c.length + cs.flatten.length) (mid := [] ++ subsL (T + 3 * c.length) cs) (g := g) (dr := dr) (T := T + 3 * c.length + 3 * cs.flatten.length) (ost := ost) (pos := dp) hn h1 hl0 hl
      (by cases c <;> simp_all [entL]) hA2 (by simp only [List.length_append, entL_length]; omega)
    rw [hc] at k
    simp only [entL_app, List.length_append, hc]
    rw [show T + 3 * (17 + cs.flatten.length) = T + 3 * 17 + 3 * cs.flatten.length by omega, show T + 3 * (17 + (cs.flatten.length + last.length)) = T + 3 * 17 + 3 * cs.flatten.length + 3 * last.length by omega]
    have hlast : 0 < last.length := List.length_pos_iff.mpr hl0
    refine go_bind k ?_ (by omega)
    exact go_pure
end Mine.Hd
end
section
set_option maxRecDepth 100000
namespace Mine.Hd
open PySem PySem.W PyProof.Rows
variable {Z : Pl} {s s₁ s₂ s' : Shared} {pos pos₁ pos₂ pos' : Pos} {h : Heap} {g : Array GenState} {dr : Drawn} {T : Nat} {ost : OsState}
noncomputable def keysOf (l : List It) : List (Option Expr) := l.map fun i => some (.Constant (.int i.k) 0 i.kp)
noncomputable def valsOf (l : List It) : List Expr := l.map fun i => .Constant (.str i.s) 0 i.vp
theorem each_keys (env : Env) : ∀ l : List It, evalEachOpt (keysOf l) env = l.map fun i => some (kS env i)
  | [] => rfl
  | i :: r => by
    show some (kS env i) :: evalEachOpt (keysOf r) env = _
    rw [each_keys env r]; rfl
theorem each_vals (env : Env) : ∀ l : List It, evalEach (valsOf l) env = l.map fun i => eval (.Constant (.str i.s) 0 i.vp) env
  | [] => rfl
  | i :: r => by
    show eval _ env :: evalEach (valsOf r) env = _
    rw [each_vals env r]; rfl
theorem eval_dict (env : Env) (dp : Pos) (l : List It) : eval (.Dict (keysOf l) (valsOf l) dp) env = (do standAt dp; dictDisplay (its env dp l)) := by
  show (do standAt dp; dictDisplay ((evalEachOpt (keysOf l) env).zip ((evalEach (valsOf l) env).map fun v => do let x ← v; standAt dp; pure x))) = _
  rw [each_keys, each_vals]
  congr 1
  funext _
  congr 1
  unfold its
  rw [List.map_map, List.zip_map', ]
  rfl
noncomputable def tailOf (env : Env) (x : Str) (p' : Pos) (a : Addr) : Sem Flow := do standAt p'; bindName env x (.ref a); pure .next
theorem dict_stmt {x : Str} {p' dp sp : Pos} {pos0 : Pos} (hn : Nat.ble Z.n₀ h.objs.size = true) (h1 : 1 < h.objs.size) {c last : List It} {cs : List (List It)} (hc : c.length = 17) (hcs : ∀ c ∈ cs, c.length = 17) (hl0 : last ≠ []) (hl : last.length ≤ 15)
    (hA : Apart (hs (c ++ (cs.flatten ++ last)))) (hz : (c ++ (cs.flatten ++ last)).length < 100000) {N : Nat} {r : Flow × Shared × Code × Pos}
    (k : segRun treeTable Z.p Z.w Z.n₀ Z.ann 1 N
      (St h (dobj (entL T (c ++ cs.flatten) ++ entS (T + 3 * (c ++ cs.flatten).length) last) ((c ++ cs.flatten).length + last.length) :: (subsL (T + 51) cs ++ [dobj (entS (T + 3 * (c ++ cs.flatten).length) last) last.length])) g dr (T + 3 * (c ++ (cs.flatten ++ last)).length) ost)
      ⟨(tailOf Z.env x p' h.objs.size).wrap doneF deadEnd id id, .body Z.b Z.env, dp, [topFrame Z.q]⟩ = some r) :
    ∃ n, n ≤ 30 * (c ++ (cs.flatten ++ last)).length + 30 * last.length + 2 ∧
      segRun treeTable Z.p Z.w Z.n₀ Z.ann 1 (n + N) (St h [] g dr T ost) (piecesOf [.Assign [.Name x p'] (.Dict (keysOf (c ++ (cs.flatten ++ last))) (valsOf (c ++ (cs.flatten ++ last))) dp) sp] Z.env (.body Z.b Z.env) pos0 [topFrame Z.q]) = some r := by
  have G : Go Z (30 * (c ++ (cs.flatten ++ last)).length + 30 * last.length + 2) (do standAt sp; eval (.Dict (keysOf (c ++ (cs.flatten ++ last))) (valsOf (c ++ (cs.flatten ++ last))) dp) Z.env) (St h [] g dr T ost) pos0 _ _ dp :=
    go_bind go_at (by rw [eval_dict]; exact go_bind go_at (go_le (go_display hn h1 hc hcs hl0 hl hA hz) (by omega)))
  obtain ⟨n, hn, G⟩ := G
  refine ⟨n, hn, ?_⟩
  have e : execs [.Assign [.Name x p'] (.Dict (keysOf (c ++ (cs.flatten ++ last))) (valsOf (c ++ (cs.flatten ++ last))) dp) sp] Z.env =
      (do standAt sp; eval (.Dict (keysOf (c ++ (cs.flatten ++ last))) (valsOf (c ++ (cs.flatten ++ last))) dp) Z.env) >>= fun v => (do standAt p'; bindName Z.env x v; pure .next) := by
    rw [execs_cons, exec_Assign_Name Z.env x p' _ sp (by rfl), execs_nil]
    simp only [bind_assoc, pure_bind]
  have e2 : (execs [.Assign [.Name x p'] (.Dict (keysOf (c ++ (cs.flatten ++ last))) (valsOf (c ++ (cs.flatten ++ last))) dp) sp] Z.env).wrap doneF deadEnd id id =
      (do standAt sp; eval (.Dict (keysOf (c ++ (cs.flatten ++ last))) (valsOf (c ++ (cs.flatten ++ last))) dp) Z.env).wrap (fun v => (do standAt p'; bindName Z.env x v; pure Flow.next : Sem Flow).wrap doneF deadEnd id id) (fun e => (Sem.raise e).wrap doneF deadEnd id id) id id := by
    rw [e, Sem.bind_eq_wrap', Sem.wrap_wrap]; rfl
  show segRun _ _ _ _ _ 1 (n + N) _ ⟨_, _, _, _⟩ = _
  rw [e2]
  exact seg_go (G _ _ _ _) k
end Mine.Hd
namespace Mine.Hd
open PySem PySem.W
noncomputable def itemOf : Option Expr → Expr → It
  | some (.Constant (.int i) _ kp), .Constant (.str s) _ vp => ⟨i, s, kp, vp⟩
  | _, _ => ⟨0, Str.empty, ⟨0, 0, 0, 0⟩, ⟨0, 0, 0, 0⟩⟩
noncomputable def itemsOf : Stmt → List It
  | .Assign _ (.Dict ks vs _) _ => List.zipWith itemOf ks vs
  | _ => []
theorem hashInt_small {k : Int} (h0 : 0 ≤ k) (h1 : k < 2 ^ 60) : hashInt k = k := by
  unfold hashInt rawHash
  have e : (k.natAbs % (2 ^ 61 - 1) : Nat) = k.natAbs := Nat.mod_eq_of_lt (by omega)
  have e2 : ((k.natAbs : Nat) : Int) = k := Int.natAbs_of_nonneg h0
  dsimp only
  rw [show ((k.natAbs : Int) % ((2 ^ 61 - 1 : Nat) : Int)) = k by omega]
  have n1 : ¬ k < 0 := by omega
  have n2 : (k == -1) = false := by simp; omega
  simp [n1, n2]
noncomputable def climbs : Int → List Int → Bool
  | _, [] => true
  | a, b :: r => decide (a < b) && (decide (b < 2 ^ 60) && climbs b r)
theorem climbs_spec : ∀ (l : List Int) (a : Int), 0 ≤ a → climbs a l = true → (∀ x ∈ l, a < x ∧ x < 2 ^ 60) ∧ (l.map hashInt).Pairwise (· ≠ ·)
  | [], _, _, _ => ⟨fun x hx => (nomatch hx), .nil⟩
  | b :: r, a, h0, h => by
    simp only [climbs, Bool.and_eq_true, decide_eq_true_eq] at h
    obtain ⟨h1, h2, h3⟩ := h
    obtain ⟨i1, i2⟩ := climbs_spec r b (by omega) h3
    refine ⟨fun x hx => ?_, ?_⟩
    · rcases List.mem_cons.mp hx with rfl | hx
      · exact ⟨h1, h2⟩
      · have := i1 x hx; omega
    · rw [List.map_cons, List.pairwise_cons]
      refine ⟨fun y hy => ?_, i2⟩
      obtain ⟨x, hx, rfl⟩ := List.mem_map.mp hy
      have := i1 x hx
      rw [hashInt_small (by omega) h2, hashInt_small (by omega) this.2]
      omega
theorem apart_of {l : List It} (h : climbs 0 (l.map (·.k)) = true) : Apart (hs l) := by
  have := (climbs_spec (l.map (·.k)) 0 (Int.le_refl _) h).2
  rw [List.map_map] at this
  exact this
theorem H_nil (h : Heap) : H h [] = h := by
  obtain ⟨a, l⟩ := h
  simp [H]
end Mine.Hd
end
section
set_option maxRecDepth 100000
set_option maxHeartbeats 0
namespace Mine.H1
open PySem PySem.W PyProof.Rows Mine.Hd
noncomputable abbrev prog : Program := PySem.Challenge.pw_sn0073_01
noncomputable def body : List Stmt := behindTheImports prog
noncomputable def sts (i n : Nat) : List Stmt := (body.drop i).take n
noncomputable def stAt (i : Nat) : Stmt := match body.drop i with | s :: _ => s | [] => .Pass ⟨0, 0, 0, 0⟩
noncomputable def argsAt (i : Nat) : Arguments := match stAt i with | .FunctionDef _ a .. => a | _ => ⟨[], [], none, [], [], none, []⟩
noncomputable def bodyAt (i : Nat) : List Stmt := match stAt i with | .FunctionDef _ _ b .. => b | _ => []
noncomputable def scopeAt (i : Nat) : Scope := match stAt i with | .FunctionDef _ _ _ _ _ _ s .. => s | _ => default
noncomputable def env : Env := { scope := prog.main.scope, locals := mainNs, globals := mainNs, cells := [], code := (.ref 13), frame := some 14 }
noncomputable abbrev cE : Code := .body body env
noncomputable abbrev m0 : Nat := 11
noncomputable abbrev ann : Option Value := (some (.ref 6))
noncomputable abbrev qP : Pos := ⟨0, 0, 0, 0⟩
noncomputable abbrev sO := Str.ofString
noncomputable def tS (s : String) (n : Nat) : Value := .str (sO s) n
noncomputable def tC (n : Nat) : Value := tS "/claim/cut.py" n
noncomputable def eN (P : Params) (s : String) (n : Nat) (v : Value) : DictEntry := ⟨PyData.keyHash P (sO s), tS s n, v⟩
noncomputable def oT (l : List Value) : Obj := ⟨.type "tuple", none, .seq ⟨l⟩ 0, #[]⟩
noncomputable def oN (l : List Value) : Obj := ⟨.none, none, .fields ⟨l⟩, #[]⟩
noncomputable def oC (l : List Value) : Obj := ⟨.type "code", none, .fields ⟨l⟩, #[]⟩
noncomputable def oD (l : List DictEntry) (n : Nat) : Obj := ⟨.type "dict", none, .dict ⟨l⟩ n, #[]⟩
noncomputable def oF (c : Value) (s : String) (i g : Nat) (m k : Value) : Obj := ⟨c, none, .func { name := sO s, qualname := sO s, params := argsAt i, body := .stmts (bodyAt i), scope := scopeAt i, globals := g, closure := [], defaults := .none, kwdefaults := .none, doc := .none, pyModule := m, annotations := none, code := k, closureTuple := .none, builtins := 0 }, #[]⟩
noncomputable def oK (s : String) (n : Nat) (l k : Int) (a b : Nat) (x y z : Value) (t : Nat) : Obj := oC [tS s n, tS s (n + 1), tC (n + 2), .int l 0, .int k 0, .int 0 0, .int 0 0, .int 3 0, .ref a, .bool true, .int 181 0, .ref b, .none, x, y, z, .int t 0, .int l 0, tC (t + 1)]
noncomputable def hP (P : Params) (a b c : Obj) (l : List Obj) : Heap := ⟨⟨boot_o_0 P :: boot_o_1 P :: boot_o_2 P :: a :: boot_o_4 P :: boot_o_5 P :: boot_o_6 P :: boot_o_7 P :: boot_o_8 P :: boot_o_9 P :: boot_o_10 P :: b :: c :: l⟩, {}⟩
noncomputable def o11_1 (P : Params) : Obj := oT []
noncomputable def o12_2 (P : Params) : Obj := oN []
noncomputable def o13_3 (P : Params) : Obj := oC [(tS "<module>" 182), (tS "<module>" 183), (tC 184), (.int 1 0), (.int 0 0), (.int 0 0), (.int 0 0), (.int 0 0), (.ref 11), (.bool false), (.int 181 0), (.ref 12), .none, .none, .none, .none, (.int 185 0), (.int 1 0), (tC 186)]
noncomputable def o14_4 (P : Params) : Obj := ⟨(.type "frame"), none, .plain, (#[(some (.ref 13)), (some (.ref 3)), (some (.ref 3)), none, (some (tS "__main__" 164)), none, (some (.ref 0))])⟩
noncomputable def mE0 (P : Params) : List DictEntry := [eN P "__doc__" 166 .none, eN P "__package__" 167 .none, eN P "__loader__" 168 (.builtin "__main__.__loader__#opaque"), eN P "__spec__" 169 .none, eN P "__annotations__" 170 (.ref 6), eN P "__builtins__" 171 (.ref 4), eN P "__file__" 173 (tC 172), eN P "__cached__" 174 .none]
noncomputable def o3_5 (P : Params) : Obj := oD (eN P "__name__" 165 (tS "cpy313.stringprep" 187) :: mE0 P) 9
noncomputable def mE1 (P : Params) : List DictEntry := mE0 P ++ [eN P "b3_exceptions" 2139 (.ref 15)]
noncomputable def o3_6 (P : Params) : Obj := oD (eN P "__name__" 165 (tS "cpy313.stringprep" 187) :: mE1 P) 10
noncomputable def mE2 (P : Params) : List DictEntry := mE1 P ++ [eN P "map_table_b3" 2147 (.ref 60), eN P "_parse_varint" 2158 (.ref 67), eN P "ENDMARKER" 2162 (.int 0 2161), eN P "LPAR" 2164 (.int 7 2163), eN P "RPAR" 2166 (.int 8 2165), eN P "LSQB" 2168 (.int 9 2167), eN P "RSQB" 2170 (.int 10 2169), eN P "COLON" 2172 (.int 11 2171), eN P "COMMA" 2174 (.int 12 2173), eN P "SEMI" 2176 (.int 13 2175), eN P "PLUS" 2178 (.int 14 2177), eN P "MINUS" 2180 (.int 15 2179), eN P "STAR" 2182 (.int 16 2181), eN P "SLASH" 2184 (.int 17 2183), eN P "VBAR" 2186 (.int 18 2185), eN P "AMPER" 2188 (.int 19 2187), eN P "LESS" 2190 (.int 20 2189), eN P "GREATER" 2192 (.int 21 2191), eN P "EQUAL" 2194 (.int 22 2193), eN P "DOT" 2196 (.int 23 2195), eN P "PERCENT" 2198 (.int 24 2197), eN P "LBRACE" 2200 (.int 25 2199), eN P "RBRACE" 2202 (.int 26 2201), eN P "EQEQUAL" 2204 (.int 27 2203), eN P "NOTEQUAL" 2206 (.int 28 2205), eN P "LESSEQUAL" 2208 (.int 29 2207)]
noncomputable def o3_7 (P : Params) : Obj := oD (eN P "__name__" 165 (tS "cpy313.token" 2159) :: mE2 P) 36
noncomputable def nE0 : List Value := [(.int 3 0), (.int 0 0), (.ref 59), (.int 9 0), (.int 0 0), (.ref 66)]
noncomputable def o12_8 (P : Params) : Obj := oN nE0
noncomputable def o56_11 (P : Params) : Obj := oT [(tS "code" 2143), (tS "r" 2144)]
noncomputable def o58_13 (P : Params) : Obj := oF .none "map_table_b3" 2 0 .none .none
noncomputable def o59_14 (P : Params) : Obj := oK "map_table_b3" 2140 3 1 54 55 (.ref 56) (.ref 57) (.ref 58) 2145
noncomputable def o60_15 (P : Params) : Obj := oF (.type "function") "map_table_b3" 2 3 (tS "cpy313.stringprep" 187) (.ref 59)
noncomputable def o63_18 (P : Params) : Obj := oT [(tS "iterator" 2153), (tS "b" 2154), (tS "val" 2155)]
noncomputable def o65_20 (P : Params) : Obj := oF .none "_parse_varint" 4 0 .none .none
noncomputable def o66_21 (P : Params) : Obj := oC [(tS "_parse_varint" 2150), (tS "_parse_varint" 2151), (tC 2152), (.int 9 0), (.int 1 0), (.int 0 0), (.int 0 0), (.int 3 0), (.ref 61), (.bool true), (.int 181 0), (.ref 62), .none, (.ref 63), (.ref 64), (.ref 65), (.int 2156 0), (.int 9 0), (tC 2157)]
noncomputable def o67_22 (P : Params) : Obj := oF (.type "function") "_parse_varint" 4 3 (tS "cpy313.dis" 2148) (.ref 66)
noncomputable def mE3 (P : Params) : List DictEntry := mE2 P ++ [eN P "GREATEREQUAL" 2210 (.int 30 2209), eN P "TILDE" 2212 (.int 31 2211), eN P "CIRCUMFLEX" 2214 (.int 32 2213), eN P "LEFTSHIFT" 2216 (.int 33 2215), eN P "RIGHTSHIFT" 2218 (.int 34 2217), eN P "DOUBLESTAR" 2220 (.int 35 2219), eN P "PLUSEQUAL" 2222 (.int 36 2221), eN P "MINEQUAL" 2224 (.int 37 2223), eN P "STAREQUAL" 2226 (.int 38 2225), eN P "SLASHEQUAL" 2228 (.int 39 2227), eN P "PERCENTEQUAL" 2230 (.int 40 2229), eN P "AMPEREQUAL" 2232 (.int 41 2231), eN P "VBAREQUAL" 2234 (.int 42 2233), eN P "CIRCUMFLEXEQUAL" 2236 (.int 43 2235), eN P "LEFTSHIFTEQUAL" 2238 (.int 44 2237), eN P "RIGHTSHIFTEQUAL" 2240 (.int 45 2239), eN P "DOUBLESTAREQUAL" 2242 (.int 46 2241), eN P "DOUBLESLASH" 2244 (.int 47 2243), eN P "DOUBLESLASHEQUAL" 2246 (.int 48 2245), eN P "AT" 2248 (.int 49 2247), eN P "ATEQUAL" 2250 (.int 50 2249), eN P "RARROW" 2252 (.int 51 2251), eN P "ELLIPSIS" 2254 (.int 52 2253), eN P "COLONEQUAL" 2256 (.int 53 2255), eN P "EXCLAMATION" 2258 (.int 54 2257), eN P "NT_OFFSET" 2260 (.int 256 2259)]
noncomputable def o3_23 (P : Params) : Obj := oD (eN P "__name__" 165 (tS "cpy313.token" 2159) :: mE3 P) 62
noncomputable def mE4 (P : Params) : List DictEntry := mE3 P ++ [eN P "EXACT_TOKEN_TYPES" 2357 (.ref 68)]
noncomputable def o3_24 (P : Params) : Obj := oD (eN P "__name__" 165 (tS "cpy313.token" 2159) :: mE4 P) 63
noncomputable def o68_25 (P : Params) : Obj := oD [eN P "!" 2261 (.int 54 2257), eN P "!=" 2263 (.int 28 2205), eN P "%" 2265 (.int 24 2197), eN P "%=" 2267 (.int 40 2229), eN P "&" 2269 (.int 19 2187), eN P "&=" 2271 (.int 41 2231), eN P "(" 2273 (.int 7 2163), eN P ")" 2275 (.int 8 2165), eN P "*" 2277 (.int 16 2181), eN P "**" 2279 (.int 35 2219), eN P "**=" 2281 (.int 46 2241), eN P "*=" 2283 (.int 38 2225), eN P "+" 2285 (.int 14 2177), eN P "+=" 2287 (.int 36 2221), eN P "," 2289 (.int 12 2173), eN P "-" 2291 (.int 15 2179), eN P "-=" 2293 (.int 37 2223), eN P "->" 2295 (.int 51 2251), eN P "." 2297 (.int 23 2195), eN P "..." 2299 (.int 52 2253), eN P "/" 2301 (.int 17 2183), eN P "//" 2303 (.int 47 2243), eN P "//=" 2305 (.int 48 2245), eN P "/=" 2307 (.int 39 2227), eN P ":" 2309 (.int 11 2171), eN P ":=" 2311 (.int 53 2255), eN P ";" 2313 (.int 13 2175), eN P "<" 2315 (.int 20 2189), eN P "<<" 2317 (.int 33 2215), eN P "<<=" 2319 (.int 44 2237), eN P "<=" 2321 (.int 29 2207), eN P "=" 2323 (.int 22 2193), eN P "==" 2325 (.int 27 2203), eN P ">" 2327 (.int 21 2191), eN P ">=" 2329 (.int 30 2209), eN P ">>" 2330 (.int 34 2217), eN P ">>=" 2331 (.int 45 2239), eN P "@" 2332 (.int 49 2247), eN P "@=" 2333 (.int 50 2249), eN P "[" 2334 (.int 9 2167), eN P "]" 2335 (.int 10 2169), eN P "^" 2336 (.int 32 2213), eN P "^=" 2337 (.int 43 2235), eN P "{" 2338 (.int 25 2199), eN P "|" 2339 (.int 18 2185), eN P "|=" 2340 (.int 42 2233), eN P "}" 2341 (.int 26 2201), eN P "~" 2342 (.int 31 2211)] 48
noncomputable def o69_26 (P : Params) : Obj := oD [eN P "->" 2295 (.int 51 2251), eN P "." 2297 (.int 23 2195), eN P "..." 2299 (.int 52 2253), eN P "/" 2301 (.int 17 2183), eN P "//" 2303 (.int 47 2243), eN P "//=" 2305 (.int 48 2245), eN P "/=" 2307 (.int 39 2227), eN P ":" 2309 (.int 11 2171), eN P ":=" 2311 (.int 53 2255), eN P ";" 2313 (.int 13 2175), eN P "<" 2315 (.int 20 2189), eN P "<<" 2317 (.int 33 2215), eN P "<<=" 2319 (.int 44 2237), eN P "<=" 2321 (.int 29 2207), eN P "=" 2323 (.int 22 2193), eN P "==" 2325 (.int 27 2203), eN P ">" 2327 (.int 21 2191)] 17
noncomputable def o70_27 (P : Params) : Obj := oD [eN P ">=" 2329 (.int 30 2209), eN P ">>" 2330 (.int 34 2217), eN P ">>=" 2331 (.int 45 2239), eN P "@" 2332 (.int 49 2247), eN P "@=" 2333 (.int 50 2249), eN P "[" 2334 (.int 9 2167), eN P "]" 2335 (.int 10 2169), eN P "^" 2336 (.int 32 2213), eN P "^=" 2337 (.int 43 2235), eN P "{" 2338 (.int 25 2199), eN P "|" 2339 (.int 18 2185), eN P "|=" 2340 (.int 42 2233), eN P "}" 2341 (.int 26 2201), eN P "~" 2342 (.int 31 2211)] 14
noncomputable def mE5 (P : Params) : List DictEntry := mE4 P ++ [eN P "ISNONTERMINAL" 2364 (.ref 77), eN P "ISEOF" 2371 (.ref 84), eN P "_MAX_STRING_SIZE" 2375 (.int 40 2374), eN P "_MOVE_COST" 2377 (.int 2 2376), eN P "_CASE_COST" 2379 (.int 1 2378), eN P "_substitution_cost" 2387 (.ref 91), eN P "_levenshtein_distance" 2407 (.ref 98), eN P "_law_kinds" 2415 (.ref 103), eN P "_law_draw" 2421 (.ref 108), eN P "_law_octets" 2429 (.ref 115), eN P "_law_read" 2435 (.ref 120)]
noncomputable def o3_28 (P : Params) : Obj := oD (eN P "__name__" 165 (tS "law_sn0073_01" 2408) :: mE5 P) 74
noncomputable def nE1 : List Value := nE0 ++ [(.int 69 0), (.int 0 0), (.ref 76), (.int 71 0), (.int 0 0), (.ref 83), (.int 77 0), (.int 0 0), (.ref 90), (.int 83 0), (.int 0 0), (.ref 97), (.int 122 0), (.int 0 0), (.ref 102), (.int 128 0), (.int 0 0), (.ref 107), (.int 139 0), (.int 0 0), (.ref 114), (.int 146 0), (.int 0 0), (.ref 119)]
noncomputable def o12_29 (P : Params) : Obj := oN nE1
noncomputable def o73_32 (P : Params) : Obj := oT [(tS "x" 2361)]
noncomputable def o75_34 (P : Params) : Obj := oF .none "ISNONTERMINAL" 57 0 .none .none
noncomputable def o76_35 (P : Params) : Obj := oC [(tS "ISNONTERMINAL" 2358), (tS "ISNONTERMINAL" 2359), (tC 2360), (.int 69 0), (.int 1 0), (.int 0 0), (.int 0 0), (.int 3 0), (.ref 71), (.bool true), (.int 181 0), (.ref 72), .none, (.ref 73), (.ref 74), (.ref 75), (.int 2362 0), (.int 69 0), (tC 2363)]
noncomputable def o77_36 (P : Params) : Obj := oF (.type "function") "ISNONTERMINAL" 57 3 (tS "cpy313.token" 2159) (.ref 76)
noncomputable def o80_39 (P : Params) : Obj := oT [(tS "x" 2368)]
noncomputable def o82_41 (P : Params) : Obj := oF .none "ISEOF" 58 0 .none .none
noncomputable def o83_42 (P : Params) : Obj := oC [(tS "ISEOF" 2365), (tS "ISEOF" 2366), (tC 2367), (.int 71 0), (.int 1 0), (.int 0 0), (.int 0 0), (.int 3 0), (.ref 78), (.bool true), (.int 181 0), (.ref 79), .none, (.ref 80), (.ref 81), (.ref 82), (.int 2369 0), (.int 71 0), (tC 2370)]
noncomputable def o84_43 (P : Params) : Obj := oF (.type "function") "ISEOF" 58 3 (tS "cpy313.token" 2159) (.ref 83)
noncomputable def o87_46 (P : Params) : Obj := oT [(tS "ch_a" 2383), (tS "ch_b" 2384)]
noncomputable def o89_48 (P : Params) : Obj := oF .none "_substitution_cost" 63 0 .none .none
noncomputable def o90_49 (P : Params) : Obj := oK "_substitution_cost" 2380 77 2 85 86 (.ref 87) (.ref 88) (.ref 89) 2385
noncomputable def o91_50 (P : Params) : Obj := oF (.type "function") "_substitution_cost" 63 3 (tS "cpy313.traceback" 2372) (.ref 90)
noncomputable def o94_53 (P : Params) : Obj := oT [(tS "a" 2391), (tS "b" 2392), (tS "max_cost" 2393), (tS "pre" 2394), (tS "post" 2395), (tS "row" 2396), (tS "result" 2397), (tS "bindex" 2398), (tS "bchar" 2399), (tS "distance" 2400), (tS "minimum" 2401), (tS "index" 2402), (tS "substitute" 2403), (tS "insert_delete" 2404)]
noncomputable def o96_55 (P : Params) : Obj := oF .none "_levenshtein_distance" 64 0 .none .none
noncomputable def o97_56 (P : Params) : Obj := oC [(tS "_levenshtein_distance" 2388), (tS "_levenshtein_distance" 2389), (tC 2390), (.int 83 0), (.int 3 0), (.int 0 0), (.int 0 0), (.int 3 0), (.ref 92), (.bool true), (.int 181 0), (.ref 93), .none, (.ref 94), (.ref 95), (.ref 96), (.int 2405 0), (.int 83 0), (tC 2406)]
noncomputable def o98_57 (P : Params) : Obj := oF (.type "function") "_levenshtein_distance" 64 3 (tS "cpy313.traceback" 2372) (.ref 97)
noncomputable def o101_60 (P : Params) : Obj := oF .none "_law_kinds" 66 0 .none .none
noncomputable def o102_61 (P : Params) : Obj := oC [(tS "_law_kinds" 2410), (tS "_law_kinds" 2411), (tC 2412), (.int 122 0), (.int 0 0), (.int 0 0), (.int 0 0), (.int 3 0), (.ref 99), (.bool true), (.int 181 0), (.ref 100), .none, .none, .none, (.ref 101), (.int 2413 0), (.int 122 0), (tC 2414)]
noncomputable def o103_62 (P : Params) : Obj := oF (.type "function") "_law_kinds" 66 3 (tS "law_sn0073_01" 2408) (.ref 102)
noncomputable def o106_65 (P : Params) : Obj := oF .none "_law_draw" 67 0 .none .none
noncomputable def o107_66 (P : Params) : Obj := oC [(tS "_law_draw" 2416), (tS "_law_draw" 2417), (tC 2418), (.int 128 0), (.int 1 0), (.int 0 0), (.int 0 0), (.int 3 0), (.ref 104), (.bool true), (.int 181 0), (.ref 105), .none, .none, .none, (.ref 106), (.int 2419 0), (.int 128 0), (tC 2420)]
noncomputable def o108_67 (P : Params) : Obj := oF (.type "function") "_law_draw" 67 3 (tS "law_sn0073_01" 2408) (.ref 107)
noncomputable def o111_70 (P : Params) : Obj := oT [(tS "number" 2425), (tS "row" 2426)]
noncomputable def o113_72 (P : Params) : Obj := oF .none "_law_octets" 68 0 .none .none
noncomputable def o114_73 (P : Params) : Obj := oK "_law_octets" 2422 139 1 109 110 (.ref 111) (.ref 112) (.ref 113) 2427
noncomputable def o115_74 (P : Params) : Obj := oF (.type "function") "_law_octets" 68 3 (tS "law_sn0073_01" 2408) (.ref 114)
noncomputable def o118_77 (P : Params) : Obj := oF .none "_law_read" 69 0 .none .none
noncomputable def o119_78 (P : Params) : Obj := oC [(tS "_law_read" 2430), (tS "_law_read" 2431), (tC 2432), (.int 146 0), (.int 1 0), (.int 0 0), (.int 0 0), (.int 3 0), (.ref 116), (.bool true), (.int 181 0), (.ref 117), .none, .none, .none, (.ref 118), (.int 2433 0), (.int 146 0), (tC 2434)]
noncomputable def o120_79 (P : Params) : Obj := oF (.type "function") "_law_read" 69 3 (tS "law_sn0073_01" 2408) (.ref 119)
noncomputable def mE6 (P : Params) : List DictEntry := mE5 P ++ [eN P "_law_levels" 2441 (.ref 125), eN P "_law_told_heap" 2455 (.ref 132), eN P "_law_told_count" 2461 (.ref 137), eN P "law" 2467 (.ref 142)]
noncomputable def o3_80 (P : Params) : Obj := oD (eN P "__name__" 165 (tS "law_sn0073_01" 2408) :: mE6 P) 78
noncomputable def nE2 : List Value := nE1 ++ [(.int 158 0), (.int 0 0), (.ref 124), (.int 163 0), (.int 0 0), (.ref 131), (.int 174 0), (.int 0 0), (.ref 136), (.int 179 0), (.int 0 0), (.ref 141)]
noncomputable def o12_81 (P : Params) : Obj := oN nE2
noncomputable def o123_84 (P : Params) : Obj := oF .none "_law_levels" 70 0 .none .none
noncomputable def o124_85 (P : Params) : Obj := oC [(tS "_law_levels" 2436), (tS "_law_levels" 2437), (tC 2438), (.int 158 0), (.int 2 0), (.int 0 0), (.int 0 0), (.int 3 0), (.ref 121), (.bool true), (.int 181 0), (.ref 122), .none, .none, .none, (.ref 123), (.int 2439 0), (.int 158 0), (tC 2440)]
noncomputable def o125_86 (P : Params) : Obj := oF (.type "function") "_law_levels" 70 3 (tS "law_sn0073_01" 2408) (.ref 124)
noncomputable def o128_89 (P : Params) : Obj := oT [(tS "row" 2445), (tS "kinds" 2446), (tS "first" 2447), (tS "second" 2448), (tS "told" 2449), (tS "k" 2450), (tS "text" 2451), (tS "level" 2452)]
noncomputable def o130_91 (P : Params) : Obj := oF .none "_law_told_heap" 71 0 .none .none
noncomputable def o131_92 (P : Params) : Obj := oC [(tS "_law_told_heap" 2442), (tS "_law_told_heap" 2443), (tC 2444), (.int 163 0), (.int 2 0), (.int 0 0), (.int 0 0), (.int 3 0), (.ref 126), (.bool true), (.int 181 0), (.ref 127), .none, (.ref 128), (.ref 129), (.ref 130), (.int 2453 0), (.int 163 0), (tC 2454)]
noncomputable def o132_93 (P : Params) : Obj := oF (.type "function") "_law_told_heap" 71 3 (tS "law_sn0073_01" 2408) (.ref 131)
noncomputable def o135_96 (P : Params) : Obj := oF .none "_law_told_count" 72 0 .none .none
noncomputable def o136_97 (P : Params) : Obj := oC [(tS "_law_told_count" 2456), (tS "_law_told_count" 2457), (tC 2458), (.int 174 0), (.int 1 0), (.int 0 0), (.int 0 0), (.int 3 0), (.ref 133), (.bool true), (.int 181 0), (.ref 134), .none, .none, .none, (.ref 135), (.int 2459 0), (.int 174 0), (tC 2460)]
noncomputable def o137_98 (P : Params) : Obj := oF (.type "function") "_law_told_count" 72 3 (tS "law_sn0073_01" 2408) (.ref 136)
noncomputable def o140_101 (P : Params) : Obj := oF .none "law" 73 0 .none .none
noncomputable def o141_102 (P : Params) : Obj := oC [(tS "law" 2462), (tS "law" 2463), (tC 2464), (.int 179 0), (.int 1 0), (.int 0 0), (.int 0 0), (.int 3 0), (.ref 138), (.bool true), (.int 181 0), (.ref 139), .none, .none, .none, (.ref 140), (.int 2465 0), (.int 179 0), (tC 2466)]
noncomputable def o142_103 (P : Params) : Obj := oF (.type "function") "law" 73 3 (tS "law_sn0073_01" 2408) (.ref 141)
noncomputable def items : List It := itemsOf (stAt 1)
noncomputable def c0 : List It := (items.drop 0).take 17
noncomputable def c1 : List It := (items.drop 17).take 17
noncomputable def c2 : List It := (items.drop 34).take 17
noncomputable def c3 : List It := (items.drop 51).take 17
noncomputable def c4 : List It := (items.drop 68).take 17
noncomputable def c5 : List It := (items.drop 85).take 17
noncomputable def c6 : List It := (items.drop 102).take 17
noncomputable def c7 : List It := (items.drop 119).take 17
noncomputable def c8 : List It := (items.drop 136).take 17
noncomputable def c9 : List It := (items.drop 153).take 17
noncomputable def c10 : List It := (items.drop 170).take 17
noncomputable def c11 : List It := (items.drop 187).take 17
noncomputable def c12 : List It := (items.drop 204).take 17
noncomputable def c13 : List It := (items.drop 221).take 17
noncomputable def c14 : List It := (items.drop 238).take 17
noncomputable def c15 : List It := (items.drop 255).take 17
noncomputable def c16 : List It := (items.drop 272).take 17
noncomputable def c17 : List It := (items.drop 289).take 17
noncomputable def c18 : List It := (items.drop 306).take 17
noncomputable def c19 : List It := (items.drop 323).take 17
noncomputable def c20 : List It := (items.drop 340).take 17
noncomputable def c21 : List It := (items.drop 357).take 17
noncomputable def c22 : List It := (items.drop 374).take 17
noncomputable def c23 : List It := (items.drop 391).take 17
noncomputable def c24 : List It := (items.drop 408).take 17
noncomputable def c25 : List It := (items.drop 425).take 17
noncomputable def c26 : List It := (items.drop 442).take 17
noncomputable def c27 : List It := (items.drop 459).take 17
noncomputable def c28 : List It := (items.drop 476).take 17
noncomputable def c29 : List It := (items.drop 493).take 17
noncomputable def c30 : List It := (items.drop 510).take 17
noncomputable def c31 : List It := (items.drop 527).take 17
noncomputable def c32 : List It := (items.drop 544).take 17
noncomputable def c33 : List It := (items.drop 561).take 17
noncomputable def c34 : List It := (items.drop 578).take 17
noncomputable def c35 : List It := (items.drop 595).take 17
noncomputable def c36 : List It := (items.drop 612).take 17
noncomputable def c37 : List It := (items.drop 629).take 17
noncomputable def last : List It := items.drop 646
noncomputable def chunks : List (List It) := [c1, c2, c3, c4, c5, c6, c7, c8, c9, c10, c11, c12, c13, c14, c15, c16, c17, c18, c19, c20, c21, c22, c23, c24, c25, c26, c27, c28, c29, c30, c31, c32, c33, c34, c35, c36, c37]
noncomputable def d0 : Obj := dobj (entL 189 (c0 ++ chunks.flatten) ++ entS 2127 last) 650
noncomputable def d1 : Obj := dobj (entL 240 c1) 17
noncomputable def d2 : Obj := dobj (entL 291 c2) 17
noncomputable def d3 : Obj := dobj (entL 342 c3) 17
noncomputable def d4 : Obj := dobj (entL 393 c4) 17
noncomputable def d5 : Obj := dobj (entL 444 c5) 17
noncomputable def d6 : Obj := dobj (entL 495 c6) 17
noncomputable def d7 : Obj := dobj (entL 546 c7) 17
noncomputable def d8 : Obj := dobj (entL 597 c8) 17
noncomputable def d9 : Obj := dobj (entL 648 c9) 17
noncomputable def d10 : Obj := dobj (entL 699 c10) 17
noncomputable def d11 : Obj := dobj (entL 750 c11) 17
noncomputable def d12 : Obj := dobj (entL 801 c12) 17
noncomputable def d13 : Obj := dobj (entL 852 c13) 17
noncomputable def d14 : Obj := dobj (entL 903 c14) 17
noncomputable def d15 : Obj := dobj (entL 954 c15) 17
noncomputable def d16 : Obj := dobj (entL 1005 c16) 17
noncomputable def d17 : Obj := dobj (entL 1056 c17) 17
noncomputable def d18 : Obj := dobj (entL 1107 c18) 17
noncomputable def d19 : Obj := dobj (entL 1158 c19) 17
noncomputable def d20 : Obj := dobj (entL 1209 c20) 17
noncomputable def d21 : Obj := dobj (entL 1260 c21) 17
noncomputable def d22 : Obj := dobj (entL 1311 c22) 17
noncomputable def d23 : Obj := dobj (entL 1362 c23) 17
noncomputable def d24 : Obj := dobj (entL 1413 c24) 17
noncomputable def d25 : Obj := dobj (entL 1464 c25) 17
noncomputable def d26 : Obj := dobj (entL 1515 c26) 17
noncomputable def d27 : Obj := dobj (entL 1566 c27) 17
noncomputable def d28 : Obj := dobj (entL 1617 c28) 17
noncomputable def d29 : Obj := dobj (entL 1668 c29) 17
noncomputable def d30 : Obj := dobj (entL 1719 c30) 17
noncomputable def d31 : Obj := dobj (entL 1770 c31) 17
noncomputable def d32 : Obj := dobj (entL 1821 c32) 17
noncomputable def d33 : Obj := dobj (entL 1872 c33) 17
noncomputable def d34 : Obj := dobj (entL 1923 c34) 17
noncomputable def d35 : Obj := dobj (entL 1974 c35) 17
noncomputable def d36 : Obj := dobj (entL 2025 c36) 17
noncomputable def d37 : Obj := dobj (entL 2076 c37) 17
noncomputable def d38 : Obj := dobj (entS 2127 last) 4
noncomputable def dObjs : List Obj := [d0, d1, d2, d3, d4, d5, d6, d7, d8, d9, d10, d11, d12, d13, d14, d15, d16, d17, d18, d19, d20, d21, d22, d23, d24, d25, d26, d27, d28, d29, d30, d31, d32, d33, d34, d35, d36, d37, d38]
noncomputable def hE0 (P : Params) : List Obj := [o13_3 P, o14_4 P]
noncomputable def h_a (P : Params) : Heap := hP P (boot_o_3 P) (o11_1 P) (o12_2 P) (hE0 P)
noncomputable def h_b (P : Params) : Heap := hP P (boot_o_3 P) (o11_1 P) (o12_2 P) (hE0 P)
noncomputable def h_0 (P : Params) : Heap := hP P (o3_5 P) (o11_1 P) (o12_2 P) (hE0 P)
noncomputable def hE1 (P : Params) : List Obj := hE0 P ++ dObjs
noncomputable def h_1 (P : Params) : Heap := hP P (o3_6 P) (o11_1 P) (o12_2 P) (hE1 P)
noncomputable def hE2 (P : Params) : List Obj := hE1 P ++ [o11_1 P, o12_2 P, o56_11 P, o11_1 P, o58_13 P, o59_14 P, o60_15 P, o11_1 P, o12_2 P, o63_18 P, o11_1 P, o65_20 P, o66_21 P, o67_22 P]
noncomputable def h_2 (P : Params) : Heap := hP P (o3_7 P) (o11_1 P) (o12_8 P) (hE2 P)
noncomputable def h_3 (P : Params) : Heap := hP P (o3_23 P) (o11_1 P) (o12_8 P) (hE2 P)
noncomputable def hE3 (P : Params) : List Obj := hE2 P ++ [o68_25 P, o69_26 P, o70_27 P]
noncomputable def h_4 (P : Params) : Heap := hP P (o3_24 P) (o11_1 P) (o12_8 P) (hE3 P)
noncomputable def hE4 (P : Params) : List Obj := hE3 P ++ [o11_1 P, o12_2 P, o73_32 P, o11_1 P, o75_34 P, o76_35 P, o77_36 P, o11_1 P, o12_2 P, o80_39 P, o11_1 P, o82_41 P, o83_42 P, o84_43 P, o11_1 P, o12_2 P, o87_46 P, o11_1 P, o89_48 P, o90_49 P, o91_50 P, o11_1 P, o12_2 P, o94_53 P, o11_1 P, o96_55 P, o97_56 P, o98_57 P, o11_1 P, o12_2 P, o101_60 P, o102_61 P, o103_62 P, o11_1 P, o12_2 P, o106_65 P, o107_66 P, o108_67 P, o11_1 P, o12_2 P, o111_70 P, o11_1 P, o113_72 P, o114_73 P, o115_74 P, o11_1 P, o12_2 P, o118_77 P, o119_78 P, o120_79 P]
noncomputable def h_5 (P : Params) : Heap := hP P (o3_28 P) (o11_1 P) (o12_29 P) (hE4 P)
noncomputable def hE5 (P : Params) : List Obj := hE4 P ++ [o11_1 P, o12_2 P, o123_84 P, o124_85 P, o125_86 P, o11_1 P, o12_2 P, o128_89 P, o11_1 P, o130_91 P, o131_92 P, o132_93 P, o11_1 P, o12_2 P, o135_96 P, o136_97 P, o137_98 P, o11_1 P, o12_2 P, o140_101 P, o141_102 P, o142_103 P]
noncomputable def h_6 (P : Params) : Heap := hP P (o3_80 P) (o11_1 P) (o12_81 P) (hE5 P)
theorem pre (w : World) (os : OsState) : topGo treeTable prog w m0 ann 12 ⟨boot_heap w.params, Array.mk [], boot_drawn, boot_toks, os⟩ (topStub prog) = some (⟨h_a w.params, Array.mk [], {}, 187, os⟩, ⟨denote treeTable cE, cE, ⟨0, 0, 0, 0⟩, [topFrame qP]⟩) := by kernel_rfl
theorem blk (w : World) (os : OsState) : segRun treeTable prog w m0 ann 1 1 ⟨h_a w.params, Array.mk [], {}, 187, os⟩ (blockOf body env cE ⟨0, 0, 0, 0⟩ [topFrame qP]) = some (.next, ⟨h_b w.params, Array.mk [], {}, 187, os⟩, cE, ⟨0, 0, 0, 0⟩) := by kernel_rfl
theorem g0 (w : World) (os : OsState) : segRun treeTable prog w m0 ann 1 10 ⟨h_b w.params, Array.mk [], {}, 187, os⟩ (piecesOf (sts 0 1) env cE ⟨0, 0, 0, 0⟩ [topFrame qP]) = some (.next, ⟨h_0 w.params, Array.mk [], {}, 189, os⟩, cE, ⟨1, 0, 1, 8⟩) := by kernel_rfl
theorem dictSt : sts 1 1 = [.Assign [.Name (sO "b3_exceptions") ⟨2, 0, 2, 13⟩] (.Dict (keysOf (c0 ++ (chunks.flatten ++ last))) (valsOf (c0 ++ (chunks.flatten ++ last))) ⟨2, 16, 2, 8704⟩) ⟨2, 0, 2, 8704⟩] := by kernel_rfl
theorem dictObjs : dobj (entL 189 (c0 ++ chunks.flatten) ++ entS (189 + 3 * (c0 ++ chunks.flatten).length) last) ((c0 ++ chunks.flatten).length + last.length) :: (subsL (189 + 51) chunks ++ [dobj (entS (189 + 3 * (c0 ++ chunks.flatten).length) last) last.length]) = dObjs := by kernel_rfl
theorem tail1 (w : World) (os : OsState) : segRun treeTable prog w m0 ann 1 9 ⟨H (h_0 w.params) dObjs, Array.mk [], {}, 2139, os⟩ ⟨(tailOf env (sO "b3_exceptions") ⟨2, 0, 2, 13⟩ 15).wrap doneF deadEnd id id, cE, ⟨2, 16, 2, 8704⟩, [topFrame qP]⟩ = some (.next, ⟨h_1 w.params, Array.mk [], {}, 2140, os⟩, cE, ⟨2, 0, 2, 13⟩) := by kernel_rfl
theorem g2 (w : World) (os : OsState) : segRun treeTable prog w m0 ann 1 296 ⟨h_1 w.params, Array.mk [], {}, 2140, os⟩ (piecesOf (sts 2 28) env cE ⟨2, 0, 2, 13⟩ [topFrame qP]) = some (.next, ⟨h_2 w.params, Array.mk [], {}, 2209, os⟩, cE, ⟨41, 0, 41, 9⟩) := by kernel_rfl
theorem g3 (w : World) (os : OsState) : segRun treeTable prog w m0 ann 1 235 ⟨h_2 w.params, Array.mk [], {}, 2209, os⟩ (piecesOf (sts 30 26) env cE ⟨41, 0, 41, 9⟩ [topFrame qP]) = some (.next, ⟨h_3 w.params, Array.mk [], {}, 2261, os⟩, cE, ⟨67, 0, 67, 9⟩) := by kernel_rfl
theorem g4f (w : World) (os : OsState) : segRun treeTable prog (w.withFollow "special-get-raises" false) m0 ann 1 979 ⟨h_3 (w.withFollow "special-get-raises" false).params, Array.mk [], {}, 2261, os⟩ (piecesOf (sts 56 1) env cE ⟨67, 0, 67, 9⟩ [topFrame qP]) = some (.next, ⟨h_4 (w.withFollow "special-get-raises" false).params, Array.mk [], {}, 2358, os⟩, cE, ⟨68, 0, 68, 17⟩) := by kernel_rfl
theorem g4t (w : World) (os : OsState) : segRun treeTable prog (w.withFollow "special-get-raises" true) m0 ann 1 979 ⟨h_3 (w.withFollow "special-get-raises" true).params, Array.mk [], {}, 2261, os⟩ (piecesOf (sts 56 1) env cE ⟨67, 0, 67, 9⟩ [topFrame qP]) = some (.next, ⟨h_4 (w.withFollow "special-get-raises" true).params, Array.mk [], {}, 2358, os⟩, cE, ⟨68, 0, 68, 17⟩) := by kernel_rfl
theorem g4 (w : World) (os : OsState) : segRun treeTable prog w m0 ann 1 979 ⟨h_3 w.params, Array.mk [], {}, 2261, os⟩ (piecesOf (sts 56 1) env cE ⟨67, 0, 67, 9⟩ [topFrame qP]) = some (.next, ⟨h_4 w.params, Array.mk [], {}, 2358, os⟩, cE, ⟨68, 0, 68, 17⟩) :=
  byRow2 "special-get-raises" (P := fun w => segRun treeTable prog w m0 ann 1 979 ⟨h_3 w.params, Array.mk [], {}, 2261, os⟩ (piecesOf (sts 56 1) env cE ⟨67, 0, 67, 9⟩ [topFrame qP]) = some (.next, ⟨h_4 w.params, Array.mk [], {}, 2358, os⟩, cE, ⟨68, 0, 68, 17⟩)) (fun w => g4f w os) (fun w => g4t w os) w
theorem g5 (w : World) (os : OsState) : segRun treeTable prog w m0 ann 1 284 ⟨h_4 w.params, Array.mk [], {}, 2358, os⟩ (piecesOf (sts 57 13) env cE ⟨68, 0, 68, 17⟩ [topFrame qP]) = some (.next, ⟨h_5 w.params, Array.mk [], {}, 2436, os⟩, cE, ⟨146, 0, 157, 17⟩) := by kernel_rfl
theorem g6 (w : World) (os : OsState) : segRun treeTable prog w m0 ann 1 115 ⟨h_5 w.params, Array.mk [], {}, 2436, os⟩ (piecesOf (sts 70 4) env cE ⟨146, 0, 157, 17⟩ [topFrame qP]) = some (.next, ⟨h_6 w.params, Array.mk [], {}, 2468, os⟩, cE, ⟨179, 0, 202, 47⟩) := by kernel_rfl
theorem fin (w : World) (os : OsState) : topRun treeTable prog w m0 ann 2 ⟨h_6 w.params, Array.mk [], {}, 2468, os⟩ ⟨doneF .next, cE, ⟨179, 0, 202, 47⟩, [topFrame qP]⟩ = some ⟨h_6 w.params, Array.mk [], {}, 2468, os⟩ := by kernel_rfl
theorem climb : climbs 0 ((c0 ++ (chunks.flatten ++ last)).map (·.k)) = true := by kernel_rfl
theorem gd (w : World) (os : OsState) : ∃ n, n ≤ 19622 ∧ segRun treeTable prog w m0 ann 1 (n + 9) ⟨h_0 w.params, Array.mk [], {}, 189, os⟩ (piecesOf (sts 1 1) env cE ⟨1, 0, 1, 8⟩ [topFrame qP]) = some (.next, ⟨h_1 w.params, Array.mk [], {}, 2140, os⟩, cE, ⟨2, 0, 2, 13⟩) := by
  have hsz : (h_0 w.params).objs.size = 15 := rfl
  have z := dict_stmt (Z := ⟨prog, w, m0, ann, body, env, qP⟩) (h := h_0 w.params) (g := Array.mk []) (dr := {}) (T := 189) (ost := os) (x := (sO "b3_exceptions")) (p' := ⟨2, 0, 2, 13⟩) (dp := ⟨2, 16, 2, 8704⟩) (sp := ⟨2, 0, 2, 8704⟩) (pos0 := ⟨1, 0, 1, 8⟩) (c := c0) (last := last) (cs := chunks) (N := 9)
    (r := (.next, ⟨h_1 w.params, Array.mk [], {}, 2140, os⟩, cE, ⟨2, 0, 2, 13⟩)) (by rw [hsz]; rfl) (by rw [hsz]; decide) (by decide +kernel) (by decide +kernel) (by intro e; have := congrArg List.length e; revert this; decide +kernel) (by decide +kernel) (apart_of climb) (by decide +kernel)
    (by rw [dictObjs, hsz]; exact tail1 w os)
  rw [dictSt]
  have hb : 30 * (c0 ++ (chunks.flatten ++ last)).length + 30 * last.length + 2 = 19622 := by decide +kernel
  rw [hb] at z
  obtain ⟨n, hn, z⟩ := z
  refine ⟨n, hn, ?_⟩
  rw [show (St (h_0 w.params) [] (Array.mk []) {} 189 os) = ⟨h_0 w.params, Array.mk [], {}, 189, os⟩ from by show Shared.mk (H _ []) _ _ _ _ = _; rw [H_nil]] at z
  exact z
theorem bodyAll : body = sts 0 1 ++ (sts 1 1 ++ (sts 2 28 ++ (sts 30 26 ++ (sts 56 1 ++ (sts 57 13 ++ (sts 70 4 ++ [])))))) := by kernel_rfl
theorem run (w : World) (os : OsState) : topRun treeTable prog w m0 ann 21565 ⟨boot_heap w.params, Array.mk [], boot_drawn, boot_toks, os⟩ (topStub prog) = some ⟨h_6 w.params, Array.mk [], {}, 2468, os⟩ := by
  obtain ⟨n, hn, hd⟩ := gd w os
  have z := go_top (pre w os) (piece_block (blk w os) (by rw [show restOf body env cE ⟨0, 0, 0, 0⟩ [topFrame qP] = restOf (sts 0 1 ++ (sts 1 1 ++ (sts 2 28 ++ (sts 30 26 ++ (sts 56 1 ++ (sts 57 13 ++ (sts 70 4 ++ []))))))) env cE ⟨0, 0, 0, 0⟩ [topFrame qP] from congrArg (fun b => restOf b env cE ⟨0, 0, 0, 0⟩ [topFrame qP]) bodyAll]; exact (piece_app (g0 w os) (piece_app hd (piece_app (g2 w os) (piece_app (g3 w os) (piece_app (g4 w os) (piece_app (g5 w os) (piece_app (g6 w os) (fin w os))))))))))
  have z2 := topRun_mono (n₀ := m0) (ann := ann) (19622 - n) _ _ _ _ z
  exact (congrArg (fun N => topRun treeTable prog w m0 ann N ⟨boot_heap w.params, Array.mk [], boot_drawn, boot_toks, os⟩ (topStub prog)) (by omega)).trans z2
noncomputable def keepIx : List Nat := [73]
noncomputable def loose : List Str := [sO "b3_exceptions", sO "map_table_b3", sO "_parse_varint", sO "ENDMARKER", sO "LPAR", sO "RPAR", sO "LSQB", sO "RSQB", sO "COLON", sO "COMMA", sO "SEMI", sO "PLUS", sO "MINUS", sO "STAR", sO "SLASH", sO "VBAR", sO "AMPER", sO "LESS", sO "GREATER", sO "EQUAL", sO "DOT", sO "PERCENT", sO "LBRACE", sO "RBRACE", sO "EQEQUAL", sO "NOTEQUAL", sO "LESSEQUAL", sO "GREATEREQUAL", sO "TILDE", sO "CIRCUMFLEX", sO "LEFTSHIFT", sO "RIGHTSHIFT", sO "DOUBLESTAR", sO "PLUSEQUAL", sO "MINEQUAL", sO "STAREQUAL", sO "SLASHEQUAL", sO "PERCENTEQUAL", sO "AMPEREQUAL", sO "VBAREQUAL", sO "CIRCUMFLEXEQUAL", sO "LEFTSHIFTEQUAL", sO "RIGHTSHIFTEQUAL", sO "DOUBLESTAREQUAL", sO "DOUBLESLASH", sO "DOUBLESLASHEQUAL", sO "AT", sO "ATEQUAL", sO "RARROW", sO "ELLIPSIS", sO "COLONEQUAL", sO "EXCLAMATION", sO "NT_OFFSET", sO "EXACT_TOKEN_TYPES", sO "ISNONTERMINAL", sO "ISEOF", sO "_MAX_STRING_SIZE", sO "_MOVE_COST", sO "_CASE_COST", sO "_substitution_cost", sO "_levenshtein_distance", sO "_law_kinds", sO "_law_draw", sO "_law_octets", sO "_law_read", sO "_law_levels", sO "_law_told_heap", sO "_law_told_count"]
noncomputable abbrev Nsteps : Nat := 21565
noncomputable abbrev hEnd := h_6
noncomputable abbrev tEnd : Nat := 2468
noncomputable def K (P : Params) : Frag := [(1, boot_o_1 P), (3, o3_80 P), (15, d0), (59, o59_14 P), (60, o60_15 P), (66, o66_21 P), (67, o67_22 P), (68, o68_25 P), (76, o76_35 P), (77, o77_36 P), (83, o83_42 P), (84, o84_43 P), (90, o90_49 P), (91, o91_50 P), (97, o97_56 P), (98, o98_57 P), (102, o102_61 P), (103, o103_62 P), (107, o107_66 P), (108, o108_67 P), (114, o114_73 P), (115, o115_74 P), (119, o119_78 P), (120, o120_79 P), (124, o124_85 P), (125, o125_86 P), (131, o131_92 P), (132, o132_93 P), (136, o136_97 P), (137, o137_98 P), (141, o141_102 P), (142, o142_103 P)]
noncomputable def Ks : List Addr := [1, 3, 15, 59, 60, 66, 67, 68, 76, 77, 83, 84, 90, 91, 97, 98, 102, 103, 107, 108, 114, 115, 119, 120, 124, 125, 131, 132, 136, 137, 141, 142]
theorem K_keys (P : Params) : Ks = (K P).map (·.1) := rfl
end Mine.H1
end
section
set_option maxRecDepth 100000
set_option maxHeartbeats 0
namespace Mine.H1
open PySem PySem.W PyProof.Rows Mine.Hd
noncomputable def q : Program := view prog keepIx
abbrev row : OpenRow := PySem.Challenge.rw_sn0073_01.row
noncomputable abbrev Xt : Shared → Bool := fun s => xlAt q [] s && recOk (RowW.records row.toRowW) s
noncomputable def hook : Hook := kHook K Ks K_keys
theorem size (w : World) : ((boot_heap w.params).isNs mainGlobals && (Array.mk [] : Array GenState).size == 0, (boot_heap w.params).objs.size, (boot_heap w.params).nsMap mainGlobals "__annotations__") = (true, m0, ann) := by kernel_rfl
theorem opens : opening prog = plainProg prog.main.scope.names := by kernel_rfl
theorem fence (s : Shared) : fenceModules? prog s = some s := by kernel_rfl
theorem looks1 (w : World) (os : OsState) : (staticsOk (importedModules prog.main.body) (boot_heap w.params) (hEnd w.params) && namesBound prog (hEnd w.params) && gensDone ⟨hEnd w.params, Array.mk [], {}, tEnd, os⟩ && laidKept (boot_heap w.params) (hEnd w.params)) = true := by kernel_rfl
theorem looks2 (w : World) (os : OsState) : openSeen q loose (importedModules prog.main.body) Xt true ⟨hEnd w.params, Array.mk [], {}, tEnd, os⟩ = openGood q loose := by kernel_rfl
theorem looks3 (w : World) (os : OsState) : hook.obs ⟨hEnd w.params, Array.mk [], {}, tEnd, os⟩ = hook.val w := by kernel_rfl
theorem left : LeftO prog q loose Xt hook.obs hook.val 40000 := LeftO.of_pieces (H₀ := boot_heap) (H₁ := hEnd) (gs₀ := Array.mk []) (gs₁ := Array.mk []) (d₀ := boot_drawn) (d₁ := {}) (k₀ := boot_toks) (k₁ := tEnd) (m₀ := m0) (ann := ann) (M := Nsteps)
  (boot_open opens rfl fence) size run rfl (fun w => funext fun os => by rw [looks1, looks2, looks3])
end Mine.H1
end
section
set_option backward.eqns.nonrecursive false
set_option genSizeOf false
namespace Mine
open PySem
inductive PV where
  | none
  | bool (b : Bool)
  | int (i : Int)
  | str (l : List Nat)
  | tuple (xs : List PV)
  | list (xs : List PV)
  | dict (es : List (PV × PV))
  | rng (lo : Int) (n : Nat) (st : Int)
  | ref (n : Nat)
inductive PObj where
  | list (xs : List PV)
  | dict (es : List (PV × PV))
  | set (xs : List Int)
  | iter (xs : List PV)
  | dead
noncomputable abbrev Store := List PObj
noncomputable abbrev PEnv := List (Nat × PV)
noncomputable def PEnv.get : PEnv → Nat → Option PV
  | [], _ => none
  | (j, v) :: r, i => bif Nat.beq j i then some v else PEnv.get r i
noncomputable def PEnv.set : PEnv → Nat → PV → PEnv
  | [], i, v => [(i, v)]
  | (j, u) :: r, i, v => bif Nat.beq j i then (j, v) :: r else (j, u) :: PEnv.set r i v
inductive BI where
  | len
  | min
  | max
  | sum
  | range
  | list
  | zip
  | ord
  | chr
  | iter
  | next
  | set
inductive Me where
  | lower
  | split
  | join
  | append
  | extend
  | insert
  | index
  | get
  | add
inductive Tgt where
  | one (i : Nat)
  | tup (is : List Nat)
  | item (v : Nat)
inductive PE where
  | var (i : Nat)
  | glob (i : Nat)
  | cint (v : Int)
  | cstr (s : List Nat)
  | cnone
  | cbool (b : Bool)
  | bin (op : Operator) (l r : PE)
  | cmp (op : CmpOp) (l r : PE)
  | boolop (isAnd : Bool) (es : List PE)
  | not (e : PE)
  | ite (t b o : PE)
  | list (es : List PE)
  | newlist (es : List PE)
  | tuple (es : List PE)
  | newdict (ks : List PE) (vs : List PE)
  | idx (v i : PE)
  | slice (v : PE) (lo hi st : Option PE)
  | call (f : Nat) (es : List PE)
  | bi (b : BI) (es : List PE)
  | meth (m : Me) (o : PE) (es : List PE)
  | comp (elt : PE) (gens : List (Tgt × PE × List PE)) (fv : List Nat)
  | dcomp (k v : PE) (gens : List (Tgt × PE × List PE)) (fv : List Nat)
inductive PS where
  | assign (t : Nat) (e : PE)
  | assign2 (t u : Nat) (e : PE)
  | assignTup (ts : List Nat) (e : PE)
  | setItem (v i e : PE)
  | aug (t : Nat) (op : Operator) (e : PE)
  | augItem (v i : PE) (op : Operator) (e : PE)
  | expr (e : PE)
  | ifS (t : PE) (b o : List PS)
  | whileS (t : PE) (b : List PS)
  | forS (t : Tgt) (it : PE) (b : List PS)
  | ret (e : PE)
noncomputable def alook (i : Nat) : List (Nat × PV) → Option PV
  | [] => none
  | p :: r => bif Nat.beq p.1 i then some p.2 else alook i r
structure PProg where
  G : Nat → Option PV
  F : Nat → Option (List Nat × List PS)
noncomputable def rd (st : Store) (v : PV) : PV := match v with
  | .ref n => match st[n]? with
    | some p => match p with
      | .list xs => .list xs
      | .dict es => .dict es
      | _ => .ref n
    | none => .ref n
  | v => v
noncomputable def eqF (a b : PV) : Option Bool := match a with
  | .none => match b with
    | .none => some true
    | _ => none
  | .bool x => match b with
    | .bool y => some (x == y)
    | _ => none
  | .int x => match b with
    | .int y => some (x == y)
    | _ => none
  | .str x => match b with
    | .str y => some (x == y)
    | _ => none
  | _ => none
noncomputable def eqs (f : PV → PV → Option Bool) : List PV → List PV → Option Bool
  | [], l => match l with
    | [] => some true
    | _ :: _ => none
  | x :: xs, l => match l with
    | [] => none
    | y :: ys => match f x y with
      | some a => match eqs f xs ys with
        | some b => some (a && b)
        | none => none
      | none => none
noncomputable def eq1 (a b : PV) : Option Bool := match a with
  | .tuple xs => match b with
    | .tuple ys => eqs eqF xs ys
    | _ => none
  | _ => eqF a b
noncomputable def PV.eqv (a b : PV) : Option Bool := match a with
  | .tuple xs => match b with
    | .tuple ys => eqs eq1 xs ys
    | _ => Option.none
  | .list xs => match b with
    | .list ys => bif xs.length == ys.length then eqs eq1 xs ys else some false
    | _ => Option.none
  | _ => eqF a b
noncomputable def small (i : Int) : Bool := Nat.ble i.natAbs 4611686018427387903
noncomputable abbrev lim : Nat := 100000
noncomputable def pbin (op : Operator) (a b : PV) : Option PV := match a with
  | .int x => match b with
    | .int y => match op with
      | .Add => some (.int (x + y))
      | .Sub => some (.int (x - y))
      | .Mult => bif small x && small y then some (.int (x * y)) else none
      | .FloorDiv => bif small x && (decide (0 < y)) && small y then some (.int (x / y)) else none
      | .Mod => bif decide (0 < y) then some (.int (x % y)) else none
      | .BitAnd => some (.int (Builtin.bitAnd x y))
      | .BitOr => some (.int (Builtin.bitOr x y))
      | .LShift => bif small x && decide (0 ≤ y) && decide (y ≤ 1000) then some (.int (x * 2 ^ y.toNat)) else none
      | .Pow => bif decide (0 ≤ x) && decide (x ≤ 16) && decide (0 ≤ y) && decide (y ≤ 100) then some (.int (x ^ y.toNat)) else none
      | _ => none
    | .bool y => match op with
      | .Mult => bif small x then some (.int (bif y then x else 0)) else none
      | _ => none
    | _ => none
  | .str x => match b with
    | .str y => match op with
      | .Add => bif decide (x.length + y.length ≤ lim) then some (.str (x ++ y)) else none
      | _ => none
    | .int y => match op with
      | .Mult => bif decide (0 ≤ y) && decide (y ≤ 1000) && decide (x.length * y.toNat ≤ lim) then some (.str (List.replicate y.toNat x).flatten) else none
      | _ => none
    | _ => none
  | .list x => match b with
    | .list y => match op with
      | .Add => bif decide (x.length + y.length ≤ lim) then some (.list (x ++ y)) else none
      | _ => none
    | _ => none
  | _ => none
noncomputable def paug (op : Operator) (a b : PV) : Option PV := match a with
  | .int x => match b with
    | .int y => match op with
      | .Add => pbin .Add (.int x) (.int y)
      | .Sub => pbin .Sub (.int x) (.int y)
      | .FloorDiv => pbin .FloorDiv (.int x) (.int y)
      | .BitOr => pbin .BitOr (.int x) (.int y)
      | .LShift => pbin .LShift (.int x) (.int y)
      | _ => none
    | _ => none
  | _ => none
noncomputable def hasInt (x : Int) : List PV → Option Bool
  | [] => some false
  | v :: r => match v with
    | .int y => (hasInt x r).map fun b => x == y || b
    | _ => none
noncomputable def pcmp (op : CmpOp) (a b : PV) : Option Bool := match op with
  | .Eq => PV.eqv a b
  | .NotEq => (PV.eqv a b).map (!·)
  | .In => match a with
    | .int x => match b with
      | .list ys => hasInt x ys
      | _ => none
    | _ => none
  | .NotIn => none
  | .Is => match a with
    | .bool x => match b with
      | .bool y => some (x == y)
      | _ => none
    | _ => none
  | .IsNot => match b with
    | .none => match a with
      | .none => some false
      | .str _ => some true
      | _ => none
    | _ => none
  | .Lt => match a with
    | .int x => match b with
      | .int y => some (decide (x < y))
      | _ => none
    | _ => none
  | .LtE => match a with
    | .int x => match b with
      | .int y => some (decide (x ≤ y))
      | _ => none
    | _ => none
  | .Gt => match a with
    | .int x => match b with
      | .int y => some (decide (y < x))
      | _ => none
    | _ => none
  | .GtE => match a with
    | .int x => match b with
      | .int y => some (decide (y ≤ x))
      | _ => none
    | _ => none
noncomputable def truthyV : PV → Option Bool
  | .bool b => some b
  | .int i => some (i != 0)
  | .str l => bif decide (l.length ≤ lim) then some (!l.isEmpty) else none
  | .none => some false
  | _ => none
noncomputable def intsOf : List PV → Option (List Int)
  | [] => some []
  | v :: r => match v with
    | .int i => (intsOf r).map (i :: ·)
    | _ => none
noncomputable def strsOf : List PV → Option (List (List Nat))
  | [] => some []
  | v :: r => match v with
    | .str i => (strsOf r).map (i :: ·)
    | _ => none
noncomputable def minL : List Int → Int
  | [] => 0
  | [a] => a
  | a :: r => min a (minL r)
noncomputable def maxL : List Int → Int
  | [] => 0
  | [a] => a
  | a :: r => max a (maxL r)
noncomputable def sumL : List Int → Int
  | [] => 0
  | a :: r => a + sumL r
noncomputable def assocI (k : Int) : List (PV × PV) → Option (Option PV)
  | [] => some none
  | p :: r => match p.1 with
    | .int j => bif k == j then some (some p.2) else assocI k r
    | _ => none
noncomputable def assocS (k : List Nat) : List (PV × PV) → Option (Option PV)
  | [] => some none
  | p :: r => match p.1 with
    | .str j => bif k == j then some (some p.2) else assocS k r
    | _ => none
noncomputable def assoc (k : PV) (es : List (PV × PV)) : Option (Option PV) := match k with
  | .int i => assocI i es
  | .str s => assocS s es
  | _ => none
noncomputable def putI (k : Int) (v : PV) : List (PV × PV) → List (PV × PV)
  | [] => [(.int k, v)]
  | p :: r => match p.1 with
    | .int j => bif k == j then (.int j, v) :: r else p :: putI k v r
    | _ => p :: putI k v r
noncomputable def putS (k : List Nat) (v : PV) : List (PV × PV) → List (PV × PV)
  | [] => [(.str k, v)]
  | p :: r => match p.1 with
    | .str j => bif k == j then (.str j, v) :: r else p :: putS k v r
    | _ => p :: putS k v r
noncomputable def flatV : PV → Bool
  | .int _ => true
  | .str _ => true
  | _ => false
noncomputable def put (k v : PV) (es : List (PV × PV)) : Option (List (PV × PV)) := bif flatV v then (match k with
  | .int i => (assocI i es).map fun _ => putI i v es
  | .str s => (assocS s es).map fun _ => putS s v es
  | _ => none) else none
noncomputable def pidx (a b : PV) : Option PV := match a with
  | .list xs => match b with
    | .int i => bif decide (0 ≤ i) && decide (i ≤ lim) then xs[i.toNat]? else none
    | _ => none
  | .tuple xs => match b with
    | .int i => bif decide (0 ≤ i) && decide (i ≤ lim) then xs[i.toNat]? else none
    | _ => none
  | .str l => match b with
    | .int i => bif decide (l.length ≤ lim) && decide (-lim ≤ i) && decide (i ≤ lim) then ((seqIndex? i l.length).bind (l[·]?)).map fun c => .str [c] else none
    | _ => none
  | .dict es => match assoc b es with
    | some o => o
    | none => none
  | _ => none
noncomputable def partO : PV → Option (Option Int)
  | .none => some none
  | .int i => some (some i)
  | _ => none
noncomputable def pick {α : Type} (l : List α) (lo hi : Option Int) (st : Int) : List α := (Builtin.Str.strSliceIndices lo hi st l.length).filterMap (l[·]?)
noncomputable def pslice (v lo hi st : PV) : Option PV := match partO lo with
  | some a => match partO hi with
    | some b => match partO st with
      | some c => match v with
        | .str l => match c with
          | none => bif decide (l.length ≤ lim) then some (.str (pick l a b 1)) else none
          | some _ => none
        | .list l => bif decide (c ≠ some 0) && decide (l.length ≤ lim) then some (.list (pick l a b (c.getD 1))) else none
        | _ => none
      | none => none
    | none => none
  | none => none
noncomputable def lowC (c : Nat) : Nat := bif Nat.ble 65 c && Nat.ble c 90 then c + 32 else c
noncomputable def plower (l : List Nat) : Option (List Nat) := bif l.all (fun c => decide (c < 128)) && decide (l.length ≤ lim) then some (l.map lowC) else none
noncomputable def psplit (l : List Nat) : Option (List (List Nat)) :=
  bif Builtin.Str.spaceWords ⟨l.toArray⟩ (l.length + 1) == [(0, l.length)] then none
  else bif decide (l.length ≤ lim) && decide ((Builtin.Str.spaceWords ⟨l.toArray⟩ (l.length + 1)).length ≤ lim) then some ((wordsOf ⟨l.toArray⟩).map (·.cps.toList)) else none
section
variable {α : Type}
noncomputable def a0 (args : List PV) (f : Option α) : Option α := match args with
  | [] => f
  | _ :: _ => none
noncomputable def a1 (args : List PV) (f : PV → Option α) : Option α := match args with
  | [] => none
  | v :: r => a0 r (f v)
noncomputable def a2 (args : List PV) (f : PV → PV → Option α) : Option α := match args with
  | [] => none
  | v :: r => a1 r (f v)
noncomputable def a3 (args : List PV) (f : PV → PV → PV → Option α) : Option α := match args with
  | [] => none
  | v :: r => a2 r (f v)
noncomputable def oI (v : PV) (f : Int → Option α) : Option α := match v with
  | .int i => f i
  | _ => none
noncomputable def oS (v : PV) (f : List Nat → Option α) : Option α := match v with
  | .str l => f l
  | _ => none
noncomputable def oL (v : PV) (f : List PV → Option α) : Option α := match v with
  | .list l => f l
  | _ => none
noncomputable def oD (v : PV) (f : List (PV × PV) → Option α) : Option α := match v with
  | .dict l => f l
  | _ => none
noncomputable def oR (v : PV) (f : Nat → Option α) : Option α := match v with
  | .ref n => f n
  | _ => none
noncomputable def oG (v : PV) (f : Int → Nat → Int → Option α) : Option α := match v with
  | .rng a n c => f a n c
  | _ => none
noncomputable def sL (st : Store) (n : Nat) (f : List PV → Option α) : Option α := match st[n]? with
  | some p => match p with
    | .list xs => f xs
    | _ => none
  | none => none
noncomputable def sT (st : Store) (n : Nat) (f : List PV → Option α) : Option α := match st[n]? with
  | some p => match p with
    | .iter xs => f xs
    | _ => none
  | none => none
noncomputable def sS (st : Store) (n : Nat) (f : List Int → Option α) : Option α := match st[n]? with
  | some p => match p with
    | .set xs => f xs
    | _ => none
  | none => none
noncomputable def oO {β : Type} (x : Option β) (f : β → Option α) : Option α := match x with
  | some a => f a
  | none => none
noncomputable def oC {β : Type} (l : List β) (f : β → List β → Option α) : Option α := match l with
  | [] => none
  | a :: r => f a r
end
noncomputable def rngItems (lo : Int) (n : Nat) (st : Int) : List PV := match n with
  | 0 => []
  | n + 1 => .int lo :: rngItems (lo + st) n st
noncomputable def itemsOf (st : Store) : PV → Option (List PV × Store)
  | .rng lo n s => some (rngItems lo n s, st)
  | .str l => bif decide (l.length ≤ lim) then some (l.map fun c => .str [c], st) else none
  | .dict es => some (es.map (·.1), st)
  | .list xs => bif decide (xs.length ≤ lim) then some (xs, st) else none
  | .ref n => sL st n fun xs => bif decide (xs.length ≤ lim) then some (xs, st.set n .dead) else none
  | _ => none
noncomputable def mkRng (a b c : Int) (st : Store) : Option (PV × Store) :=
  bif Builtin.Range.small a b c && decide (0 < c) && small c && decide (0 ≤ Builtin.Range.rangeSize a b c) then some (.rng a (Builtin.Range.rangeSize a b c).toNat c, st) else none
noncomputable def idxI (x : Int) : List Int → Option Nat
  | [] => none
  | y :: r => bif x == y then some 0 else (idxI x r).map (· + 1)
noncomputable def zipV (xs ys : List PV) : List PV := List.zipWith (fun x y => .tuple [x, y]) xs ys
noncomputable def plen (st : Store) (v : PV) : Option (PV × Store) := match v with
  | .str l => bif decide (l.length ≤ lim) then some (.int l.length, st) else none
  | .list xs => bif decide (xs.length ≤ lim) then some (.int xs.length, st) else none
  | .ref n => sS st n fun xs => bif decide (xs.length ≤ lim) then some (.int xs.length, st) else none
  | _ => none
noncomputable def pbi (b : BI) (args : List PV) (st : Store) : Option (PV × Store) := match b with
  | .len => a1 args fun v => plen st (rd st v)
  | .min => match args with
    | [] => none
    | v :: r => match r with
      | [] => oL (rd st v) fun xs => oO (intsOf xs) fun l => oC l fun i r => some (.int (minL (i :: r)), st)
      | u :: r => a0 r (oI v fun a => oI u fun b => some (.int (min a b), st))
  | .max => match args with
    | [] => none
    | v :: r => match r with
      | [] => oL (rd st v) fun xs => oO (intsOf xs) fun l => oC l fun i r => some (.int (maxL (i :: r)), st)
      | u :: r => a0 r (oI v fun a => oI u fun b => some (.int (max a b), st))
  | .zip => a2 args fun v u => oL (rd st v) fun xs => oL (rd st u) fun ys => bif decide (xs.length = ys.length) && decide (xs.length ≤ lim) then some (.list (zipV xs ys), st) else none
  | .set => a0 args (some (.ref st.length, st ++ [.set []]))
  | .sum => a1 args fun v => oL (rd st v) fun xs => oO (intsOf xs) fun l => bif decide (xs.length ≤ lim) then some (.int (sumL l), st) else none
  | .range => match args with
    | [] => none
    | v :: r => match r with
      | [] => oI v fun n => mkRng 0 n 1 st
      | u :: r => a1 r fun w => oI v fun a => oI u fun b => oI w fun c => mkRng a b c st
  | .list => a1 args fun v => oG v fun a n c => bif decide (n ≤ lim) then some (.ref st.length, st ++ [.list (rngItems a n c)]) else none
  | .ord => a1 args fun v => oS v fun l => oC l fun c r => match r with
    | [] => some (.int c, st)
    | _ :: _ => none
  | .chr => a1 args fun v => oI v fun i => bif decide (0 ≤ i) && decide (i ≤ 0x10FFFF) then some (.str [i.toNat], st) else none
  | .iter => a1 args fun v => oR v fun n => sL st n fun xs => some (.ref st.length, st.set n .dead ++ [.iter xs])
  | .next => a1 args fun v => oR v fun n => sT st n fun l => oC l fun x r => some (x, st.set n (.iter r))
noncomputable def pmeth (m : Me) (o : PV) (args : List PV) (st : Store) : Option (PV × Store) := match m with
  | .lower => a0 args (oS o fun l => (plower l).map fun r => (.str r, st))
  | .split => a0 args (oS o fun l => (psplit l).map fun r => (.list (r.map .str), st))
  | .join => a1 args fun v => oS o fun s => bif s.isEmpty then oL (rd st v) fun xs => oO (strsOf xs) fun l => bif decide (l.flatten.length ≤ lim) && decide (l.length ≤ lim) then some (.str l.flatten, st) else none else none
  | .append => a1 args fun v => oR o fun n => sL st n fun xs => bif decide (xs.length ≤ lim) then some (.none, st.set n (.list (xs ++ [v]))) else none
  | .extend => a1 args fun v => oR o fun n => sL st n fun xs => oL v fun ys => bif decide (xs.length + ys.length ≤ lim) then some (.none, st.set n (.list (xs ++ ys))) else none
  | .insert => a2 args fun i v => oR o fun n => oI i fun i => sL st n fun xs => bif decide (i = 0) && decide (xs.length ≤ lim) then some (.none, st.set n (.list (v :: xs))) else none
  | .index => a1 args fun i => oI i fun i => oL (rd st o) fun xs => oO (intsOf xs) fun l => oO (idxI i l) fun k => bif decide (xs.length ≤ lim) then some (.int k, st) else none
  | .get => match args with
    | [] => none
    | k :: r => oD (rd st o) fun es => oO (assoc k es) fun u => match r with
      | [] => some (u.getD .none, st)
      | d :: r => a0 r (some (u.getD d, st))
  | .add => a1 args fun i => oR o fun n => oI i fun i => sS st n fun xs => bif decide (xs.length ≤ 4000) && small i then some (.none, st.set n (.set (bif xs.contains i then xs else xs ++ [i]))) else none
noncomputable def isS : PV → Bool
  | .str _ => true
  | _ => false
noncomputable def isL : PV → Bool
  | .list _ => true
  | _ => false
noncomputable def isD : PV → Bool
  | .dict _ => true
  | _ => false
noncomputable def meOk (m : Me) (o : PV) (st : Store) : Bool := match m with
  | .lower => isS o
  | .split => isS o
  | .join => isS o
  | .append => isL (rd st o)
  | .extend => isL (rd st o)
  | .insert => isL (rd st o)
  | .index => isL (rd st o)
  | .get => isD (rd st o)
  | .add => match o with
    | .ref n => match st[n]? with
      | some p => match p with
        | .set _ => true
        | _ => false
      | none => false
    | _ => false
noncomputable def freeze (v : PV) (st : Store) : PV × Store := match v with
  | .ref n => match st[n]? with
    | some p => match p with
      | .list xs => (.list xs, st.set n .dead)
      | _ => (.ref n, st)
    | none => (.ref n, st)
  | v => (v, st)
inductive PFlow where
  | next
  | ret (v : PV)
noncomputable abbrev EvE := PE → PEnv → Store → Option (PV × Store)
noncomputable abbrev EvS := List PS → PEnv → Store → Option (PFlow × PEnv × Store)
noncomputable abbrev EvC := Nat → List PV → Store → Option (PV × Store)
noncomputable def evList (rec : EvE) : List PE → PEnv → Store → Option (List PV × Store)
  | [], _, st => some ([], st)
  | e :: r, env, st => match rec e env st with
    | some (v, st) => match evList rec r env st with
      | some (vs, st) => some (v :: vs, st)
      | none => none
    | none => none
noncomputable def putAll : List (PV × PV) → List (PV × PV) → Option (List (PV × PV))
  | [], acc => some acc
  | (a, b) :: r, acc => match put a b acc with
    | some acc' => bif decide (acc.length ≤ 1000) then putAll r acc' else none
    | none => none
noncomputable def evKVs (rec : EvE) : List PE → List PE → PEnv → Store → Option (List (PV × PV) × Store)
  | [], l, _, st => match l with
    | [] => some ([], st)
    | _ :: _ => none
  | k :: ks, l, env, st => match l with
    | [] => none
    | v :: vs => match rec k env st with
      | some (a, st) => match rec v env st with
        | some (b, st) => match evKVs rec ks vs env st with
          | some (ps, st) => some ((a, b) :: ps, st)
          | none => none
        | none => none
      | none => none
noncomputable def evTest (rec : EvE) (e : PE) (env : PEnv) (st : Store) : Option (Bool × Store) := match rec e env st with
  | some (v, st) => match truthyV v with
    | some b => some (b, st)
    | none => none
  | none => none
noncomputable def evTests (rec : EvE) : List PE → PEnv → Store → Option (Bool × Store)
  | [], _, st => some (true, st)
  | e :: r, env, st => match evTest rec e env st with
    | some (true, st) => evTests rec r env st
    | some (false, st) => some (false, st)
    | none => none
noncomputable def evBool (rec : EvE) (isAnd : Bool) : List PE → PEnv → Store → Option (PV × Store)
  | [], _, _ => none
  | [e], env, st => rec e env st
  | e :: r, env, st => match rec e env st with
    | some (v, st) => match truthyV v with
      | some b => bif b == isAnd then evBool rec isAnd r env st else some (v, st)
      | none => none
    | none => none
noncomputable def bindAll : List Nat → List PV → PEnv → Option PEnv
  | [], l, env => match l with
    | [] => some env
    | _ :: _ => none
  | i :: is, l, env => match l with
    | [] => none
    | v :: vs => bindAll is vs (env.set i v)
noncomputable def bindTgt (t : Tgt) (v : PV) (env : PEnv) : Option PEnv := match t with
  | .one i => some (env.set i v)
  | .tup is => match v with
    | .tuple vs => bindAll is vs env
    | _ => none
  | .item _ => none
noncomputable def evGen {α : Type} (emit : PEnv → Store → α → Option (α × PEnv × Store)) (t : Tgt) (ts : PEnv → Store → Option (Bool × Store)) :
    List PV → PEnv → Store → α → Option (α × PEnv × Store)
  | [], env, st, acc => some (acc, env, st)
  | v :: r, env, st, acc => match bindTgt t v env with
    | some env => match ts env st with
      | some (true, st) => match emit env st acc with
        | some (acc, env, st) => evGen emit t ts r env st acc
        | none => none
      | some (false, st) => evGen emit t ts r env st acc
      | none => none
    | none => none
noncomputable def evGens {α : Type} (rec : EvE) (emit : PEnv → Store → α → Option (α × PEnv × Store)) : List (Tgt × PE × List PE) → PEnv → Store → α → Option (α × PEnv × Store)
  | [], env, st, acc => emit env st acc
  | (t, e, ts) :: r, env, st, acc => match rec e env st with
    | some (v, st) => match itemsOf st v with
      | some (items, st) => evGen (evGens rec emit r) t (evTests rec ts) items env st acc
      | none => none
    | none => none
noncomputable def keep (fv : List Nat) : PEnv → PEnv
  | [] => []
  | (i, v) :: r => bif fv.any (Nat.beq i) then (i, v) :: keep fv r else keep fv r
noncomputable def evComp {α : Type} (rec : EvE) (emit : PEnv → Store → α → Option (α × PEnv × Store)) (fv : List Nat) (gens : List (Tgt × PE × List PE)) (env : PEnv) (st : Store) (acc : α) : Option (α × Store) := match gens with
  | [] => none
  | (t, e, ts) :: r => match rec e env st with
    | some (v, st) => match itemsOf st v with
      | some (items, st) => match evGen (evGens rec emit r) t (evTests rec ts) items (keep fv env) st acc with
        | some (acc, _, st) => some (acc, st)
        | none => none
      | none => none
    | none => none
noncomputable def emitL (rec : EvE) (elt : PE) (env : PEnv) (st : Store) (acc : List PV) : Option (List PV × PEnv × Store) := match rec elt env st with
  | some (v, st) => bif decide (acc.length ≤ lim) then some (acc ++ [v], env, st) else none
  | none => none
noncomputable def emitD (rec : EvE) (k v : PE) (env : PEnv) (st : Store) (acc : List (PV × PV)) : Option (List (PV × PV) × PEnv × Store) := match rec k env st with
  | some (a, st) => match rec v env st with
    | some (b, st) => match put a b acc with
      | some acc' => bif decide (acc.length ≤ 1000) then some (acc', env, st) else none
      | none => none
    | none => none
  | none => none
noncomputable def optE (rec : EvE) : Option PE → PEnv → Store → Option (PV × Store)
  | none, _, st => some (.none, st)
  | some e, env, st => rec e env st
noncomputable def stepE (P : PProg) (rec : EvE) (call : EvC) (e : PE) (env : PEnv) (st : Store) : Option (PV × Store) := match e with
  | .var i => match env.get i with
    | some v => some (v, st)
    | none => none
  | .glob i => match P.G i with
    | some v => some (v, st)
    | none => none
  | .cint v => some (.int v, st)
  | .cstr s => some (.str s, st)
  | .cnone => some (.none, st)
  | .cbool b => some (.bool b, st)
  | .bin op l r => match rec l env st with
    | some (a, st) => match rec r env st with
      | some (b, st) => match pbin op (rd st a) (rd st b) with
        | some v => some (v, st)
        | none => none
      | none => none
    | none => none
  | .cmp op l r => match rec l env st with
    | some (a, st) => match rec r env st with
      | some (b, st) => match pcmp op (rd st a) (rd st b) with
        | some v => some (.bool v, st)
        | none => none
      | none => none
    | none => none
  | .boolop isAnd es => evBool rec isAnd es env st
  | .not e => match evTest rec e env st with
    | some (b, st) => some (.bool !b, st)
    | none => none
  | .ite t b o => match evTest rec t env st with
    | some (true, st) => rec b env st
    | some (false, st) => rec o env st
    | none => none
  | .list es => match evList rec es env st with
    | some (vs, st) => bif decide (vs.length ≤ lim) then some (.list vs, st) else none
    | none => none
  | .newlist es => match evList rec es env st with
    | some (vs, st) => bif decide (vs.length ≤ lim) then some (.ref st.length, st ++ [.list vs]) else none
    | none => none
  | .tuple es => match evList rec es env st with
    | some (vs, st) => bif decide (vs.length ≤ lim) then some (.tuple vs, st) else none
    | none => none
  | .newdict ks vs => match evKVs rec ks vs env st with
    | some (ps, st) => match putAll ps [] with
      | some es => some (.ref st.length, st ++ [.dict es])
      | none => none
    | none => none
  | .idx v i => match rec v env st with
    | some (a, st) => match rec i env st with
      | some (b, st) => match pidx (rd st a) b with
        | some v => some (v, st)
        | none => none
      | none => none
    | none => none
  | .slice v lo hi s => match rec v env st with
    | some (a, st) => match optE rec lo env st with
      | some (l, st) => match optE rec hi env st with
        | some (h, st) => match optE rec s env st with
          | some (k, st) => match pslice (rd st a) l h k with
            | some v => some (v, st)
            | none => none
          | none => none
        | none => none
      | none => none
    | none => none
  | .call f es => match evList rec es env st with
    | some (vs, st) => call f vs st
    | none => none
  | .bi b es => match evList rec es env st with
    | some (vs, st) => pbi b vs st
    | none => none
  | .meth m o es => match rec o env st with
    | some (a, st) => bif meOk m a st then (match evList rec es env st with
      | some (vs, st) => pmeth m a vs st
      | none => none) else none
    | none => none
  | .comp elt gens fv => match evComp rec (emitL rec elt) fv gens env st [] with
    | some (vs, st) => some (.list vs, st)
    | none => none
  | .dcomp k v gens fv => match evComp rec (emitD rec k v) fv gens env st [] with
    | some (es, st) => some (.dict es, st)
    | none => none
noncomputable def forN (body : PEnv → Store → Option (PFlow × PEnv × Store)) (t : Tgt) : List PV → PEnv → Store → Option (PFlow × PEnv × Store)
  | [], env, st => some (.next, env, st)
  | v :: r, env, st => match bindTgt t v env with
    | some env => match body env st with
      | some (.next, env, st) => forN body t r env st
      | x => x
    | none => none
noncomputable def whileN (test : PEnv → Store → Option (Bool × Store)) (body : PEnv → Store → Option (PFlow × PEnv × Store)) : Nat → PEnv → Store → Option (PFlow × PEnv × Store)
  | 0, _, _ => none
  | n + 1, env, st => match test env st with
    | some (true, st) => match body env st with
      | some (.next, env, st) => whileN test body n env st
      | x => x
    | some (false, st) => some (.next, env, st)
    | none => none
noncomputable def unpackL (v : PV) : Option (List PV) := match v with
  | .tuple xs => some xs
  | .list xs => bif decide (xs.length ≤ lim) then some xs else none
  | _ => none
noncomputable def setAt (o i v : PV) (st : Store) : Option Store := oR o fun n => oO st[n]? fun p => match p with
  | .list xs => oI i fun i => bif decide (0 ≤ i) && decide (i.toNat < xs.length) && decide (xs.length ≤ lim) then some (st.set n (.list (xs.set i.toNat v))) else none
  | .dict es => oO (put i v es) fun es' => bif decide (es.length ≤ 1000) then some (st.set n (.dict es')) else none
  | _ => none
noncomputable def stepS1 (rec : EvE) (recS : EvS) (x : PS) (env : PEnv) (st : Store) : Option (PFlow × PEnv × Store) := match x with
  | .assign t e => match rec e env st with
    | some (v, st) => some (.next, env.set t v, st)
    | none => none
  | .assign2 t u e => match rec e env st with
    | some (v, st) => some (.next, (env.set t v).set u v, st)
    | none => none
  | .assignTup ts e => match rec e env st with
    | some (v, st) => match unpackL v with
      | some vs => match bindAll ts vs env with
        | some env => some (.next, env, st)
        | none => none
      | none => none
    | none => none
  | .setItem o i e => match rec e env st with
    | some (v, st) => match rec o env st with
      | some (a, st) => match rec i env st with
        | some (k, st) => match setAt a k v st with
          | some st => some (.next, env, st)
          | none => none
        | none => none
      | none => none
    | none => none
  | .aug t op e => match env.get t with
    | some a => match rec e env st with
      | some (b, st) => match paug op a b with
        | some v => some (.next, env.set t v, st)
        | none => none
      | none => none
    | none => none
  | .augItem o i op e => match rec o env st with
    | some (a, st) => match rec i env st with
      | some (k, st) => match pidx (rd st a) k with
        | some x => match rec e env st with
          | some (y, st) => match paug op x y with
            | some v => match setAt a k v st with
              | some st => some (.next, env, st)
              | none => none
            | none => none
          | none => none
        | none => none
      | none => none
    | none => none
  | .expr e => match rec e env st with
    | some (.none, st) => some (.next, env, st)
    | _ => none
  | .ifS t b o => match evTest rec t env st with
    | some (true, st) => recS b env st
    | some (false, st) => recS o env st
    | none => none
  | .whileS t b => whileN (evTest rec t) (recS b) 64 env st
  | .forS t it b => match rec it env st with
    | some (v, st) => match itemsOf st v with
      | some (items, st) => forN (recS b) t items env st
      | none => none
    | none => none
  | .ret e => match rec e env st with
    | some (v, st) => some (.ret v, env, st)
    | none => none
noncomputable def stepS (rec : EvE) (recS : EvS) : List PS → PEnv → Store → Option (PFlow × PEnv × Store)
  | [], env, st => some (.next, env, st)
  | x :: r, env, st => match stepS1 rec recS x env st with
    | some (.next, env, st) => stepS rec recS r env st
    | y => y
noncomputable def stepC (P : PProg) (recS : EvS) (f : Nat) (vs : List PV) (st : Store) : Option (PV × Store) := match P.F f with
  | some (ps, body) => match bindAll ps vs [] with
    | some env => match recS body env st with
      | some (.ret v, _, st) => some (freeze v st)
      | some (.next, _, st) => some (.none, st)
      | none => none
    | none => none
  | none => none
structure Evs where
  E : EvE
  S : EvS
  C : EvC
noncomputable def ev (P : PProg) : Nat → Evs
  | 0 => ⟨fun _ _ _ => none, fun _ _ _ => none, fun _ _ _ => none⟩
  | n + 1 => ⟨stepE P (ev P n).E (ev P n).C, stepS (ev P n).E (ev P n).S, stepC P (ev P n).S⟩
end Mine
end
section
namespace Mine
open PySem
noncomputable def LObj (o : Obj) (items : Array Value) : Prop := ∃ n, o = { cls := .type "list", dict := none, data := .seq items n, slots := #[] }
noncomputable def TObj (o : Obj) (items : Array Value) : Prop := ∃ n, o = { cls := .type "tuple", dict := none, data := .seq items n, slots := #[] }
theorem LObj.isList {h : Heap} {a : Addr} {o : Obj} {items : Array Value} (ho : h.get? a = some o) (x : LObj o items) : h.IsList a items := let ⟨n, e⟩ := x; ⟨o, ho, by rw [e], n, by rw [e]⟩
theorem TObj.isTuple {h : Heap} {a : Addr} {o : Obj} {items : Array Value} (ho : h.get? a = some o) (x : TObj o items) : h.IsTuple a items := let ⟨n, e⟩ := x; ⟨o, ho, by rw [e], n, by rw [e]⟩
theorem ff {P : Prop} (h : false = true) : P := absurd h Bool.false_ne_true
theorem nn {α : Type} {v : α} {P : Prop} (h : (none : Option α) = some v) : P := by cases h
theorem an {a b : Bool} {P : Prop} (h : (a && b) = true) (k : a = true → b = true → P) : P := k (Bool.and_eq_true_iff.mp h).1 (Bool.and_eq_true_iff.mp h).2
theorem nt {b : Bool} (h : (!b) = true) : b = false := (Bool.not_eq_true' b).mp h
theorem bif_el {α : Type} {c : Bool} {a : Option α} {v : α} {P : Prop} (h : (bif c then a else none) = some v) (k : c = true → a = some v → P) : P := by
  cases c with
  | true => exact k rfl h
  | false => exact nn h
noncomputable def FRel (v : PV) (x : Value) : Prop := match v with
  | .int i => match x with
    | .int j _ => i = j
    | _ => False
  | .str l => match x with
    | .str s _ => s.cps.toList = l
    | _ => False
  | _ => False
noncomputable def EI : List (PV × PV) → List (Int × Value) → Prop
  | [], l => match l with
    | [] => True
    | _ :: _ => False
  | p :: r, l => match l with
    | [] => False
    | q :: t => p.1 = .int q.1 ∧ FRel p.2 q.2 ∧ EI r t
noncomputable def ES : List (PV × PV) → List (Str × Value) → Prop
  | [], l => match l with
    | [] => True
    | _ :: _ => False
  | p :: r, l => match l with
    | [] => False
    | q :: t => p.1 = .str q.1.cps.toList ∧ FRel p.2 q.2 ∧ ES r t
noncomputable def DObj {K : Type} [DecidableEq K] {prog : Program} {w : World} (knd : KeyKind prog w K) (o : Obj) (kvs : List (K × Value)) : Prop := ∀ h : Heap, ∀ a, h.get? a = some o → h.DictOf knd a kvs
inductive DRel (prog : Program) (w : World) (es : List (PV × PV)) (o : Obj) : Prop
  | ik (kvs : List (Int × Value)) : DObj (intKind prog w) o kvs → EI es kvs → DRel prog w es o
  | sk (kvs : List (Str × Value)) : DObj (strKind prog w) o kvs → ES es kvs → DRel prog w es o
mutual
inductive VRel (prog : Program) (w : World) (σ : List Addr) (B : Addr → Option Obj) : PV → Value → Prop
  | none : VRel prog w σ B .none .none
  | bool (b : Bool) : VRel prog w σ B (.bool b) (.bool b)
  | int (i : Int) (t : Tok) : VRel prog w σ B (.int i) (.int i t)
  | str (l : List Nat) (s : Str) (t : Tok) : s.cps.toList = l → VRel prog w σ B (.str l) (.str s t)
  | tuple {xs : List PV} {a : Addr} {o : Obj} {items : Array Value} : B a = some o → TObj o items → VRels prog w σ B xs items.toList → VRel prog w σ B (.tuple xs) (.ref a)
  | list {xs : List PV} {a : Addr} {o : Obj} {items : Array Value} : B a = some o → LObj o items → VRels prog w σ B xs items.toList → VRel prog w σ B (.list xs) (.ref a)
  | dict {es : List (PV × PV)} {a : Addr} {o : Obj} : B a = some o → DRel prog w es o → (a == sysModules) = false → VRel prog w σ B (.dict es) (.ref a)
  | rng {lo hi st : Int} {n : Nat} {t u v : Tok} {a : Addr} : B a = some { cls := .type "range", dict := none, data := .fields #[.int lo t, .int hi u, .int st v], slots := #[] } →
      Builtin.Range.small lo hi st = true → Builtin.Range.rangeSize lo hi st = (n : Int) → VRel prog w σ B (.rng lo n st) (.ref a)
  | ref {n : Nat} {a : Addr} : σ[n]? = some a → VRel prog w σ B (.ref n) (.ref a)
inductive VRels (prog : Program) (w : World) (σ : List Addr) (B : Addr → Option Obj) : List PV → List Value → Prop
  | nil : VRels prog w σ B [] []
  | cons {x : PV} {v : Value} {xs : List PV} {vs : List Value} : VRel prog w σ B x v → VRels prog w σ B xs vs → VRels prog w σ B (x :: xs) (v :: vs)
end
section
variable {prog : Program} {w : World} {σ σ' : List Addr} {B B' : Addr → Option Obj}
theorem VRel.mono (hσ : ∀ (n : Nat) a, σ[n]? = some a → σ'[n]? = some a) (hB : ∀ a o, B a = some o → B' a = some o) {v : PV} {x : Value} (h : VRel prog w σ B v x) : VRel prog w σ' B' v x :=
  VRel.rec (motive_1 := fun v x _ => VRel prog w σ' B' v x) (motive_2 := fun v x _ => VRels prog w σ' B' v x) .none .bool .int .str (fun ha ho _ ih => .tuple (hB _ _ ha) ho ih) (fun ha ho _ ih => .list (hB _ _ ha) ho ih) (fun ha ho hs => .dict (hB _ _ ha) ho hs)
    (fun ha h1 h2 => .rng (hB _ _ ha) h1 h2) (fun h => .ref (hσ _ _ h)) .nil (fun _ _ h t => .cons h t) h
theorem VRels.ind {C : List PV → List Value → Prop} (n : C [] []) (c : ∀ {x : PV} {v : Value} {xs : List PV} {vs : List Value}, VRel prog w σ B x v → VRels prog w σ B xs vs → C xs vs → C (x :: xs) (v :: vs)) {xs : List PV} {vs : List Value} (h : VRels prog w σ B xs vs) : C xs vs :=
  VRels.rec (motive_1 := fun _ _ _ => True) (motive_2 := fun xs vs _ => C xs vs) trivial (fun _ => trivial) (fun _ _ => trivial) (fun _ _ _ _ => trivial) (fun _ _ _ _ => trivial) (fun _ _ _ _ => trivial) (fun _ _ _ => trivial) (fun _ _ _ => trivial) (fun _ => trivial) n (fun h t _ ih => c h t ih) h
theorem VRels.mono (hσ : ∀ (n : Nat) a, σ[n]? = some a → σ'[n]? = some a) (hB : ∀ a o, B a = some o → B' a = some o) {v : List PV} {x : List Value} (h : VRels prog w σ B v x) : VRels prog w σ' B' v x :=
  VRels.ind (C := VRels prog w σ' B') .nil (fun h _ t => .cons (h.mono hσ hB) t) h
theorem VRels.nil_el {C : List Value → Prop} {vs : List Value} (h : VRels prog w σ B [] vs) (k : C []) : C vs := by
  cases h; exact k
theorem VRels.cons_el {C : List Value → Prop} {x : PV} {xs : List PV} {vs : List Value} (h : VRels prog w σ B (x :: xs) vs) (k : ∀ v us, VRel prog w σ B x v → VRels prog w σ B xs us → C (v :: us)) : C vs := by
  cases h with
  | cons a b => exact k _ _ a b
theorem VRels.length {xs : List PV} {vs : List Value} (h : VRels prog w σ B xs vs) : xs.length = vs.length :=
  VRels.ind (C := fun xs vs => xs.length = vs.length) rfl (fun _ _ e => congrArg (· + 1) e) h
theorem VRels.get {xs : List PV} {vs : List Value} {i : Nat} {x : PV} (h : VRels prog w σ B xs vs) : xs[i]? = some x → ∃ v, vs[i]? = some v ∧ VRel prog w σ B x v :=
  VRels.ind (C := fun xs vs => ∀ i, xs[i]? = some x → ∃ v, vs[i]? = some v ∧ VRel prog w σ B x v) (fun _ e => nn e) (fun h _ t i => by
    cases i with
    | zero => exact fun e => ⟨_, rfl, Option.some.inj e ▸ h⟩
    | succ i => exact t i) h i
theorem VRels.append {xs ys : List PV} {vs us : List Value} (h : VRels prog w σ B xs vs) (b : VRels prog w σ B ys us) : VRels prog w σ B (xs ++ ys) (vs ++ us) :=
  VRels.ind (C := fun xs vs => VRels prog w σ B (xs ++ ys) (vs ++ us)) b (fun h _ t => .cons h t) h
theorem VRels.take {xs : List PV} {vs : List Value} (n : Nat) (h : VRels prog w σ B xs vs) : VRels prog w σ B (xs.take n) (vs.take n) :=
  VRels.ind (C := fun xs vs => ∀ n, VRels prog w σ B (xs.take n) (vs.take n)) (fun n => by cases n <;> exact .nil) (fun h _ t n => by
    cases n with
    | zero => exact .nil
    | succ n => exact .cons h (t n)) h n
theorem VRels.set {xs : List PV} {vs : List Value} (n : Nat) {x : PV} {v : Value} (h : VRels prog w σ B xs vs) (hx : VRel prog w σ B x v) : VRels prog w σ B (xs.set n x) (vs.set n v) :=
  VRels.ind (C := fun xs vs => ∀ n, VRels prog w σ B (xs.set n x) (vs.set n v)) (fun _ => .nil) (fun h r t n => by
    cases n with
    | zero => exact .cons hx r
    | succ n => exact .cons h (t n)) h n
end
structure Z where
  σ : List Addr
  B : Addr → Option Obj
  st : Store
  h : Heap
noncomputable def live (st : Store) (n : Nat) : Prop := ∃ p, st[n]? = some p ∧ p ≠ .dead
noncomputable def ORel (prog : Program) (w : World) (σ : List Addr) (B : Addr → Option Obj) (h : Heap) : PObj → Addr → Prop
  | .list xs, a => ∃ o items, h.get? a = some o ∧ LObj o items ∧ VRels prog w σ B xs items.toList
  | .dict es, a => ∃ o, h.get? a = some o ∧ DRel prog w es o ∧ (a == sysModules) = false
  | .set xs, a => h.SetOf (intKind prog w) a (fun k => xs.contains k) xs.length
  | .iter xs, a => ∃ l i o items, h.IsListIter a l i ∧ B l = some o ∧ LObj o items ∧ VRels prog w σ B xs (items.toList.drop i)
  | .dead, _ => True
structure Ok (prog : Program) (w : World) (h₀ : Heap) (z : Z) : Prop where
  sm : ∃ o, h₀.get? sysModules = some o
  len : z.σ.length = z.st.length
  sub : ∀ a o, z.B a = some o → z.h.get? a = some o
  base : ∀ a o, h₀.get? a = some o → z.B a = some o
  obj : ∀ (n : Nat) p, z.st[n]? = some p → p ≠ .dead → ∃ a, z.σ[n]? = some a ∧ z.B a = none ∧ (∃ o, z.h.get? a = some o) ∧ ORel prog w z.σ z.B z.h p a
  inj : ∀ (n m : Nat) a, live z.st n → live z.st m → z.σ[n]? = some a → z.σ[m]? = some a → n = m
structure Free (z : Z) (a : Addr) : Prop where
  b : z.B a = none
  l : ∀ (n : Nat), live z.st n → z.σ[n]? ≠ some a
structure Ext (z z' : Z) : Prop where
  sig : ∀ (n : Nat) a, z.σ[n]? = some a → z'.σ[n]? = some a
  frz : ∀ a o, z.B a = some o → z'.B a = some o
  prv : ∀ a o, z.h.get? a = some o → Free z a → z'.h.get? a = some o ∧ Free z' a
theorem Ext.refl (z : Z) : Ext z z := ⟨fun _ _ h => h, fun _ _ h => h, fun _ _ h f => ⟨h, f⟩⟩
theorem Ext.trans {z z' z'' : Z} (a : Ext z z') (b : Ext z' z'') : Ext z z'' :=
  ⟨fun n x h => b.sig n x (a.sig n x h), fun x o h => b.frz x o (a.frz x o h), fun x o h f => let ⟨h', f'⟩ := a.prv x o h f; b.prv x o h' f'⟩
theorem VRel.ext {prog : Program} {w : World} {z z' : Z} (e : Ext z z') {v : PV} {x : Value} (h : VRel prog w z.σ z.B v x) : VRel prog w z'.σ z'.B v x := h.mono e.sig e.frz
theorem VRels.ext {prog : Program} {w : World} {z z' : Z} (e : Ext z z') {v : List PV} {x : List Value} (h : VRels prog w z.σ z.B v x) : VRels prog w z'.σ z'.B v x := h.mono e.sig e.frz
noncomputable def addB (B : Addr → Option Obj) (a : Addr) (o : Obj) : Addr → Option Obj := fun x => if x = a then some o else B x
theorem addB_of {B : Addr → Option Obj} {a b : Addr} {o x : Obj} (hn : B a = none) (e : B b = some x) : addB B a o b = some x := (if_neg fun h => nn (hn.symm.trans (h ▸ e))).trans e
theorem addB_none {B : Addr → Option Obj} {a b : Addr} {o : Obj} (hne : b ≠ a) (e : B b = none) : addB B a o b = none := (if_neg hne).trans e
theorem addB_inv {B : Addr → Option Obj} {a b : Addr} {o x : Obj} (e : addB B a o b = some x) : (b = a ∧ o = x) ∨ B b = some x := by
  unfold addB at e
  by_cases h : b = a
  · rw [if_pos h] at e; exact .inl ⟨h, Option.some.inj e⟩
  · rw [if_neg h] at e; exact .inr e
section
variable {prog : Program} {w : World} {h₀ : Heap} {z : Z}
theorem Ok.not_sm (k : Ok prog w h₀ z) {a : Addr} (h : z.h.get? a = none) : (a == sysModules) = false :=
  beq_eq_false_iff_ne.mpr fun e => k.sm.elim fun o ho => nn (h.symm.trans (e ▸ k.sub _ _ (k.base _ _ ho)))
theorem Ok.none_of_none (k : Ok prog w h₀ z) {a : Addr} (h : z.h.get? a = none) : z.B a = none := by
  cases e : z.B a with
  | none => rfl
  | some o => exact nn (h.symm.trans (k.sub a o e))
theorem Ok.free_of_none (k : Ok prog w h₀ z) {a : Addr} (h : z.h.get? a = none) : Free z a :=
  ⟨k.none_of_none h, fun n hl e => hl.elim fun p hp => (k.obj n p hp.1 hp.2).elim fun b hb => hb.2.2.1.elim fun o ho => nn (h.symm.trans (Option.some.inj (e.symm.trans hb.1) ▸ ho))⟩
theorem ORel.keep {σ σ' : List Addr} {B B' : Addr → Option Obj} {h h' : Heap} {p : PObj} {a : Addr} (x : ORel prog w σ B h p a)
    (hσ : ∀ (n : Nat) a, σ[n]? = some a → σ'[n]? = some a) (hB : ∀ a o, B a = some o → B' a = some o) (hk : ∀ o, h.get? a = some o → h'.get? a = some o) : ORel prog w σ' B' h' p a := by
  cases p with
  | list xs => obtain ⟨o, items, ho, hl, hv⟩ := x; exact ⟨o, items, hk o ho, hl, hv.mono hσ hB⟩
  | dict es => obtain ⟨o, ho, hd⟩ := x; exact ⟨o, hk o ho, hd⟩
  | set xs => obtain ⟨o, es, ep, t, ho, r⟩ := x; exact ⟨o, es, ep, t, hk o ho, r⟩
  | iter xs => obtain ⟨l, i, o, items, ⟨oi, hi, r⟩, hl, ho, hv⟩ := x; exact ⟨l, i, o, items, ⟨oi, hk oi hi, r⟩, hB l o hl, ho, hv.mono hσ hB⟩
  | dead => trivial
theorem Ok.keep (k : Ok prog w h₀ z) {h' : Heap} (hk : ∀ a o, z.h.get? a = some o → ¬ Free z a → h'.get? a = some o) : Ok prog w h₀ { z with h := h' } := by
  refine ⟨k.sm, k.len, fun a o e => hk a o (k.sub a o e) fun f => ?_, k.base, fun n p hp hd => ?_, k.inj⟩
  · have := f.b; rw [e] at this; cases this
  · obtain ⟨a, ha, hb, ⟨o, ho⟩, r⟩ := k.obj n p hp hd
    have hk' : ∀ o, z.h.get? a = some o → h'.get? a = some o := fun o e => hk a o e fun f => f.l n ⟨p, hp, hd⟩ ha
    exact ⟨a, ha, hb, ⟨o, hk' o ho⟩, r.keep (fun _ _ e => e) (fun _ _ e => e) hk'⟩
theorem Ext.keep {h' : Heap} (hk : ∀ a o, z.h.get? a = some o → h'.get? a = some o) : Ext z { z with h := h' } :=
  ⟨fun _ _ e => e, fun _ _ e => e, fun a o e f => ⟨hk a o e, f.b, f.l⟩⟩
theorem Ok.addB (k : Ok prog w h₀ z) {h' : Heap} {a : Addr} {o : Obj} {st : Store} (hk : ∀ b x, z.h.get? b = some x → h'.get? b = some x) (hl : st.length = z.st.length) (hst : ∀ (n : Nat) p, st[n]? = some p → p ≠ .dead → z.st[n]? = some p ∧ z.σ[n]? ≠ some a) (ha : z.B a = none) (ho : h'.get? a = some o) :
    Ok prog w h₀ { z with B := Mine.addB z.B a o, st := st, h := h' } := by
  refine ⟨k.sm, k.len.trans hl.symm, fun b x e => (addB_inv e).elim (fun h => by rw [h.1, ← h.2]; exact ho) fun e => hk b x (k.sub b x e), fun b x e => addB_of ha (k.base b x e), fun n p hp hd => ?_, fun n m b h1 h2 => ?_⟩
  · obtain ⟨b, hb, hbn, ⟨x, hx⟩, r⟩ := k.obj n p (hst n p hp hd).1 hd
    exact ⟨b, hb, addB_none (fun e => (hst n p hp hd).2 (e ▸ hb)) hbn, ⟨x, hk _ _ hx⟩, r.keep (fun _ _ e => e) (fun _ _ e => addB_of ha e) fun x e => hk _ _ e⟩
  · exact k.inj n m b (h1.imp fun p h => ⟨(hst n p h.1 h.2).1, h.2⟩) (h2.imp fun p h => ⟨(hst m p h.1 h.2).1, h.2⟩)
theorem Ok.freeze (k : Ok prog w h₀ z) {h' : Heap} {a : Addr} {o : Obj} (hk : ∀ b x, z.h.get? b = some x → h'.get? b = some x) (hn : z.h.get? a = none) (ho : h'.get? a = some o) :
    Ok prog w h₀ { z with B := Mine.addB z.B a o, h := h' } :=
  k.addB hk rfl (fun n p hp hd => ⟨hp, (k.free_of_none hn).l n ⟨p, hp, hd⟩⟩) (k.none_of_none hn) ho
theorem Ok.freeze_ext (k : Ok prog w h₀ z) {h' : Heap} {a : Addr} {o : Obj} (hk : ∀ b x, z.h.get? b = some x → h'.get? b = some x) (hn : z.h.get? a = none) :
    Ext z { z with B := Mine.addB z.B a o, h := h' } :=
  ⟨fun _ _ e => e, fun b x e => addB_of (k.none_of_none hn) e, fun b x e f => ⟨hk b x e, addB_none (fun hb => nn (hn.symm.trans (hb ▸ e))) f.b, f.l⟩⟩
theorem get?_snoc_lt {α : Type} {l : List α} {x y : α} {n : Nat} (h : (l ++ [x])[n]? = some y) (hn : n < l.length) : l[n]? = some y := by
  rwa [List.getElem?_append_left hn] at h
theorem get?_snoc_of {α : Type} {l : List α} {x y : α} {n : Nat} (h : l[n]? = some y) : (l ++ [x])[n]? = some y := by
  rw [List.getElem?_append_left (List.getElem?_eq_some_iff.mp h).1]; exact h
theorem get?_snoc_cases {α : Type} {l : List α} {x y : α} {n : Nat} (h : (l ++ [x])[n]? = some y) : l[n]? = some y ∨ (n = l.length ∧ y = x) := by
  by_cases hn : n < l.length
  · exact .inl (get?_snoc_lt h hn)
  · rw [List.getElem?_append_right (Nat.not_lt.mp hn)] at h
    have h0 := (List.getElem?_eq_some_iff.mp h).1
    have h1 : n - l.length = 0 := Nat.lt_one_iff.mp h0
    rw [h1] at h
    exact .inr ⟨Nat.le_antisymm (Nat.sub_eq_zero_iff_le.mp h1) (Nat.not_lt.mp hn), (Option.some.inj h).symm⟩
theorem Ok.adopt (k : Ok prog w h₀ z) {h' : Heap} {a : Addr} {o : Obj} {p : PObj} (f : Free z a) (hk : ∀ b x, z.h.get? b = some x → h'.get? b = some x) (ho : h'.get? a = some o)
    (hp : ORel prog w z.σ z.B h' p a) : Ok prog w h₀ { z with σ := z.σ ++ [a], st := z.st ++ [p], h := h' } := by
  have hσ : ∀ (n : Nat) b, z.σ[n]? = some b → (z.σ ++ [a])[n]? = some b := fun n b e => get?_snoc_of e
  have lt : ∀ {n : Nat} {b}, z.σ[n]? = some b → n < z.st.length := fun e => k.len ▸ (List.getElem?_eq_some_iff.mp e).1
  have old : ∀ {n b}, live (z.st ++ [p]) n → z.σ[n]? = some b → live z.st n := fun h e => h.imp fun q h => ⟨get?_snoc_lt h.1 (lt e), h.2⟩
  refine ⟨k.sm, by rw [List.length_append, List.length_append, k.len]; rfl, fun b x e => hk _ _ (k.sub b x e), k.base, fun n q hq hd => ?_, fun n m b hl hm e1 e2 => ?_⟩
  · rcases get?_snoc_cases hq with hq | ⟨rfl, rfl⟩
    · obtain ⟨b, hb, hbn, ⟨x, hx⟩, r⟩ := k.obj n q hq hd
      exact ⟨b, hσ _ _ hb, hbn, ⟨x, hk _ _ hx⟩, r.keep hσ (fun _ _ e => e) fun x e => hk _ _ e⟩
    · exact ⟨a, by rw [← k.len]; exact List.getElem?_concat_length, f.b, ⟨o, ho⟩, hp.keep hσ (fun _ _ e => e) fun x e => e⟩
  · rcases get?_snoc_cases e1 with g1 | ⟨h1, k1⟩
    · rcases get?_snoc_cases e2 with g2 | ⟨h2, k2⟩
      · exact k.inj n m b (old hl g1) (old hm g2) g1 g2
      · exact absurd (k2 ▸ g1) (f.l n (old hl g1))
    · rcases get?_snoc_cases e2 with g2 | ⟨h2, k2⟩
      · exact absurd (k1 ▸ g2) (f.l m (old hm g2))
      · exact h1.trans h2.symm
theorem Ok.adopt_ext (k : Ok prog w h₀ z) {z0 : Z} (e : Ext z0 z) {h' : Heap} {a : Addr} {p : PObj} (hk : ∀ b x, z.h.get? b = some x → h'.get? b = some x) (hn : z0.h.get? a = none) :
    Ext z0 { z with σ := z.σ ++ [a], st := z.st ++ [p], h := h' } :=
  ⟨fun n b h => get?_snoc_of (e.sig n b h), e.frz, fun b x h g => have q := e.prv b x h g; ⟨hk b x q.1, q.2.b, fun n hl he => (get?_snoc_cases he).elim (fun he => hl.elim fun p h => q.2.l n ⟨p, get?_snoc_lt h.1 (k.len ▸ (List.getElem?_eq_some_iff.mp he).1), h.2⟩ he) fun h' => nn (hn.symm.trans (h'.2 ▸ h))⟩⟩
theorem Ok.store (k : Ok prog w h₀ z) {h' : Heap} {a : Addr} {o : Obj} {p : PObj} (hk : ∀ b x, z.h.get? b = some x → h'.get? b = some x) (hn : z.h.get? a = none) (ho : h'.get? a = some o)
    (hp : ORel prog w z.σ z.B h' p a) : Ok prog w h₀ { z with σ := z.σ ++ [a], st := z.st ++ [p], h := h' } := k.adopt (k.free_of_none hn) hk ho hp
theorem Ok.store_ext (k : Ok prog w h₀ z) {h' : Heap} {a : Addr} {p : PObj} (hk : ∀ b x, z.h.get? b = some x → h'.get? b = some x) (hn : z.h.get? a = none) :
    Ext z { z with σ := z.σ ++ [a], st := z.st ++ [p], h := h' } := k.adopt_ext (.refl z) hk hn
theorem get?_set_cases {α : Type} {l : List α} {x y : α} {n m : Nat} (h : (l.set n x)[m]? = some y) : (m = n ∧ y = x ∧ n < l.length) ∨ (m ≠ n ∧ l[m]? = some y) := by
  by_cases hm : m = n
  · subst hm
    have hlt : m < l.length := List.length_set (as := l) ▸ (List.getElem?_eq_some_iff.mp h).1
    rw [List.getElem?_set_self hlt] at h
    exact .inl ⟨rfl, (Option.some.inj h).symm, hlt⟩
  · rw [List.getElem?_set_ne (Ne.symm hm)] at h; exact .inr ⟨hm, h⟩
theorem live_set {st : Store} {n : Nat} {p₀ p : PObj} (hp₀ : st[n]? = some p₀) (hd₀ : p₀ ≠ .dead) {m : Nat} (h : live (st.set n p) m) : live st m :=
  h.elim fun q h => (get?_set_cases h.1).elim (fun e => e.1 ▸ ⟨p₀, hp₀, hd₀⟩) fun e => ⟨q, e.2, h.2⟩
theorem Ok.change (k : Ok prog w h₀ z) {h' : Heap} {a : Addr} {n : Nat} {p₀ p : PObj} (hp₀ : z.st[n]? = some p₀) (hd₀ : p₀ ≠ .dead) (ha : z.σ[n]? = some a)
    (hk : Heap.ExtBut a z.h h') (ho : ∃ o, h'.get? a = some o) (hp : ORel prog w z.σ z.B h' p a) : Ok prog w h₀ { z with st := z.st.set n p, h := h' } := by
  obtain ⟨a', ha', hb, _, _⟩ := k.obj n p₀ hp₀ hd₀
  cases Option.some.inj (ha.symm.trans ha')
  refine ⟨k.sm, k.len.trans (List.length_set ..).symm, fun b x e => hk b x (fun h => nn (hb.symm.trans (h ▸ e))) (k.sub b x e), k.base, fun m q hq hd => ?_, fun m m' b hl hm => k.inj m m' b (live_set hp₀ hd₀ hl) (live_set hp₀ hd₀ hm)⟩
  rcases get?_set_cases hq with ⟨rfl, rfl, _⟩ | ⟨hne, hq⟩
  · exact ⟨a, ha, hb, ho, hp⟩
  · obtain ⟨b, hb', hbn, ⟨x, hx⟩, r⟩ := k.obj m q hq hd
    have hba : b ≠ a := fun e => hne (k.inj m n a ⟨q, hq, hd⟩ ⟨p₀, hp₀, hd₀⟩ (e ▸ hb') ha)
    exact ⟨b, hb', hbn, ⟨x, hk _ _ hba hx⟩, r.keep (fun _ _ e => e) (fun _ _ e => e) fun x e => hk _ _ hba e⟩
theorem Ok.change_ext (k : Ok prog w h₀ z) {h' : Heap} {a : Addr} {n : Nat} {p₀ p : PObj} (hp₀ : z.st[n]? = some p₀) (hd₀ : p₀ ≠ .dead) (ha : z.σ[n]? = some a)
    (hk : Heap.ExtBut a z.h h') : Ext z { z with st := z.st.set n p, h := h' } :=
  ⟨fun _ _ e => e, fun _ _ e => e, fun b x e f => ⟨hk b x (fun h => f.l n ⟨p₀, hp₀, hd₀⟩ (h ▸ ha)) e, f.b, fun m hl he => f.l m (live_set hp₀ hd₀ hl) he⟩⟩
theorem Ok.die (k : Ok prog w h₀ z) {a : Addr} {n : Nat} {p₀ : PObj} {o : Obj} (hp₀ : z.st[n]? = some p₀) (hd₀ : p₀ ≠ .dead) (ha : z.σ[n]? = some a) (ho : z.h.get? a = some o) :
    Ok prog w h₀ { z with st := z.st.set n .dead, B := Mine.addB z.B a o } := by
  obtain ⟨a', ha', hb, _, _⟩ := k.obj n p₀ hp₀ hd₀
  cases Option.some.inj (ha.symm.trans ha')
  exact k.addB (fun _ _ e => e) (List.length_set ..) (fun m p hp hd => (get?_set_cases hp).elim (fun e => absurd e.2.1 hd) fun e => ⟨e.2, fun hm => e.1 (k.inj m n a ⟨p, e.2, hd⟩ ⟨p₀, hp₀, hd₀⟩ hm ha)⟩) hb ho
theorem Ok.die_ext (k : Ok prog w h₀ z) {a : Addr} {n : Nat} {p₀ : PObj} {o : Obj} (hp₀ : z.st[n]? = some p₀) (hd₀ : p₀ ≠ .dead) (ha : z.σ[n]? = some a) :
    Ext z { z with st := z.st.set n .dead, B := Mine.addB z.B a o } := by
  obtain ⟨a', ha', hb, _, _⟩ := k.obj n p₀ hp₀ hd₀
  cases Option.some.inj (ha.symm.trans ha')
  exact ⟨fun _ _ e => e, fun b x e => addB_of hb e, fun b x e f => ⟨e, addB_none (fun h => f.l n ⟨p₀, hp₀, hd₀⟩ (h ▸ ha)) f.b, fun m hl he => f.l m (live_set hp₀ hd₀ hl) he⟩⟩
end
end Mine
end
section
namespace Mine
open PySem
structure Cx where
  prog : Program
  w : World
  h₀ : Heap
  nm : List Str
  gA : Addr
  bA : Addr
  fa : Nat → Addr
noncomputable def Cx.name (cx : Cx) (i : Nat) : Str := cx.nm.getD i Str.empty
structure NmOk (cx : Cx) : Prop where
  inj : ∀ i j, i < cx.nm.length → j < cx.nm.length → cx.name i = cx.name j → i = j
  dbg : ∀ i, i < cx.nm.length → (cx.name i == ("__debug__" : Str)) = false
  cd : ∀ i, i < cx.nm.length → (cx.name i == ("__classdict__" : Str)) = false
noncomputable abbrev VR (cx : Cx) (z : Z) : PV → Value → Prop := VRel cx.prog cx.w z.σ z.B
noncomputable abbrev VRs (cx : Cx) (z : Z) : List PV → List Value → Prop := VRels cx.prog cx.w z.σ z.B
noncomputable abbrev OkZ (cx : Cx) (z : Z) : Prop := Ok cx.prog cx.w cx.h₀ z
noncomputable abbrev Names := List (Str × NameKind)
noncomputable def own (names : Names) (env : Env) (a : Addr) : Prop := a = env.locals ∨ ∃ n, names.lookup n = some .cell ∧ env.cells.lookup n = some a
structure ExtB (ow : Addr → Prop) (z z' : Z) : Prop where
  sig : ∀ (n : Nat) a, z.σ[n]? = some a → z'.σ[n]? = some a
  frz : ∀ a o, z.B a = some o → z'.B a = some o
  prv : ∀ a o, z.h.get? a = some o → Free z a → Free z' a ∧ (∃ o', z'.h.get? a = some o') ∧ (¬ ow a → z'.h.get? a = some o)
theorem ExtB.refl (ow) (z : Z) : ExtB ow z z := ⟨fun _ _ h => h, fun _ _ h => h, fun _ _ h f => ⟨f, ⟨_, h⟩, fun _ => h⟩⟩
theorem Ext.toB {z z' : Z} (e : Ext z z') (ow) : ExtB ow z z' := ⟨e.sig, e.frz, fun a o h f => let ⟨x, y⟩ := e.prv a o h f; ⟨y, ⟨_, x⟩, fun _ => x⟩⟩
structure Fr (cx : Cx) (names : Names) (z : Z) (env : Env) (penv : PEnv) : Prop where
  kind : env.scope.kind = .function
  glob : env.globals = cx.gA
  bui : env.builtins = cx.bA
  freeL : Free z env.locals
  ids : ∀ i v, penv.get i = some v → i < cx.nm.length
  raw : ∀ n k, names.lookup n = some k → (k ≠ .free → env.kindOf n = some k) ∧ (k = .free → env.kindOf n = some .cell ∨ env.kindOf n = some .free)
  kinds : ∀ i v, penv.get i = some v → env.kindOf (cx.name i) = some .local ∨ env.kindOf (cx.name i) = some .cell ∨ env.kindOf (cx.name i) = some .free
  hasL : ∃ m, z.h.Ns env.locals m ∧ ∀ i v, penv.get i = some v → env.kindOf (cx.name i) = some .local → ∃ x, m (cx.name i) = some x ∧ VR cx z v x
  cel : ∀ n c, env.cells.lookup n = some c → Free z c ∧ c ≠ env.locals ∧ ∃ ov, z.h.IsCell c ov
  apart : ∀ n n' c, env.cells.lookup n = some c → env.cells.lookup n' = some c → n = n'
  all : ∀ n, (env.kindOf n = some .cell ∨ env.kindOf n = some .free) → ∃ c, env.cells.lookup n = some c
  cellV : ∀ i v, penv.get i = some v → (env.kindOf (cx.name i) = some .cell ∨ env.kindOf (cx.name i) = some .free) →
    ∃ c x, env.cells.lookup (cx.name i) = some c ∧ z.h.IsCell c (some x) ∧ VR cx z v x
theorem get_set (penv : PEnv) (i : Nat) (v : PV) (j : Nat) : (PEnv.set penv i v).get j = if j = i then some v else penv.get j := by
  have one : ∀ (u : PV) (r : PEnv) (k : Nat), PEnv.get ((k, u) :: r) j = if j = k then some u else r.get j := fun u r k => by
    show (bif Nat.beq k j then _ else _) = _
    cases h : Nat.beq k j with
    | true => rw [if_pos (Nat.eq_of_beq_eq_true h).symm]; rfl
    | false => rw [if_neg (fun e => by subst e; rw [Nat.beq_refl] at h; exact ff h.symm)]; rfl
  induction penv with
  | nil => exact one v [] i
  | cons p r ih =>
    obtain ⟨k, u⟩ := p
    show PEnv.get (bif Nat.beq k i then _ else _) j = _
    cases h : Nat.beq k i with
    | true =>
      cases Nat.eq_of_beq_eq_true h
      rw [cond_true, one, one]
      split <;> rfl
    | false =>
      rw [cond_false, one, one, ih]
      by_cases hj : j = k
      · rw [if_pos hj, if_pos hj, if_neg (fun e => by rw [← hj, e, Nat.beq_refl] at h; exact ff h.symm)]
      · rw [if_neg hj, if_neg hj]
section
variable {cx : Cx} {names : Names} {z z' : Z} {env : Env} {penv : PEnv}
theorem Fr.ext (f : Fr cx names z env penv) (e : Ext z z') : Fr cx names z' env penv := by
  have hL : ∀ o, z.h.get? env.locals = some o → z'.h.get? env.locals = some o := fun o h => (e.prv _ o h f.freeL).1
  have hC : ∀ n c ov, env.cells.lookup n = some c → z.h.IsCell c ov → z'.h.IsCell c ov := fun n c ov h ⟨o, ho, hd⟩ => ⟨o, (e.prv _ o ho (f.cel n c h).1).1, hd⟩
  refine ⟨f.kind, f.glob, f.bui, ?_, f.ids, f.raw, f.kinds, ?_, fun n c h => ?_, f.apart, f.all, fun i v hi hk => ?_⟩
  · obtain ⟨m, ⟨o, _, _, ho, _⟩, _⟩ := f.hasL
    exact (e.prv _ o ho f.freeL).2
  · obtain ⟨m, ⟨o, es, ep, ho, r⟩, hm⟩ := f.hasL
    exact ⟨m, ⟨o, es, ep, hL o ho, r⟩, fun i v hi hk => let ⟨x, hx, hv⟩ := hm i v hi hk; ⟨x, hx, hv.ext e⟩⟩
  · obtain ⟨h1, h2, ov, o, ho, hd⟩ := f.cel n c h
    exact ⟨(e.prv _ o ho h1).2, h2, ov, hC n c ov h ⟨o, ho, hd⟩⟩
  · obtain ⟨c, x, hc, hx, hv⟩ := f.cellV i v hi hk
    exact ⟨c, x, hc, hC _ c _ hc hx, hv.ext e⟩
variable {M : Model} {A : Around} {E : Value → Shared → Prop} {s : Shared}
theorem Fr.load (no : NmOk cx) (f : Fr cx names z env penv) (hz : s.heap = z.h) {i : Nat} {v : PV} (hi : penv.get i = some v) {Q : Value → Shared → Prop} (h : ∀ x, VR cx z v x → Q x s) :
    wpAny M A (loadName env (cx.name i)) Q E s := by
  rcases f.kinds i v hi with hk | hk | hk
  · obtain ⟨m, hn, hm⟩ := f.hasL
    obtain ⟨x, hx, hv⟩ := hm i v hi hk
    exact wpAny_loadName_local f.kind hk (hz ▸ hn) hx (h x hv)
  · obtain ⟨c, x, hc, hx, hv⟩ := f.cellV i v hi (.inl hk)
    exact wpAny_loadName_cell f.kind hk hc (hz ▸ hx) (h x hv)
  · obtain ⟨c, x, hc, hx, hv⟩ := f.cellV i v hi (.inr hk)
    exact wpAny_loadName_free f.kind hk hc (hz ▸ hx) (h x hv) (no.cd i (f.ids i v hi))
theorem ok_sameBut {a : Addr} (k : OkZ cx z) (fa : Free z a) {h' : Heap} (hs : Heap.SameBut a z.h h') : OkZ cx { z with h := h' } :=
  k.keep fun b o e hf => by
    have hne : b ≠ a := fun h => hf (h ▸ fa)
    exact (hs.2 b hne).trans e
theorem extB_sameBut {ow : Addr → Prop} {a : Addr} (ha : ow a) {h' : Heap} (hs : Heap.SameBut a z.h h') (hx : ∃ o, h'.get? a = some o) : ExtB ow z { z with h := h' } :=
  ⟨fun _ _ e => e, fun _ _ e => e, fun b o e f => ⟨⟨f.b, f.l⟩, by
    by_cases hb : b = a
    · subst hb; exact hx
    · exact ⟨o, (hs.2 b hb).trans e⟩, fun hn => (hs.2 b (fun h => hn (h ▸ ha))).trans e⟩⟩
theorem Fr.store (no : NmOk cx) (k : OkZ cx z) (f : Fr cx names z env penv) (hz : s.heap = z.h) {i : Nat} {v : PV} {x : Value} (hi : i < cx.nm.length)
    (hk : names.lookup (cx.name i) = some .local ∨ names.lookup (cx.name i) = some .cell) (hv : VR cx z v x) {Q : Unit → Shared → Prop}
    (h : ∀ h' tk, OkZ cx { z with h := h' } → Fr cx names { z with h := h' } env (penv.set i v) → ExtB (own names env) z { z with h := h' } → Q () { s with heap := h', toks := tk }) :
    wpAny M A (storeName env (cx.name i) x) Q E s := by
  have hids : ∀ j u, (penv.set i v).get j = some u → j < cx.nm.length := fun j u e => by
    rw [get_set] at e
    split at e
    · rename_i hji; rw [hji]; exact hi
    · exact f.ids j u e
  rcases hk with hk | hk
  · have hkk := (f.raw _ _ hk).1 (by decide)
    obtain ⟨m, hn, hm⟩ := f.hasL
    refine wpAny_storeName_local hkk (hz ▸ hn) (fun h' hn' hs' => ?_) (by rw [f.kind]; rfl)
    rw [hz] at hs'
    refine h h' _ (ok_sameBut k f.freeL hs') ?_ (extB_sameBut (.inl rfl) hs' (let ⟨o, _, _, ho, _⟩ := hn'; ⟨o, ho⟩))
    have hC : ∀ n c ov, env.cells.lookup n = some c → z.h.IsCell c ov → h'.IsCell c ov := fun n c ov h hc => hc.sameBut hs' (f.cel n c h).2.1
    refine ⟨f.kind, f.glob, f.bui, ⟨f.freeL.b, f.freeL.l⟩, hids, f.raw, fun j u e => ?_, ⟨_, hn', fun j u e hj => ?_⟩, fun n c e => ?_, f.apart, f.all, fun j u e hj => ?_⟩
    · rw [get_set] at e
      split at e
      · rename_i hji; rw [hji]; exact .inl hkk
      · exact f.kinds j u e
    · rw [get_set] at e
      split at e
      · rename_i hji; cases e; rw [hji]; exact ⟨x, by simp, hv⟩
      · rename_i hji
        obtain ⟨y, hy, hvy⟩ := hm j u e hj
        refine ⟨y, ?_, hvy⟩
        rw [if_neg (fun hh => hji (no.inj j i (f.ids j u e) hi hh))]; exact hy
    · obtain ⟨h1, h2, ov, hc⟩ := f.cel n c e
      exact ⟨⟨h1.b, h1.l⟩, h2, ov, hC n c ov e hc⟩
    · rw [get_set] at e
      split at e
      · rename_i hji; rw [hji, hkk] at hj; rcases hj with hj | hj <;> cases hj
      · obtain ⟨c, y, hc, hy, hvy⟩ := f.cellV j u e hj
        exact ⟨c, y, hc, hC _ c _ hc hy, hvy⟩
  · have hkk := (f.raw _ _ hk).1 (by decide)
    obtain ⟨c, hc⟩ := f.all _ (.inl hkk)
    obtain ⟨h1, h2, ov, hcell⟩ := f.cel _ c hc
    refine wpAny_storeName_cell f.kind hkk hc (hz ▸ hcell) fun h' hc' hs' => ?_
    rw [hz] at hs'
    refine h h' _ (ok_sameBut k h1 hs') ?_ (extB_sameBut (.inr ⟨_, hk, hc⟩) hs' (let ⟨o, ho, _⟩ := hc'; ⟨o, ho⟩))
    have hC : ∀ n c₁ ov, c₁ ≠ c → env.cells.lookup n = some c₁ → z.h.IsCell c₁ ov → h'.IsCell c₁ ov := fun n c₁ ov hne h hc => hc.sameBut hs' hne
    refine ⟨f.kind, f.glob, f.bui, ⟨f.freeL.b, f.freeL.l⟩, hids, f.raw, fun j u e => ?_, ?_, fun n c₁ e => ?_, f.apart, f.all, fun j u e hj => ?_⟩
    · rw [get_set] at e
      split at e
      · rename_i hji; rw [hji]; exact .inr (.inl hkk)
      · exact f.kinds j u e
    · obtain ⟨m, hn, hm⟩ := f.hasL
      refine ⟨m, hn.sameBut hs' (Ne.symm h2), fun j u e hj => ?_⟩
      rw [get_set] at e
      split at e
      · rename_i hji; rw [hji, hkk] at hj; cases hj
      · exact hm j u e hj
    · obtain ⟨g1, g2, ov₁, hc₁⟩ := f.cel n c₁ e
      refine ⟨⟨g1.b, g1.l⟩, g2, ?_⟩
      by_cases hne : c₁ = c
      · subst hne; exact ⟨_, hc'⟩
      · exact ⟨ov₁, hC n c₁ ov₁ hne e hc₁⟩
    · rw [get_set] at e
      split at e
      · rename_i hji; cases e; rw [hji]; exact ⟨c, x, hc, hc', hv⟩
      · rename_i hji
        obtain ⟨c₁, y, hc₁, hy, hvy⟩ := f.cellV j u e hj
        have hne : c₁ ≠ c := fun hh => hji (no.inj j i (f.ids j u e) hi (f.apart _ _ c (hh ▸ hc₁) hc))
        exact ⟨c₁, y, hc₁, hC _ c₁ _ hne hc₁ hy, hvy⟩
end
end Mine
end
section
namespace Mine
open PySem
noncomputable def RV (cx : Cx) (z : Z) (v : PV) (x : Value) : Prop := match v with
  | .none => x = .none
  | .bool b => x = .bool b
  | .int i => ∃ t, x = .int i t
  | .str l => ∃ (s : Str) (t : Tok), x = .str s t ∧ s.cps.toList = l
  | .list xs => ∃ (a : Addr) (n : Nat) (items : Array Value), x = .ref a ∧ z.h.get? a = some { cls := .type "list", dict := none, data := .seq items n, slots := #[] } ∧ VRs cx z xs items.toList
  | .tuple xs => ∃ (a : Addr) (n : Nat) (items : Array Value), x = .ref a ∧ z.h.get? a = some { cls := .type "tuple", dict := none, data := .seq items n, slots := #[] } ∧ VRs cx z xs items.toList
  | .dict es => ∃ (a : Addr) (o : Obj), x = .ref a ∧ z.h.get? a = some o ∧ DRel cx.prog cx.w es o ∧ (a == sysModules) = false
  | .rng lo n st => ∃ (a : Addr) (hi : Int) (t u v : Tok), x = .ref a ∧ z.h.get? a = some { cls := .type "range", dict := none, data := .fields #[.int lo t, .int hi u, .int st v], slots := #[] } ∧
      Builtin.Range.small lo hi st = true ∧ Builtin.Range.rangeSize lo hi st = (n : Int)
  | .ref n => ∃ a, x = .ref a ∧ z.σ[n]? = some a
section
variable {cx : Cx} {z : Z}
theorem VRel.rv (k : OkZ cx z) {v : PV} {x : Value} (h : VR cx z v x) : RV cx z v x := by
  cases h with
  | none => rfl
  | bool b => rfl
  | int i t => exact ⟨t, rfl⟩
  | str l s t h => exact ⟨s, t, rfl, h⟩
  | tuple ha ho hs => obtain ⟨n, rfl⟩ := ho; exact ⟨_, n, _, rfl, k.sub _ _ ha, hs⟩
  | list ha ho hs => obtain ⟨n, rfl⟩ := ho; exact ⟨_, n, _, rfl, k.sub _ _ ha, hs⟩
  | dict ha ho hs => exact ⟨_, _, rfl, k.sub _ _ ha, ho, hs⟩
  | rng ha h1 h2 => exact ⟨_, _, _, _, _, rfl, k.sub _ _ ha, h1, h2⟩
  | ref h => exact ⟨_, rfl, h⟩
theorem VRel.rd (k : OkZ cx z) {v : PV} {x : Value} (h : VR cx z v x) : RV cx z (rd z.st v) x := by
  cases v with
  | ref n =>
    have base := h.rv k
    obtain ⟨a, rfl, hσ⟩ := base
    show RV cx z (match z.st[n]? with
      | some p => match p with
        | .list xs => PV.list xs
        | .dict es => .dict es
        | _ => .ref n
      | Option.none => .ref n) (.ref a)
    cases hp : z.st[n]? with
    | none => exact ⟨a, rfl, hσ⟩
    | some p =>
      cases p with
      | list xs =>
        obtain ⟨a', ha, _, _, o, items, ho, ⟨m, rfl⟩, hv⟩ := k.obj n _ hp nofun
        cases Option.some.inj (hσ.symm.trans ha)
        exact ⟨_, m, items, rfl, ho, hv⟩
      | dict es =>
        obtain ⟨a', ha, _, _, o, ho, hd, hs⟩ := k.obj n _ hp nofun
        cases Option.some.inj (hσ.symm.trans ha)
        exact ⟨_, o, rfl, ho, hd, hs⟩
      | _ => exact ⟨a, rfl, hσ⟩
  | _ => exact h.rv k
structure ArOk (A : Around) (n : Nat) : Prop where
  hh : A.handled = none
  dep : A.depth + n < recursionLimit
  uni : A.units + 10 * n + 20 < cLine
noncomputable def Runs (cx : Cx) (A : Around) (t : Sem Value) (z : Z) (v : PV) (st' : Store) (s : Shared) : Prop :=
  ∀ (E : Value → Shared → Prop) (Q : Value → Shared → Prop), (∀ x z' tk, OkZ cx z' → Ext z z' → z'.st = st' → VR cx z' v x → Q x { s with heap := z'.h, toks := tk }) → wpAny (model cx.prog cx.w) A t Q E s
noncomputable def RunsT (cx : Cx) (A : Around) (t : Sem Bool) (z : Z) (b : Bool) (st' : Store) (s : Shared) : Prop :=
  ∀ (E : Value → Shared → Prop) (Q : Bool → Shared → Prop), (∀ z' tk, OkZ cx z' → Ext z z' → z'.st = st' → Q b { s with heap := z'.h, toks := tk }) → wpAny (model cx.prog cx.w) A t Q E s
noncomputable def RunsL (cx : Cx) (A : Around) (t : Sem (List Value)) (z : Z) (vs : List PV) (st' : Store) (s : Shared) : Prop :=
  ∀ (E : Value → Shared → Prop) (Q : List Value → Shared → Prop), (∀ xs z' tk, OkZ cx z' → Ext z z' → z'.st = st' → VRs cx z' vs xs → Q xs { s with heap := z'.h, toks := tk }) → wpAny (model cx.prog cx.w) A t Q E s
variable {A : Around} {s : Shared} {t : Sem Value}
theorem Runs.pure (k : OkZ cx z) (hz : s.heap = z.h) {v : PV} (h : ∀ (E : Value → Shared → Prop) (Q : Value → Shared → Prop), (∀ x tk, VR cx z v x → Q x { s with toks := tk }) → wpAny (model cx.prog cx.w) A t Q E s) :
    Runs cx A t z v z.st s := fun E Q hQ => h E Q fun x tk hv => by
  have := hQ x z tk k (.refl z) rfl hv
  rwa [← hz] at this
theorem Runs.push (k : OkZ cx z) (hz : s.heap = z.h) {v : PV} {o : Obj} (hal : o.isFreed = false)
    (hv : ∀ a, VR cx { z with B := addB z.B a o, h := s.heap.push o } v (.ref a) ∨ a ≠ s.heap.objs.size)
    (h : ∀ (E : Value → Shared → Prop) (Q : Value → Shared → Prop), (∀ tk, Q (.ref s.heap.objs.size) { s with heap := s.heap.push o, toks := tk }) → wpAny (model cx.prog cx.w) A t Q E s) :
    Runs cx A t z v z.st s := fun E Q hQ => h E Q fun tk => by
  have hn : z.h.get? s.heap.objs.size = none := by
    rw [hz]
    cases e : z.h.get? z.h.objs.size with
    | none => rfl
    | some o' => exact absurd (Heap.lt_size e) (Nat.lt_irrefl _)
  have hk : ∀ b x, z.h.get? b = some x → (s.heap.push o).get? b = some x := fun b x e => by rw [hz]; exact Heap.get?_push_of_some _ e
  refine hQ _ { z with B := addB z.B s.heap.objs.size o, h := s.heap.push o } tk (k.freeze hk hn (Heap.get?_push_size _ hal)) (k.freeze_ext hk hn) rfl ?_
  rcases hv s.heap.objs.size with h | h
  · exact h
  · exact absurd rfl h
theorem addB_self (B : Addr → Option Obj) (a : Addr) (o : Obj) : addB B a o a = some o := by simp [addB]
theorem VRs.grow (k : OkZ cx z) {a : Addr} {o : Obj} {h' : Heap} (hn : z.h.get? a = none) {vs : List PV} {xs : List Value} (hv : VRs cx z vs xs) : VRs cx { z with B := addB z.B a o, h := h' } vs xs :=
  hv.mono (fun _ _ e => e) fun b x e => by
    show addB z.B a o b = some x
    unfold Mine.addB
    rw [if_neg (fun hb => by have := k.sub _ _ e; rw [hb, hn] at this; cases this)]; exact e
end
end Mine
end
section
namespace Mine
open PySem
theorem bif_some {α : Type} {c : Bool} {a v : α} (h : (bif c then some a else none) = some v) : c = true ∧ a = v := bif_el h fun h1 h2 => ⟨h1, Option.some.inj h2⟩
theorem bif_some' {α : Type} {c : Bool} {a : Option α} {v : α} (h : (bif c then a else none) = some v) : c = true ∧ a = some v := bif_el h fun h1 h2 => ⟨h1, h2⟩
theorem bs {cx : Cx} {z : Z} {A : Around} {s : Shared} {t : Sem Value} {st : Store} {c : Bool} {a v : PV} (h : (bif c then some a else none) = some v) (k : c = true → Runs cx A t z a st s) : Runs cx A t z v st s := bif_el h fun h1 h2 => Option.some.inj h2 ▸ k h1
theorem si {cx : Cx} {z : Z} {A : Around} {s : Shared} {t : Sem Value} {st : Store} {a v : PV} (h : some a = some v) (k : Runs cx A t z a st s) : Runs cx A t z v st s := Option.some.inj h ▸ k
theorem dt {p : Prop} [Decidable p] (h : decide p = true) : p := of_decide_eq_true h
theorem lim_lt {n : Nat} {m : Nat} (h : n ≤ lim) (hm : lim < m := by decide) : n < m := Nat.lt_of_le_of_lt h hm
theorem lim_not {n : Nat} {m : Int} (h : n ≤ lim) (hm : (lim : Int) < m := by decide) : ¬ (n : Int) ≥ m := Int.not_le.mpr (Int.lt_of_le_of_lt (Int.ofNat_le.mpr h) hm)
theorem lim_le {n : Nat} (h : n ≤ lim) : n ≤ sizeLine := Nat.le_trans h (by decide)
theorem small_iff {i : Int} (h : small i = true) : -(2 ^ 62) < i ∧ i < 2 ^ 62 := by
  have h' : i.natAbs ≤ 4611686018427387903 := Nat.le_of_ble_eq_true h
  omega
theorem small_bits {i : Int} (h : small i = true) : Builtin.Int.intBits i ≤ 64 := have h := small_iff h; intBits_le_64 (by omega) (by omega)
theorem small_abs {i : Int} (h : small i = true) : i.natAbs < 2 ^ 64 := Nat.lt_of_le_of_lt (Nat.le_of_ble_eq_true h) (by decide)
theorem small_log {i : Int} (h : small i = true) : i.natAbs.log2 < 9000 := by
  have h2 : i.natAbs < 2 ^ 62 := Nat.lt_of_le_of_lt (Nat.le_of_ble_eq_true h) (by decide)
  by_cases h0 : i.natAbs = 0
  · rw [h0]; decide
  · exact Nat.lt_of_lt_of_le ((Nat.log2_lt h0).mpr h2) (by decide)
theorem foldl_arr (l : List (Array Nat)) : ∀ acc : Array Nat, (List.foldl (fun a b => a ++ b) acc l).toList = acc.toList ++ (l.map (·.toList)).flatten := by
  induction l with
  | nil => intro acc; simp
  | cons x r ih => intro acc; rw [List.foldl_cons, ih]; simp [List.append_assoc]
theorem str_len (s : Str) : s.length = s.cps.toList.length := by cases s; simp [Str.length]
section
variable {cx : Cx} {z : Z} {A : Around} {s : Shared}
theorem truthy_sound {v : PV} {x : Value} {b : Bool} (h : truthyV v = some b) (hv : RV cx z v x) {E : Value → Shared → Prop} {Q : Bool → Shared → Prop} (hQ : ∀ tk, Q b { s with toks := tk }) :
    wpAny (model cx.prog cx.w) A (truthy x) Q E s := by
  have hQ' : Q b s := hQ s.toks
  cases v with
  | bool c => cases Option.some.inj h; cases (hv : x = .bool b); exact wpAny_truthy_bool hQ'
  | int i => obtain ⟨t, rfl⟩ := hv; exact P.truthy_int (Option.some.inj h ▸ hQ')
  | none => cases Option.some.inj h; cases (hv : x = .none); exact PyProof.Rows.truthy_none hQ'
  | str l =>
    obtain ⟨h1, rfl⟩ := bif_some h
    obtain ⟨y, t, rfl, rfl⟩ := hv
    have hlen := str_len y
    refine P.truthy_str (by rw [hlen]; exact lim_not (dt h1)) ?_
    have e : (((y.length : Nat) : Int) != 0) = !y.cps.toList.isEmpty := by
      rw [hlen]
      cases y.cps.toList with
      | nil => rfl
      | cons c r => exact bne_iff_ne.mpr fun h => Nat.succ_ne_zero _ (Int.ofNat.inj h)
    rw [e]; exact hQ _
  | _ => exact nn h
theorem Runs.val {t : Sem Value} (k : OkZ cx z) (hz : s.heap = z.h) {v : PV} {x : Value} (hv : VR cx z v x)
    (h : ∀ (E : Value → Shared → Prop) (Q : Value → Shared → Prop), (∀ tk, Q x { s with toks := tk }) → wpAny (model cx.prog cx.w) A t Q E s) : Runs cx A t z v z.st s :=
  .pure k hz fun E Q hQ => h E Q fun tk => hQ x tk hv
theorem Runs.int {t : Sem Value} (k : OkZ cx z) (hz : s.heap = z.h) {i : Int}
    (h : ∀ (E : Value → Shared → Prop) (Q : Value → Shared → Prop), (∀ u tk, Q (.int i u) { s with toks := tk }) → wpAny (model cx.prog cx.w) A t Q E s) : Runs cx A t z (.int i) z.st s :=
  .pure k hz fun E Q hQ => h E Q fun u tk => hQ _ tk (.int i u)
theorem Runs.str {t : Sem Value} (k : OkZ cx z) (hz : s.heap = z.h) {y : Str} {l : List Nat} (hl : y.cps.toList = l)
    (h : ∀ (E : Value → Shared → Prop) (Q : Value → Shared → Prop), (∀ u tk, Q (.str y u) { s with toks := tk }) → wpAny (model cx.prog cx.w) A t Q E s) : Runs cx A t z (.str l) z.st s :=
  .pure k hz fun E Q hQ => h E Q fun u tk => hQ _ tk (.str l y u hl)
theorem none_at_size (hz : s.heap = z.h) : z.h.get? s.heap.objs.size = none := by
  rw [hz]
  cases e : z.h.get? z.h.objs.size with
  | none => rfl
  | some o' => exact absurd (Heap.lt_size e) (Nat.lt_irrefl _)
theorem Runs.newList {t : Sem Value} (k : OkZ cx z) (hz : s.heap = z.h) {xs : List PV} {items : Array Value} {n : Nat} (hv : VRs cx z xs items.toList)
    (h : ∀ (E : Value → Shared → Prop) (Q : Value → Shared → Prop), (∀ tk, Q (.ref s.heap.objs.size) { s with heap := s.heap.push { cls := .type "list", data := .seq items n }, toks := tk }) → wpAny (model cx.prog cx.w) A t Q E s) :
    Runs cx A t z (.list xs) z.st s :=
  Runs.push k hz rfl (fun a => by
    by_cases ha : a = s.heap.objs.size
    · subst ha
      exact .inl (.list (addB_self _ _ _) ⟨n, rfl⟩ (VRs.grow k (none_at_size hz) hv))
    · exact .inr ha) h
theorem mul_str_sound {l : List Nat} {j : Int} {x y : Value} (h0 : 0 ≤ j) (hm : j ≤ 1000) (h1 : l.length * j.toNat ≤ lim) (k : OkZ cx z) (hz : s.heap = z.h) (ha : RV cx z (.str l) x) (hb : RV cx z (.int j) y) :
    Runs cx A (binaryOp .Mult x y) z (.str (List.replicate j.toNat l).flatten) z.st s := by
  obtain ⟨s1, t, rfl, rfl⟩ := ha; obtain ⟨u, rfl⟩ := hb
  have hlen := str_len s1
  have hr : (decide (j < -2 ^ 63) || decide (j ≥ 2 ^ 63)) = false := Bool.or_eq_false_iff.mpr ⟨decide_eq_false (by omega), decide_eq_false (by omega)⟩
  by_cases hj : j < 1
  · obtain rfl : j = 0 := Int.le_antisymm (Int.lt_add_one_iff.mp hj) h0
    refine .str (y := Str.empty) k hz rfl fun E Q hQ => P.mul_str (by decide) (fun h => absurd (by decide) h) (fun h => absurd (by decide) h) ?_
    rw [if_pos (by decide)]; exact ⟨by decide, hQ _ _⟩
  · have hj1 : 1 ≤ j := Int.not_lt.mp hj
    by_cases hs : (j == 1 || s1.length == 0) = true
    · refine .pure k hz fun E Q hQ => P.mul_str hr (fun _ h => ff (h.symm.trans hs)) (fun _ h => ff (h.symm.trans hs)) ?_
      rw [if_neg hj, if_pos hs]
      · refine hQ _ _ (.str _ s1 t ?_)
        rcases Bool.or_eq_true_iff.mp hs with hs | hs
        · obtain rfl : j = 1 := beq_iff_eq.mp hs
          exact (List.append_nil _).symm
        · have : s1.cps.toList = [] := List.length_eq_zero_iff.mp (hlen ▸ beq_iff_eq.mp hs)
          rw [this, List.flatten_replicate_nil]
    · refine .str (y := ⟨List.foldl (fun a b => a ++ b) #[] (List.replicate j.toNat s1.cps)⟩) k hz ?_ fun E Q hQ => P.mul_str hr (fun _ _ => ?_) (fun _ _ => ?_) ?_
      · show (List.foldl (fun a b => a ++ b) #[] (List.replicate j.toNat s1.cps)).toList = _
        rw [foldl_arr, List.map_replicate]; rfl
      · have hle : s1.cps.toList.length ≤ lim := Nat.le_trans (Nat.le_mul_of_pos_right _ (by omega)) h1
        have h100 : (100000 : Int) ≤ (2 ^ 63 - 1) / j := by
          apply Int.le_ediv_of_mul_le (by omega)
          have : (100000 : Int) * j ≤ 100000 * 1000 := Int.mul_le_mul_of_nonneg_left hm (by decide)
          omega
        rw [hlen]
        exact Int.not_lt.mpr (Int.le_trans (Int.ofNat_le.mpr hle) h100)
      · rw [hlen]
        exact decide_eq_false (Nat.not_lt.mpr (lim_le h1))
      · rw [if_neg hj, if_neg hs]
        refine ⟨?_, hQ _ _⟩
        rw [str_len]
        show (List.foldl (fun a b => a ++ b) #[] (List.replicate j.toNat s1.cps)).toList.length ≤ _
        rw [foldl_arr, List.map_replicate]
        show ((List.replicate j.toNat s1.cps.toList).flatten).length ≤ _
        rw [List.length_flatten, List.map_replicate, List.sum_replicate_nat, Nat.mul_comm]
        exact lim_le h1
theorem add_list_sound {xs ys : List PV} {x y : Value} (h1 : xs.length + ys.length ≤ lim) (k : OkZ cx z) (hz : s.heap = z.h) (ha : RV cx z (.list xs) x) (hb : RV cx z (.list ys) y) :
    Runs cx A (binaryOp .Add x y) z (.list (xs ++ ys)) z.st s := by
  obtain ⟨l1, n1, i1, rfl, e1, v1⟩ := ha
  obtain ⟨l2, n2, i2, rfl, e2, v2⟩ := hb
  have g1 := v1.length
  have g2 := v2.length
  refine Runs.newList (items := i1 ++ i2) (n := 0) k hz (by rw [Array.toList_append]; exact v1.append v2) fun E Q hQ => ?_
  rw [← hz] at e1 e2
  refine concat_meets ⟨_, e1, rfl⟩ ⟨_, e2, rfl⟩ noFill_list_add seq_list_add PySem.F.slot_list_add PySem.F.entry_list_add (PySem.F.args_list_add_2 _ _) (PyProof.Rows.list_addW l1 l2 i1 i2 n1 n2 none none #[] #[] ?_) ⟨e1, e2, hQ _⟩
  rw [g1, g2] at h1
  exact lim_le h1
theorem bin_ints {op : Operator} {i j : Int} {v : PV} {x y : Value} (h : pbin op (.int i) (.int j) = some v) (k : OkZ cx z) (hz : s.heap = z.h) (ha : RV cx z (.int i) x) (hb : RV cx z (.int j) y) :
    Runs cx A (binaryOp op x y) z v z.st s := by
  obtain ⟨t, rfl⟩ := ha; obtain ⟨u, rfl⟩ := hb
  cases op with
  | Add => exact si h (.int k hz fun E Q hQ => P.add_int (hQ _ _))
  | Sub => exact si h (.int k hz fun E Q hQ => P.sub_int (hQ _ _))
  | Mult => exact bs h fun h1 => an h1 fun h1 _ => .int k hz fun E Q hQ => P.mul_int (hQ _ _) (IntMulOk.of_left (small_bits h1))
  | FloorDiv => exact bs h fun h1 => an h1 fun h1 h3 => an h1 fun h1 h2 => .int k hz fun E Q hQ => PyProof.Rows.floordiv_int (Int.ne_of_gt (dt h2)) (Int.fdiv_eq_ediv_of_nonneg i (Int.le_of_lt (dt h2)) ▸ hQ _ _) (.inl (PyProof.noPylong_of_log2 (small_log h3)))
  | Mod => exact bs h fun h1 => .int k hz fun E Q hQ => PyProof.Rows.mod_int' (Int.ne_of_gt (dt h1)) (Int.fmod_eq_emod_of_nonneg i (Int.le_of_lt (dt h1)) ▸ hQ _ _)
  | BitAnd => exact si h (.int k hz fun E Q hQ => PyProof.Rows.and_int (hQ _ _))
  | BitOr => exact si h (.int k hz fun E Q hQ => PyProof.Rows.or_int (hQ _ _))
  | LShift => exact bs h fun h1 => an h1 fun h1 h3 => an h1 fun h1 h2 => .int k hz fun E Q hQ => PyProof.Rows.lshift_int_small (dt h2) (by have := dt h3; omega) (small_abs h1) (hQ _ _)
  | Pow => exact bs h fun h1 => an h1 fun h1 h4 => an h1 fun h1 h3 => an h1 fun h1 h2 => .int k hz fun E Q hQ => PyProof.Rows.pow_int_small (dt h3) (by have := dt h4; omega) (by have := dt h1; have := dt h2; omega) (hQ _ _)
  | _ => exact nn h
theorem bin_sound {op : Operator} {a b v : PV} {x y : Value} (h : pbin op a b = some v) (k : OkZ cx z) (hz : s.heap = z.h) (ha : RV cx z a x) (hb : RV cx z b y) :
    Runs cx A (binaryOp op x y) z v z.st s := by
  cases a with
  | int i => cases b with
    | int j => exact bin_ints h k hz ha hb
    | bool c => cases op with
      | Mult =>
        obtain ⟨t, rfl⟩ := ha
        cases (hb : y = .bool c)
        refine bs h fun h1 => .int k hz fun E Q hQ => PySem.IntBool.mul_int_bool ?_
        have e : (i * if c = true then (1 : Int) else 0) = bif c then i else 0 := by
          cases c with
          | true => exact Int.mul_one i
          | false => exact Int.mul_zero i
        rw [e]; exact hQ _ _
      | _ => exact nn h
    | _ => exact nn h
  | str l => cases b with
    | str m => cases op with
      | Add =>
        obtain ⟨s1, t, rfl, rfl⟩ := ha; obtain ⟨s2, u, rfl, rfl⟩ := hb
        refine bs h fun h1 => .str (y := s1 ++ s2) k hz (Array.toList_append ..) fun E Q hQ => PyProof.Rows.add_str (fun t' tk => hQ _ _) ?_
        rw [str_len, str_len]; exact lim_le (dt h1)
      | _ => exact nn h
    | int j => cases op with
      | Mult => exact bs h fun h1 => an h1 fun h1 h3 => an h1 fun h1 h2 => mul_str_sound (dt h1) (dt h2) (dt h3) k hz ha hb
      | _ => exact nn h
    | _ => exact nn h
  | list xs => cases b with
    | list ys => cases op with
      | Add => exact bs h fun h1 => add_list_sound (dt h1) k hz ha hb
      | _ => exact nn h
    | _ => exact nn h
  | _ => exact nn h
end
end Mine
end
section
namespace Mine
open PySem
section
variable {cx : Cx} {z : Z} {A : Around} {s : Shared}
theorem aug_sound {op : Operator} {a b v : PV} {x y : Value} (h : paug op a b = some v) (k : OkZ cx z) (hz : s.heap = z.h) (ha : RV cx z a x) (hb : RV cx z b y) :
    Runs cx A (inplaceOp op x y) z v z.st s := by
  cases a with
  | int i => cases b with
    | int j =>
      obtain ⟨t, rfl⟩ := ha; obtain ⟨u, rfl⟩ := hb
      cases op with
      | Add => exact si h (.int k hz fun E Q hQ => P.iadd_int (hQ _ _))
      | Sub => exact si h (.int k hz fun E Q hQ => P.isub_int (hQ _ _))
      | FloorDiv => exact bs h fun h1 => an h1 fun h1 h3 => an h1 fun h1 h2 => .int k hz fun E Q hQ => PyProof.Rows.ifloordiv_int (Int.ne_of_gt (dt h2)) (Int.fdiv_eq_ediv_of_nonneg i (Int.le_of_lt (dt h2)) ▸ hQ _ _) (.inl (PyProof.noPylong_of_log2 (small_log h3)))
      | BitOr => exact si h (.int k hz fun E Q hQ => PyProof.Rows.ior_int (hQ _ _))
      | LShift => exact bs h fun h1 => an h1 fun h1 h3 => an h1 fun h1 h2 => .int k hz fun E Q hQ => PyProof.Rows.ilshift_int_small (dt h2) (by have := dt h3; omega) (small_abs h1) (hQ _ _)
      | _ => exact nn h
    | _ => exact nn h
  | _ => exact nn h
theorem eqs_el {f : PV → PV → Option Bool} {x y : PV} {xs ys : List PV} {r : Bool} {P : Prop} (h : eqs f (x :: xs) (y :: ys) = some r) (k : ∀ p q, f x y = some p → eqs f xs ys = some q → (p && q) = r → P) : P := by
  have h : (match f x y with
    | some a => match eqs f xs ys with
      | some b => some (a && b)
      | none => none
    | none => none) = some r := h
  cases hp : f x y with
  | none => rw [hp] at h; exact nn h
  | some p => cases hq : eqs f xs ys with
    | none => rw [hp, hq] at h; exact nn h
    | some q => rw [hp, hq] at h; exact k p q hp hq (Option.some.inj h)
theorem eqs_sound {f : PV → PV → Option Bool} {A : Around} {s : Shared} (hf : ∀ x y r a b, f x y = some r → VR cx z x a → VR cx z y b → SeqAt.EqAt A s a b r) {xs : List PV} :
    ∀ {ys : List PV} {vs us : List Value} {r : Bool}, eqs f xs ys = some r → VRs cx z xs vs → VRs cx z ys us →
      vs.length = us.length ∧ ∃ e : Nat → Bool, (∀ (j : Nat) a b, vs[j]? = some a → us[j]? = some b → SeqAt.EqAt A s a b (e j)) ∧ (List.range vs.length).all e = r := by
  induction xs with
  | nil =>
    intro ys vs us r h h1 h2
    cases ys with
    | nil => exact VRels.nil_el (C := fun vs => vs.length = us.length ∧ ∃ e : Nat → Bool, (∀ (j : Nat) a b, vs[j]? = some a → us[j]? = some b → SeqAt.EqAt A s a b (e j)) ∧ (List.range vs.length).all e = r) h1 ⟨(VRels.length h2), fun _ => true, fun j a b h => nn h, Option.some.inj h⟩
    | cons => exact nn h
  | cons x xs ih =>
    intro ys vs us r h h1 h2
    cases ys with
    | nil => exact nn h
    | cons y ys =>
      refine h1.cons_el (C := fun vs => vs.length = us.length ∧ ∃ e : Nat → Bool, (∀ (j : Nat) a b, vs[j]? = some a → us[j]? = some b → SeqAt.EqAt A s a b (e j)) ∧ (List.range vs.length).all e = r) fun a vs ha hs => ?_
      refine h2.cons_el (C := fun us => (a :: vs).length = us.length ∧ ∃ e : Nat → Bool, (∀ (j : Nat) a' b, (a :: vs)[j]? = some a' → us[j]? = some b → SeqAt.EqAt A s a' b (e j)) ∧ (List.range (a :: vs).length).all e = r) fun b us hb ht => ?_
      refine eqs_el h fun p q hp hq h => ?_
      obtain ⟨hl, e, he, hr⟩ := ih hq hs ht
      refine ⟨congrArg (· + 1) hl, fun j => match j with | 0 => p | j + 1 => e j, fun j a' b' h1 h2 => ?_, ?_⟩
      · cases j with
        | zero => exact Option.some.inj h1 ▸ Option.some.inj h2 ▸ hf _ _ _ _ _ hp ha hb
        | succ j => exact he j a' b' h1 h2
      · rw [List.length_cons, List.range_succ_eq_map, List.all_cons, List.all_map, ← h, ← hr]; rfl
theorem str_beq (a b : Str) : (a == b) = (a.cps.toList == b.cps.toList) := by
  rw [Bool.eq_iff_iff, beq_iff_eq, beq_iff_eq]
  exact ⟨fun h => congrArg (fun s : Str => s.cps.toList) h, fun h => by cases a; cases b; exact congrArg Str.mk (Array.toList_inj.mp h)⟩
theorem eqF_el {x y : PV} {r : Bool} {a b : Value} {C : PV → PV → Bool → Value → Value → Prop} (h : eqF x y = some r) (ha : RV cx z x a) (hb : RV cx z y b) (kn : C .none .none true .none .none) (kb : ∀ p q, C (.bool p) (.bool q) (p == q) (.bool p) (.bool q))
    (ki : ∀ i j t u, C (.int i) (.int j) (i == j) (.int i t) (.int j u)) (ks : ∀ (s1 s2 : Str) t u, C (.str s1.cps.toList) (.str s2.cps.toList) (s1 == s2) (.str s1 t) (.str s2 u)) : C x y r a b := by
  cases x with
  | none => cases y with
    | none => cases Option.some.inj h; cases (ha : a = .none); cases (hb : b = .none); exact kn
    | _ => exact nn h
  | bool p => cases y with
    | bool q => cases Option.some.inj h; cases (ha : a = .bool p); cases (hb : b = .bool q); exact kb p q
    | _ => exact nn h
  | int i => cases y with
    | int j => cases Option.some.inj h; obtain ⟨t, rfl⟩ := ha; obtain ⟨u, rfl⟩ := hb; exact ki i j t u
    | _ => exact nn h
  | str l => cases y with
    | str m => cases Option.some.inj h; obtain ⟨s1, t, rfl, rfl⟩ := ha; obtain ⟨s2, u, rfl, rfl⟩ := hb; rw [← str_beq]; exact ks s1 s2 t u
    | _ => exact nn h
  | _ => exact nn h
theorem eqF_sound {x y : PV} {r : Bool} {a b : Value} {A : Around} {s : Shared} (h : eqF x y = some r) (ha : RV cx z x a) (hb : RV cx z y b) : SeqAt.EqAt A s a b r :=
  eqF_el (C := fun _ _ r a b => SeqAt.EqAt A s a b r) h ha hb (SeqAt.EqAt.same _) SeqAt.EqAt.bool_bool (fun i j t u => SeqAt.EqAt.int_int i t j u) (fun i j t u => SeqAt.EqAt.str_str i t j u)
theorem tup_at (hz : s.heap = z.h) {l : Addr} {n : Nat} {items : Array Value} (h : z.h.get? l = some { cls := .type "tuple", dict := none, data := .seq items n, slots := #[] }) : s.heap.IsTuple l items :=
  ⟨_, by rw [hz]; exact h, rfl, n, rfl⟩
theorem lst_at (hz : s.heap = z.h) {l : Addr} {n : Nat} {items : Array Value} (h : z.h.get? l = some { cls := .type "list", dict := none, data := .seq items n, slots := #[] }) : s.heap.IsList l items :=
  ⟨_, by rw [hz]; exact h, rfl, n, rfl⟩
theorem arr_pairs {is js : Array Value} {e : Nat → Bool} {A : Around} {s : Shared} (he : ∀ (j : Nat) a b, is.toList[j]? = some a → js.toList[j]? = some b → SeqAt.EqAt A s a b (e j)) :
    ∀ j (h1 : j < is.size) (h2 : j < js.size), SeqAt.EqAt A s is[j] js[j] (e j) := fun j h1 h2 => he j _ _ (by simp [h1]) (by simp [h2])
theorem eqF_same (k : OkZ cx z) {x y : PV} {r : Bool} {a : Value} (h : eqF x y = some r) (ha : VR cx z x a) (hb : VR cx z y a) : r = true :=
  eqF_el (C := fun _ _ r a b => a = b → r = true) h (ha.rv k) (hb.rv k) (fun _ => rfl) (fun p q e => beq_iff_eq.mpr (Value.bool.inj e)) (fun i j t u e => beq_iff_eq.mpr (Value.int.inj e).1) (fun s1 s2 t u e => beq_iff_eq.mpr (Value.str.inj e).1) rfl
theorem eqs_same {f : PV → PV → Option Bool} (hf : ∀ x y r a, f x y = some r → VR cx z x a → VR cx z y a → r = true) {xs : List PV} :
    ∀ {ys : List PV} {vs : List Value} {r : Bool}, eqs f xs ys = some r → VRs cx z xs vs → VRs cx z ys vs → r = true := by
  induction xs with
  | nil =>
    intro ys vs r h _ _
    cases ys with
    | nil => exact (Option.some.inj h).symm
    | cons => exact nn h
  | cons x xs ih =>
    intro ys vs r h h1 h2
    cases ys with
    | nil => exact nn h
    | cons y ys =>
      refine h1.cons_el (C := fun vs => VRs cx z (y :: ys) vs → r = true) (fun a us ha hs h2 => ?_) h2
      cases h2 with
      | cons hb ht =>
        refine eqs_el h fun p q hp hq h => ?_
        rw [hf _ _ _ _ hp ha hb, ih hq hs ht] at h
        exact h.symm
theorem tup_pair {xs ys : List PV} {r : Bool} {l1 l2 : Addr} {n1 n2 : Nat} {i1 i2 : Array Value} {A : Around} {s : Shared} {f : PV → PV → Option Bool} (hf : ∀ x y r a b, f x y = some r → VR cx z x a → VR cx z y b → SeqAt.EqAt A s a b r) (h : eqs f xs ys = some r)
    (v1 : VRs cx z xs i1.toList) (v2 : VRs cx z ys i2.toList) : i1.size = i2.size ∧ ∃ e : Nat → Bool, (∀ j (h1 : j < i1.size) (h2 : j < i2.size), SeqAt.EqAt A s i1[j] i2[j] (e j)) ∧ (List.range i1.size).all e = r ∧ ((List.range (min i1.size i2.size)).all e && i1.size == i2.size) = r := by
  obtain ⟨hl, e, he, hr⟩ := eqs_sound hf h v1 v2
  have hsz : i1.size = i2.size := hl
  refine ⟨hsz, e, arr_pairs he, hr, ?_⟩
  rw [← hsz, Nat.min_self, beq_self_eq_true, Bool.and_true]; exact hr
theorem eq1_sound {x y : PV} {r : Bool} {a b : Value} {A : Around} {s : Shared} (k : OkZ cx z) (hz : s.heap = z.h) (hu : A.units < cLine)
    (h : eq1 x y = some r) (ha : VR cx z x a) (hb : VR cx z y b) : SeqAt.EqAt A s a b r := by
  have rest : eqF x y = some r → SeqAt.EqAt A s a b r := fun h => eqF_sound h (ha.rv k) (hb.rv k)
  cases x with
  | tuple xs => cases y with
    | tuple ys =>
      obtain ⟨l1, n1, i1, rfl, e1, v1⟩ := ha.rv k
      obtain ⟨l2, n2, i2, rfl, e2, v2⟩ := hb.rv k
      obtain ⟨hsz, e, he, _, hrr⟩ := tup_pair (l1 := l1) (l2 := l2) (n1 := n1) (n2 := n2) (A := A.in1) (s := s) (fun x y r a b h ha hb => eqF_sound h (ha.rv k) (hb.rv k)) h v1 v2
      by_cases hne : l1 = l2
      · subst hne
        cases Option.some.inj (e1.symm.trans e2)
        cases eqs_same (fun x y r a h ha hb => eqF_same k h ha hb) h v1 v2
        exact SeqAt.EqAt.same _
      · exact SeqAt.EqAt.of_refs hne (hrr ▸ SeqAt.RcAt.tuples (tup_at hz e1) (tup_at hz e2) hu he)
    | _ => exact nn h
  | _ => exact rest h
theorem eqv_sound {x y : PV} {r : Bool} {a b : Value} {E : Value → Shared → Prop} {Q : Value → Shared → Prop} (k : OkZ cx z) (hz : s.heap = z.h) (hu : A.units + 2 < cLine)
    (h : PV.eqv x y = some r) (ha : RV cx z x a) (hb : RV cx z y b) (hQ : ∀ tk, Q (.bool r) { s with toks := tk }) : wpAny (model cx.prog cx.w) A (compareOp .Eq a b) Q E s := by
  have h1 : A.units < cLine := Nat.lt_of_le_of_lt (Nat.le_add_right _ 2) hu
  have hf : ∀ x y r a b, eq1 x y = some r → VR cx z x a → VR cx z y b → SeqAt.EqAt A.in1 s a b r := fun x y r a b h ha hb => eq1_sound k hz (Nat.lt_of_le_of_lt (Nat.le_succ _) hu) h ha hb
  have rest : eqF x y = some r → wpAny (model cx.prog cx.w) A (compareOp .Eq a b) Q E s := fun h =>
    eqF_el (C := fun _ _ r a b => (∀ tk, Q (.bool r) { s with toks := tk }) → wpAny (model cx.prog cx.w) A (compareOp .Eq a b) Q E s) h ha hb (fun hQ => PySem.EqNone.eq_none_none (hQ s.toks)) (fun _ _ hQ => PyProof.Rows.eq_bool (hQ s.toks)) (fun _ _ _ _ hQ => P.eq_int (hQ s.toks)) (fun _ _ _ _ hQ => PyProof.Rows.eq_str (hQ s.toks)) hQ
  cases x with
  | tuple xs => cases y with
    | tuple ys =>
      obtain ⟨l1, n1, i1, rfl, e1, v1⟩ := ha
      obtain ⟨l2, n2, i2, rfl, e2, v2⟩ := hb
      obtain ⟨hsz, e, he, _, hrr⟩ := tup_pair (l1 := l1) (l2 := l2) (n1 := n1) (n2 := n2) hf h v1 v2
      exact SeqAt.eq_tupleAt (e := e) (tup_at hz e1) (tup_at hz e2) h1 he (hrr ▸ hQ s.toks)
    | _ => exact rest h
  | list xs => cases y with
    | list ys =>
      obtain ⟨l1, n1, i1, rfl, e1, v1⟩ := ha
      obtain ⟨l2, n2, i2, rfl, e2, v2⟩ := hb
      have h : (bif xs.length == ys.length then eqs eq1 xs ys else some false) = some r := h
      rw [v1.length, v2.length] at h
      cases hlen : (i1.size == i2.size) with
      | false =>
        cases Option.some.inj ((congrArg (fun c => bif c then eqs eq1 xs ys else some false) hlen).symm.trans h)
        exact SeqAt.eq_list_lengthsAt (lst_at hz e1) (lst_at hz e2) (congrArg (!·) hlen) h1 (hQ s.toks)
      | true =>
        obtain ⟨hsz, e, he, hr, _⟩ := tup_pair (l1 := l1) (l2 := l2) (n1 := n1) (n2 := n2) hf ((congrArg (fun c => bif c then eqs eq1 xs ys else some false) hlen).symm.trans h) v1 v2
        exact SeqAt.eq_listAt (e := e) (lst_at hz e1) (lst_at hz e2) hsz h1 he (hr ▸ hQ s.toks)
    | _ => exact rest h
  | _ => exact rest h
theorem nev_sound {x y : PV} {r : Bool} {a b : Value} {E : Value → Shared → Prop} {Q : Value → Shared → Prop} (k : OkZ cx z) (hz : s.heap = z.h) (hu : A.units + 2 < cLine)
    (h : PV.eqv x y = some r) (ha : RV cx z x a) (hb : RV cx z y b) (hQ : ∀ tk, Q (.bool !r) { s with toks := tk }) : wpAny (model cx.prog cx.w) A (compareOp .NotEq a b) Q E s := by
  have h1 : A.units < cLine := Nat.lt_of_le_of_lt (Nat.le_add_right _ 2) hu
  have hf : ∀ x y r a b, eq1 x y = some r → VR cx z x a → VR cx z y b → SeqAt.EqAt A.in1 s a b r := fun x y r a b h ha hb => eq1_sound k hz (Nat.lt_of_le_of_lt (Nat.le_succ _) hu) h ha hb
  have rest : eqF x y = some r → wpAny (model cx.prog cx.w) A (compareOp .NotEq a b) Q E s := fun h =>
    eqF_el (C := fun _ _ r a b => (∀ tk, Q (.bool !r) { s with toks := tk }) → wpAny (model cx.prog cx.w) A (compareOp .NotEq a b) Q E s) h ha hb (fun hQ => SeqAt.RcNeAt.none_none cx.prog cx.w E Q (hQ s.toks)) (fun _ _ hQ => SeqAt.RcNeAt.bool_bool _ _ cx.prog cx.w E Q (hQ s.toks)) (fun _ _ _ _ hQ => P.ne_int (hQ s.toks)) (fun _ _ _ _ hQ => PyProof.Rows.ne_str (hQ s.toks)) hQ
  cases x with
  | tuple xs => cases y with
    | tuple ys =>
      obtain ⟨l1, n1, i1, rfl, e1, v1⟩ := ha
      obtain ⟨l2, n2, i2, rfl, e2, v2⟩ := hb
      obtain ⟨hsz, e, he, _, hrr⟩ := tup_pair (l1 := l1) (l2 := l2) (n1 := n1) (n2 := n2) hf h v1 v2
      exact SeqAt.RcNeAt.tuples (e := e) (tup_at hz e1) (tup_at hz e2) h1 he cx.prog cx.w E Q (hrr ▸ hQ s.toks)
    | _ => exact rest h
  | list xs => cases y with
    | list ys =>
      obtain ⟨l1, n1, i1, rfl, e1, v1⟩ := ha
      obtain ⟨l2, n2, i2, rfl, e2, v2⟩ := hb
      have h : (bif xs.length == ys.length then eqs eq1 xs ys else some false) = some r := h
      rw [v1.length, v2.length] at h
      cases hlen : (i1.size == i2.size) with
      | false =>
        cases Option.some.inj ((congrArg (fun c => bif c then eqs eq1 xs ys else some false) hlen).symm.trans h)
        exact SeqAt.RcNeAt.lists_lengths (lst_at hz e1) (lst_at hz e2) (congrArg (!·) hlen) h1 cx.prog cx.w E Q (hQ s.toks)
      | true =>
        obtain ⟨hsz, e, he, hr, _⟩ := tup_pair (l1 := l1) (l2 := l2) (n1 := n1) (n2 := n2) hf ((congrArg (fun c => bif c then eqs eq1 xs ys else some false) hlen).symm.trans h) v1 v2
        exact SeqAt.RcNeAt.lists (e := e) (lst_at hz e1) (lst_at hz e2) hsz h1 he cx.prog cx.w E Q (hr ▸ hQ s.toks)
    | _ => exact rest h
  | _ => exact rest h
theorem hasInt_sound {i : Int} {t : Tok} {xs : List PV} : ∀ {vs : List Value} {r : Bool}, hasInt i xs = some r → VRs cx z xs vs →
    ∃ e : Value → Bool, (∀ v ∈ vs, ∃ j u, v = .int j u ∧ e v = (j == i)) ∧ vs.any e = r := by
  intro vs r h hv
  have key : ∀ {vs : List Value} {r : Bool}, hasInt i xs = some r → VRs cx z xs vs → (∀ v ∈ vs, ∃ j u, v = .int j u) ∧ vs.any (fun v => match v with | .int j _ => j == i | _ => false) = r := by
    clear h hv vs r
    induction xs with
    | nil => exact fun {vs r} h hv => hv.nil_el (C := fun vs => (∀ v ∈ vs, ∃ j u, v = .int j u) ∧ vs.any (fun v => match v with | .int j _ => j == i | _ => false) = r) ⟨fun v hm => absurd hm List.not_mem_nil, Option.some.inj h⟩
    | cons x xs ih =>
      intro vs r h hv
      refine hv.cons_el (C := fun vs => (∀ v ∈ vs, ∃ j u, v = .int j u) ∧ vs.any (fun v => match v with | .int j _ => j == i | _ => false) = r) fun a us ha hs => ?_
      cases x with
      | int j =>
        cases ha with
        | int _ u =>
          obtain ⟨q, hq, rfl⟩ := Option.map_eq_some_iff.mp h
          obtain ⟨g1, g2⟩ := ih hq hs
          exact ⟨fun v hm => (List.mem_cons.mp hm).elim (fun e => ⟨j, u, e⟩) (g1 v), by rw [List.any_cons, g2]; exact congrArg (· || q) Bool.beq_comm⟩
      | _ => exact nn h
  obtain ⟨g1, g2⟩ := key h hv
  exact ⟨_, fun v hm => (g1 v hm).elim fun j e => e.elim fun u e => ⟨j, u, e, by rw [e]⟩, g2⟩
theorem ints_cmp {op : CmpOp} {g : Int → Int → Bool} {a b : PV} {r : Bool} {x y : Value} {E : Value → Shared → Prop} {Q : Value → Shared → Prop} (h : (match a with
      | .int x => match b with
        | .int y => some (g x y)
        | _ => none
      | _ => none) = some r) (ha : RV cx z a x) (hb : RV cx z b y) (k : ∀ i j t u, Q (.bool (g i j)) s → wpAny (model cx.prog cx.w) A (compareOp op (.int i t) (.int j u)) Q E s) (hQ : Q (.bool r) s) : wpAny (model cx.prog cx.w) A (compareOp op x y) Q E s := by
  cases a with
  | int i => cases b with
    | int j => obtain ⟨t, rfl⟩ := ha; obtain ⟨u, rfl⟩ := hb; exact k i j t u (Option.some.inj h ▸ hQ)
    | _ => exact nn h
  | _ => exact nn h
theorem cmp_sound {op : CmpOp} {a b : PV} {r : Bool} {x y : Value} (h : pcmp op a b = some r) (k : OkZ cx z) (hz : s.heap = z.h) (hu : A.units + 2 < cLine) (ha : RV cx z a x) (hb : RV cx z b y)
    {E : Value → Shared → Prop} {Q : Value → Shared → Prop} (hQ : ∀ tk, Q (.bool r) { s with toks := tk }) : wpAny (model cx.prog cx.w) A (compareOp op x y) Q E s := by
  cases op with
  | Eq => exact eqv_sound k hz hu h ha hb hQ
  | NotEq =>
    obtain ⟨c, he, rfl⟩ := Option.map_eq_some_iff.mp h
    exact nev_sound k hz hu he ha hb hQ
  | Lt => exact ints_cmp (g := fun x y => decide (x < y)) h ha hb (fun _ _ _ _ hQ => P.lt_int hQ) (hQ s.toks)
  | LtE => exact ints_cmp (g := fun x y => decide (x ≤ y)) h ha hb (fun _ _ _ _ hQ => P.le_int hQ) (hQ s.toks)
  | Gt => exact ints_cmp (g := fun x y => decide (y < x)) h ha hb (fun _ _ _ _ hQ => P.gt_int hQ) (hQ s.toks)
  | GtE => exact ints_cmp (g := fun x y => decide (y ≤ x)) h ha hb (fun _ _ _ _ hQ => P.ge_int hQ) (hQ s.toks)
  | Is => cases a with
    | bool p => cases b with
      | bool q => cases Option.some.inj h; cases (ha : x = .bool p); cases (hb : y = .bool q); exact PyProof.Rows.is_bool (hQ s.toks)
      | _ => exact nn h
    | _ => exact nn h
  | IsNot => cases b with
    | none =>
      cases (hb : y = .none)
      cases a with
      | none => cases Option.some.inj h; cases (ha : x = .none); exact isNot_none (hQ s.toks)
      | str l => cases Option.some.inj h; obtain ⟨s1, t, rfl, rfl⟩ := ha; exact isNot_none (hQ s.toks)
      | _ => exact nn h
    | _ => exact nn h
  | In => cases a with
    | int i => cases b with
      | list ys =>
        obtain ⟨t, rfl⟩ := ha
        obtain ⟨l1, n1, i1, rfl, e1, v1⟩ := hb
        obtain ⟨e, he, hr⟩ := hasInt_sound (t := t) h v1
        refine SeqAt.in_listAt e (lst_at hz e1) (fun v hv => ?_) ?_
        · obtain ⟨j, u, rfl, hj⟩ := he v (Array.mem_toList_iff.mpr hv)
          rw [hj]; exact SeqAt.EqAt.int_int _ _ _ _
        · rw [← Array.any_toList, hr]; exact hQ s.toks
      | _ => exact nn h
    | _ => exact nn h
  | NotIn => exact nn h
end
end Mine
end
section
namespace Mine
open PySem
theorem FRel.vr {prog : Program} {w : World} {σ : List Addr} {B : Addr → Option Obj} {v : PV} {x : Value} (h : FRel v x) : VRel prog w σ B v x := by
  cases v with
  | int i => cases x with
    | int j t => exact (show i = j from h) ▸ .int i t
    | _ => exact h.elim
  | str l => cases x with
    | str s t => exact .str l s t h
    | _ => exact h.elim
  | _ => exact h.elim
theorem valueAt_self {K : Type} [DecidableEq K] (k : K) (x : Value) (r : List (K × Value)) : valueAt ((k, x) :: r) k = some x := by simp [valueAt]
theorem valueAt_ne {K : Type} [DecidableEq K] {j k : K} (h : j ≠ k) (x : Value) (r : List (K × Value)) : valueAt ((j, x) :: r) k = valueAt r k := by simp [valueAt, List.find?_cons, h]
theorem EI.get {es : List (PV × PV)} : ∀ {kvs : List (Int × Value)} {i : Int} {r : Option PV}, EI es kvs → assocI i es = some r →
    (r = none ∧ valueAt kvs i = none) ∨ ∃ v x, r = some v ∧ valueAt kvs i = some x ∧ FRel v x := by
  induction es with
  | nil => exact fun {kvs i r} h e => by cases kvs with | nil => exact .inl ⟨(Option.some.inj e).symm, rfl⟩ | cons => exact h.elim
  | cons p es ih =>
    intro kvs i r h e
    cases kvs with
    | nil => exact h.elim
    | cons q kvs =>
      obtain ⟨k, v⟩ := p
      obtain ⟨j, x⟩ := q
      have hk : k = .int j := h.1
      subst hk
      have e : (bif i == j then some (some v) else assocI i es) = some r := e
      cases hb : i == j with
      | true =>
        rw [hb] at e
        rw [beq_iff_eq.mp hb, valueAt_self]
        exact .inr ⟨v, x, (Option.some.inj e).symm, rfl, h.2.1⟩
      | false =>
        rw [hb] at e
        rw [valueAt_ne (Ne.symm (beq_eq_false_iff_ne.mp hb))]
        exact ih h.2.2 e
theorem str_ext {a b : Str} (h : a.cps.toList = b.cps.toList) : a = b := by
  cases a; cases b; simp only [Str.mk.injEq]; exact Array.toList_inj.mp h
theorem ES.get {es : List (PV × PV)} : ∀ {kvs : List (Str × Value)} {i : Str} {r : Option PV}, ES es kvs → assocS i.cps.toList es = some r →
    (r = none ∧ valueAt kvs i = none) ∨ ∃ v x, r = some v ∧ valueAt kvs i = some x ∧ FRel v x := by
  induction es with
  | nil => exact fun {kvs i r} h e => by cases kvs with | nil => exact .inl ⟨(Option.some.inj e).symm, rfl⟩ | cons => exact h.elim
  | cons p es ih =>
    intro kvs i r h e
    cases kvs with
    | nil => exact h.elim
    | cons q kvs =>
      obtain ⟨k, v⟩ := p
      obtain ⟨j, x⟩ := q
      have hk : k = .str j.cps.toList := h.1
      subst hk
      have e : (bif i.cps.toList == j.cps.toList then some (some v) else assocS i.cps.toList es) = some r := e
      cases hb : i.cps.toList == j.cps.toList with
      | true =>
        rw [hb] at e
        rw [str_ext (beq_iff_eq.mp hb), valueAt_self]
        exact .inr ⟨v, x, (Option.some.inj e).symm, rfl, h.2.1⟩
      | false =>
        rw [hb] at e
        rw [valueAt_ne fun hh => beq_eq_false_iff_ne.mp hb (congrArg (fun s : Str => s.cps.toList) hh.symm)]
        exact ih h.2.2 e
theorem stored_cons {K : Type} [DecidableEq K] (j k : K) (x y : Value) (r : List (K × Value)) (hn : (((j, y) :: r).map (·.1)).Nodup) :
    stored ((j, y) :: r) k x = if j = k then (j, x) :: r else (j, y) :: stored r k x := by
  by_cases h : j = k
  · subst h
    rw [List.map_cons, List.nodup_cons] at hn
    have : (r.map fun kv => if kv.1 = j then (kv.1, x) else kv) = r := by
      rw [List.map_congr_left (g := id)]
      · simp
      · intro a ha
        have : a.1 ≠ j := fun e => hn.1 (List.mem_map.mpr ⟨a, ha, e⟩)
        simp [this]
    simp [stored, this]
  · simp only [stored, List.any_cons, h, decide_false, Bool.false_or, if_false, List.map_cons]
    split <;> rfl
theorem EI.put {es : List (PV × PV)} : ∀ {kvs : List (Int × Value)} {i : Int} {v : PV} {x : Value}, EI es kvs → (kvs.map (·.1)).Nodup → FRel v x → EI (putI i v es) (stored kvs i x) := by
  induction es with
  | nil => exact fun {kvs i v x} h _ hv => by cases kvs with | nil => exact ⟨rfl, hv, trivial⟩ | cons => exact h.elim
  | cons p es ih =>
    intro kvs i v x h hn hv
    cases kvs with
    | nil => exact h.elim
    | cons q kvs =>
      obtain ⟨k, u⟩ := p
      obtain ⟨j, y⟩ := q
      have hk : k = .int j := h.1
      subst hk
      rw [stored_cons _ _ _ _ _ hn]
      show EI (bif i == j then _ else _) _
      cases hb : i == j with
      | true => rw [if_pos (beq_iff_eq.mp hb).symm]; exact ⟨rfl, hv, h.2.2⟩
      | false => rw [if_neg (Ne.symm (beq_eq_false_iff_ne.mp hb))]; exact ⟨rfl, h.2.1, ih h.2.2 (List.nodup_cons.mp hn).2 hv⟩
theorem ES.put {es : List (PV × PV)} : ∀ {kvs : List (Str × Value)} {i : Str} {v : PV} {x : Value}, ES es kvs → (kvs.map (·.1)).Nodup → FRel v x → ES (putS i.cps.toList v es) (stored kvs i x) := by
  induction es with
  | nil => exact fun {kvs i v x} h _ hv => by cases kvs with | nil => exact ⟨rfl, hv, trivial⟩ | cons => exact h.elim
  | cons p es ih =>
    intro kvs i v x h hn hv
    cases kvs with
    | nil => exact h.elim
    | cons q kvs =>
      obtain ⟨k, u⟩ := p
      obtain ⟨j, y⟩ := q
      have hk : k = .str j.cps.toList := h.1
      subst hk
      rw [stored_cons _ _ _ _ _ hn]
      show ES (bif i.cps.toList == j.cps.toList then _ else _) _
      cases hb : i.cps.toList == j.cps.toList with
      | true => rw [if_pos (str_ext (beq_iff_eq.mp hb)).symm]; exact ⟨rfl, hv, h.2.2⟩
      | false => rw [if_neg fun hh => beq_eq_false_iff_ne.mp hb (congrArg (fun s : Str => s.cps.toList) hh.symm)]; exact ⟨rfl, h.2.1, ih h.2.2 (List.nodup_cons.mp hn).2 hv⟩
theorem EI.length {es : List (PV × PV)} : ∀ {kvs : List (Int × Value)}, EI es kvs → es.length = kvs.length := by
  induction es with
  | nil => exact fun {kvs} h => by cases kvs with | nil => rfl | cons => exact h.elim
  | cons p es ih => exact fun {kvs} h => by cases kvs with | nil => exact h.elim | cons q kvs => exact congrArg (· + 1) (ih h.2.2)
theorem ES.length {es : List (PV × PV)} : ∀ {kvs : List (Str × Value)}, ES es kvs → es.length = kvs.length := by
  induction es with
  | nil => exact fun {kvs} h => by cases kvs with | nil => rfl | cons => exact h.elim
  | cons p es ih => exact fun {kvs} h => by cases kvs with | nil => exact h.elim | cons q kvs => exact congrArg (· + 1) (ih h.2.2)
theorem DictOf.nodup {K : Type} [DecidableEq K] {prog : Program} {w : World} {knd : KeyKind prog w K} {h : Heap} {a : Addr} {kvs : List (K × Value)} (x : h.DictOf knd a kvs) : (kvs.map (·.1)).Nodup :=
  x.elim fun _ x => x.elim fun _ x => x.elim fun _ x => x.2.2.2.2.2
theorem DictOf.other {K L : Type} [DecidableEq K] [DecidableEq L] {prog : Program} {w : World} {knd : KeyKind prog w K} (knd' : KeyKind prog w L) {h : Heap} {a : Addr} (x : h.DictOf knd a []) : h.DictOf knd' a [] := by
  obtain ⟨o, es, ep, ho, hc, hd, hk, hp, hn⟩ := x
  have hes : es.toList = [] := by cases hp' : es.toList with | nil => rfl | cons _ _ => rw [hp'] at hp; cases hp
  have hes' : es = #[] := by simpa using hes
  subst hes'
  exact ⟨o, #[], ep, ho, hc, hd, fun _ he => by simp at he, .nil, List.nodup_nil⟩
theorem DRel.int {prog : Program} {w : World} {es : List (PV × PV)} {o : Obj} {i : Int} {r : Option PV} (h : DRel prog w es o) (e : assocI i es = some r) :
    ∃ kvs, DObj (intKind prog w) o kvs ∧ EI es kvs := by
  cases h with
  | ik kvs hd he => exact ⟨kvs, hd, he⟩
  | sk kvs hd he =>
    cases es with
    | nil => cases kvs with | nil => exact ⟨[], fun h a ho => DictOf.other _ (hd h a ho), trivial⟩ | cons => exact he.elim
    | cons p es => cases kvs with
      | nil => exact he.elim
      | cons q kvs =>
        have e : (match p.1 with
          | .int j => bif i == j then some (some p.2) else assocI i es
          | _ => none) = some r := e
        rw [he.1] at e; exact nn e
theorem DRel.str {prog : Program} {w : World} {es : List (PV × PV)} {o : Obj} {l : List Nat} {r : Option PV} (h : DRel prog w es o) (e : assocS l es = some r) :
    ∃ kvs, DObj (strKind prog w) o kvs ∧ ES es kvs := by
  cases h with
  | sk kvs hd he => exact ⟨kvs, hd, he⟩
  | ik kvs hd he =>
    cases es with
    | nil => cases kvs with | nil => exact ⟨[], fun h a ho => DictOf.other _ (hd h a ho), trivial⟩ | cons => exact he.elim
    | cons p es => cases kvs with
      | nil => exact he.elim
      | cons q kvs =>
        have e : (match p.1 with
          | .str j => bif l == j then some (some p.2) else assocS l es
          | _ => none) = some r := e
        rw [he.1] at e; exact nn e
section
variable {cx : Cx} {z : Z} {A : Around} {s : Shared}
theorem seqIndex_nat {i : Int} {n : Nat} (h0 : 0 ≤ i) (h1 : i.toNat < n) : seqIndex? i n = some i.toNat := by
  unfold seqIndex?
  simp only [if_neg (Int.not_lt.mpr h0)]
  exact if_pos (by rw [decide_eq_true h0, decide_eq_true ((Int.toNat_lt h0).mp h1)]; rfl)
theorem getElem_arr {items : Array Value} {i : Nat} {x : Value} (h : items.toList[i]? = some x) : items[i]? = some x := (Array.getElem?_toList ..).symm.trans h
theorem lim_int {i : Int} (h : i ≤ lim) : i < 2 ^ 63 := Int.lt_of_le_of_lt h (by decide)
theorem dict_look {k' : PV} {es : List (PV × PV)} {r : Option PV} {y : Value} {o : Obj} (hd : DRel cx.prog cx.w es o) (hb : RV cx z k' y) (h : assoc k' es = some r) :
    ∃ (K : Type) (_ : DecidableEq K) (knd : KeyKind cx.prog cx.w K) (k : K) (f : K → Option Value), knd.is k y = true ∧ (∀ (s' : Shared) d, s'.heap.get? d = some o → s'.heap.MapOf knd d f ∧ s'.TypeIs (.ref d) "dict") ∧ ((r = none ∧ f k = none) ∨ ∃ v x, r = some v ∧ f k = some x ∧ FRel v x) := by
  cases k' with
  | int i =>
    obtain ⟨t, rfl⟩ := hb
    obtain ⟨kvs, hD, hE⟩ := hd.int h
    exact ⟨_, _, intKind cx.prog cx.w, i, _, beq_self_eq_true i, fun s' d e => ⟨Heap.DictOf.mapOf (hD _ _ e), (hD s'.heap _ e : s'.heap.DictOf _ _ _).typeIs⟩, hE.get h⟩
  | str l =>
    obtain ⟨s1, t, rfl, rfl⟩ := hb
    obtain ⟨kvs, hD, hE⟩ := hd.str h
    exact ⟨_, _, strKind cx.prog cx.w, s1, _, beq_self_eq_true s1, fun s' d e => ⟨Heap.DictOf.mapOf (hD _ _ e), (hD s'.heap _ e : s'.heap.DictOf _ _ _).typeIs⟩, hE.get h⟩
  | _ => exact nn h
theorem idx_sound {a b v : PV} {x y : Value} (h : pidx a b = some v) (k : OkZ cx z) (hz : s.heap = z.h) (ha : RV cx z a x) (hb : RV cx z b y) :
    Runs cx A (getItem x y) z v z.st s := by
  cases a with
  | list xs => cases b with
    | int i =>
      obtain ⟨l, n, items, rfl, e1, v1⟩ := ha
      obtain ⟨t, rfl⟩ := hb
      refine bif_el h fun hc h => an hc fun h0 h1 => ?_
      obtain ⟨u, hu, hv⟩ := v1.get (i := i.toNat) h
      exact .val k hz hv fun E Q hQ => wpAny_getItem_list (lst_at hz e1) (dt h0) (lim_int (dt h1)) (getElem_arr hu) (hQ s.toks)
    | _ => exact nn h
  | tuple xs => cases b with
    | int i =>
      obtain ⟨l, n, items, rfl, e1, v1⟩ := ha
      obtain ⟨t, rfl⟩ := hb
      refine bif_el h fun hc h => an hc fun h0 h1 => ?_
      obtain ⟨u, hu, hv⟩ := v1.get (i := i.toNat) h
      exact .val k hz hv fun E Q hQ => PyProof.Rows.getItem_tuple (tup_at hz e1) (Int.le_trans (by decide) (dt h0)) (lim_int (dt h1)) (seqIndex_nat (dt h0) (List.getElem?_eq_some_iff.mp hu).1) (getElem_arr hu) (hQ s.toks)
    | _ => exact nn h
  | str l => cases b with
    | int i =>
      obtain ⟨s1, t, rfl, rfl⟩ := ha
      obtain ⟨u, rfl⟩ := hb
      refine bif_el h fun hc h => an hc fun hc h1 => an hc fun _ h0 => ?_
      obtain ⟨c, hc', rfl⟩ := Option.map_eq_some_iff.mp h
      refine .str (y := ⟨#[c]⟩) k hz rfl fun E Q hQ => PyProof.Rows.getItem_str ?_ ?_ (hQ _ _)
      · exact Bool.or_eq_false_iff.mpr ⟨decide_eq_false (Int.not_lt.mpr (Int.le_trans (by decide) (dt h0))), decide_eq_false (Int.not_le.mpr (lim_int (dt h1)))⟩
      · rw [str_len]; exact (Option.bind_congr fun _ _ => (Array.getElem?_toList ..).symm).trans hc'
    | _ => exact nn h
  | dict es =>
    obtain ⟨d, o, rfl, ho, hd, _⟩ := ha
    cases he : assoc b es with
    | none => exact nn ((show (match assoc b es with | some o => o | none => none) = some v from h).symm.trans (by rw [he])).symm
    | some r =>
      cases ((show (match assoc b es with | some o => o | none => none) = r by rw [he]).symm.trans h)
      obtain ⟨K, inst, knd, kk, f, h1, h2, h3⟩ := dict_look hd hb he
      rcases h3 with ⟨e, _⟩ | ⟨v1, x1, e1, e2, hF⟩
      · exact nn e.symm
      · cases Option.some.inj e1
        exact .val k hz (FRel.vr hF) fun E Q hQ => wpAny_getItem_of (knd := knd) (k := kk) h1 (h2 s d (by rw [hz]; exact ho)).1 e2 (hQ _)
  | _ => exact nn h
end
end Mine
end
section
namespace Mine
open PySem
section
variable {cx : Cx} {z : Z} {A : Around} {s : Shared}
theorem RV.grow {v : PV} {x : Value} {h' : Heap} (h : RV cx z v x) (hk : ∀ a o, z.h.get? a = some o → h'.get? a = some o) : RV cx { z with h := h' } v x := by
  cases v with
  | list xs => exact h.imp fun a h => h.imp fun n h => h.imp fun i h => ⟨h.1, hk _ _ h.2.1, h.2.2⟩
  | tuple xs => exact h.imp fun a h => h.imp fun n h => h.imp fun i h => ⟨h.1, hk _ _ h.2.1, h.2.2⟩
  | dict es => exact h.imp fun a h => h.imp fun o h => ⟨h.1, hk _ _ h.2.1, h.2.2⟩
  | rng lo n st => exact h.imp fun a h => h.imp fun hi h => h.imp fun t h => h.imp fun u h => h.imp fun v h => ⟨h.1, hk _ _ h.2.1, h.2.2⟩
  | _ => exact h
theorem VRs.pick {xs : List PV} {vs : List Value} (h : VRs cx z xs vs) (ids : List Nat) : VRs cx z (ids.filterMap (xs[·]?)) (ids.filterMap (vs[·]?)) := by
  induction ids with
  | nil => exact .nil
  | cons i ids ih =>
    cases hx : xs[i]? with
    | some x =>
      obtain ⟨v, hv, hr⟩ := VRels.get (i := i) h hx
      rw [List.filterMap_cons_some hx, List.filterMap_cons_some hv]
      exact .cons hr ih
    | none =>
      rw [List.filterMap_cons_none hx, List.filterMap_cons_none (List.getElem?_eq_none_iff.mpr (VRels.length h ▸ List.getElem?_eq_none_iff.mp hx))]
      exact ih
theorem bounds_eq (lo hi st : Option Int) (n : Nat) : sliceRange (sliceBounds lo hi st n).1 (sliceBounds lo hi st n).2.1 (sliceBounds lo hi st n).2.2 = Builtin.Str.strSliceIndices lo hi (st.getD 1) n := by
  cases lo <;> cases hi <;> rfl
theorem clip (n : Nat) (i : Int) : ∃ a : Nat, a ≤ n ∧ max 0 (min (if i < 0 then i + n else i) (n : Int)) = (a : Int) :=
  have h0 := Int.le_max_left 0 (min (if i < 0 then i + n else i) (n : Int))
  have h1 : max 0 (min (if i < 0 then i + n else i) (n : Int)) ≤ n := Int.max_le.mpr ⟨Int.natCast_nonneg n, Int.min_le_right ..⟩
  ⟨_, Int.toNat_le.mpr h1, (Int.toNat_of_nonneg h0).symm⟩
noncomputable def cutAt (n : Nat) (d : Nat) (o : Option Int) : Int := match o with
  | some i => max 0 (min (if i < 0 then i + n else i) (n : Int))
  | none => d
theorem cutAt_nat (n d : Nat) (hd : d ≤ n) (o : Option Int) : ∃ a : Nat, a ≤ n ∧ cutAt n d o = (a : Int) := by
  cases o with
  | none => exact ⟨d, hd, rfl⟩
  | some i => exact clip n i
theorem ssi_one (lo hi : Option Int) (n : Nat) : Builtin.Str.strSliceIndices lo hi 1 n = sliceRange (cutAt n 0 lo) (cutAt n n hi) 1 := by
  cases lo <;> cases hi <;> rfl
theorem ssi_ends (lo hi : Option Int) (n : Nat) : ∃ a b : Nat, b ≤ n ∧ Builtin.Str.strSliceIndices lo hi 1 n = sliceRange (a : Int) (b : Int) 1 := by
  obtain ⟨a, _, e⟩ := cutAt_nat n 0 (Nat.zero_le _) lo
  obtain ⟨b, hb, e'⟩ := cutAt_nat n n (Nat.le_refl _) hi
  exact ⟨a, b, hb, by rw [ssi_one, e, e']⟩
theorem indices_whole {lo hi : Option Int} {n : Nat} (h : (Builtin.Str.strSliceIndices lo hi 1 n).length = n) : Builtin.Str.strSliceIndices lo hi 1 n = List.range n := by
  obtain ⟨a, b, hb, e⟩ := ssi_ends lo hi n
  rw [e, sliceRange_one] at h ⊢
  rw [List.length_map, List.length_range] at h
  have h1 : b - a = n := h
  rw [h1]
  have h0 : a = 0 ∨ n = 0 := by omega
  rcases h0 with rfl | rfl
  · exact (List.map_congr_left fun x _ => Nat.zero_add x).trans (List.map_id' _)
  · rfl
theorem pick_range {α : Type} (l : List α) : (List.range l.length).filterMap (l[·]?) = l := by
  induction l with
  | nil => rfl
  | cons x r ih =>
    rw [List.length_cons, List.range_succ_eq_map, List.filterMap_cons_some (f := fun j => (x :: r)[j]?) (a := 0) (b := x) rfl, List.filterMap_map]
    exact congrArg (x :: ·) ih
noncomputable def sliceObj (l u c : Value) : Obj := { cls := .type "slice", data := .fields #[l, u, c] }
theorem partO_sound {l : PV} {x : Value} {r : Option Int} (h : partO l = some r) (hl : RV cx z l x) : ∃ q : Option (Int × Tok), x = partValue q ∧ q.map (·.1) = r ∧ IsPart x r := by
  cases l with
  | none => cases Option.some.inj h; cases (hl : x = .none); exact ⟨none, rfl, rfl, .none⟩
  | int i => cases Option.some.inj h; obtain ⟨t, rfl⟩ := hl; exact ⟨some (_, t), rfl, rfl, .int _ t⟩
  | _ => exact nn h
theorem pslice_el {v lo hi st r : PV} {P : Prop} (h : pslice v lo hi st = some r) (ks : ∀ l a b, v = .str l → partO lo = some a → partO hi = some b → partO st = some none → l.length ≤ lim → .str (Mine.pick l a b 1) = r → P)
    (kl : ∀ l a b c, v = .list l → partO lo = some a → partO hi = some b → partO st = some c → c ≠ some 0 → l.length ≤ lim → .list (Mine.pick l a b (c.getD 1)) = r → P) : P := by
  unfold pslice at h
  cases h1 : partO lo with
  | none => rw [h1] at h; exact nn h
  | some a => cases h2 : partO hi with
    | none => rw [h1, h2] at h; exact nn h
    | some b => cases h3 : partO st with
      | none => rw [h1, h2, h3] at h; exact nn h
      | some c =>
        rw [h1, h2, h3] at h
        cases v with
        | str l => cases c with
          | none => exact bif_el h fun h4 h5 => ks l a b rfl h1 h2 h3 (dt h4) (Option.some.inj h5)
          | some c => exact nn h
        | list l => exact bif_el h fun h4 h5 => an h4 fun h4 h6 => kl l a b c rfl h1 h2 h3 (dt h4) (dt h6) (Option.some.inj h5)
        | _ => exact nn h
theorem slice_str {l : List Nat} {p' q' : Option (Int × Tok)} {x : Value} (hle : l.length ≤ lim) (k : OkZ cx z) (hz : s.heap = z.h) (ha : RV cx z (.str l) x) {i : Addr} (hsl : s.heap.IsSlice i p' q' none) :
    Runs cx A (getItem x (.ref i)) z (.str (Mine.pick l (p'.map (·.1)) (q'.map (·.1)) 1)) z.st s := by
  obtain ⟨s1, t, rfl, rfl⟩ := ha
  have hlen := str_len s1
  have epk : (slicePicked s1 p' q' none).filterMap (s1.cps[·]?) = Mine.pick s1.cps.toList (p'.map (·.1)) (q'.map (·.1)) 1 := by
    unfold Mine.pick
    rw [← hlen]
    exact congrArg (fun f => List.filterMap f (slicePicked s1 p' q' none)) (funext fun j => (Array.getElem?_toList ..).symm)
  by_cases hf : (((Option.map (fun x : Int × Tok => x.1) none).getD 1 == 1 && (slicePicked s1 p' q' none).length == s1.length)) = true
  · refine .pure k hz fun E Q hQ => wpAny_getItem_str_slice hsl (by decide) ?_
    unfold sliceMade
    rw [if_pos hf]
    refine hQ _ _ (.str _ s1 t ?_)
    have h2 : (slicePicked s1 p' q' none).length = s1.length := beq_iff_eq.mp (Bool.and_eq_true_iff.mp hf).2
    unfold Mine.pick
    rw [← hlen, show Builtin.Str.strSliceIndices (p'.map (·.1)) (q'.map (·.1)) 1 s1.length = List.range s1.length from indices_whole h2, hlen]
    exact (pick_range _).symm
  · refine .str (y := ⟨((slicePicked s1 p' q' none).filterMap (s1.cps[·]?)).toArray⟩) k hz epk fun E Q hQ => wpAny_getItem_str_slice hsl (by decide) ?_
    unfold sliceMade
    rw [if_neg hf]
    refine ⟨?_, hQ _ _⟩
    show ((slicePicked s1 p' q' none).filterMap (s1.cps[·]?)).toArray.size ≤ _
    rw [List.size_toArray]
    exact Nat.le_trans (List.length_filterMap_le _ _) (Nat.le_trans (PyProof.Rows.indices_len_le (p'.map (·.1)) (q'.map (·.1)) s1.length) (lim_le (hlen ▸ hle)))
theorem slice_sound {a l u c v : PV} {x vl vu vc : Value} (h : pslice a l u c = some v) (k : OkZ cx z) (hz : s.heap = z.h) (ha : RV cx z a x) (hl : RV cx z l vl) (hu : RV cx z u vu) (hc : RV cx z c vc) :
    Runs cx A (getItem x (.ref s.heap.objs.size)) { z with h := s.heap.push (sliceObj vl vu vc) } v z.st { s with heap := s.heap.push (sliceObj vl vu vc) } := by
  have hk : ∀ b o, z.h.get? b = some o → (s.heap.push (sliceObj vl vu vc)).get? b = some o := fun b o e => by rw [hz]; exact Heap.get?_push_of_some _ e
  have k1 : OkZ cx { z with h := s.heap.push (sliceObj vl vu vc) } := k.keep fun b o e _ => hk b o e
  have ha1 : RV cx { z with h := s.heap.push (sliceObj vl vu vc) } a x := ha.grow hk
  refine pslice_el h (fun w p q e hp hq hr hle ev => ?_) fun w p q r e hp hq hr h0 hle ev => ?_
  · obtain ⟨p', ep, rfl, _⟩ := partO_sound hp hl
    obtain ⟨q', eq, rfl, _⟩ := partO_sound hq hu
    obtain ⟨r', er, er', _⟩ := partO_sound hr hc
    subst ev; subst e
    have er : vc = partValue none := by cases r' with | none => exact er | some => cases er'
    exact slice_str (A := A) hle k1 rfl ha1 ⟨_, Heap.get?_push_size _ rfl, rfl, by rw [ep, eq, er]; rfl⟩
  · obtain ⟨_, _, _, ip⟩ := partO_sound hp hl
    obtain ⟨_, _, _, iq⟩ := partO_sound hq hu
    obtain ⟨_, _, _, ir⟩ := partO_sound hr hc
    subst ev; subst e
    obtain ⟨l1, n1, items, rfl, e1, v1⟩ := ha1
    have g1 : w.length = items.size := v1.length
    refine Runs.newList (items := slicePick items p q r) (n := 0) k1 rfl ?_ fun E Q hQ => ?_
    · have e2 : (slicePick items p q r).toList = (Builtin.Str.strSliceIndices p q (r.getD 1) w.length).filterMap (items.toList[·]?) := by
        unfold slicePick
        rw [bounds_eq, g1]
        exact congrArg (fun f => List.filterMap f (Builtin.Str.strSliceIndices p q (r.getD 1) items.size)) (funext fun j => (Array.getElem?_toList ..).symm)
      rw [e2]; exact VRs.pick v1 _
    · exact wpAny_getItem_list_slice (lst_at rfl e1) (Heap.IsSliceOf.new ..) ip iq ir h0 (hQ _) (lim_le (g1 ▸ hle))
theorem thenW {M : Model} {A : Around} {E : Value → Shared → Prop} {s : Shared} {α β : Type} {x : Sem α} {f : α → Sem β} {P : α → Shared → Prop} {Q : β → Shared → Prop} (hx : wpAny M A x P E s)
    (hf : ∀ a t, P a t → wpAny M A (f a) Q E t) : wpAny M A (x >>= f) Q E s := wpAny_bind (wpAny_mono hx hf fun _ _ e => e)
theorem subscripted_f (slice : Expr) (o i : Value) : ∃ vs, subscripted slice false o i = operate vs (getItem o i) := by
  cases slice with
  | Slice l u s p => cases s <;> exact ⟨_, rfl⟩
  | _ => exact ⟨_, rfl⟩
noncomputable abbrev Subs (s : Shared) (o : Value) : Prop := ∃ T id, s.TypeIs o T ∧ typeLookup (.type T) "__getitem__" = pure (some (.builtin id))
theorem wpAny_Sub {env : Env} {value slice : Expr} {pos : Pos} {E Q : Value → Shared → Prop} {prog : Program} {w : World}
    (h : wpAny (model prog w) A (eval value env) (fun o => wpAny (model prog w) A (eval slice env) (fun i t => Subs t o ∧ wpAny (model prog w) A (getItem o i) Q E t) E) E s) :
    wpAny (model prog w) A (eval (.Subscript value slice pos) env) Q E s := by
  have own : ∀ {o t}, Subs t o → wpAny (model prog w) A (getitemInPython o) (fun py t' => py = false ∧ t' = t) E t := fun ⟨T, id, hT, hl⟩ =>
    getitemInPython_of_ne hT.not_modules ▸ wpAny_bind (wpAny_specialOf hT hl (wpAny_pure ⟨rfl, rfl⟩))
  refine eval_Subscript (env := env) value slice pos ▸ thenW h fun o t g => thenW (wpAny_holding g) fun i t g => wpAny_bind (wpAny_standAt (thenW (own g.1) ?_))
  rintro _ _ ⟨rfl, rfl⟩
  obtain ⟨vs, e⟩ := subscripted_f slice o i
  exact e ▸ thenW (wpAny_operating g.2) fun r t g => wpAny_bind (wpAny_letTemporaryGo (wpAny_pure g))
theorem item_type {a : PV} {x : Value} (hz : s.heap = z.h) (h : RV cx z a x) (ha : (∃ l, a = .str l) ∨ (∃ l, a = .list l) ∨ (∃ l, a = .tuple l) ∨ (∃ l, a = .dict l)) :
    ∃ T id, s.TypeIs x T ∧ typeLookup (.type T) "__getitem__" = pure (some (.builtin id)) := by
  rcases ha with ⟨l, rfl⟩ | ⟨l, rfl⟩ | ⟨l, rfl⟩ | ⟨l, rfl⟩
  · obtain ⟨y, t, rfl, _⟩ := h; exact ⟨"str", _, rfl, F.slot_str_getitem.lookup⟩
  · obtain ⟨a, n, items, rfl, e, _⟩ := h; exact ⟨"list", _, (lst_at hz e).typeIs, list_getitem_lookup⟩
  · obtain ⟨a, n, items, rfl, e, _⟩ := h; exact ⟨"tuple", _, ⟨_, by rw [hz]; exact e, rfl⟩, F.slot_tuple_getitem.lookup⟩
  · obtain ⟨a, o, rfl, e, hd, _⟩ := h
    cases hd with
    | ik kvs hD _ => exact ⟨"dict", _, (hD _ _ (by rw [hz]; exact e) : s.heap.DictOf _ _ _).typeIs, F.slot_dict_getitem.lookup⟩
    | sk kvs hD _ => exact ⟨"dict", _, (hD _ _ (by rw [hz]; exact e) : s.heap.DictOf _ _ _).typeIs, F.slot_dict_getitem.lookup⟩
theorem pidx_kind {a b v : PV} (h : pidx a b = some v) : (∃ l, a = .str l) ∨ (∃ l, a = .list l) ∨ (∃ l, a = .tuple l) ∨ (∃ l, a = .dict l) := by
  cases a with
  | list l => exact .inr (.inl ⟨_, rfl⟩)
  | tuple l => exact .inr (.inr (.inl ⟨_, rfl⟩))
  | str l => exact .inl ⟨_, rfl⟩
  | dict l => exact .inr (.inr (.inr ⟨_, rfl⟩))
  | _ => exact nn h
theorem pslice_kind {a l u c v : PV} (h : pslice a l u c = some v) : (∃ l, a = .str l) ∨ (∃ l, a = .list l) ∨ (∃ l, a = .tuple l) ∨ (∃ l, a = .dict l) :=
  pslice_el h (fun l _ _ e _ _ _ _ _ => .inl ⟨l, e⟩) fun l _ _ _ e _ _ _ _ _ _ => .inr (.inl ⟨l, e⟩)
end
end Mine
end
section
namespace Mine
open PySem
section
variable {cx : Cx} {z : Z} {A : Around} {s : Shared}
theorem Runs.grow {t : Sem Value} (k : OkZ cx z) (hz : s.heap = z.h) {v : PV}
    (h : ∀ (E : Value → Shared → Prop) (Q : Value → Shared → Prop), (∀ x h' tk, (∀ b o, s.heap.get? b = some o → h'.get? b = some o) → VR cx z v x → Q x { s with heap := h', toks := tk }) → wpAny (model cx.prog cx.w) A t Q E s) :
    Runs cx A t z v z.st s := fun E Q hQ => h E Q fun x h' tk hk hv => by
  rw [hz] at hk
  exact hQ x { z with h := h' } tk (k.keep fun b o e _ => hk b o e) (.keep hk) rfl hv
theorem intsOf_are {xs : List PV} : ∀ {vs : List Value} {ns : List Int}, intsOf xs = some ns → VRs cx z xs vs → PyProof.Rows.IntsAre vs ns := by
  induction xs with
  | nil => exact fun {vs ns} h hv => hv.nil_el (C := fun vs => PyProof.Rows.IntsAre vs ns) (Option.some.inj h ▸ .nil)
  | cons x xs ih =>
    intro vs ns h hv
    refine hv.cons_el (C := fun vs => PyProof.Rows.IntsAre vs ns) fun a us ha hs => ?_
    cases x with
    | int i => cases ha with
      | int _ t =>
        obtain ⟨m, hm, rfl⟩ := Option.map_eq_some_iff.mp h
        exact .cons _ _ (ih hm hs)
    | _ => exact nn h
theorem best_spec {op : Int → Int → Int} {le : Int → Int → Prop} (rfl' : ∀ a, le a a) (tr : ∀ {a b c}, le a b → le b c → le a c) (l : ∀ a b, le (op a b) a) (r : ∀ a b, le (op a b) b) (ch : ∀ a b, op a b = a ∨ op a b = b) {f : List Int → Int} (h1 : ∀ a, f [a] = a) (h2 : ∀ a b r, f (a :: b :: r) = op a (f (b :: r))) (rs : List Int) :
    ∀ a : Int, f (a :: rs) ∈ a :: rs ∧ ∀ b ∈ a :: rs, le (f (a :: rs)) b := by
  induction rs with
  | nil => exact fun a => ⟨(h1 a).symm ▸ List.mem_cons_self, fun b hb => by rw [List.mem_singleton.mp hb, h1]; exact rfl' a⟩
  | cons c rs ih =>
    intro a
    obtain ⟨g1, g2⟩ := ih c
    rw [h2]
    exact ⟨(ch a (f (c :: rs))).elim (fun e => e.symm ▸ List.mem_cons_self) fun e => e.symm ▸ List.mem_cons_of_mem _ g1, fun b hb => (List.mem_cons.mp hb).elim (fun e => e ▸ l _ _) fun hb => tr (r _ _) (g2 b hb)⟩
theorem maxL_spec (a : Int) (r : List Int) : maxL (a :: r) ∈ a :: r ∧ ∀ b ∈ a :: r, b ≤ maxL (a :: r) :=
  best_spec (le := fun a b => b ≤ a) Int.le_refl (fun h g => Int.le_trans g h) Int.le_max_left Int.le_max_right (fun a b => (Int.le_total a b).elim (fun h => .inr (Int.max_eq_right h)) fun h => .inl (Int.max_eq_left h)) (fun _ => rfl) (fun _ _ _ => rfl) r a
theorem minL_spec (a : Int) (r : List Int) : minL (a :: r) ∈ a :: r ∧ ∀ b ∈ a :: r, minL (a :: r) ≤ b :=
  best_spec (le := fun a b => a ≤ b) Int.le_refl Int.le_trans Int.min_le_left Int.min_le_right (fun a b => (Int.le_total a b).elim (fun h => .inl (Int.min_eq_left h)) fun h => .inr (Int.min_eq_right h)) (fun _ => rfl) (fun _ _ _ => rfl) r a
theorem sumL_eq (ns : List Int) : sumL ns = ns.sum := by
  induction ns with
  | nil => rfl
  | cons a r ih => rw [List.sum_cons, ← ih]; rfl
end
section
open PyProof.Rows
variable {A : Around} {s : Shared} {l : Addr} {vs : List Value} {ns : List Int}
theorem ints_arr (hi : IntsAre vs ns) (hl : s.heap.IsList l vs.toArray) : ∃ xs, s.heap.IsList l (intItems xs) ∧ xs.toList.map (·.1) = ns := by
  obtain ⟨xs, e⟩ := hi.allInts.items
  exact ⟨xs, e ▸ hl, (nums_intItems xs).symm.trans (e ▸ hi.numsOf)⟩
variable {prog : Program} {w : World} {E Q : Value → Shared → Prop}
theorem sum_keep (hh : A.handled = none) (hl : s.heap.IsList l vs.toArray) (hi : IntsAre vs ns) (h : ∀ h' tk t, (∀ b o, s.heap.get? b = some o → h'.get? b = some o) → Q (.int ns.sum t) { s with heap := h', toks := tk }) :
    wpAny (model prog w) A (call (.builtin "sum") [.ref l]) Q E s := by
  obtain ⟨xs, hl, rfl⟩ := ints_arr hi hl
  have all : preSum (numAt xs) xs.size = (xs.toList.map (·.1)).sum := (preSum_eq xs _).trans (congrArg List.sum (List.take_of_length_le (Nat.le_of_eq (by rw [List.length_map, Array.length_toList]))))
  exact sum_intListG hh hl fun h' tk t k => all ▸ h h' tk t k
theorem at_num (xs : Array (Int × Tok)) {P : Int → Prop} : (∀ j, j ≤ xs.size - 1 → P (numAt xs j)) → ∀ a ∈ xs.toList.map (·.1), P a := fun h a ha => by
  obtain ⟨j, hj, e⟩ := List.getElem_of_mem ha
  have q := h j (by rw [List.length_map, Array.length_toList] at hj; exact Nat.le_sub_one_of_lt hj)
  rwa [numAt_eq, List.getD_eq_getElem?_getD, List.getElem?_eq_getElem hj, e] at q
theorem num_mem (xs : Array (Int × Tok)) {j : Nat} (hj : j ≤ xs.size - 1) (h0 : 0 < (xs.toList.map (·.1)).length) : numAt xs j ∈ xs.toList.map (·.1) := by
  have hj : j < (xs.toList.map (·.1)).length := by rw [List.length_map, Array.length_toList] at h0 ⊢; exact Nat.lt_of_le_of_lt hj (Nat.sub_lt h0 Nat.zero_lt_one)
  rw [numAt_eq, List.getD_eq_getElem?_getD, List.getElem?_eq_getElem hj]
  exact List.getElem_mem hj
theorem max_keep (hh : A.handled = none) (hl : s.heap.IsList l vs.toArray) (hi : IntsAre vs ns) (hne : 0 < ns.length)
    (h : ∀ h' M t tk, (∀ b o, s.heap.get? b = some o → h'.get? b = some o) → M ∈ ns → (∀ a, a ∈ ns → a ≤ M) → Q (.int M t) { s with heap := h', toks := tk }) : wpAny (model prog w) A (call (.builtin "max") [.ref l]) Q E s := by
  obtain ⟨xs, hl, rfl⟩ := ints_arr hi hl
  have best := argBest_gt (numAt xs) (xs.size - 1)
  refine max_intList hh hl (by rwa [List.length_map, Array.length_toList] at hne) fun v h' tk hv k => ?_
  obtain ⟨t, rfl⟩ := intItems_at hv
  exact h _ _ t tk k (num_mem xs best.1 hne) (at_num xs best.2)
theorem min_keep (hh : A.handled = none) (hl : s.heap.IsList l vs.toArray) (hi : IntsAre vs ns) (hne : 0 < ns.length)
    (h : ∀ h' M t tk, (∀ b o, s.heap.get? b = some o → h'.get? b = some o) → M ∈ ns → (∀ a, a ∈ ns → M ≤ a) → Q (.int M t) { s with heap := h', toks := tk }) : wpAny (model prog w) A (call (.builtin "min") [.ref l]) Q E s := by
  obtain ⟨xs, hl, rfl⟩ := ints_arr hi hl
  have best := argBest_lt (numAt xs) (xs.size - 1)
  refine min_intList hh hl (by rwa [List.length_map, Array.length_toList] at hne) fun v h' tk hv k => ?_
  obtain ⟨t, rfl⟩ := intItems_at hv
  exact h _ _ t tk k (num_mem xs best.1 hne) (at_num xs best.2)
end
end Mine
end
section
namespace Mine
open PySem
section
variable {prog : Program} {w : World} {A : Around} {E : Value → Shared → Prop} {s : Shared} {l it : Addr} {i : Nat} {items : Array Value} {x : Value} {Q : Value → Shared → Prop}
theorem call_iter_list (hl : s.heap.IsList l items) (h : Q (.ref s.heap.objs.size) { s with heap := s.heap.push { cls := .type "list_iterator", data := .fields #[.ref l, .int 0 0] } }) :
    wpAny (model prog w) A (call (.builtin "iter") [.ref l]) Q E s := by
  have got : wpAny (model prog w) A.in1 (pyIter (.ref l)) (fun v s' => wpAny (model prog w) A.in1 (ret v) (fun fin s' => ∃ v, fin = .done (.ret v) ∧ Q v s') E s') E s := wpAny_pyIter_list hl (wpAny_pure ⟨_, rfl, h⟩)
  exact Calls.call_function_entry (by decide +kernel) (by decide +kernel) W.kdk_entry_iter (W.kdk_args_iter _) (wpAny_bind (m := someArgs "iter" 1 2 _) (wpAny_of_eq (a := [.ref l]) (by kernel_rfl) (wpAny_bind got)))
theorem li_step (hit : s.heap.IsListIter it l i) (hl : s.heap.IsList l items) (hx : items[i]? = some x) {P : Fin → Shared → Prop}
    (hP : ∀ h', h'.IsListIter it l (i + 1) → Heap.SameBut it s.heap h' → P (.done (.ret x)) { s with heap := h' }) :
    wpAny (model prog w) A (Builtin.«list_iterator.__next__» ⟨[.ref it], []⟩) P E s := by
  obtain ⟨⟨_, _, _, _⟩, ho, rfl, rfl⟩ := hit
  obtain ⟨_, hol, _, _, hdl⟩ := hl
  have f0 : ∀ {R : Value → Shared → Prop}, R (.ref l) s → wpAny (model prog w) A (field (.ref it) 0) R E s := wpAny_field ho rfl rfl
  have f1 : ∀ {R : Value → Shared → Prop}, R (.int i 0) s → wpAny (model prog w) A (field (.ref it) 1) R E s := wpAny_field ho rfl rfl
  wp_walk using f0, f1, wpAny_seqItems hol hdl
  rw [Int.toNat_natCast, hx]
  exact wpAny_bind (wpAny_setField ho rfl (Nat.lt_succ_self 1) (wpAny_pure (hP _ ⟨_, Heap.get?_update_self _ ho rfl, rfl, rfl⟩ (Heap.SameBut.update ..))))
theorem call_next_list (hit : s.heap.IsListIter it l i) (hl : s.heap.IsList l items) (hx : items[i]? = some x) (hQ : ∀ h', h'.IsListIter it l (i + 1) → Heap.SameBut it s.heap h' → Q x { s with heap := h' }) :
    wpAny (model prog w) A (call (.builtin "next") [.ref it]) Q E s := by
  have T := hit.typeIs
  have step : wpAny (model prog w) A.in1 (callSpecial? (.ref it) (Str.ofString "__next__")) (fun r s' => ∃ y, r = some y ∧ Q y s') E s :=
    wpAny_callSpecial?_slot T slot_listiter_next (wpAny_call_entry slot_listiter_next T entry_listiter_next (li_step hit hl hx fun h' a b => ⟨x, rfl, x, rfl, hQ h' a b⟩) (args_listiter_next _))
  refine Calls.call_function_entry (by decide +kernel) (by decide +kernel) W.kdk_entry_next (W.kdk_args_next _) (wpAny_bind (m := someArgs ..) (wpAny_of_eq (a := [.ref it]) (by kernel_rfl) ?_))
  refine wpAny_bind (wpAny_specialOf T slot_listiter_next.lookup (wpAny_ite_split (fun h => nomatch h) fun _ => wpAny_bind (wpAny_mono step ?_ fun _ _ e => e)))
  rintro _ s' ⟨y, rfl, q⟩
  exact wpAny_pure ⟨y, rfl, q⟩
end
end Mine
end
section
namespace Mine
open PySem
noncomputable def biVal : BI → Value
  | .len => .builtin "len"
  | .min => .builtin "min"
  | .max => .builtin "max"
  | .sum => .builtin "sum"
  | .range => .type "range"
  | .list => .type "list"
  | .zip => .type "zip"
  | .ord => .builtin "ord"
  | .chr => .builtin "chr"
  | .iter => .builtin "iter"
  | .next => .builtin "next"
  | .set => .type "set"
noncomputable def notZip : BI → Bool
  | .zip => false
  | _ => true
section
variable {cx : Cx} {z : Z} {A : Around} {s : Shared}
theorem rs {t : Sem Value} {a v : PV} {st st' : Store} (h : some (a, st) = some (v, st')) (k : Runs cx A t z a st s) : Runs cx A t z v st' s := by cases h; exact k
theorem rbs {t : Sem Value} {c : Bool} {a v : PV} {st st' : Store} (h : (bif c then some (a, st) else none) = some (v, st')) (k : c = true → Runs cx A t z a st s) : Runs cx A t z v st' s := bif_el h fun hc h => rs h (k hc)
theorem rng_sound {a b c : Int} {st' : Store} {p : PV} (k : OkZ cx z) (hz : s.heap = z.h) (h : mkRng a b c z.st = some (p, st')) {tr : Sem Value}
    (hr : small c = true → 0 < c → ∀ (E Q : Value → Shared → Prop), (∀ t u v tk, Q (.ref s.heap.objs.size) { s with heap := s.heap.push { cls := .type "range", data := .fields #[.int a t, .int b u, .int c v] }, toks := tk }) → wpAny (model cx.prog cx.w) A tr Q E s) :
    Runs cx A tr z p st' s := by
  refine rbs h fun hc => an hc fun hc h4 => an hc fun hc h3 => an hc fun h1 h2 => ?_
  intro E Q hQ
  refine hr h3 (dt h2) E Q fun t u v tk => ?_
  have hn := none_at_size hz
  have hk : ∀ b' x, z.h.get? b' = some x → (s.heap.push { cls := .type "range", data := .fields #[.int a t, .int b u, .int c v] }).get? b' = some x := fun b x e => by rw [hz]; exact Heap.get?_push_of_some _ e
  exact hQ _ { z with B := addB z.B s.heap.objs.size { cls := .type "range", data := .fields #[.int a t, .int b u, .int c v] }, h := s.heap.push { cls := .type "range", data := .fields #[.int a t, .int b u, .int c v] } } tk
    (k.freeze hk hn (Heap.get?_push_size _ rfl)) (k.freeze_ext hk hn) rfl (.rng (addB_self _ _ _) h1 (Int.toNat_of_nonneg (dt h4)).symm)
theorem rngItems_get (n : Nat) : ∀ (a c : Int) (j : Nat), j < n → (rngItems a n c)[j]? = some (.int (a + j * c)) := by
  induction n with
  | zero => exact fun _ _ _ h => absurd h (Nat.not_lt_zero _)
  | succ n ih =>
    intro a c j h
    cases j with
    | zero => exact congrArg (fun x => some (PV.int x)) (by rw [Int.natCast_zero, Int.zero_mul, Int.add_zero])
    | succ j => exact (ih (a + c) c j (Nat.lt_of_succ_lt_succ h)).trans (congrArg (fun x => some (PV.int x)) (by rw [Int.natCast_succ, Int.add_mul, Int.one_mul, Int.add_assoc, Int.add_comm c]))
theorem rngItems_length (n : Nat) : ∀ (a c : Int), (rngItems a n c).length = n := by
  induction n with
  | zero => exact fun _ _ => rfl
  | succ n ih => exact fun a c => congrArg (· + 1) (ih (a + c) c)
theorem VRs.of_get {xs : List PV} : ∀ {vs : List Value}, xs.length = vs.length → (∀ (j : Nat) x v, xs[j]? = some x → vs[j]? = some v → VR cx z x v) → VRs cx z xs vs := by
  induction xs with
  | nil => exact fun {vs} hl _ => by cases vs with | nil => exact .nil | cons => cases hl
  | cons x xs ih => exact fun {vs} hl h => by cases vs with | nil => cases hl | cons v vs => exact .cons (h 0 x v rfl rfl) (ih (Nat.succ.inj hl) fun j a b h1 h2 => h (j + 1) a b h1 h2)
theorem VRs.one {p : PV} {vals : List Value} (ha : VRs cx z [p] vals) : ∃ x, vals = [x] ∧ VR cx z p x :=
  ha.cons_el (C := fun vals => ∃ x, vals = [x] ∧ VR cx z p x) fun x us h t => t.nil_el (C := fun us => ∃ y, x :: us = [y] ∧ VR cx z p y) ⟨x, rfl, h⟩
theorem lst_arr {l : Addr} {items : Array Value} (h : s.heap.IsList l items) : s.heap.IsList l items.toList.toArray := by rw [Array.toArray_toList]; exact h
section
variable {α β : Type} {r : α} {args : List PV} {vals : List Value} {P : List Value → Prop} {p : PV} {x : Value} {R : Value → Prop} {T : Prop}
theorem a0_vr {f : Option α} (h : a0 args f = some r) (ha : VRs cx z args vals) (k : f = some r → P []) : P vals := by
  cases args with
  | nil => exact ha.nil_el (C := P) (k h)
  | cons => exact nn h
theorem a1_vr {f : PV → Option α} (h : a1 args f = some r) (ha : VRs cx z args vals) (k : ∀ v x, f v = some r → VR cx z v x → P [x]) : P vals := by
  cases args with
  | nil => exact nn h
  | cons a t => exact ha.cons_el (C := P) fun x us hx hs => a0_vr (P := fun us => P (x :: us)) h hs fun h => k a x h hx
theorem a2_vr {f : PV → PV → Option α} (h : a2 args f = some r) (ha : VRs cx z args vals) (k : ∀ v u x y, f v u = some r → VR cx z v x → VR cx z u y → P [x, y]) : P vals := by
  cases args with
  | nil => exact nn h
  | cons a t => exact ha.cons_el (C := P) fun x us hx hs => a1_vr (P := fun us => P (x :: us)) h hs fun u y h hy => k a u x y h hx hy
theorem oI_vr {f : Int → Option α} (h : oI p f = some r) (hx : VR cx z p x) (k : ∀ i t, f i = some r → R (.int i t)) : R x := by
  cases p with
  | int i => cases hx with
    | int _ t => exact k i t h
  | _ => exact nn h
theorem oS_vr {f : List Nat → Option α} (h : oS p f = some r) (hx : VR cx z p x) (k : ∀ (y : Str) t, f y.cps.toList = some r → R (.str y t)) : R x := by
  cases p with
  | str l => cases hx with
    | str _ y t e => subst e; exact k y t h
  | _ => exact nn h
theorem oL_rv {f : List PV → Option α} (h : oL p f = some r) (hx : RV cx z p x) (k : ∀ xs, f xs = some r → RV cx z (.list xs) x → T) : T := by
  cases p with
  | list xs => exact k xs h hx
  | _ => exact nn h
theorem oD_rv {f : List (PV × PV) → Option α} (h : oD p f = some r) (hx : RV cx z p x) (k : ∀ xs, f xs = some r → RV cx z (.dict xs) x → T) : T := by
  cases p with
  | dict xs => exact k xs h hx
  | _ => exact nn h
theorem oR_rv {f : Nat → Option α} (k' : OkZ cx z) (h : oR p f = some r) (hx : VR cx z p x) (k : ∀ n, f n = some r → RV cx z (.ref n) x → T) : T := by
  cases p with
  | ref n => exact k n h (hx.rv k')
  | _ => exact nn h
theorem oG_rv {f : Int → Nat → Int → Option α} (k' : OkZ cx z) (h : oG p f = some r) (hx : VR cx z p x) (k : ∀ a n c, f a n c = some r → RV cx z (.rng a n c) x → T) : T := by
  cases p with
  | rng a n c => exact k a n c h (hx.rv k')
  | _ => exact nn h
theorem sL_el {st : Store} {n : Nat} {f : List PV → Option α} (h : sL st n f = some r) (k : ∀ xs, st[n]? = some (.list xs) → f xs = some r → T) : T := by
  unfold sL at h
  cases hp : st[n]? with
  | none => rw [hp] at h; exact nn h
  | some p =>
    rw [hp] at h
    cases p with
    | list xs => exact k xs hp h
    | _ => exact nn h
theorem sT_el {st : Store} {n : Nat} {f : List PV → Option α} (h : sT st n f = some r) (k : ∀ xs, st[n]? = some (.iter xs) → f xs = some r → T) : T := by
  unfold sT at h
  cases hp : st[n]? with
  | none => rw [hp] at h; exact nn h
  | some p =>
    rw [hp] at h
    cases p with
    | iter xs => exact k xs hp h
    | _ => exact nn h
theorem sS_el {st : Store} {n : Nat} {f : List Int → Option α} (h : sS st n f = some r) (k : ∀ xs, st[n]? = some (.set xs) → f xs = some r → T) : T := by
  unfold sS at h
  cases hp : st[n]? with
  | none => rw [hp] at h; exact nn h
  | some p =>
    rw [hp] at h
    cases p with
    | set xs => exact k xs hp h
    | _ => exact nn h
theorem oO_el {x : Option β} {f : β → Option α} (h : oO x f = some r) (k : ∀ a, x = some a → f a = some r → T) : T := by
  cases x with
  | none => exact nn h
  | some a => exact k a rfl h
theorem oC_el {l : List β} {f : β → List β → Option α} (h : oC l f = some r) (k : ∀ a t, l = a :: t → f a t = some r → T) : T := by
  cases l with
  | nil => exact nn h
  | cons a t => exact k a t rfl h
end
section
variable {args : List PV} {vals : List Value} {v : PV} {st' : Store} {n : Nat} (k : OkZ cx z) (hz : s.heap = z.h) (hA : ArOk A n) (ha : VRs cx z args vals)
include k hz hA ha
theorem bi_len (h : pbi .len args z.st = some (v, st')) : Runs cx A (call (.builtin "len") vals) z v st' s := by
  refine a1_vr (P := fun vals => Runs cx A (call (.builtin "len") vals) z v st' s) h ha fun p x h hx => ?_
  have hr := hx.rd k
  generalize hp : rd z.st p = q at h hr
  cases q with
  | str l =>
    refine rbs h fun hc => ?_
    obtain ⟨s1, t, rfl, rfl⟩ := hr
    rw [← str_len] at hc ⊢
    exact .int k hz fun E Q hQ => PyProof.Rows.len_str (lim_not (dt hc)) (hQ _ _)
  | list xs =>
    refine rbs h fun hc => ?_
    obtain ⟨a, m, items, rfl, e1, v1⟩ := hr
    have hl : xs.length = items.size := v1.length
    rw [hl] at hc ⊢
    exact .int k hz fun E Q hQ => Calls.call_len_list (lst_at hz e1) (Int.not_le.mp (lim_not (dt hc))) (hQ _ _)
  | ref m =>
    refine sS_el h fun xs hs h => rbs h fun hc => ?_
    obtain ⟨a, rfl, hσ⟩ := hr
    obtain ⟨a', ha', _, _, o, es, ep, t, ho, hex, hd, _, _, _, hf, hsz⟩ := k.obj m _ hs nofun
    cases Option.some.inj (hσ.symm.trans ha')
    rw [← hsz] at hc ⊢
    exact .int k hz fun E Q hQ => call_len_set (a := a) (by rw [hz]; exact ho) hex hd hf (Int.not_le.mp (lim_not (dt hc))) (hQ _ _)
  | _ => exact nn h
theorem bi_min (h : pbi .min args z.st = some (v, st')) : Runs cx A (call (.builtin "min") vals) z v st' s := by
  cases args with
  | nil => exact nn h
  | cons p r =>
    refine ha.cons_el (C := fun vals => Runs cx A (call (.builtin "min") vals) z v st' s) fun x us hx hs => ?_
    cases r with
    | nil =>
      refine hs.nil_el (C := fun us => Runs cx A (call (.builtin "min") (x :: us)) z v st' s) ?_
      refine oL_rv h (hx.rd k) fun xs h hr => oO_el h fun l hi h => oC_el h fun i r hl h => rs h ?_
      subst hl
      obtain ⟨a, m, items, rfl, e1, v1⟩ := hr
      refine .grow k hz fun E Q hQ => min_keep hA.hh (lst_arr (lst_at hz e1)) (intsOf_are hi v1) (Nat.succ_pos _) fun h' M t tk hk h1 h2 => hQ _ h' tk hk ?_
      obtain ⟨g1, g2⟩ := minL_spec i r
      cases Int.le_antisymm (h2 _ g1) (g2 _ h1)
      exact .int _ _
    | cons q r =>
      refine hs.cons_el (C := fun us => Runs cx A (call (.builtin "min") (x :: us)) z v st' s) fun y us hy hs => ?_
      refine a0_vr (P := fun us => Runs cx A (call (.builtin "min") (x :: y :: us)) z v st' s) h hs fun h => ?_
      refine oI_vr (R := fun x => Runs cx A (call (.builtin "min") [x, y]) z v st' s) h hx fun a t h => oI_vr (R := fun y => Runs cx A (call (.builtin "min") [.int a t, y]) z v st' s) h hy fun b u h => rs h ?_
      refine .grow k hz fun E Q hQ => min_two_ints hA.hh fun h' tk hk => hQ _ h' tk hk ?_
      by_cases hab : b < a
      · rw [if_pos hab, Int.min_eq_right (Int.le_of_lt hab)]; exact .int _ _
      · rw [if_neg hab, Int.min_eq_left (Int.not_lt.mp hab)]; exact .int _ _
theorem bi_max (h : pbi .max args z.st = some (v, st')) : Runs cx A (call (.builtin "max") vals) z v st' s := by
  cases args with
  | nil => exact nn h
  | cons p r =>
    refine ha.cons_el (C := fun vals => Runs cx A (call (.builtin "max") vals) z v st' s) fun x us hx hs => ?_
    cases r with
    | nil =>
      refine hs.nil_el (C := fun us => Runs cx A (call (.builtin "max") (x :: us)) z v st' s) ?_
      refine oL_rv h (hx.rd k) fun xs h hr => oO_el h fun l hi h => oC_el h fun i r hl h => rs h ?_
      subst hl
      obtain ⟨a, m, items, rfl, e1, v1⟩ := hr
      refine .grow k hz fun E Q hQ => max_keep hA.hh (lst_arr (lst_at hz e1)) (intsOf_are hi v1) (Nat.succ_pos _) fun h' M t tk hk h1 h2 => hQ _ h' tk hk ?_
      obtain ⟨g1, g2⟩ := maxL_spec i r
      cases Int.le_antisymm (g2 _ h1) (h2 _ g1)
      exact .int _ _
    | cons q r =>
      refine hs.cons_el (C := fun us => Runs cx A (call (.builtin "max") (x :: us)) z v st' s) fun y us hy hs => ?_
      refine a0_vr (P := fun us => Runs cx A (call (.builtin "max") (x :: y :: us)) z v st' s) h hs fun h => ?_
      refine oI_vr (R := fun x => Runs cx A (call (.builtin "max") [x, y]) z v st' s) h hx fun a t h => oI_vr (R := fun y => Runs cx A (call (.builtin "max") [.int a t, y]) z v st' s) h hy fun b u h => rs h ?_
      refine .grow k hz fun E Q hQ => max_two_ints hA.hh fun h' tk hk => hQ _ h' tk hk ?_
      by_cases hab : b > a
      · rw [if_pos hab, Int.max_eq_right (Int.le_of_lt hab)]; exact .int _ _
      · rw [if_neg hab, Int.max_eq_left (Int.not_lt.mp hab)]; exact .int _ _
theorem bi_sum (h : pbi .sum args z.st = some (v, st')) : Runs cx A (call (.builtin "sum") vals) z v st' s := by
  refine a1_vr (P := fun vals => Runs cx A (call (.builtin "sum") vals) z v st' s) h ha fun p x h hx => oL_rv h (hx.rd k) fun xs h hr => oO_el h fun ns hi h => rbs h fun _ => ?_
  obtain ⟨a, m, items, rfl, e1, v1⟩ := hr
  exact .grow k hz fun E Q hQ => sum_keep hA.hh (lst_arr (lst_at hz e1)) (intsOf_are hi v1) fun h' tk t hk => hQ _ h' tk hk (sumL_eq ns ▸ .int _ _)
omit hA in
theorem bi_range (h : pbi .range args z.st = some (v, st')) : Runs cx A (call (.type "range") vals) z v st' s := by
  cases args with
  | nil => exact nn h
  | cons p r =>
    refine ha.cons_el (C := fun vals => Runs cx A (call (.type "range") vals) z v st' s) fun x us hx hs => ?_
    cases r with
    | nil =>
      refine hs.nil_el (C := fun us => Runs cx A (call (.type "range") (x :: us)) z v st' s) ?_
      exact oI_vr (R := fun x => Runs cx A (call (.type "range") [x]) z v st' s) h hx fun i t h => rng_sound k hz h fun _ _ E Q hQ => call_range_1 (hQ _ _ _ _)
    | cons q r =>
      refine hs.cons_el (C := fun us => Runs cx A (call (.type "range") (x :: us)) z v st' s) fun y us hy hs => ?_
      refine a1_vr (P := fun us => Runs cx A (call (.type "range") (x :: y :: us)) z v st' s) h hs fun w u h hu => ?_
      exact oI_vr (R := fun x => Runs cx A (call (.type "range") [x, y, u]) z v st' s) h hx fun a t h => oI_vr (R := fun y => Runs cx A (call (.type "range") [.int a t, y, u]) z v st' s) h hy fun b t' h => oI_vr (R := fun u => Runs cx A (call (.type "range") [.int a t, .int b t', u]) z v st' s) h hu fun c t'' h => rng_sound k hz h fun h1 h2 E Q hQ => call_range_3 (Int.ne_of_gt h2) (hQ _ _ _ _) (.inl (PyProof.noPylong_of_log2 (small_log h1)))
theorem bi_list (h : pbi .list args z.st = some (v, st')) : Runs cx A (call (.type "list") vals) z v st' s := by
  refine a1_vr (P := fun vals => Runs cx A (call (.type "list") vals) z v st' s) h ha fun p x h hx => oG_rv k h hx fun a m c h hx => rbs h fun hc => ?_
  obtain ⟨ad, hi, t, u, w, rfl, e1, h1, h2⟩ := hx
  intro E Q hQ
  refine call_list_range hA.hh (hz ▸ e1) h1 h2 (lim_le (dt hc)) fun h' tk acc' c' hk ho hI => ?_
  have hn := none_at_size hz
  rw [hz] at hk
  refine hQ _ { z with σ := z.σ ++ [s.heap.objs.size], st := z.st ++ [.list (rngItems a m c)], h := h' } tk (k.store hk hn ho ⟨_, acc', ho, ⟨c', rfl⟩, ?_⟩) (k.store_ext hk hn) rfl (.ref ?_)
  · refine VRs.of_get (cx := cx) (z := z) ((rngItems_length ..).trans hI.1.symm) fun j x v h1 h2 => ?_
    have hj : j < m := rngItems_length m a c ▸ (List.getElem?_eq_some_iff.mp h1).1
    cases Option.some.inj ((rngItems_get m a c j hj).symm.trans h1)
    obtain ⟨t', rfl⟩ := hI.2 j v (getElem_arr h2)
    exact .int _ _
  · rw [← k.len]; exact List.getElem?_concat_length
omit hA in
theorem bi_ord (h : pbi .ord args z.st = some (v, st')) : Runs cx A (call (.builtin "ord") vals) z v st' s := by
  refine a1_vr (P := fun vals => Runs cx A (call (.builtin "ord") vals) z v st' s) h ha fun p x h hx => oS_vr (R := fun x => Runs cx A (call (.builtin "ord") [x]) z v st' s) h hx fun y t h => oC_el h fun c r hy h => ?_
  cases r with
  | nil =>
    obtain rfl : y = ⟨#[c]⟩ := str_ext hy
    exact rs h (.int k hz fun E Q hQ => P.ord_of_char (hQ _ _))
  | cons => exact nn h
omit hA in
theorem bi_chr (h : pbi .chr args z.st = some (v, st')) : Runs cx A (call (.builtin "chr") vals) z v st' s := by
  refine a1_vr (P := fun vals => Runs cx A (call (.builtin "chr") vals) z v st' s) h ha fun p x h hx => oI_vr (R := fun x => Runs cx A (call (.builtin "chr") [x]) z v st' s) h hx fun i t h => rbs h fun hc => an hc fun h1 h2 => ?_
  exact .str (y := ⟨#[i.toNat]⟩) k hz rfl fun E Q hQ => P.chr_of_int (Bool.or_eq_false_iff.mpr ⟨decide_eq_false (Int.not_lt.mpr (dt h1)), decide_eq_false (Int.not_lt.mpr (dt h2))⟩) (hQ _ _)
omit hA in
theorem bi_iter (h : pbi .iter args z.st = some (v, st')) : Runs cx A (call (.builtin "iter") vals) z v st' s := by
  refine a1_vr (P := fun vals => Runs cx A (call (.builtin "iter") vals) z v st' s) h ha fun p x h hx => oR_rv k h hx fun m h hx => sL_el h fun xs hp h => rs h ?_
  obtain ⟨l, rfl, hσ⟩ := hx
  obtain ⟨l', hl', hB, _, o, items, ho, hlo, hv⟩ := k.obj m _ hp nofun
  cases Option.some.inj (hσ.symm.trans hl')
  intro E Q hQ
  have hn := none_at_size hz
  have hp0 : (PObj.list xs) ≠ .dead := nofun
  have k1 := k.die hp hp0 hσ ho
  have x1 := k.die_ext (o := o) hp hp0 hσ
  refine call_iter_list (hlo.isList (by rw [hz]; exact ho)) ?_
  have hk : ∀ b x, z.h.get? b = some x → (s.heap.push { cls := .type "list_iterator", data := .fields #[.ref l, .int 0 0] }).get? b = some x := fun b x e => by rw [hz]; exact Heap.get?_push_of_some _ e
  have hnew : (s.heap.push { cls := .type "list_iterator", data := .fields #[.ref l, .int 0 0] }).get? s.heap.objs.size = some { cls := .type "list_iterator", data := .fields #[.ref l, .int 0 0] } := Heap.get?_push_size _ rfl
  refine hQ _ { σ := z.σ ++ [s.heap.objs.size], B := addB z.B l o, st := z.st.set m .dead ++ [.iter xs], h := s.heap.push { cls := .type "list_iterator", data := .fields #[.ref l, .int 0 0] } } s.toks
    (k1.store hk hn hnew ⟨l, 0, o, items, ⟨_, hnew, rfl, rfl⟩, addB_self _ _ _, hlo, ?_⟩) (x1.trans (k1.store_ext hk hn)) rfl (.ref ?_)
  · rw [List.drop_zero]; exact hv.ext x1
  · rw [← k.len]; exact List.getElem?_concat_length
omit hA in
theorem bi_next (h : pbi .next args z.st = some (v, st')) : Runs cx A (call (.builtin "next") vals) z v st' s := by
  refine a1_vr (P := fun vals => Runs cx A (call (.builtin "next") vals) z v st' s) h ha fun p x h hx => oR_rv k h hx fun m h hx => sT_el h fun l hp h => oC_el h fun q r hl h => rs h ?_
  subst hl
  obtain ⟨it, rfl, hσ⟩ := hx
  obtain ⟨it', hit', hB, _, l, i, o, items, hit, hBl, hlo, hv⟩ := k.obj m _ hp nofun
  cases Option.some.inj (hσ.symm.trans hit')
  have hp0 : (PObj.iter (q :: r)) ≠ .dead := nofun
  intro E Q hQ
  obtain ⟨y, ys, hd, h1, h2⟩ : ∃ y ys, items.toList.drop i = y :: ys ∧ VR cx z q y ∧ VRs cx z r ys := hv.cons_el (C := fun d => ∃ y ys, d = y :: ys ∧ VR cx z q y ∧ VRs cx z r ys) fun y ys h1 h2 => ⟨y, ys, rfl, h1, h2⟩
  have hy : items[i]? = some y := getElem_arr (List.head?_drop.symm.trans (congrArg List.head? hd))
  have hys : items.toList.drop (i + 1) = ys := List.tail_drop.symm.trans (congrArg List.tail hd)
  have hlh : z.h.get? l = some o := k.sub _ _ hBl
  refine call_next_list (by rw [hz]; exact hit) (hlo.isList (by rw [hz]; exact hlh)) hy fun h' hit' hs => ?_
  rw [hz] at hs
  obtain ⟨oi, hoi, _⟩ := id hit'
  exact hQ _ { z with st := z.st.set m (.iter r), h := h' } s.toks (k.change hp hp0 hσ hs.extBut ⟨oi, hoi⟩ ⟨l, i + 1, o, items, hit', hBl, hlo, hys ▸ h2⟩) (k.change_ext hp hp0 hσ hs.extBut) rfl h1
omit hA in
theorem bi_set (h : pbi .set args z.st = some (v, st')) : Runs cx A (call (.type "set") vals) z v st' s := by
  refine a0_vr (P := fun vals => Runs cx A (call (.type "set") vals) z v st' s) h ha fun h => rs h ?_
  intro E Q hQ
  refine call_set_0 fun led => ?_
  have hn := none_at_size hz
  have hk : ∀ b x, z.h.get? b = some x → (s.heap.push { cls := .type "set", dict := none, data := .set #[] 0 (.fresh 0 0 led) }).get? b = some x := fun b x e => by rw [hz]; exact Heap.get?_push_of_some _ e
  refine hQ _ { z with σ := z.σ ++ [s.heap.objs.size], st := z.st ++ [.set []], h := s.heap.push { cls := .type "set", dict := none, data := .set #[] 0 (.fresh 0 0 led) } } s.toks
    (k.store hk hn (Heap.get?_push_size _ rfl) ?_) (k.store_ext hk hn) rfl (.ref (by rw [← k.len]; exact List.getElem?_concat_length))
  exact (PyProof.Rows.intSetOf_fresh led cx.prog cx.w).setOf (Heap.get?_push_size _ rfl) (by decide)
theorem bi_sound {b : BI} (h : pbi b args z.st = some (v, st')) (hb : notZip b = true) : Runs cx A (call (biVal b) vals) z v st' s := by
  cases b with
  | len => exact bi_len k hz hA ha h
  | min => exact bi_min k hz hA ha h
  | sum => exact bi_sum k hz hA ha h
  | range => exact bi_range k hz ha h
  | list => exact bi_list k hz hA ha h
  | ord => exact bi_ord k hz ha h
  | chr => exact bi_chr k hz ha h
  | iter => exact bi_iter k hz ha h
  | next => exact bi_next k hz ha h
  | max => exact bi_max k hz hA ha h
  | set => exact bi_set k hz ha h
  | zip => exact ff hb
end
end
end Mine
end
section
namespace Mine
open PySem
noncomputable def meId : Me → String
  | .lower => "str.lower"
  | .split => "str.split"
  | .join => "str.join"
  | .append => "list.append"
  | .extend => "list.extend"
  | .insert => "list.insert"
  | .index => "list.index"
  | .get => "dict.get"
  | .add => "set.add"
section
variable {cx : Cx} {z : Z} {A : Around} {s : Shared}
theorem store_list (k : OkZ cx z) {m : Nat} {xs : List PV} {x : Value} (hp : z.st[m]? = some (.list xs)) (hx : RV cx z (.ref m) x) :
    ∃ a n items, x = .ref a ∧ z.σ[m]? = some a ∧ z.h.get? a = some { cls := .type "list", dict := none, data := .seq items n, slots := #[] } ∧ VRs cx z xs items.toList := by
  obtain ⟨a, rfl, hσ⟩ := hx
  obtain ⟨a', ha', _, _, o, items, ho, ⟨n, rfl⟩, hv⟩ := k.obj m _ hp nofun
  cases Option.some.inj (hσ.symm.trans ha')
  exact ⟨a, n, items, rfl, hσ, ho, hv⟩
theorem Runs.upd {t : Sem Value} (k : OkZ cx z) (hz : s.heap = z.h) {m : Nat} {xs ys : List PV} {a : Addr} {n : Nat} {items : Array Value} {f : Array Value → Array Value} {v : PV} {x : Value}
    (hp : z.st[m]? = some (.list xs)) (hσ : z.σ[m]? = some a) (ho : z.h.get? a = some { cls := .type "list", dict := none, data := .seq items n, slots := #[] })
    (hy : VRs cx z ys (f items).toList) (hv : VR cx z v x)
    (h : ∀ (E : Value → Shared → Prop) (Q : Value → Shared → Prop), (∀ tk, Q x { s with heap := s.heap.update a (Obj.mapSeq f), toks := tk }) → wpAny (model cx.prog cx.w) A t Q E s) :
    Runs cx A t z v (z.st.set m (.list ys)) s := fun E Q hQ => h E Q fun tk => by
  have hu := IsL.update (show IsL s.heap a items n by rw [hz]; exact ho) f
  have hs : Heap.ExtBut a z.h (s.heap.update a (Obj.mapSeq f)) := by rw [hz]; exact (Heap.SameBut.update ..).extBut
  have hp0 : PObj.list xs ≠ .dead := nofun
  exact hQ x { z with st := z.st.set m (.list ys), h := s.heap.update a (Obj.mapSeq f) } tk (k.change hp hp0 hσ hs ⟨_, hu⟩ ⟨_, f items, hu, ⟨_, rfl⟩, hy⟩) (k.change_ext hp hp0 hσ hs) rfl hv
theorem lowC_eq (c : Nat) : lowC c = PyProof.Rows.lo1 c := by
  unfold lowC PyProof.Rows.lo1
  by_cases h : 65 ≤ c ∧ c ≤ 90
  · rw [if_pos h, Nat.ble_eq_true_of_le h.1, Nat.ble_eq_true_of_le h.2]; rfl
  · have e : (Nat.ble 65 c && Nat.ble c 90) = false := Bool.eq_false_iff.mpr fun e => an e fun h1 h2 => h ⟨Nat.le_of_ble_eq_true h1, Nat.le_of_ble_eq_true h2⟩
    rw [if_neg h, e]; rfl
theorem lower_sound {y : Str} {t : Tok} {r : List Nat} (k : OkZ cx z) (hz : s.heap = z.h) (h : plower y.cps.toList = some r) : Runs cx A (call (.builtin "str.lower") [.str y t]) z (.str r) z.st s := by
  obtain ⟨hc, rfl⟩ := bif_some h
  refine an hc fun ha hb => ?_
  have hL : Txt.lower y = ⟨y.cps.map PyProof.Rows.lo1⟩ := PyProof.Rows.lower_ascii fun c hc => dt (List.all_eq_true.mp ha c hc)
  have e : (Txt.lower y).cps.toList = y.cps.toList.map lowC := by
    rw [hL, Array.toList_map]
    exact List.map_congr_left fun c _ => (lowC_eq c).symm
  have hlen : (Txt.lower y).cps.size = y.cps.toList.length := (congrArg List.length e).trans (List.length_map ..)
  have hle : (Txt.lower y).cps.size ≤ sizeLine := hlen ▸ lim_le (dt hb)
  exact .str (y := Txt.lower y) k hz e fun E Q hQ => call_gives F.slot_str_lower (typeIs_str s y t) F.entry_str_lower (F.args_str_lower_1 _) (gives_str_lower y t (decide_eq_false (Nat.not_lt.mpr hle))) ⟨hle, hQ _ _⟩
end
end Mine
end
section
namespace Mine
open PySem
section
variable {cx : Cx} {z : Z} {A : Around} {s : Shared}
theorem isList_typeIs {l : Addr} {n : Nat} {items : Array Value} (h : s.heap.get? l = some { cls := .type "list", dict := none, data := .seq items n, slots := #[] }) : s.TypeIs (.ref l) "list" := ⟨_, h, rfl⟩
theorem vrs_size {xs : List PV} {items : Array Value} (h : VRs cx z xs items.toList) : xs.length = items.size := h.length
theorem append_sound {m : Nat} {xs : List PV} {v : PV} {x y : Value} (k : OkZ cx z) (hz : s.heap = z.h) (hp : z.st[m]? = some (.list xs)) (hx : RV cx z (.ref m) x) (hy : VR cx z v y) (hl : xs.length ≤ lim) :
    Runs cx A (call (.builtin "list.append") [x, y]) z .none (z.st.set m (.list (xs ++ [v]))) s := by
  obtain ⟨a, n, items, rfl, hσ, ho, hv⟩ := store_list k hp hx
  have ho' := ho; rw [← hz] at ho'
  exact Runs.upd (f := fun its => its.push y) k hz hp hσ ho (by rw [Array.toList_push]; exact hv.append (.cons hy .nil)) .none fun E Q hQ =>
    call_meets F.slot_list_append (isList_typeIs ho') F.entry_list_append (F.args_list_append_2 _ _) (list_append a items n y (lim_le (vrs_size hv ▸ hl))) ⟨ho', hQ _⟩
theorem extend_sound {m : Nat} {xs ys : List PV} {x y : Value} (k : OkZ cx z) (hz : s.heap = z.h) (hp : z.st[m]? = some (.list xs)) (hx : RV cx z (.ref m) x) (hy : RV cx z (.list ys) y) (hl : xs.length + ys.length ≤ lim) :
    Runs cx A (call (.builtin "list.extend") [x, y]) z .none (z.st.set m (.list (xs ++ ys))) s := by
  obtain ⟨a, n, items, rfl, hσ, ho, hv⟩ := store_list k hp hx
  obtain ⟨b, n2, items2, rfl, ho2, hv2⟩ := hy
  have ho' := ho; rw [← hz] at ho'
  have ho2' := ho2; rw [← hz] at ho2'
  rw [vrs_size hv, vrs_size hv2] at hl
  have h1 : items.size + items2.size ≤ sizeLine := lim_le hl
  refine Runs.upd (f := fun its => its ++ items2) k hz hp hσ ho (by rw [Array.toList_append]; exact hv.append hv2) .none fun E Q hQ => ?_
  exact call_meets F.slot_list_extend (isList_typeIs ho') F.entry_list_extend (F.args_list_extend_2 _ _) (AutoSeq1.list_extend_list_list_0 a items n b items2 n2 (by
    rw [show Builtin.List.listTooLong (items.size + items2.size) = false from decide_eq_false (Nat.not_lt.mpr h1)]; rw [Bool.and_false]; exact Bool.false_ne_true) (Nat.le_trans (Nat.le_add_right ..) h1) (Nat.le_trans h1 (Nat.le_succ _))) ⟨ho', ho2', hQ _⟩
theorem insert_sound {m : Nat} {xs : List PV} {v : PV} {x y : Value} {t : Tok} (k : OkZ cx z) (hz : s.heap = z.h) (hp : z.st[m]? = some (.list xs)) (hx : RV cx z (.ref m) x) (hy : VR cx z v y) (hl : xs.length ≤ lim) :
    Runs cx A (call (.builtin "list.insert") [x, .int 0 t, y]) z .none (z.st.set m (.list (v :: xs))) s := by
  obtain ⟨a, n, items, rfl, hσ, ho, hv⟩ := store_list k hp hx
  have ho' := ho; rw [← hz] at ho'
  refine Runs.upd (f := fun xs => have k := if (0 : Int) < 0 then ((0 : Int) + (xs.size : Int)).toNat else min (0 : Int).toNat xs.size; (xs.extract 0 k).push y ++ xs.extract k) k hz hp hσ ho ?_ .none fun E Q hQ =>
    call_meets F.slot_list_insert (isList_typeIs ho') F.entry_list_insert (F.args_list_insert_3 _ _ _) (AutoSeq1.list_insert_list_int_val_1 a items n 0 t y (by decide) (lim_le (vrs_size hv ▸ hl))) ⟨ho', hQ _⟩
  have e0 : (if (0 : Int) < 0 then ((0 : Int) + (items.size : Int)).toNat else min (0 : Int).toNat items.size) = 0 := (if_neg (by decide)).trans (Nat.zero_min _)
  show VRs cx z (v :: xs) ((items.extract 0 (if (0 : Int) < 0 then ((0 : Int) + (items.size : Int)).toNat else min (0 : Int).toNat items.size)).push y ++ items.extract (if (0 : Int) < 0 then ((0 : Int) + (items.size : Int)).toNat else min (0 : Int).toNat items.size)).toList
  rw [e0, show ((items.extract 0 0).push y ++ items.extract 0).toList = y :: items.toList by simp]
  exact .cons hy hv
theorem get_sound {k' : PV} {es : List (PV × PV)} {r : Option PV} {x y : Value} (k : OkZ cx z) (hz : s.heap = z.h) (hx : RV cx z (.dict es) x) (hy : VR cx z k' y) (h : assoc k' es = some r) :
    Runs cx A (call (.builtin "dict.get") [x, y]) z (r.getD .none) z.st s := by
  obtain ⟨d, o, rfl, ho, hd, hsm⟩ := hx
  have ho' := ho; rw [← hz] at ho'
  obtain ⟨K, inst, knd, kk, f, h1, h2, h3⟩ := dict_look hd (hy.rv k) h
  obtain ⟨hm, hT⟩ := h2 _ d ho'
  have go : ∀ {u : Value}, VR cx z (r.getD .none) u → (f kk).getD .none = u → Runs cx A (call (.builtin "dict.get") [.ref d, y]) z (r.getD .none) z.st s := fun {u} hv e =>
    .val k hz hv fun E Q hQ => call_meetsIn F.slot_dict_get hT F.entry_dict_get (F.args_dict_get_2 _ _) (meets_dict_get knd d h1 hsm) ⟨f, hm, by
      show Q _ _; rw [e]; exact hQ _⟩
  rcases h3 with ⟨rfl, e⟩ | ⟨v, x, rfl, e, hF⟩
  · exact go (u := .none) .none (by rw [e]; rfl)
  · exact go (u := x) (FRel.vr hF) (by rw [e]; rfl)
theorem getD_sound {k' d' : PV} {es : List (PV × PV)} {r : Option PV} {x y w : Value} (k : OkZ cx z) (hz : s.heap = z.h) (hx : RV cx z (.dict es) x) (hy : VR cx z k' y) (hw : VR cx z d' w) (h : assoc k' es = some r) :
    Runs cx A (call (.builtin "dict.get") [x, y, w]) z (r.getD d') z.st s := by
  obtain ⟨d, o, rfl, ho, hd, hsm⟩ := hx
  have ho' := ho; rw [← hz] at ho'
  obtain ⟨K, inst, knd, kk, f, h1, h2, h3⟩ := dict_look hd (hy.rv k) h
  obtain ⟨hm, hT⟩ := h2 _ d ho'
  have go : ∀ {u : Value}, VR cx z (r.getD d') u → (f kk).getD w = u → Runs cx A (call (.builtin "dict.get") [.ref d, y, w]) z (r.getD d') z.st s := fun {u} hv e =>
    .val k hz hv fun E Q hQ => call_meetsIn F.slot_dict_get hT F.entry_dict_get (F.args_dict_get_3 _ _ _) (meets_dict_get_default knd d h1 hsm w) ⟨f, hm, by
      show Q _ _; rw [e]; exact hQ _⟩
  rcases h3 with ⟨rfl, e⟩ | ⟨v, x, rfl, e, hF⟩
  · exact go hw (by rw [e]; rfl)
  · exact go (u := x) (FRel.vr hF) (by rw [e]; rfl)
theorem add_sound {m : Nat} {xs : List Int} {i : Int} {x : Value} {t : Tok} (k : OkZ cx z) (hz : s.heap = z.h) (hp : z.st[m]? = some (.set xs)) (hx : RV cx z (.ref m) x) (hl : xs.length ≤ 4000) (hi : small i = true) :
    Runs cx A (call (.builtin "set.add") [x, .int i t]) z .none (z.st.set m (.set (bif xs.contains i then xs else xs ++ [i]))) s := by
  obtain ⟨a, rfl, hσ⟩ := hx
  obtain ⟨a', ha', hB, ⟨o, ho⟩, hset⟩ := k.obj m _ hp nofun
  cases Option.some.inj (hσ.symm.trans ha')
  intro E Q hQ
  have hset' : s.heap.SetOf (intKind cx.prog cx.w) a (fun k => xs.contains k) xs.length := by rw [hz]; exact hset
  refine call_set_add (knd := intKind cx.prog cx.w) (k := i) (by show (i == i) = true; simp) rfl hset' (by unfold scanBound; omega) fun h' hs hS => ?_
  rw [hz] at hs
  have hp0 : PObj.set xs ≠ .dead := by simp
  have hS' : h'.SetOf (intKind cx.prog cx.w) a (fun k => (bif xs.contains i then xs else xs ++ [i]).contains k) (bif xs.contains i then xs else xs ++ [i]).length := by
    cases hc : xs.contains i with
    | true =>
      simp only [hc, if_true] at hS
      refine cast ?_ hS
      congr 1
      funext k'
      simp only [cond_true]
      by_cases hk : k' = i
      · subst hk; simpa using hc
      · simp [hk]
    | false =>
      simp only [hc, Bool.false_eq_true, if_false] at hS
      refine cast ?_ hS
      congr 1
      · funext k'
        simp only [cond_false, List.contains_eq_mem, List.mem_append, List.mem_singleton, Bool.decide_or]
      · simp
  obtain ⟨o', ho'⟩ : ∃ o, h'.get? a = some o := let ⟨o, _, _, _, ho, _⟩ := hS'; ⟨o, ho⟩
  exact hQ .none { z with st := z.st.set m (.set (bif xs.contains i then xs else xs ++ [i])), h := h' } _ (k.change hp hp0 hσ hs.extBut ⟨o', ho'⟩ hS') (k.change_ext hp hp0 hσ hs.extBut) rfl .none
end
end Mine
end
section
namespace Mine
open PySem
theorem gluedEmpty (l : List Str) : (Builtin.Str.glued (PySem.Str.ofString "") l).cps.toList = (l.map (·.cps.toList)).flatten := by
  have key : ∀ (l : List Str) (acc : Array Nat), (l.foldl (fun acc p => acc ++ (PySem.Str.ofString "").cps ++ p.cps) acc).toList = acc.toList ++ (l.map (·.cps.toList)).flatten := by
    intro l
    induction l with
    | nil => exact fun acc => (List.append_nil _).symm
    | cons p r ih =>
      intro acc
      rw [List.foldl_cons, ih, Array.toList_append, Array.toList_append]
      show (acc.toList ++ [] ++ p.cps.toList) ++ _ = acc.toList ++ (p.cps.toList ++ _)
      rw [List.append_nil, List.append_assoc]
  cases l with
  | nil => rfl
  | cons p r => exact key r p.cps
section
variable {cx : Cx} {z : Z} {A : Around} {s : Shared}
theorem strsOf_are {xs : List PV} : ∀ {vs : List Value} {l : List (List Nat)}, strsOf xs = some l → VRs cx z xs vs → ∃ ps : List (Str × Tok), vs = strValues ps ∧ ps.map (·.1.cps.toList) = l := by
  induction xs with
  | nil => exact fun {vs l} h hv => hv.nil_el (C := fun vs => ∃ ps : List (Str × Tok), vs = strValues ps ∧ ps.map (·.1.cps.toList) = l) ⟨[], rfl, Option.some.inj h⟩
  | cons x xs ih =>
    intro vs l h hv
    refine hv.cons_el (C := fun vs => ∃ ps : List (Str × Tok), vs = strValues ps ∧ ps.map (·.1.cps.toList) = l) fun a us ha hs => ?_
    cases x with
    | str i => cases ha with
      | str _ y t e =>
        obtain ⟨m, hm, rfl⟩ := Option.map_eq_some_iff.mp h
        obtain ⟨ps, rfl, rfl⟩ := ih hm hs
        exact ⟨(y, t) :: ps, rfl, e ▸ rfl⟩
    | _ => exact nn h
theorem foldl_len (ps : List Str) : ∀ acc : Nat, ps.foldl (fun a p => a + p.length + 0) acc = acc + (ps.map (·.cps.toList)).flatten.length := by
  induction ps with
  | nil => exact fun _ => rfl
  | cons p r ih =>
    intro acc
    rw [List.foldl_cons, ih, List.map_cons, List.flatten_cons, List.length_append, str_len, Nat.add_zero, Nat.add_assoc]
theorem join_sound {l : List (List Nat)} {xs : List PV} {x y : Value} (k : OkZ cx z) (hz : s.heap = z.h) (hx : RV cx z (.str []) x) (hy : RV cx z (.list xs) y) (hl : strsOf xs = some l) (hle : l.flatten.length ≤ lim) :
    Runs cx A (call (.builtin "str.join") [x, y]) z (.str l.flatten) z.st s := by
  obtain ⟨sep, t, rfl, he⟩ := hx
  obtain rfl : sep = PySem.Str.ofString "" := str_ext he
  obtain ⟨a, n, items, rfl, ho, hv⟩ := hy
  obtain ⟨ps, e, rfl⟩ := strsOf_are hl hv
  have ho' := ho; rw [← hz] at ho'
  have hL : s.heap.IsList a (strValues ps).toArray := by
    rw [← e]; exact lst_arr (lst_at hz ho)
  have hfl : (List.foldl (fun (x1 : Nat) (x2 : Str) => x1 + x2.length + (PySem.Str.ofString "").length) 0 (ps.map (·.1))) = (ps.map (·.1.cps.toList)).flatten.length := by
    have := foldl_len (ps.map (·.1)) 0
    rw [List.map_map, Nat.zero_add] at this
    exact this
  have hjm : Builtin.Str.tooLong ((ps.map (·.1)).toArray.foldl (· + ·.length + (PySem.Str.ofString "").length) 0) = false := by
    refine decide_eq_false (Nat.not_lt.mpr ?_)
    rw [List.foldl_toArray, hfl]; exact lim_le hle
  have base : ∀ {v : PV} {Q E : Value → Shared → Prop}, (joinMade (PySem.Str.ofString "") ps).post Q s → wpAny (model cx.prog cx.w) A (call (.builtin "str.join") [.str (PySem.Str.ofString "") t, .ref a]) Q E s := fun {v Q E} h =>
    call_meets F.slot_str_join (typeIs_str s _ t) F.entry_str_join (F.args_str_join_2 _ _) (meets_str_join_list _ t a ps hjm) ⟨hL, h⟩
  have many : joinMade (PySem.Str.ofString "") ps = .str (Builtin.Str.glued (PySem.Str.ofString "") (ps.map (·.1))) → Runs cx A (call (.builtin "str.join") [.str (PySem.Str.ofString "") t, .ref a]) z (.str (ps.map (·.1.cps.toList)).flatten) z.st s := fun ej => by
    have eg : (Builtin.Str.glued (PySem.Str.ofString "") (ps.map (·.1))).cps.toList = (ps.map (·.1.cps.toList)).flatten := by
      rw [gluedEmpty, List.map_map]; rfl
    refine .str (y := Builtin.Str.glued (PySem.Str.ofString "") (ps.map (·.1))) k hz eg fun E Q hQ => base (v := .none) ?_
    rw [ej]
    refine ⟨?_, hQ _ _⟩
    rw [str_len, eg]; exact lim_le hle
  cases ps with
  | nil => exact many rfl
  | cons p r =>
    cases r with
    | nil =>
      refine .val (x := .str p.1 p.2) k hz (.str _ p.1 p.2 (List.append_nil _).symm) fun E Q hQ => base (v := .none) (hQ _)
    | cons q r => exact many rfl
theorem index_at {i : Int} {ns : List Int} : ∀ {vs : List Value} {k : Nat}, idxI i ns = some k → PyProof.Rows.IntsAre vs ns → k < vs.length ∧ ns[k]? = some i ∧ ∀ m, m < k → ∀ a, ns[m]? = some a → a ≠ i := by
  induction ns with
  | nil => exact fun h _ => nn h
  | cons a r ih =>
    intro vs k h hi
    cases hi with
    | cons n u ht =>
      have h : (bif i == a then some 0 else (idxI i r).map (· + 1)) = some k := h
      cases he : i == a with
      | true =>
        rw [he] at h
        cases Option.some.inj h
        exact ⟨Nat.succ_pos _, congrArg some (beq_iff_eq.mp he).symm, fun m hm => absurd hm (Nat.not_lt_zero _)⟩
      | false =>
        rw [he] at h
        obtain ⟨j, hj, rfl⟩ := Option.map_eq_some_iff.mp h
        obtain ⟨h1, h2, h3⟩ := ih hj ht
        refine ⟨Nat.succ_lt_succ h1, h2, fun m hm b hb => ?_⟩
        cases m with
        | zero => exact fun e => beq_eq_false_iff_ne.mp he (e.symm.trans (Option.some.inj hb).symm)
        | succ m => exact h3 m (Nat.lt_of_succ_lt_succ hm) b hb
theorem intsAre_get {ns : List Int} {vs : List Value} (h : PyProof.Rows.IntsAre vs ns) : ∀ {m : Nat} {v : Value}, vs[m]? = some v → ∃ a t, ns[m]? = some a ∧ v = .int a t := by
  induction h with
  | nil => exact fun h => nn h
  | cons n u ht ih =>
    intro m v h
    cases m with
    | zero => exact ⟨n, u, rfl, (Option.some.inj h).symm⟩
    | succ m => exact ih h
theorem index_sound {xs : List PV} {ns : List Int} {i : Int} {j : Nat} {x : Value} {t : Tok} (k : OkZ cx z) (hz : s.heap = z.h) (hx : RV cx z (.list xs) x) (hn : intsOf xs = some ns) (hj : idxI i ns = some j) (hl : xs.length ≤ lim) :
    Runs cx A (call (.builtin "list.index") [x, .int i t]) z (.int j) z.st s := by
  obtain ⟨a, n, items, rfl, ho, hv⟩ := hx
  have hi := intsOf_are hn hv
  obtain ⟨h1, h2, h3⟩ := index_at hj hi
  have ho' := ho; rw [← hz] at ho'
  have at' : ∀ (m : Nat) (hm : m < items.size), ∃ a t, ns[m]? = some a ∧ items[m] = .int a t := fun m hm =>
    intsAre_get hi (by rw [Array.getElem?_toList]; exact Array.getElem?_eq_getElem hm)
  refine .int k hz fun E Q hQ => call_meets F.slot_list_index (isList_typeIs ho') F.entry_list_index (F.args_list_index_2 _ _)
    (MeetsSeq.list_index a items n (.int i t) (fun v => match v with | .int b _ => b == i | _ => false) (fun y hy => ?_) j h1 (by have e := vrs_size hv; have : lim = 100000 := rfl; rw [Array.length_toList] at h1; omega) ?_ ?_) ⟨ho', hQ _ _⟩
  · obtain ⟨m, hm, rfl⟩ := Array.getElem_of_mem hy
    obtain ⟨b, u, _, e⟩ := at' m hm
    rw [e]; exact MeetsSeq.EqGives.int b i u t
  · obtain ⟨b, u, e1, e2⟩ := at' j h1
    rw [e2]; cases Option.some.inj (e1.symm.trans h2); exact beq_self_eq_true _
  · intro m hm hlt
    obtain ⟨b, u, e1, e2⟩ := at' m hm
    rw [e2]; exact beq_eq_false_iff_ne.mpr (h3 m hlt b e1)
theorem strsFrom_are (l : List Str) : ∀ (tk : Nat), VRs cx z (l.map fun y => .str y.cps.toList) (strsFrom tk l) := by
  induction l with
  | nil => exact fun _ => .nil
  | cons y r ih => exact fun tk => .cons (.str _ y _ rfl) (ih _)
theorem split_sound {y : Str} {t : Tok} {r : List (List Nat)} (k : OkZ cx z) (hz : s.heap = z.h) (h : psplit y.cps.toList = some r) :
    Runs cx A (call (.builtin "str.split") [.str y t]) z (.list (r.map .str)) z.st s := by
  unfold psplit at h
  rw [show (⟨y.cps.toList.toArray⟩ : Str) = y from rfl, ← str_len] at h
  cases hc : Builtin.Str.spaceWords y (y.length + 1) == [(0, y.length)] with
  | true => rw [hc] at h; exact nn h
  | false =>
    rw [hc] at h
    obtain ⟨h1, rfl⟩ := bif_some h
    refine an h1 fun h1 h2 => ?_
    have e : List.map PV.str (List.map (fun x : Str => x.cps.toList) (wordsOf y)) = (wordsOf y).map fun y => PV.str y.cps.toList := List.map_map
    refine Runs.newList (items := (strsFrom s.toks (wordsOf y)).toArray) (n := 0) k hz (by rw [e]; exact strsFrom_are _ _) fun E Q hQ => ?_
    refine call_meets F.slot_str_split (typeIs_str s y t) F.entry_str_split (F.args_str_split_1 _) (meets_str_split_space y t (lim_le (dt h1)) (lim_le (dt h2))) ?_
    show (if (Builtin.Str.spaceWords y (y.length + 1) == [(0, y.length)]) = true then _ else _)
    rw [hc, if_neg Bool.false_ne_true]
    exact hQ _
theorem meth_sound {m : Me} {o : PV} {args : List PV} {x : Value} {vals : List Value} {v : PV} {st' : Store} (h : pmeth m o args z.st = some (v, st')) (k : OkZ cx z) (hz : s.heap = z.h) (hx : VR cx z o x) (ha : VRs cx z args vals) :
    Runs cx A (call (.builtin (meId m)) (x :: vals)) z v st' s := by
  cases m with
  | lower => exact a0_vr (P := fun vals => Runs cx A (call (.builtin "str.lower") (x :: vals)) z v st' s) h ha fun h => oS_vr (R := fun x => Runs cx A (call (.builtin "str.lower") [x]) z v st' s) h hx fun y t h => (Option.map_eq_some_iff.mp h).elim fun r h => rs (congrArg some h.2) (lower_sound k hz h.1)
  | split => exact a0_vr (P := fun vals => Runs cx A (call (.builtin "str.split") (x :: vals)) z v st' s) h ha fun h => oS_vr (R := fun x => Runs cx A (call (.builtin "str.split") [x]) z v st' s) h hx fun y t h => (Option.map_eq_some_iff.mp h).elim fun r h => rs (congrArg some h.2) (split_sound k hz h.1)
  | join =>
    refine a1_vr (P := fun vals => Runs cx A (call (.builtin "str.join") (x :: vals)) z v st' s) h ha fun p y h hy => ?_
    cases o with
    | str l => exact bif_el h fun he h => oL_rv h (hy.rd k) fun xs h hr => oO_el h fun l' hl h => rbs h fun hc => an hc fun hc _ => join_sound k hz (List.isEmpty_iff.mp he ▸ hx.rv k) hr hl (dt hc)
    | _ => exact nn h
  | append => exact a1_vr (P := fun vals => Runs cx A (call (.builtin "list.append") (x :: vals)) z v st' s) h ha fun p y h hy => oR_rv k h hx fun n h hx => sL_el h fun xs hp h => rbs h fun hc => append_sound k hz hp hx hy (dt hc)
  | extend => exact a1_vr (P := fun vals => Runs cx A (call (.builtin "list.extend") (x :: vals)) z v st' s) h ha fun p y h hy => oR_rv k h hx fun n h hx => sL_el h fun xs hp h => oL_rv h (hy.rv k) fun ys h hy => rbs h fun hc => extend_sound k hz hp hx hy (dt hc)
  | insert => exact a2_vr (P := fun vals => Runs cx A (call (.builtin "list.insert") (x :: vals)) z v st' s) h ha fun p q y w h hy hw => oR_rv k h hx fun n h hx => oI_vr (R := fun y => Runs cx A (call (.builtin "list.insert") [x, y, w]) z v st' s) h hy fun i t h => sL_el h fun xs hp h => rbs h fun hc => an hc fun h0 hc => by cases dt h0; exact insert_sound k hz hp hx hw (dt hc)
  | index => exact a1_vr (P := fun vals => Runs cx A (call (.builtin "list.index") (x :: vals)) z v st' s) h ha fun p y h hy => oI_vr (R := fun y => Runs cx A (call (.builtin "list.index") [x, y]) z v st' s) h hy fun i t h => oL_rv h (hx.rd k) fun xs h hr => oO_el h fun l hl h => oO_el h fun j hj h => rbs h fun hc => index_sound k hz hr hl hj (dt hc)
  | get => cases args with
    | nil => exact nn h
    | cons p r =>
      refine ha.cons_el (C := fun vals => Runs cx A (call (.builtin "dict.get") (x :: vals)) z v st' s) fun y us hy hs => oD_rv h (hx.rd k) fun es h hr => oO_el h fun u hu h => ?_
      cases r with
      | nil => exact hs.nil_el (C := fun us => Runs cx A (call (.builtin "dict.get") (x :: y :: us)) z v st' s) (rs h (get_sound k hz hr hy hu))
      | cons d r =>
        refine hs.cons_el (C := fun us => Runs cx A (call (.builtin "dict.get") (x :: y :: us)) z v st' s) fun w us hw hs => ?_
        exact a0_vr (P := fun us => Runs cx A (call (.builtin "dict.get") (x :: y :: w :: us)) z v st' s) h hs fun h => rs h (getD_sound k hz hr hy hw hu)
  | add => exact a1_vr (P := fun vals => Runs cx A (call (.builtin "set.add") (x :: vals)) z v st' s) h ha fun p y h hy => oR_rv k h hx fun n h hx => oI_vr (R := fun y => Runs cx A (call (.builtin "set.add") [x, y]) z v st' s) h hy fun i t h => sS_el h fun xs hp h => rbs h fun hc => an hc fun h1 h2 => add_sound k hz hp hx (dt h1) h2
end
end Mine
end
section
namespace Mine
open PySem
section
variable {cx : Cx} {z z' z'' : Z}
theorem ExtB.trans {ow : Addr → Prop} (a : ExtB ow z z') (b : ExtB ow z' z'') : ExtB ow z z'' :=
  ⟨fun n x h => b.sig n x (a.sig n x h), fun x o h => b.frz x o (a.frz x o h), fun x o h f => by
    obtain ⟨f1, ⟨o1, e1⟩, h1⟩ := a.prv x o h f
    obtain ⟨f2, e2, h2⟩ := b.prv x o1 e1 f1
    refine ⟨f2, e2, fun hn => ?_⟩
    cases Option.some.inj (e1.symm.trans (h1 hn))
    exact h2 hn⟩
theorem ExtB.shrink {ow ow' : Addr → Prop} (a : ExtB ow z z') (h : ∀ x o, ow x → z.h.get? x = some o → ow' x) : ExtB ow' z z' :=
  ⟨a.sig, a.frz, fun x o hx f => let ⟨f1, e1, h1⟩ := a.prv x o hx f; ⟨f1, e1, fun hn => h1 fun hw => hn (h x o hw hx)⟩⟩
theorem ExtB.toExt {ow : Addr → Prop} (a : ExtB ow z z') (h : ∀ x o, ow x → z.h.get? x ≠ some o) : Ext z z' :=
  ⟨a.sig, a.frz, fun x o hx f => let ⟨f1, e1, h1⟩ := a.prv x o hx f; ⟨h1 fun hw => h x o hw hx, f1⟩⟩
theorem ExtB.thenB {ow ow' : Addr → Prop} (a : ExtB ow z z') (b : ExtB ow' z' z'') (h : ∀ x o, ow' x → z.h.get? x = some o → ow x) : ExtB ow z z'' :=
  ⟨fun n x h => b.sig n x (a.sig n x h), fun x o h => b.frz x o (a.frz x o h), fun x o hx f => by
    obtain ⟨f1, ⟨o1, e1⟩, h1⟩ := a.prv x o hx f
    obtain ⟨f2, e2, h2⟩ := b.prv x o1 e1 f1
    refine ⟨f2, e2, fun hn => ?_⟩
    cases Option.some.inj (e1.symm.trans (h1 hn))
    exact h2 fun hw => hn (h x _ hw hx)⟩
theorem ExtB.change {ow : Addr → Prop} (a : ExtB ow z z') {wr : List Addr} {h' : Heap} (hw : ∀ b ∈ wr, z.h.get? b = none) (hk : ∀ b o, b ∉ wr → z'.h.get? b = some o → h'.get? b = some o) : ExtB ow z { z' with h := h' } :=
  ⟨a.sig, a.frz, fun x o hx f => by
    obtain ⟨f1, ⟨o1, e1⟩, h1⟩ := a.prv x o hx f
    have hn : x ∉ wr := fun hm => by rw [hw x hm] at hx; cases hx
    exact ⟨⟨f1.b, f1.l⟩, ⟨o1, hk x o1 hn e1⟩, fun hn' => hk x o hn (h1 hn')⟩⟩
theorem Ext.trans' {z z' z'' : Z} (a : Ext z z') (b : Ext z' z'') : Ext z z'' := a.trans b
noncomputable def itNames : List String := ["list_iterator", "range_iterator", "dict_keyiterator", "str_iterator", "str_ascii_iterator"]
structure It (cx : Cx) (I : Addr) (items : List PV) (fp : List Addr) (P : Nat → Value → Prop) (St : Nat → Heap → Prop) : Prop where
  W : ∀ A : Around, A.handled = none → Walks cx.prog cx.w A I fp [I] items.length P St
  cls : ∀ k h, St k h → ∃ o n, h.get? I = some o ∧ o.cls = .type n ∧ n ∈ itNames
structure ItZ (cx : Cx) (I : Addr) (items : List PV) (fp : List Addr) (P : Nat → Value → Prop) (St : Nat → Heap → Prop) (z : Z) (k : Nat) : Prop where
  st : St k z.h
  mine : Free z I
  fz : ∀ b ∈ fp, (∃ o, z.h.get? b = some o) ∧ (b = I ∨ ∃ o, z.B b = some o)
  val : ∀ (i : Nat) v x, P i v → items[i]? = some x → VR cx z x v
theorem VRel.extB {ow} (e : ExtB ow z z') {v : PV} {x : Value} (h : VR cx z v x) : VR cx z' v x := h.mono e.sig e.frz
variable {I : Addr} {items : List PV} {fp : List Addr} {P : Nat → Value → Prop} {St : Nat → Heap → Prop}
theorem ItZ.extB {ow : Addr → Prop} {j : Nat} (it : It cx I items fp P St) (t : ItZ cx I items fp P St z j) (e : ExtB ow z z') (hw : ¬ ow I) (k : OkZ cx z) (k' : OkZ cx z') : ItZ cx I items fp P St z' j := by
  have keep : ∀ b ∈ fp, ∀ o, z.h.get? b = some o → z'.h.get? b = some o := fun b hb o ho => by
    rcases (t.fz b hb).2 with hm | ⟨o', ho'⟩
    · subst hm; exact (e.prv _ o ho t.mine).2.2 hw
    · have h1 := k.sub _ _ ho'
      rw [ho] at h1; cases h1
      exact k'.sub _ _ (e.frz _ _ ho')
  obtain ⟨o, _, ho, _⟩ := it.cls _ _ t.st
  refine ⟨(it.W {} rfl).frame j _ _ t.st keep, (e.prv _ o ho t.mine).1, fun b hb => ?_, fun i v x hP hi => (t.val i v x hP hi).extB e⟩
  · obtain ⟨⟨o, ho⟩, hr⟩ := t.fz b hb
    exact ⟨⟨o, keep b hb o ho⟩, hr.imp (fun h => h) fun ⟨o', ho'⟩ => ⟨o', e.frz _ _ ho'⟩⟩
variable {M : Model} {A : Around} {E : Value → Shared → Prop} {s : Shared}
theorem wpAny_noOwnedTuple {target : Expr} {I : Addr} {v : Value} {o : Obj} {n : String} {Q : Unit → Shared → Prop} (ho : s.heap.get? I = some o) (hc : o.cls = .type n)
    (hn : n ∈ itNames) (hQ : Q () s) : wpAny M A (letOwnedTupleGo target (.ref I) v) Q E s := by
  unfold letOwnedTupleGo
  cases target <;> try exact wpAny_pure hQ
  all_goals
    cases v <;> try exact wpAny_pure hQ
    refine wpAny_bind (wpAny_load ho ?_)
    rw [hc]
    have no : ∀ f : String → Bool, (∀ m ∈ itNames, f m = false) → f n = true → False := fun f hf h => by rw [hf n hn] at h; cases h
    cases o.data <;> first | exact wpAny_pure hQ | exact wpAny_ite_split (fun h => (no _ (by decide) (Bool.and_eq_true_iff.mp h).1).elim) fun _ => wpAny_pure hQ
theorem ItZ.next {j : Nat} (it : It cx I items fp P St) (t : ItZ cx I items fp P St z j) (k : OkZ cx z) (hz : s.heap = z.h) (hh : A.handled = none) {x : PV} (hx : items[j]? = some x)
    {Q : Option Value → Shared → Prop} (hQ : ∀ v h' tk, OkZ cx { z with h := h' } → ItZ cx I items fp P St { z with h := h' } (j + 1) → VR cx z x v → (∀ b o, b ∉ [I] → z.h.get? b = some o → h'.get? b = some o) → Q (some v) { s with heap := h', toks := tk }) :
    wpAny (model cx.prog cx.w) A (pyNext (.ref I)) Q E s := by
  refine (it.W A hh).item j s Q E (List.getElem?_eq_some_iff.mp hx).1 (by rw [hz]; exact t.st) fun v h' tk hP hst hk => ?_
  rw [hz] at hk
  have hne : ∀ b o, z.B b = some o → b ∉ [I] := fun b o e hm => by
    cases List.mem_singleton.mp hm; exact nn (t.mine.b.symm.trans e)
  have hk' : ∀ b o, z.h.get? b = some o → ¬ Free z b → h'.get? b = some o := fun b o e hf => hk b o (fun hm => hf (List.mem_singleton.mp hm ▸ t.mine)) e
  refine hQ v h' tk (k.keep hk') ⟨hst, ⟨t.mine.b, t.mine.l⟩, fun b hb => ?_, t.val⟩ (t.val j v x hP hx) hk
  obtain ⟨⟨o, ho⟩, hr⟩ := t.fz b hb
  rcases hr with rfl | ⟨o', ho'⟩
  · obtain ⟨o', _, ho', _⟩ := it.cls _ _ hst
    exact ⟨⟨o', ho'⟩, .inl rfl⟩
  · exact ⟨⟨o, hk b o (hne b o' ho') ho⟩, .inr ⟨o', ho'⟩⟩
theorem ItZ.done {j : Nat} (it : It cx I items fp P St) (t : ItZ cx I items fp P St z j) (k : OkZ cx z) (hz : s.heap = z.h) (hh : A.handled = none) (hj : j = items.length)
    {Q : Option Value → Shared → Prop} (hQ : ∀ h' tk, OkZ cx { z with h := h' } → (∀ b o, b ∉ [I] → z.h.get? b = some o → h'.get? b = some o) → Q none { s with heap := h', toks := tk }) :
    wpAny (model cx.prog cx.w) A (pyNext (.ref I)) Q E s := by
  subst hj
  refine (it.W A hh).done s Q E (by rw [hz]; exact t.st) fun h' tk hk => ?_
  rw [hz] at hk
  exact hQ h' tk (k.keep fun b o e hf => hk b o (fun hm => hf (List.mem_singleton.mp hm ▸ t.mine)) e) hk
theorem isInt_val {i : Int} {v : Value} (h : (intKind cx.prog cx.w).is i v = true) : VR cx z (.int i) v := by
  obtain ⟨t, rfl⟩ := Value.isInt_shape h; exact .int _ _
theorem isStr_val {i : Str} {v : Value} (h : (strKind cx.prog cx.w).is i v = true) : VR cx z (.str i.cps.toList) v := by
  obtain ⟨t, rfl⟩ := Value.isStrOf_shape h; exact .str _ _ _ rfl
theorem EI.key {es : List (PV × PV)} : ∀ {kvs : List (Int × Value)} {i : Nat} {k : PV} {p : Int × Value}, EI es kvs → (es.map (·.1))[i]? = some k → kvs[i]? = some p → k = .int p.1 := by
  induction es with
  | nil => exact fun _ h1 _ => nn h1
  | cons q r ih =>
    intro kvs i k p h h1 h2
    cases kvs with
    | nil => exact nn h2
    | cons y t => cases i with
      | zero => exact (Option.some.inj h1).symm.trans (h.1.trans (congrArg (fun p : Int × Value => PV.int p.1) (Option.some.inj h2)))
      | succ i => exact ih (i := i) h.2.2 h1 h2
theorem ES.key {es : List (PV × PV)} : ∀ {kvs : List (Str × Value)} {i : Nat} {k : PV} {p : Str × Value}, ES es kvs → (es.map (·.1))[i]? = some k → kvs[i]? = some p → k = .str p.1.cps.toList := by
  induction es with
  | nil => exact fun _ h1 _ => nn h1
  | cons q r ih =>
    intro kvs i k p h h1 h2
    cases kvs with
    | nil => exact nn h2
    | cons y t => cases i with
      | zero => exact (Option.some.inj h1).symm.trans (h.1.trans (congrArg (fun p : Str × Value => PV.str p.1.cps.toList) (Option.some.inj h2)))
      | succ i => exact ih (i := i) h.2.2 h1 h2
theorem dictAt_of {K : Type} [DecidableEq K] {knd : KeyKind cx.prog cx.w K} {h : Heap} {a : Addr} {kvs : List (K × Value)} (x : h.DictOf knd a kvs) : ∃ ep, h.DictAt knd a kvs ep :=
  x.elim fun o x => x.elim fun es x => x.elim fun ep x => ⟨ep, o, es, x⟩
noncomputable def IterPost (cx : Cx) (z : Z) (items : List PV) (st' : Store) (s : Shared) (Q : Value → Shared → Prop) : Prop :=
  ∀ I fp P St z' tk, It cx I items fp P St → ItZ cx I items fp P St z' 0 → OkZ cx z' → Ext z z' → z'.st = st' → z.h.get? I = none → Q (.ref I) { s with heap := z'.h, toks := tk }
theorem iter_list (k : OkZ cx z) (hz : s.heap = z.h) {l : Addr} {n : Nat} {its : Array Value} {xs : List PV} {st' : Store} {z0 : Z} (e0 : Ext z0 z) (hst : z.st = st') (hB : z.B l = some { cls := .type "list", dict := none, data := .seq its n, slots := #[] })
    (hv : VRs cx z xs its.toList) {Q : Value → Shared → Prop} (h0 : ∀ a, z.h.get? a = none → z0.h.get? a = none) (hQ : IterPost cx z0 xs st' s Q) :
    wpAny (model cx.prog cx.w) A (pyIter (.ref l)) Q E s := by
  have hl : s.heap.IsList l its := lst_at hz (k.sub _ _ hB)
  refine wpAny_pyIter_list hl ?_
  have hn := none_at_size hz
  have hk : ∀ b x, z.h.get? b = some x → (s.heap.push { cls := .type "list_iterator", data := .fields #[.ref l, .int 0 0] }).get? b = some x := fun b x e => by rw [hz]; exact Heap.get?_push_of_some _ e
  have hnew : (s.heap.push { cls := .type "list_iterator", data := .fields #[.ref l, .int 0 0] }).get? s.heap.objs.size = some { cls := .type "list_iterator", data := .fields #[.ref l, .int 0 0] } := Heap.get?_push_size _ rfl
  have hne : l ≠ s.heap.objs.size := fun e => nn (hn.symm.trans (e ▸ k.sub _ _ hB))
  have hf := k.free_of_none hn
  have hlen : xs.length = its.size := hv.length
  refine hQ s.heap.objs.size [s.heap.objs.size, l] (fun i v => its[i]? = some v) (fun i h => h.IsListIter s.heap.objs.size l i ∧ h.IsList l its) { z with h := s.heap.push { cls := .type "list_iterator", data := .fields #[.ref l, .int 0 0] } } s.toks
    ⟨fun A hA => by rw [hlen]; exact Walks.list hA _ _ hne its, fun k h hst => let ⟨o, ho, hc, _⟩ := hst.1; ⟨o, _, ho, hc, by decide⟩⟩
    ⟨⟨⟨_, hnew, rfl, rfl⟩, ⟨_, hk _ _ (k.sub _ _ hB), rfl, n, rfl⟩⟩, ⟨hf.b, hf.l⟩, fun b hb => ?_, fun i v x hP hx => ?_⟩ (k.keep fun b o e _ => hk b o e) (e0.trans (.keep hk)) hst (h0 _ hn)
  · simp only [List.mem_cons, List.not_mem_nil, or_false] at hb
    rcases hb with rfl | rfl
    · exact ⟨⟨_, hnew⟩, .inl rfl⟩
    · exact ⟨⟨_, hk _ _ (k.sub _ _ hB)⟩, .inr ⟨_, hB⟩⟩
  · obtain ⟨v', hv', hr⟩ := hv.get hx
    exact Option.some.inj (hv'.symm.trans ((Array.getElem?_toList ..).trans hP)) ▸ hr
theorem iter_dict {K : Type} [DecidableEq K] {knd : KeyKind cx.prog cx.w K} (k : OkZ cx z) (hz : s.heap = z.h) {d : Addr} {o : Obj} {kvs : List (K × Value)} {es : List (PV × PV)} (hB : z.B d = some o) (hsm : (d == sysModules) = false)
    (hD : DObj knd o kvs) (hlen : es.length = kvs.length) (hkey : ∀ (i : Nat) p x v, kvs[i]? = some p → (es.map (·.1))[i]? = some x → knd.is p.1 v = true → VR cx z x v) {Q : Value → Shared → Prop} (hQ : IterPost cx z (es.map (·.1)) z.st s Q) :
    wpAny (model cx.prog cx.w) A (pyIter (.ref d)) Q E s := by
  obtain ⟨ep, hat⟩ := dictAt_of (hD s.heap d (by rw [hz]; exact k.sub _ _ hB))
  refine wpAny_pyIter_dict hsm hat ?_
  have hn := none_at_size hz
  generalize ho' : ({ cls := .type "dict_keyiterator", data := .fields #[.ref d, .int 0 0, .int kvs.length 0, .int ep 0] } : Obj) = oi
  have hk : ∀ b x, z.h.get? b = some x → (s.heap.push oi).get? b = some x := fun b x e => by rw [hz]; exact Heap.get?_push_of_some _ e
  have hnew : (s.heap.push oi).get? s.heap.objs.size = some oi := Heap.get?_push_size _ (by rw [← ho']; rfl)
  have hne : d ≠ s.heap.objs.size := fun e => nn (hn.symm.trans (e ▸ k.sub _ _ hB))
  have hf := k.free_of_none hn
  refine hQ s.heap.objs.size [s.heap.objs.size, d] (fun i v => ∃ k x, kvs[i]? = some (k, x) ∧ knd.is k v = true) (fun i h => h.IsKeyIter s.heap.objs.size d i kvs.length ep ∧ h.DictAt knd d kvs ep) { z with h := s.heap.push oi } s.toks
    ⟨fun A hA => by rw [List.length_map, hlen]; exact Walks.dictKeys hA _ _ hne kvs ep, fun k h hst => let ⟨o, ho, hc, _⟩ := hst.1; ⟨o, _, ho, hc, by decide⟩⟩
    ⟨⟨⟨_, hnew, by rw [← ho'], by rw [← ho']; rfl⟩, hat.push _⟩, ⟨hf.b, hf.l⟩, fun b hb => ?_, fun i v x hP hx => ?_⟩ (k.keep fun b o e _ => hk b o e) (.keep hk) rfl hn
  · simp only [List.mem_cons, List.not_mem_nil, or_false] at hb
    rcases hb with rfl | rfl
    · exact ⟨⟨_, hnew⟩, .inl rfl⟩
    · exact ⟨⟨_, hk _ _ (k.sub _ _ hB)⟩, .inr ⟨_, hB⟩⟩
  · obtain ⟨kk, y, h1, h2⟩ := hP
    exact hkey i _ x v h1 hx h2
theorem iter_rng {lo st : Int} {n : Nat} {x : Value} (k : OkZ cx z) (hz : s.heap = z.h) (hv : VR cx z (.rng lo n st) x) {Q : Value → Shared → Prop} (hQ : IterPost cx z (rngItems lo n st) z.st s Q) :
    wpAny (model cx.prog cx.w) A (pyIter x) Q E s := by
  have hn := none_at_size hz
  have hf := k.free_of_none hn
  obtain ⟨a, hi, t, u, w, rfl, ha, h1, h2⟩ := hv.rv k
  have hr : IsRange s.heap a lo hi st t u w := by rw [hz]; exact ha
  refine wpAny_pyIter_range hr h1 ?_
  rw [h2]
  generalize ho : ({ cls := .type "range_iterator", data := .fields #[rawInt lo, rawInt (n : Int), rawInt st] } : Obj) = oi
  have hk : ∀ b x, z.h.get? b = some x → (s.heap.push oi).get? b = some x := fun b x e => by rw [hz]; exact Heap.get?_push_of_some _ e
  have hnew : (s.heap.push oi).get? s.heap.objs.size = some oi := Heap.get?_push_size _ (ho ▸ rfl)
  refine hQ s.heap.objs.size [s.heap.objs.size] (fun i v => ∃ t, v = .int (lo + i * st) t) (fun i h => IsRangeIter h s.heap.objs.size (lo + (i : Nat) * st) ((n : Int) - (i : Nat)) st) { z with h := s.heap.push oi } s.toks
    ⟨fun A hA => by rw [rngItems_length]; exact Walks.range hA _ _ _ _, fun k h hst => ⟨_, _, hst, rfl, by decide⟩⟩ ⟨?_, ⟨hf.b, hf.l⟩, fun b hb => by cases List.mem_singleton.mp hb; exact ⟨⟨_, hnew⟩, .inl rfl⟩, fun i v x hP hx => ?_⟩ (k.keep fun b o e _ => hk b o e) (.keep hk) rfl hn
  · show IsRangeIter _ _ (lo + ((0 : Nat) : Int) * st) ((n : Int) - ((0 : Nat) : Int)) st
    rw [Int.natCast_zero, Int.zero_mul, Int.add_zero, Int.sub_zero]
    exact hnew.trans (congrArg some ho.symm)
  · obtain ⟨t, rfl⟩ := hP
    have hi' := rngItems_length n lo st ▸ (List.getElem?_eq_some_iff.mp hx).1
    exact Option.some.inj ((rngItems_get _ _ _ _ hi').symm.trans hx) ▸ .int _ _
theorem iter_str {y : Str} {t : Tok} (k : OkZ cx z) (hz : s.heap = z.h) {Q : Value → Shared → Prop} (hQ : IterPost cx z (y.cps.toList.map fun c => .str [c]) z.st s Q) :
    wpAny (model cx.prog cx.w) A (pyIter (.str y t)) Q E s := by
  have hn := none_at_size hz
  have hf := k.free_of_none hn
  have fin : ∀ (ty : String) (hty : ty ∈ itNames)
      (hW : ∀ A' : Around, A'.handled = none → Walks cx.prog cx.w A' s.heap.objs.size [s.heap.objs.size] [s.heap.objs.size] y.cps.size (SignAt y) (fun i h => h.IsStrIter s.heap.objs.size ty y t i)),
      Q (.ref s.heap.objs.size) { s with heap := s.heap.push { cls := .type ty, data := .fields #[.str y t, .int 0 0] } } := fun ty hty hW => by
    generalize ho : ({ cls := .type ty, data := .fields #[.str y t, .int 0 0] } : Obj) = oi
    have hk : ∀ b x, z.h.get? b = some x → (s.heap.push oi).get? b = some x := fun b x e => by rw [hz]; exact Heap.get?_push_of_some _ e
    have hnew : (s.heap.push oi).get? s.heap.objs.size = some oi := Heap.get?_push_size _ (ho ▸ rfl)
    refine hQ s.heap.objs.size [s.heap.objs.size] (SignAt y) (fun i h => h.IsStrIter s.heap.objs.size ty y t i) { z with h := s.heap.push oi } s.toks
      ⟨fun A hA => by rw [List.length_map, Array.length_toList]; exact hW A hA, fun k h hst => hst.elim fun o h => ⟨o, _, h.1, h.2.1, hty⟩⟩ ⟨⟨_, hnew, ho ▸ rfl, ho ▸ rfl⟩, ⟨hf.b, hf.l⟩, fun b hb => by cases List.mem_singleton.mp hb; exact ⟨⟨_, hnew⟩, .inl rfl⟩, fun i v x hP hx => ?_⟩ (k.keep fun b o e _ => hk b o e) (.keep hk) rfl hn
    obtain ⟨c, u, h1, rfl⟩ := hP
    rw [List.getElem?_map, Array.getElem?_toList, h1] at hx
    exact Option.some.inj hx ▸ .str _ _ _ rfl
  cases ha : y.cps.all (· < 128)
  · exact wpAny_pyIter_wide ha (fin _ (by decide) fun A' hA => Walks.strWide hA _ y t)
  · exact wpAny_pyIter_ascii ha (fin _ (by decide) fun A' hA => Walks.strAscii hA _ y t)
theorem it_el {items l : List PV} {st st' : Store} {P : List PV → Store → Prop} (h : some (l, st) = some (items, st')) (k : P l st) : P items st' := by cases h; exact k
theorem iter_sound {v : PV} {x : Value} {items : List PV} {st' : Store} (h : itemsOf z.st v = some (items, st')) (k : OkZ cx z) (hz : s.heap = z.h) (hv : VR cx z v x) {Q : Value → Shared → Prop} (hQ : IterPost cx z items st' s Q) :
    wpAny (model cx.prog cx.w) A (pyIter x) Q E s := by
  revert hQ
  cases v with
  | rng lo n st => exact it_el (P := fun items st' => IterPost cx z items st' s Q → wpAny (model cx.prog cx.w) A (pyIter x) Q E s) h (iter_rng k hz hv)
  | str l =>
    refine bif_el h fun _ h => it_el (P := fun items st' => IterPost cx z items st' s Q → wpAny (model cx.prog cx.w) A (pyIter x) Q E s) h ?_
    obtain ⟨y, t, rfl, rfl⟩ := hv.rv k
    exact iter_str k hz
  | dict es =>
    refine it_el (P := fun items st' => IterPost cx z items st' s Q → wpAny (model cx.prog cx.w) A (pyIter x) Q E s) h ?_
    cases hv with
    | dict ha hd hsm =>
      cases hd with
      | ik kvs hD hE => exact iter_dict k hz ha hsm hD hE.length (fun i p x v h1 h2 h3 => by rw [hE.key h2 h1]; exact isInt_val h3)
      | sk kvs hD hE => exact iter_dict k hz ha hsm hD hE.length (fun i p x v h1 h2 h3 => by rw [hE.key h2 h1]; exact isStr_val h3)
  | list xs =>
    refine bif_el h fun _ h => it_el (P := fun items st' => IterPost cx z items st' s Q → wpAny (model cx.prog cx.w) A (pyIter x) Q E s) h ?_
    cases hv with
    | list ha ho hs => obtain ⟨n, e⟩ := ho; subst e; exact iter_list k hz (.refl _) rfl ha hs (fun _ h => h)
  | ref n =>
    refine sL_el h fun xs hp h => bif_el h fun _ h => it_el (P := fun items st' => IterPost cx z items st' s Q → wpAny (model cx.prog cx.w) A (pyIter x) Q E s) h ?_
    obtain ⟨a, m, its, rfl, hσ, ho, hvs⟩ := store_list k hp (hv.rv k)
    have hp0 : (PObj.list xs) ≠ .dead := nofun
    have k1 := k.die hp hp0 hσ ho
    have x1 := k.die_ext (o := { cls := .type "list", dict := none, data := .seq its m, slots := #[] }) hp hp0 hσ
    exact iter_list k1 hz x1 rfl (addB_self _ _ _) (hvs.ext x1) (fun _ h => h)
  | _ => exact nn h
end
end Mine
end
section
set_option maxRecDepth 100000
namespace Mine
open PySem
noncomputable abbrev ZipKept (h : Heap) (z TI TO a : Addr) (f : Bool) : Prop :=
  h.get? z = some { cls := .type "zip", dict := none, data := .fields #[rawInt a, .bool f, .bool false, .ref TI, .ref TO], slots := #[] }
section
variable {prog : Program} {w : World} {A : Around} {E : Value → Shared → Prop} {s : Shared} {z TI TO i1 i2 l1 l2 a : Addr} {f : Bool} {oa : Obj}
theorem zk_free {Q : Bool → Shared → Prop} (hz : ZipKept s.heap z TI TO a f) (ha : s.heap.get? a = some oa)
    (hQ : ∀ h', ZipKept h' z TI TO a true → Heap.SameBut z s.heap h' → Q false { s with heap := h' }) : wpAny (model prog w) A (Builtin.SmallTypes.ownedTupleIsFree (.ref z)) Q E s := by
  have f0 : ∀ {R : Value → Shared → Prop}, R (.int a 0) s → wpAny (model prog w) A (field (.ref z) 0) R E s := wpAny_field hz rfl rfl
  have f1 : ∀ {R : Value → Shared → Prop}, R (.bool f) s → wpAny (model prog w) A (field (.ref z) 1) R E s := wpAny_field hz rfl rfl
  wp_walk using f0
  refine Int.toNat_natCast a ▸ PySem.W.kdx_alive ha ?_
  cases f with
  | true => wp_walk using f1; exact hQ s.heap hz (.refl _ _)
  | false =>
    wp_walk using f1
    exact hQ _ (Heap.get?_update_self _ hz rfl) (Heap.SameBut.update ..)
theorem zk_next {Q : Option Value → Shared → Prop} {X : Value → Shared → Prop} (hz : ZipKept s.heap z TI TO a f) (ha : s.heap.get? a = some oa) (hTI : IsPair s.heap TI (.ref i1) (.ref i2))
    (hX : ∀ e t, X e t → wpAny (model prog w) A (isInstance e (.type "StopIteration")) (fun b t => b = true ∧ Q none t) E t)
    (h : ∀ h', ZipKept h' z TI TO a true → Heap.SameBut z s.heap h' → wpAny (model prog w) A.in1 (Builtin.SmallTypes.nextOf (.ref i1)) (fun x => wpAny (model prog w) A.in1 (Builtin.SmallTypes.nextOf (.ref i2))
      (fun y t => Q (some (.ref t.heap.objs.size)) { t with heap := t.heap.push { cls := .type "tuple", data := .seq #[x, y] } }) X) X { s with heap := h' }) : wpAny (model prog w) A (pyNext (.ref z)) Q E s := by
  have hT : s.TypeIs (.ref z) "zip" := ⟨_, hz, rfl⟩
  have f2 : ∀ {A E} {R : Value → Shared → Prop}, R (.bool false) s → wpAny (model prog w) A (field (.ref z) 2) R E s := wpAny_field hz rfl rfl
  have f3 : ∀ {A E} {R : Value → Shared → Prop}, R (.ref TI) s → wpAny (model prog w) A (field (.ref z) 3) R E s := wpAny_field hz rfl rfl
  have body : wpAny (model prog w) A.in1 (Builtin.«zip.__next__» ⟨[.ref z], []⟩) (fun r t => ∃ v, r = .done (.ret v) ∧ Q (some v) t) X s := by
    wp_walk using f2, f3, wpAny_seqItems hTI rfl, zk_free hz ha
    intro h' a' b'
    refine wpAny_ite_split (fun h => nomatch h) fun _ => ?_
    dsimp only
    rw [← Array.forIn_toList, List.forIn_cons]
    refine wpAny_bind (wpAny_bind (wpAny_bind (wpAny_holding (thenW (x := Builtin.SmallTypes.nextOf (.ref i1)) (h h' a' b') fun x t g => wpAny_pure (wpAny_pure ?_)))))
    dsimp only
    rw [List.forIn_cons]
    refine wpAny_bind (wpAny_bind (wpAny_holding (thenW (x := Builtin.SmallTypes.nextOf (.ref i2)) g fun y t g => wpAny_pure (wpAny_pure (wpAny_pure (wpAny_bind (wpAny_newTuple (wpAny_pure ⟨_, rfl, g⟩) ?_)))))))
    exact (by decide : 2 ≤ sizeLine)
  refine wpAny_bind (wpAny_attempt (wpAny_callSpecial?_slot hT F.slot_zip_next (wpAny_call_entry F.slot_zip_next hT F.entry_zip_next (wpAny_mono body (fun _ t g => ?_) fun e t g => thenW (hX e t g) ?_) (F.args_zip_next_1 _))))
  · obtain ⟨v, rfl, g⟩ := g
    exact ⟨v, rfl, wpAny_pure g⟩
  · rintro _ t ⟨rfl, g⟩
    exact wpAny_pure g
variable {k1 k2 : Nat} {xs ys : Array Value} {x y : Value} {Q : Option Value → Shared → Prop}
theorem zip_kept_item (D : ZipApart z TI TO i1 i2 l1 l2) (hz : ZipKept s.heap z TI TO a f) (ha : s.heap.get? a = some oa) (hTI : IsPair s.heap TI (.ref i1) (.ref i2))
    (h1 : s.heap.IsListIter i1 l1 k1) (h2 : s.heap.IsListIter i2 l2 k2) (hl1 : s.heap.IsList l1 xs) (hl2 : s.heap.IsList l2 ys) (hx : xs[k1]? = some x) (hy : ys[k2]? = some y)
    (hQ : ∀ h', ZipKept h' z TI TO a true → h'.IsListIter i1 l1 (k1 + 1) → h'.IsListIter i2 l2 (k2 + 1) → IsPair h' s.heap.objs.size x y →
      (∀ c o, c ≠ z → c ≠ i1 → c ≠ i2 → s.heap.get? c = some o → h'.get? c = some o) → Q (some (.ref s.heap.objs.size)) { s with heap := h' }) :
    wpAny (model prog w) A (pyNext (.ref z)) Q E s := by
  refine zk_next (X := fun _ _ => False) hz ha hTI (fun _ _ n => n.elim) fun h₁ g₁ b₁ => ?_
  have e₁ : Heap.ExtBut z s.heap h₁ := b₁.extBut
  refine wpAny_nextOf_list_item (h1.extBut e₁ D.i1z) (hl1.extBut e₁ D.l1z) hx fun h₂ g₂ b₂ => ?_
  have e₂ : Heap.ExtBut i1 h₁ h₂ := b₂.extBut
  refine wpAny_nextOf_list_item ((h2.extBut e₁ D.i2z).extBut e₂ D.i12.symm) ((hl2.extBut e₁ D.l2z).extBut e₂ D.l2i1) hy fun h₃ g₃ b₃ => ?_
  have e₃ : Heap.ExtBut i2 h₂ h₃ := b₃.extBut
  have n : h₃.objs.size = s.heap.objs.size := b₃.1.trans (b₂.1.trans b₁.1)
  have up : ∀ {c o}, h₃.get? c = some o → (h₃.push { cls := .type "tuple", data := .seq #[x, y] }).get? c = some o := Heap.get?_push_of_some _
  have q := hQ (h₃.push { cls := .type "tuple", data := .seq #[x, y] }) (up (e₃ _ _ D.i2z.symm (e₂ _ _ D.i1z.symm g₁))) ((g₂.extBut e₃ D.i12).at fun _ => up) (g₃.at fun _ => up) (n ▸ Heap.get?_push_size _ rfl) fun c o cz c1 c2 e => up (e₃ c o c2 (e₂ c o c1 (e₁ c o cz e)))
  rwa [← n] at q
theorem zip_kept_end (hh : A.handled = none) (D : ZipApart z TI TO i1 i2 l1 l2) (hz : ZipKept s.heap z TI TO a f) (ha : s.heap.get? a = some oa) (hTI : IsPair s.heap TI (.ref i1) (.ref i2))
    (h1 : s.heap.IsListIter i1 l1 k1) (hl1 : s.heap.IsList l1 xs) (hx : xs[k1]? = none) (hQ : ∀ h', (∀ c o, c ≠ z → c ≠ i1 → s.heap.get? c = some o → h'.get? c = some o) → Q none { s with heap := h' }) :
    wpAny (model prog w) A (pyNext (.ref z)) Q E s := by
  refine zk_next (X := fun e t => (∃ r, e = .ref r ∧ ∃ o, t.heap.get? r = some o ∧ o.cls = .type "StopIteration") ∧ Q none t) hz ha hTI ?_ fun h₁ _ b₁ => ?_
  · rintro _ t ⟨⟨r, rfl, hr⟩, q⟩
    exact wpAny_isInstance hr isSubtype_stop ⟨rfl, q⟩
  · exact wpAny_nextOf_list_end hh (h1.extBut b₁.extBut D.i1z) (hl1.extBut b₁.extBut D.l1z) hx fun h₂ r e₂ hr => ⟨⟨r, rfl, hr⟩, hQ h₂ fun c o cz c1 e => e₂ c o c1 (b₁.extBut c o cz e)⟩
theorem zip_no_len : typeLookup (.type "zip") "__len__" = pure none := by rw [typeLookup_type, builtinLookup_eq_fast]; kernel_rfl
theorem zip_no_hint : typeLookup (.type "zip") "__length_hint__" = pure none := by rw [typeLookup_type, builtinLookup_eq_fast]; kernel_rfl
theorem init_zip {S TI TO : Addr} {R : Result → Shared → Prop} {c : Nat} (hz : IsZip s.heap z TI TO .none) (hS : s.heap.get? S = some { cls := .type "list", dict := none, data := .seq #[] c, slots := #[] }) (hne : S ≠ z)
    (h : ∀ h' c' tk, (∀ b o, b ≠ S → s.heap.get? b = some o → h'.get? b = some o) → h'.objs.size = s.heap.objs.size → h'.get? S = some { cls := .type "list", dict := none, data := .seq #[] c', slots := #[] } →
      codeAny (model prog w) A (.builtin "list.extend.loop" ⟨[.ref S, .ref z, .none], []⟩) R { s with heap := h', toks := tk }) :
    wpAny (model prog w) A.in1 (Builtin.«list.__init__» ⟨[.ref S, .ref z], []⟩)
      (fun fin s' => match fin with | .done f => R (.ok f) s' | .again c' => c'.quiet = true ∧ codeAny (model prog w) A c' R s') (fun e s' => R (.error e) s') s := by
  have emp := Heap.get?_update_self (Obj.mapSeq fun _ => (#[] : Array Value)) hS rfl
  have oth : ∀ (g : Obj → Obj) {h : Heap} b o, b ≠ S → h.get? b = some o → (h.update S g).get? b = some o := fun g _ b o hb e => (Heap.get?_update_other _ _ (Ne.symm hb)).trans e
  have hz' := oth (Obj.mapSeq fun _ => (#[] : Array Value)) z _ hne.symm hz
  have siz : ∀ (g : Obj → Obj) {h : Heap}, (h.update S g).objs.size = h.objs.size := fun g _ => (Heap.SameBut.update ..).1
  wp_walk using wpAny_seqItems hS rfl, wpAny_updateSeq hS rfl
  refine wpAny_ite_split (fun e => by simp [Builtin.List.listSameRef, hne] at e) fun _ => ?_
  have hT : Shared.TypeIs { s with heap := s.heap.update S (Obj.mapSeq fun _ => #[]) } (.ref z) "zip" := ⟨_, hz', rfl⟩
  refine wpAny_bind (wpAny_pyIter_zip (s := { s with heap := s.heap.update S (Obj.mapSeq fun _ => #[]) }) hz' ?_)
  wp_walk using wpAny_specialOf hT zip_no_len, wpAny_specialOf hT zip_no_hint
  exact ⟨plainId_quiet F.plain_extend_loop _, h _ _ s.toks (fun b o hb e => oth _ b o hb (oth _ b o hb (oth _ b o hb e))) (by rw [siz, siz, siz]) (Heap.get?_update_self _ (Heap.get?_update_self _ emp rfl) rfl)⟩
end
section
variable {cx : Cx} {z0 : Z} {zp TI TO i1 i2 l1 l2 S : Addr} {xs ys : List PV} {ix iy : Array Value}
structure ZInv (cx : Cx) (z0 : Z) (zp TI TO i1 i2 l1 l2 S : Addr) (xs ys : List PV) (ix iy : Array Value) (i : Nat) (acc : Array Value) (z : Z) : Prop where
  ok : OkZ cx z
  ext : Ext z0 z
  sg : z.σ = z0.σ
  st : z.st = z0.st
  fr : ∀ b ∈ [zp, TO, i1, i2, S], Free z b
  lt : ∀ b ∈ [zp, TO, i1, i2, S], b < z.h.objs.size
  zs : (IsZip z.h zp TI TO .none ∧ ∃ a b, IsPair z.h TO a b) ∨ ∃ a f oa, ZipKept z.h zp TI TO a f ∧ z.B a = some oa
  ti : IsPair z.h TI (.ref i1) (.ref i2)
  h1 : z.h.IsListIter i1 l1 i
  h2 : z.h.IsListIter i2 l2 i
  hl1 : z.h.IsList l1 ix
  hl2 : z.h.IsList l2 iy
  hS : ∃ c, z.h.get? S = some { cls := .type "list", dict := none, data := .seq acc c, slots := #[] }
  vs : VRs cx z ((zipV xs ys).take i) acc.toList
structure ZSet (z0 : Z) (zp TI TO i1 i2 l1 l2 S : Addr) : Prop where
  D : ZipApart zp TI TO i1 i2 l1 l2
  new : ∀ b ∈ [zp, TO, i1, i2, S], z0.h.get? b = none
  sz : S ≠ zp
  sTO : S ≠ TO
  sTI : S ≠ TI
  s1 : S ≠ i1
  s2 : S ≠ i2
  sl1 : S ≠ l1
  sl2 : S ≠ l2
variable {A : Around} {s : Shared} {R : Result → Shared → Prop}
theorem zl_turn {z : Z} {i : Nat} {acc : Array Value} {x y : Value} {px py : PV} {h' : Heap} {c : Nat} (D : ZSet z0 zp TI TO i1 i2 l1 l2 S) (I : ZInv cx z0 zp TI TO i1 i2 l1 l2 S xs ys ix iy i acc z)
    (hk : ∀ b o, b ∉ [zp, TO, i1, i2] → z.h.get? b = some o → h'.get? b = some o) (hT' : IsPair h' z.h.objs.size x y)
    (g1 : h'.IsListIter i1 l1 (i + 1)) (g2 : h'.IsListIter i2 l2 (i + 1)) (hz : ∃ a f, ZipKept h' zp TI TO a f ∧ (a = z.h.objs.size ∨ ∃ oa, z.B a = some oa))
    (hS : z.h.get? S = some { cls := .type "list", dict := none, data := .seq acc c, slots := #[] }) (hx : xs[i]? = some px) (hy : ys[i]? = some py) (vx : VR cx z px x) (vy : VR cx z py y) :
    (∃ c, h'.get? S = some { cls := .type "list", dict := none, data := .seq acc c, slots := #[] }) ∧
    ZInv cx z0 zp TI TO i1 i2 l1 l2 S xs ys ix iy (i + 1) (acc.push (.ref z.h.objs.size)) { z with B := addB z.B z.h.objs.size { cls := .type "tuple", data := .seq #[x, y] }, h := h'.update S (Obj.mapSeq (·.push (.ref z.h.objs.size))) } := by
  have hT : z.h.get? z.h.objs.size = none := none_at_size (s := { heap := z.h }) rfl
  have hb : z.B z.h.objs.size = none := I.ok.none_of_none hT
  have fT := I.ok.free_of_none hT
  have hTS : z.h.objs.size ≠ S := fun e => nn (hT.symm.trans (e ▸ hS))
  have out : ∀ b, b ≠ zp → b ≠ TO → b ≠ i1 → b ≠ i2 → b ∉ [zp, TO, i1, i2] := fun b a1 a2 a3 a4 hm => by
    simp only [List.mem_cons, List.not_mem_nil, or_false] at hm
    rcases hm with h | h | h | h
    · exact a1 h
    · exact a2 h
    · exact a3 h
    · exact a4 h
  have hS' := hk S _ (out S D.sz D.sTO D.s1 D.s2) hS
  have up : ∀ b o, b ≠ S → h'.get? b = some o → (h'.update S (Obj.mapSeq (·.push (.ref z.h.objs.size)))).get? b = some o := fun b o hb e => (Heap.get?_update_other _ _ (Ne.symm hb)).trans e
  have hk' : ∀ b o, b ∉ [zp, TO, i1, i2, S] → z.h.get? b = some o → (h'.update S (Obj.mapSeq (·.push (.ref z.h.objs.size)))).get? b = some o := fun b o hb e =>
    up b o (fun h => hb (by simp [h])) (hk b o (fun h => hb (List.mem_append_left [S] h)) e)
  have k1 : OkZ cx { z with h := h'.update S (Obj.mapSeq (·.push (.ref z.h.objs.size))) } := I.ok.keep fun b o e hf => hk' b o (fun hm => hf (I.fr b hm)) e
  have k2 := k1.addB (a := z.h.objs.size) (o := { cls := .type "tuple", data := .seq #[x, y] }) (h' := h'.update S (Obj.mapSeq (·.push (.ref z.h.objs.size)))) (st := z.st) (fun _ _ e => e) rfl (fun n p hp hd => ⟨hp, fT.l n ⟨p, hp, hd⟩⟩) hb (up _ _ hTS hT')
  have fr' : ∀ b, b ≠ z.h.objs.size → Free z b → Free { z with B := addB z.B z.h.objs.size { cls := .type "tuple", data := .seq #[x, y] }, h := h'.update S (Obj.mapSeq (·.push (.ref z.h.objs.size))) } b := fun b hb f => ⟨addB_none hb f.b, f.l⟩
  refine ⟨⟨_, hS'⟩, k2, ⟨fun n a e => I.ext.sig n a e, fun a o e => addB_of hb (I.ext.frz a o e), fun a o e f => ?_⟩, I.sg, I.st, fun b hm => fr' b (Nat.ne_of_lt (I.lt b hm)) (I.fr b hm), fun b hm => Nat.lt_trans (I.lt b hm) (Heap.lt_size (up _ _ hTS hT')), .inr ?_,
    up _ _ (Ne.symm D.sTI) (hk _ _ (out _ D.D.TIz D.D.TITO D.D.TIi1 D.D.TIi2) I.ti), ?_, ?_, ?_, ?_, ⟨_, Heap.get?_update_self _ hS' rfl⟩, ?_⟩
  · obtain ⟨e1, f1⟩ := I.ext.prv a o e f
    have hn : a ∉ [zp, TO, i1, i2, S] := fun hm => nn ((D.new a hm).symm.trans e)
    exact ⟨hk' a o hn e1, fr' a (fun h => nn (hT.symm.trans (h ▸ e1))) f1⟩
  · obtain ⟨a, f, hz1, ha⟩ := hz
    rcases ha with rfl | ⟨oa, ha⟩
    · exact ⟨_, f, _, up _ _ (Ne.symm D.sz) hz1, if_pos rfl⟩
    · exact ⟨a, f, _, up _ _ (Ne.symm D.sz) hz1, addB_of hb ha⟩
  · exact g1.at fun o e => up _ o (Ne.symm D.s1) e
  · exact g2.at fun o e => up _ o (Ne.symm D.s2) e
  · exact I.hl1.at fun o e => up _ o (Ne.symm D.sl1) (hk _ o (out _ D.D.l1z D.D.l1TO D.D.l1i1 D.D.l1i2) e)
  · exact I.hl2.at fun o e => up _ o (Ne.symm D.sl2) (hk _ o (out _ D.D.l2z D.D.l2TO D.D.l2i1 D.D.l2i2) e)
  · have e1 : (zipV xs ys)[i]? = some (.tuple [px, py]) := by simp [zipV, List.getElem?_zipWith, hx, hy]
    rw [List.take_add_one, e1, Array.toList_push]
    refine VRels.append (I.vs.mono (fun _ _ e => e) fun _ _ e => addB_of hb e) (.cons (.tuple (if_pos rfl) ⟨0, rfl⟩ (.cons (vx.mono (fun _ _ e => e) fun _ _ e => addB_of hb e) (.cons (vy.mono (fun _ _ e => e) fun _ _ e => addB_of hb e) .nil))) .nil)
theorem zl_loop (hh : A.handled = none) (D : ZSet z0 zp TI TO i1 i2 l1 l2 S) (res : Value) (vx : VRs cx z0 xs ix.toList) (vy : VRs cx z0 ys iy.toList) (hl : xs.length = ys.length) (hn : xs.length ≤ sizeLine)
    (hR : ∀ z tk acc c, OkZ cx z → Ext z0 z → z.σ = z0.σ → z.st = z0.st → Free z S → z.h.get? S = some { cls := .type "list", dict := none, data := .seq acc c, slots := #[] } → VRs cx z (zipV xs ys) acc.toList → R (.ok (.ret res)) { s with heap := z.h, toks := tk }) :
    ∀ (k i : Nat) (z : Z) (tk : Nat) (acc : Array Value), xs.length - i = k → i ≤ xs.length → ZInv cx z0 zp TI TO i1 i2 l1 l2 S xs ys ix iy i acc z →
      codeAny (model cx.prog cx.w) A (.builtin "list.extend.loop" ⟨[.ref S, .ref zp, res], []⟩) R { s with heap := z.h, toks := tk } := by
  intro k
  induction k with
  | zero =>
    intro i z tk acc hk hi I
    have hin : i = xs.length := Nat.le_antisymm hi (Nat.sub_eq_zero_iff_le.mp hk)
    have hend : ix[i]? = none := by
      rw [← Array.getElem?_toList]; exact List.getElem?_eq_none (by rw [← vx.length, hin]; exact Nat.le_refl _)
    obtain ⟨c, hS⟩ := I.hS
    have fin : ∀ h', (∀ b o, b ∉ [zp, TO, i1, i2] → z.h.get? b = some o → h'.get? b = some o) → R (.ok (.ret res)) { s with heap := h', toks := tk } := fun h' hk' => by
      have k1 : OkZ cx { z with h := h' } := I.ok.keep fun b o e hf => hk' b o (fun hm => hf (I.fr b (List.mem_append_left [S] hm))) e
      refine hR { z with h := h' } tk acc c k1 ⟨I.ext.sig, I.ext.frz, fun a o e f => ?_⟩ I.sg I.st ⟨(I.fr S (by simp)).b, (I.fr S (by simp)).l⟩ (hk' S _ (by simp [D.sz, D.sTO, D.s1, D.s2]) hS) ?_
      · obtain ⟨e1, f1⟩ := I.ext.prv a o e f
        exact ⟨hk' a o (fun hm => nn ((D.new a (List.mem_append_left [S] hm)).symm.trans e)) e1, f1.b, f1.l⟩
      · have v := I.vs
        rw [List.take_of_length_le (by rw [hin]; simp [zipV, hl])] at v
        exact v
    refine codeAny_builtin PySem.F.entry_extend_loop ?_
    rw [Around.under_plainId PySem.F.plain_extend_loop _]
    show wpAny _ A.in1 (pyNext (.ref zp) >>= _) _ _ _
    rcases I.zs with ⟨hz, a, b, hTO⟩ | ⟨a, f, oa, hz, ha⟩
    · refine wpAny_bind (wpAny_pyNext_zip_end (s := { s with heap := z.h, toks := tk }) (A := A.in1) hh D.D hz I.ti hTO I.h1 I.h2 I.hl1 I.hl2 (.inl hend) fun h' hk' => ?_)
      exact wpAny_pure (fin h' fun b o hm e => hk' b o (fun h => hm (by simp [h])) (fun h => hm (by simp [h])) (fun h => hm (by simp [h])) (fun h => hm (by simp [h])) e)
    · refine wpAny_bind (zip_kept_end (s := { s with heap := z.h, toks := tk }) (A := A.in1) hh D.D hz (I.ok.sub _ _ ha) I.ti I.h1 I.hl1 hend fun h' hk' => ?_)
      exact wpAny_pure (fin h' fun b o hm e => hk' b o (fun h => hm (by simp [h])) (fun h => hm (by simp [h])) e)
  | succ k ih =>
    intro i z tk acc hk hi I
    have hlt : i < xs.length := Nat.lt_of_sub_pos (by rw [hk]; exact Nat.succ_pos k)
    obtain ⟨c, hS⟩ := I.hS
    obtain ⟨x, hx, wx⟩ := vx.get (List.getElem?_eq_getElem hlt)
    obtain ⟨y, hy, wy⟩ := vy.get (List.getElem?_eq_getElem (hl ▸ hlt))
    rw [Array.getElem?_toList] at hx hy
    have hsz : acc.size = i := by
      rw [← Array.length_toList, ← I.vs.length, List.length_take]; simp [zipV, ← hl]; exact Nat.min_eq_left hi
    refine codeAny_builtin PySem.F.entry_extend_loop ?_
    rw [Around.under_plainId PySem.F.plain_extend_loop _]
    show wpAny _ A.in1 (pyNext (.ref zp) >>= _) _ _ _
    have fin : ∀ h', (∀ b o, b ∉ [zp, TO, i1, i2] → z.h.get? b = some o → h'.get? b = some o) → IsPair h' z.h.objs.size x y → h'.IsListIter i1 l1 (i + 1) → h'.IsListIter i2 l2 (i + 1) →
        (∃ a f, ZipKept h' zp TI TO a f ∧ (a = z.h.objs.size ∨ ∃ oa, z.B a = some oa)) → _ := fun h' hk' hp g1 g2 hz => zl_turn D I hk' hp g1 g2 hz hS (List.getElem?_eq_getElem hlt) (List.getElem?_eq_getElem (hl ▸ hlt)) (wx.ext I.ext) (wy.ext I.ext)
    rcases I.zs with ⟨hz, a, b, hTO⟩ | ⟨a, f, oa, hz, ha⟩
    · refine wpAny_bind (wpAny_pyNext_zip_item (s := { s with heap := z.h, toks := tk }) (A := A.in1) D.D hz I.ti hTO I.h1 I.h2 I.hl1 I.hl2 hx hy fun h' a1 a2 a3 a4 a5 a6 hk' => ?_)
      obtain ⟨⟨c', hS'⟩, I'⟩ := fin h' (fun b o hm e => hk' b o (fun h => hm (by simp [h])) (fun h => hm (by simp [h])) (fun h => hm (by simp [h])) (fun h => hm (by simp [h])) e) a5 a3 a4 ⟨_, _, a1, .inl rfl⟩
      show wpAny _ A.in1 (updateSeq S (·.push (Value.ref z.h.objs.size)) >>= _) _ _ _
      refine wpAny_bind (wpAny_updateSeq hS' rfl (wpAny_pure ⟨plainId_quiet PySem.F.plain_extend_loop _, ih (i + 1) _ tk _ (by omega) hlt I'⟩) (by rw [hsz]; omega) (by show (acc.push _).size ≤ sizeLine + 1; rw [Array.size_push, hsz]; omega))
    · refine wpAny_bind (zip_kept_item (s := { s with heap := z.h, toks := tk }) (A := A.in1) D.D hz (I.ok.sub _ _ ha) I.ti I.h1 I.h2 I.hl1 I.hl2 hx hy fun h' a1 a3 a4 a5 hk' => ?_)
      obtain ⟨⟨c', hS'⟩, I'⟩ := fin h' (fun b o hm e => hk' b o (fun h => hm (by simp [h])) (fun h => hm (by simp [h])) (fun h => hm (by simp [h])) e) a5 a3 a4 ⟨_, _, a1, .inr ⟨_, ha⟩⟩
      show wpAny _ A.in1 (updateSeq S (·.push (Value.ref z.h.objs.size)) >>= _) _ _ _
      refine wpAny_bind (wpAny_updateSeq hS' rfl (wpAny_pure ⟨plainId_quiet PySem.F.plain_extend_loop _, ih (i + 1) _ tk _ (by omega) hlt I'⟩) (by rw [hsz]; omega) (by show (acc.push _).size ≤ sizeLine + 1; rw [Array.size_push, hsz]; omega))
theorem zl_init (hh : A.handled = none) (D : ZSet z0 zp TI TO i1 i2 l1 l2 S) (vx : VRs cx z0 xs ix.toList) (vy : VRs cx z0 ys iy.toList) (hl : xs.length = ys.length) (hn : xs.length ≤ sizeLine)
    {z : Z} (hz : s.heap = z.h) (I : ZInv cx z0 zp TI TO i1 i2 l1 l2 S xs ys ix iy 0 #[] z) (h0 : IsZip z.h zp TI TO .none)
    (hR : ∀ z tk acc c, OkZ cx z → Ext z0 z → z.σ = z0.σ → z.st = z0.st → Free z S → z.h.get? S = some { cls := .type "list", dict := none, data := .seq acc c, slots := #[] } → VRs cx z (zipV xs ys) acc.toList → R (.ok (.ret .none)) { s with heap := z.h, toks := tk }) :
    wpAny (model cx.prog cx.w) A.in1 (Builtin.«list.__init__» ⟨[.ref S, .ref zp], []⟩)
      (fun fin s' => match fin with | .done f => R (.ok f) s' | .again c' => c'.quiet = true ∧ codeAny (model cx.prog cx.w) A c' R s') (fun e s' => R (.error e) s') s := by
  obtain ⟨c, hS⟩ := I.hS
  have hS : s.heap.get? S = some { cls := .type "list", dict := none, data := .seq #[] c, slots := #[] } := hz ▸ hS
  have h0 : IsZip s.heap zp TI TO .none := by rw [hz]; exact h0
  have keep : ∀ h' c', (∀ b o, b ≠ S → s.heap.get? b = some o → h'.get? b = some o) → h'.objs.size = s.heap.objs.size → h'.get? S = some { cls := .type "list", dict := none, data := .seq #[] c', slots := #[] } → ZInv cx z0 zp TI TO i1 i2 l1 l2 S xs ys ix iy 0 #[] { z with h := h' } := fun h' c' hk hsz hS' => by
    rw [hz] at hk hsz
    have D1 := D.D
    refine ⟨I.ok.keep fun b o e hf => hk b o (fun h => hf (h ▸ I.fr S (by simp))) e, ⟨I.ext.sig, I.ext.frz, fun a o e f => ?_⟩, I.sg, I.st, fun b hm => ⟨(I.fr b hm).b, (I.fr b hm).l⟩, fun b hm => hsz ▸ I.lt b hm, ?_, hk _ _ (Ne.symm D.sTI) I.ti, I.h1.at fun o e => hk _ o (Ne.symm D.s1) e, I.h2.at fun o e => hk _ o (Ne.symm D.s2) e,
      I.hl1.at fun o e => hk _ o (Ne.symm D.sl1) e, I.hl2.at fun o e => hk _ o (Ne.symm D.sl2) e, ⟨_, hS'⟩, I.vs⟩
    · obtain ⟨e1, f1⟩ := I.ext.prv a o e f
      exact ⟨hk a o (fun h => nn ((D.new S (by simp)).symm.trans (h ▸ e))) e1, f1.b, f1.l⟩
    · rcases I.zs with ⟨hz, a, b, hTO⟩ | ⟨a, f, oa, hz, ha⟩
      · exact .inl ⟨hk _ _ (Ne.symm D.sz) hz, a, b, hk _ _ (Ne.symm D.sTO) hTO⟩
      · exact .inr ⟨a, f, oa, hk _ _ (Ne.symm D.sz) hz, ha⟩
  exact init_zip h0 hS D.sz fun h' c' tk hk hsz hS' => zl_loop (s := s) hh D .none vx vy hl hn hR xs.length 0 { z with h := h' } tk #[] (Nat.sub_zero _) (Nat.zero_le _) (keep h' c' hk hsz hS')
theorem z_apart (N l1 l2 : Nat) (e1 : l1 < N) (e2 : l2 < N) : ZipApart (N + 4) (N + 2) (N + 3) N (N + 1) l1 l2 := by
  constructor <;> show @Ne Nat _ _ <;> omega
theorem z_apart2 (N l1 l2 : Nat) (e1 : l1 < N) (e2 : l2 < N) : N + 5 ≠ N + 4 ∧ N + 5 ≠ N + 3 ∧ N + 5 ≠ N + 2 ∧ N + 5 ≠ N ∧ N + 5 ≠ N + 1 ∧ N + 5 ≠ l1 ∧ N + 5 ≠ l2 := by omega
theorem z_new (N b : Nat) (hm : b ∈ [N + 4, N + 3, N, N + 1, N + 5]) : N ≤ b ∧ b < N + 6 := by
  simp only [List.mem_cons, List.not_mem_nil, or_false] at hm; omega
theorem zip_call {z : Z} {E : Value → Shared → Prop} {Q : Value → Shared → Prop} (k : OkZ cx z) (hz : s.heap = z.h) (hh : A.handled = none) (hx : z.h.IsList l1 ix) (hy : z.h.IsList l2 iy) (vx : VRs cx z xs ix.toList) (vy : VRs cx z ys iy.toList) (hl : xs.length = ys.length) (hn : xs.length ≤ sizeLine)
    (hQ : ∀ zp h', zp < h'.objs.size → (∀ b o, z.h.get? b = some o → h'.get? b = some o) → (∀ {A : Around} {E : Value → Shared → Prop} {Q : Value → Shared → Prop} {s : Shared}, s.heap = h' → A.handled = none → (∀ l z' tk, OkZ cx z' → Ext z z' → z'.st = z.st → VR cx z' (.list (zipV xs ys)) (.ref l) → Q (.ref l) { s with heap := z'.h, toks := tk }) → wpAny (model cx.prog cx.w) A (call (.type "list") [.ref zp]) Q E s) →
      Q (.ref zp) { s with heap := h' }) :
    wpAny (model cx.prog cx.w) A (call (.type "zip") [.ref l1, .ref l2]) Q E s := by
  have hx' : s.heap.IsList l1 ix := by rw [hz]; exact hx
  have hy' : s.heap.IsList l2 iy := by rw [hz]; exact hy
  refine call_zip_2 hx' hy' fun h' a1 a2 a3 a4 a5 a6 hk => ?_
  generalize hN : s.heap.objs.size = N at *
  have hNz : z.h.objs.size = N := by rw [← hN, hz]
  have e1 : l1 < N := by obtain ⟨_, h, _⟩ := hx; exact hNz ▸ Heap.lt_size h
  have e2 : l2 < N := by obtain ⟨_, h, _⟩ := hy; exact hNz ▸ Heap.lt_size h
  rw [hz] at hk
  refine hQ _ h' (by rw [a6]; exact Nat.lt_succ_self _) hk ?_
  intro A E Q s1 hs1 hA hQ1
  have kz : OkZ cx { z with h := h' } := k.keep fun b o e _ => hk b o e
  have none : ∀ b, N ≤ b → z.h.get? b = none := fun b hb => by
    cases e : z.h.get? b with
    | none => rfl
    | some o => exact absurd (Heap.lt_size e) (Nat.not_lt.mpr (hNz ▸ hb))
  have fr : ∀ b, N ≤ b → Free z b := fun b hb => k.free_of_none (none b hb)
  have h6 : s1.heap.objs.size = N + 5 := by rw [hs1]; exact a6
  refine callType_codes (Q₁ := fun obj s₁ => obj = .ref s1.heap.objs.size ∧ s₁ = { s1 with heap := s1.heap.push { cls := .type "list", data := .seq #[] } }) F.called_list (F.typeCall_list_1 _) F.entry_list_init
    (code_list_new _ ⟨rfl, rfl⟩) fun obj s₁ h₁ => ?_
  obtain ⟨rfl, rfl⟩ := h₁
  have hS : (s1.heap.push { cls := .type "list", data := .seq #[] }).get? s1.heap.objs.size = some { cls := .type "list", data := .seq #[] } := Heap.get?_push_size _ rfl
  have up : ∀ b o, h'.get? b = some o → (s1.heap.push { cls := .type "list", data := .seq #[] }).get? b = some o := fun b o e => by rw [hs1]; exact Heap.get?_push_of_some _ e
  have sz : (s1.heap.push { cls := .type "list", data := .seq #[] }).objs.size = N + 6 := by rw [Heap.size_push, h6]
  have D : ZSet z (N + 4) (N + 2) (N + 3) N (N + 1) l1 l2 s1.heap.objs.size := by
    rw [h6]
    obtain ⟨q1, q2, q3, q4, q5, q6, q7⟩ := z_apart2 N l1 l2 e1 e2
    exact ⟨z_apart N l1 l2 e1 e2, fun b hm => none b (z_new N b hm).1, q1, q2, q3, q4, q5, q6, q7⟩
  refine ⟨⟨_, hS, rfl⟩, F.args_list_init_2 _ _, zl_init (A := A.in1) (z0 := z) (z := { z with h := s1.heap.push { cls := .type "list", data := .seq #[] } }) hA D vx vy hl hn rfl
    ⟨k.keep fun b o e _ => up _ _ (hk b o e), .keep fun b o e => up _ _ (hk b o e), rfl, rfl, fun b hm => ?_, fun b hm => ?_, .inl ⟨up _ _ a1, _, _, up _ _ a3⟩, up _ _ a2, a4.at fun o e => up _ o e, a5.at fun o e => up _ o e, hx.at fun o e => up _ o (hk _ o e), hy.at fun o e => up _ o (hk _ o e), ⟨_, hS⟩, .nil⟩ (up _ _ a1) fun z' tk acc c' k' ex sg st f hS' v => ⟨rfl, ?_⟩⟩
  · have hb : N ≤ b := (z_new N b (h6 ▸ hm)).1
    exact ⟨(fr b hb).b, (fr b hb).l⟩
  · exact sz ▸ (z_new N b (h6 ▸ hm)).2
  · refine hQ1 s1.heap.objs.size { z' with B := addB z'.B s1.heap.objs.size _ } tk (k'.addB (fun _ _ e => e) rfl (fun n p hp hd => ⟨hp, f.l n ⟨p, hp, hd⟩⟩) f.b hS') ⟨ex.sig, fun a o e => addB_of f.b (ex.frz a o e), fun a o e g => ?_⟩ st (.list (if_pos rfl) ⟨c', rfl⟩ (v.mono (fun _ _ e => e) fun _ _ e => addB_of f.b e))
    have q := ex.prv a o e g
    exact ⟨q.1, addB_none (fun h => nn ((none a (by rw [h, h6]; exact Nat.le_add_right ..)).symm.trans e)) q.2.b, q.2.l⟩
end
end Mine
end
section
namespace Mine
open PySem
noncomputable def biNm : BI → Str
  | .len => "len"
  | .min => "min"
  | .max => "max"
  | .sum => "sum"
  | .range => "range"
  | .list => "list"
  | .zip => "zip"
  | .ord => "ord"
  | .chr => "chr"
  | .iter => "iter"
  | .next => "next"
  | .set => "set"
noncomputable def meNm : Me → Str
  | .lower => "lower"
  | .split => "split"
  | .join => "join"
  | .append => "append"
  | .extend => "extend"
  | .insert => "insert"
  | .index => "index"
  | .get => "get"
  | .add => "add"
noncomputable def wrOk (cx : Cx) (names : Names) (i : Nat) : Bool := decide (i < cx.nm.length) && (names.lookup (cx.name i) == some .local || names.lookup (cx.name i) == some .cell)
noncomputable def glOk (names : Names) (x : Str) : Bool := names.lookup x == some .globalImplicit && !(x == ("__debug__" : Str))
noncomputable def nodupS : List Str → Bool
  | [] => true
  | x :: r => !r.contains x && nodupS r
noncomputable def compOk (cx : Cx) (names : Names) (scope : Scope) (fv : List Nat) : Bool :=
  scope.kind == .function && nodupS (scope.names.map (·.1)) && fv.all (fun i => decide (i < cx.nm.length) && scope.names.lookup (cx.name i) == some .free) &&
  scope.names.all (fun x => !(x.2 == .free) || names.lookup x.1 == some .cell || names.lookup x.1 == some .free)
inductive MtN (cx : Cx) (names : Names) : List Nat → List Expr → Prop
  | nil : MtN cx names [] []
  | cons (i : Nat) (p : Pos) {is : List Nat} {es : List Expr} : wrOk cx names i = true → MtN cx names is es → MtN cx names (i :: is) (.Name (cx.name i) p :: es)
inductive MtT (cx : Cx) (names : Names) : Tgt → Expr → Prop
  | one (i : Nat) (p : Pos) : wrOk cx names i = true → MtT cx names (.one i) (.Name (cx.name i) p)
  | tup {is : List Nat} {es : List Expr} (k : Nat) (p : Pos) : MtN cx names is es → MtT cx names (.tup is) (.Tuple es k p)
noncomputable def all2 {α β : Type} (f : α → β → Bool) : List α → List β → Bool
  | [], [] => true
  | x :: xs, y :: ys => f x y && all2 f xs ys
  | _, _ => false
noncomputable def opt2 {α β : Type} (f : α → β → Bool) : Option α → Option β → Bool
  | none, none => true
  | some x, some y => f x y
  | _, _ => false
noncomputable def seqB (x y : Str) : Bool := all2 Nat.beq x.cps.toList y.cps.toList
theorem all2_beq : ∀ {l m : List Nat}, all2 Nat.beq l m = true → l = m
  | [], [], _ => rfl
  | a :: l, b :: m, h => by
    simp only [all2, Bool.and_eq_true] at h
    rw [Nat.eq_of_beq_eq_true h.1, all2_beq h.2]
  | [], _ :: _, h => by cases h
  | _ :: _, [], h => by cases h
theorem seqB_eq {x y : Str} (h : seqB x y = true) : x = y := by
  cases x; cases y
  have := all2_beq h
  simpa [Array.toList_inj] using this
noncomputable def kindB : NameKind → NameKind → Bool
  | .local, .local => true
  | .cell, .cell => true
  | .free, .free => true
  | .globalImplicit, .globalImplicit => true
  | .globalExplicit, .globalExplicit => true
  | _, _ => false
theorem kindB_eq {a b : NameKind} (h : kindB a b = true) : a = b := by cases a <;> cases b <;> first | rfl | cases h
noncomputable def look (x : Str) : Names → Option NameKind
  | [] => none
  | (y, k) :: r => bif seqB x y then some k else look x r
theorem look_eq {x : Str} : ∀ {names : Names}, look x names = names.lookup x
  | [] => rfl
  | (y, k) :: r => by
    rw [look, List.lookup_cons]
    cases h : seqB x y with
    | true => rw [seqB_eq h]; simp
    | false =>
      have : (x == y) = false := by
        rw [beq_eq_false_iff_ne]; intro e; subst e
        have : seqB x x = true := by
          unfold seqB
          generalize x.cps.toList = l
          induction l with
          | nil => rfl
          | cons a l ih => simp [all2, ih]
        rw [h] at this; cases this
      rw [this]; exact look_eq
noncomputable def kOf (names : Names) (x : Str) (k : NameKind) : Bool := match look x names with
  | some k' => kindB k' k
  | none => false
theorem kOf_eq {names : Names} {x : Str} {k : NameKind} (h : kOf names x k = true) : names.lookup x = some k := by
  unfold kOf at h
  split at h
  · rename_i k' e
    rw [← look_eq, e, kindB_eq h]
  · cases h
noncomputable def wrB (cx : Cx) (names : Names) (i : Nat) (x : Str) : Bool := Nat.blt i cx.nm.length && seqB x (cx.name i) && (kOf names x .local || kOf names x .cell)
theorem wrB_ok {cx : Cx} {names : Names} {i : Nat} {x : Str} (h : wrB cx names i x = true) : x = cx.name i ∧ wrOk cx names i = true := by
  simp only [wrB, Bool.and_eq_true, Bool.or_eq_true] at h
  obtain ⟨⟨h1, h2⟩, h3⟩ := h
  have e := seqB_eq h2
  refine ⟨e, ?_⟩
  have h1' : i < cx.nm.length := Nat.le_of_ble_eq_true h1
  simp only [wrOk, Bool.and_eq_true, decide_eq_true_eq, Bool.or_eq_true, beq_iff_eq]
  rw [← e]
  exact ⟨h1', h3.imp kOf_eq kOf_eq⟩
noncomputable def dbg : Str := "__debug__"
noncomputable def glB (names : Names) (x : Str) : Bool := kOf names x .globalImplicit && !seqB x dbg
theorem seqB_self (x : Str) : seqB x x = true := by
  unfold seqB
  generalize x.cps.toList = l
  induction l with
  | nil => rfl
  | cons a l ih => simp [all2, ih]
theorem seqB_ne {x y : Str} (h : seqB x y = false) : (x == y) = false := by
  rw [beq_eq_false_iff_ne]; intro e; subst e
  rw [seqB_self] at h; cases h
theorem glB_ok {names : Names} {x : Str} (h : glB names x = true) : glOk names x = true := by
  simp only [glB, Bool.and_eq_true, Bool.not_eq_true'] at h
  simp only [glOk, Bool.and_eq_true, beq_iff_eq, Bool.not_eq_true']
  exact ⟨kOf_eq h.1, seqB_ne h.2⟩
noncomputable def memB (x : Str) : List Str → Bool
  | [] => false
  | y :: r => seqB x y || memB x r
noncomputable def ndB : List Str → Bool
  | [] => true
  | x :: r => !memB x r && ndB r
theorem memB_eq {x : Str} : ∀ {l : List Str}, memB x l = l.contains x
  | [] => rfl
  | y :: r => by
    rw [memB, List.contains_cons, memB_eq]
    cases h : seqB x y with
    | true => rw [seqB_eq h]; simp
    | false => rw [seqB_ne h]
theorem ndB_eq : ∀ {l : List Str}, ndB l = nodupS l
  | [] => rfl
  | x :: r => by rw [ndB, nodupS, memB_eq, ndB_eq]
noncomputable def fnB : ScopeKind → Bool
  | .function => true
  | _ => false
noncomputable def compB (cx : Cx) (names : Names) (scope : Scope) (fv : List Nat) : Bool :=
  fnB scope.kind && ndB (scope.names.map (·.1)) && fv.all (fun i => Nat.blt i cx.nm.length && kOf scope.names (cx.name i) .free) &&
  scope.names.all (fun x => !(kindB x.2 .free) || kOf names x.1 .cell || kOf names x.1 .free)
theorem compB_ok {cx : Cx} {names : Names} {scope : Scope} {fv : List Nat} (h : compB cx names scope fv = true) : compOk cx names scope fv = true := by
  simp only [compB, Bool.and_eq_true, List.all_eq_true] at h
  obtain ⟨⟨⟨h1, h2⟩, h3⟩, h4⟩ := h
  simp only [compOk, Bool.and_eq_true, List.all_eq_true, beq_iff_eq, decide_eq_true_eq]
  refine ⟨⟨⟨?_, by rw [← ndB_eq]; exact h2⟩, fun i hi => ?_⟩, fun x hx => ?_⟩
  · generalize scope.kind = k at h1
    cases k <;> first | rfl | cases h1
  · have := h3 i hi
    exact ⟨Nat.le_of_ble_eq_true this.1, kOf_eq this.2⟩
  · have := h4 x hx
    simp only [Bool.or_eq_true, Bool.not_eq_true'] at this
    simp only [Bool.or_eq_true, Bool.not_eq_true', beq_iff_eq]
    rcases this with (h | h) | h
    · refine .inl (.inl ?_)
      rw [beq_eq_false_iff_ne]; intro e; rw [e] at h; cases h
    · exact .inl (.inr (kOf_eq h))
    · exact .inr (kOf_eq h)
theorem dite_el {p : Prop} [Decidable p] {g : p → Bool} {P : Prop} (h : dite p g (fun _ => false) = true) (k : ∀ hp, g hp = true → P) : P := by
  by_cases hp : p
  · rw [dif_pos hp] at h; exact k hp h
  · rw [dif_neg hp] at h; exact ff h
theorem eq_el {α : Type} [DecidableEq α] {a b : α} {C : α → Prop} (h : decide (a = b) = true) (k : C b) : C a := of_decide_eq_true h ▸ k
theorem seq_el {a b : Str} {C : Str → Prop} (h : seqB a b = true) (k : C b) : C a := seqB_eq h ▸ k
theorem nbF {i j : Nat} (h : Nat.beq i j = false) : (i == j) = false := by
  rw [beq_eq_false_iff_ne]; intro e; subst e; rw [Nat.beq_refl] at h; cases h
theorem wr_el {cx : Cx} {names : Names} {i : Nat} {x : Str} {C : Str → Prop} (h : wrB cx names i x = true) (k : wrOk cx names i = true → C (cx.name i)) : C x := (wrB_ok h).1 ▸ k (wrB_ok h).2
noncomputable def plainRecv : Expr → Bool
  | .Call .. => false
  | _ => true
theorem plainRecv_ok {o : Expr} (h : plainRecv o = true) (a : Str) (env : Env) (t : Sem Value) : attributeBase o a env t = t := by cases o <;> first | rfl | exact ff h
noncomputable def intB (a b : Int) : Bool := decide (a = b)
noncomputable def onName (e : Expr) (f : Str → Pos → Bool) : Bool := dite (e.ctorIdx = 23) (fun h => Expr.Name.elim (motive_1 := fun _ => Bool) e h f) fun _ => false
theorem onName_el {e : Expr} {f : Str → Pos → Bool} {C : Expr → Prop} (h : onName e f = true) (k : ∀ (a0 : Str) (a1 : Pos), f a0 a1 = true → C (.Name a0 a1)) : C e :=
  dite_el h fun hp h => Expr.Name.elim (motive_1 := fun e => ∀ hp : e.ctorIdx = 23, Expr.Name.elim (motive_1 := fun _ => Bool) e hp f = true → C e) e hp (fun a0 a1 _ h => k a0 a1 h) hp h
noncomputable def onConst (e : Expr) (f : Const → Bool) : Bool := dite (e.ctorIdx = 19) (fun h => Expr.Constant.elim (motive_1 := fun _ => Bool) e h (fun a0 a1 a2 => f a0)) fun _ => false
theorem onConst_el {e : Expr} {f : Const → Bool} {C : Expr → Prop} (h : onConst e f = true) (k : ∀ (a0 : Const) (a1 : Nat) (a2 : Pos), f a0 = true → C (.Constant a0 a1 a2)) : C e :=
  dite_el h fun hp h => Expr.Constant.elim (motive_1 := fun e => ∀ hp : e.ctorIdx = 19, Expr.Constant.elim (motive_1 := fun _ => Bool) e hp (fun a0 a1 a2 => f a0) = true → C e) e hp (fun a0 a1 a2 _ h => k a0 a1 a2 h) hp h
noncomputable def onInt (e : Const) (f : Int → Bool) : Bool := dite (e.ctorIdx = 2) (fun h => Const.int.elim (motive := fun _ => Bool) e h f) fun _ => false
theorem onInt_el {e : Const} {f : Int → Bool} {C : Const → Prop} (h : onInt e f = true) (k : ∀ (a0 : Int), f a0 = true → C (.int a0)) : C e :=
  dite_el h fun hp h => Const.int.elim (motive := fun e => ∀ hp : e.ctorIdx = 2, Const.int.elim (motive := fun _ => Bool) e hp f = true → C e) e hp (fun a0 _ h => k a0 h) hp h
noncomputable def onStr (e : Const) (f : Str → Bool) : Bool := dite (e.ctorIdx = 5) (fun h => Const.str.elim (motive := fun _ => Bool) e h f) fun _ => false
theorem onStr_el {e : Const} {f : Str → Bool} {C : Const → Prop} (h : onStr e f = true) (k : ∀ (a0 : Str), f a0 = true → C (.str a0)) : C e :=
  dite_el h fun hp h => Const.str.elim (motive := fun e => ∀ hp : e.ctorIdx = 5, Const.str.elim (motive := fun _ => Bool) e hp f = true → C e) e hp (fun a0 _ h => k a0 h) hp h
noncomputable def onBool (e : Const) (f : Bool → Bool) : Bool := dite (e.ctorIdx = 1) (fun h => Const.bool.elim (motive := fun _ => Bool) e h f) fun _ => false
theorem onBool_el {e : Const} {f : Bool → Bool} {C : Const → Prop} (h : onBool e f = true) (k : ∀ (a0 : Bool), f a0 = true → C (.bool a0)) : C e :=
  dite_el h fun hp h => Const.bool.elim (motive := fun e => ∀ hp : e.ctorIdx = 1, Const.bool.elim (motive := fun _ => Bool) e hp f = true → C e) e hp (fun a0 _ h => k a0 h) hp h
noncomputable def onNone : Const → Bool
  | .none => true
  | _ => false
theorem onNone_el {c : Const} {C : Const → Prop} (h : onNone c = true) (k : C .none) : C c := by cases c <;> first | exact k | exact ff h
noncomputable def onBin (e : Expr) (f : Expr → Operator → Expr → Bool) : Bool := dite (e.ctorIdx = 2) (fun h => Expr.BinOp.elim (motive_1 := fun _ => Bool) e h (fun a0 a1 a2 a3 => f a0 a1 a2)) fun _ => false
theorem onBin_el {e : Expr} {f : Expr → Operator → Expr → Bool} {C : Expr → Prop} (h : onBin e f = true) (k : ∀ (a0 : Expr) (a1 : Operator) (a2 : Expr) (a3 : Pos), f a0 a1 a2 = true → C (.BinOp a0 a1 a2 a3)) : C e :=
  dite_el h fun hp h => Expr.BinOp.elim (motive_1 := fun e => ∀ hp : e.ctorIdx = 2, Expr.BinOp.elim (motive_1 := fun _ => Bool) e hp (fun a0 a1 a2 a3 => f a0 a1 a2) = true → C e) e hp (fun a0 a1 a2 a3 _ h => k a0 a1 a2 a3 h) hp h
noncomputable def onCmp (e : Expr) (f : Expr → List CmpOp → List Expr → Bool) : Bool := dite (e.ctorIdx = 15) (fun h => Expr.Compare.elim (motive_1 := fun _ => Bool) e h (fun a0 a1 a2 a3 => f a0 a1 a2)) fun _ => false
theorem onCmp_el {e : Expr} {f : Expr → List CmpOp → List Expr → Bool} {C : Expr → Prop} (h : onCmp e f = true) (k : ∀ (a0 : Expr) (a1 : List CmpOp) (a2 : List Expr) (a3 : Pos), f a0 a1 a2 = true → C (.Compare a0 a1 a2 a3)) : C e :=
  dite_el h fun hp h => Expr.Compare.elim (motive_1 := fun e => ∀ hp : e.ctorIdx = 15, Expr.Compare.elim (motive_1 := fun _ => Bool) e hp (fun a0 a1 a2 a3 => f a0 a1 a2) = true → C e) e hp (fun a0 a1 a2 a3 _ h => k a0 a1 a2 a3 h) hp h
noncomputable def onBop (e : Expr) (f : BoolOp → List Expr → Bool) : Bool := dite (e.ctorIdx = 0) (fun h => Expr.BoolOp.elim (motive_1 := fun _ => Bool) e h (fun a0 a1 a2 => f a0 a1)) fun _ => false
theorem onBop_el {e : Expr} {f : BoolOp → List Expr → Bool} {C : Expr → Prop} (h : onBop e f = true) (k : ∀ (a0 : BoolOp) (a1 : List Expr) (a2 : Pos), f a0 a1 = true → C (.BoolOp a0 a1 a2)) : C e :=
  dite_el h fun hp h => Expr.BoolOp.elim (motive_1 := fun e => ∀ hp : e.ctorIdx = 0, Expr.BoolOp.elim (motive_1 := fun _ => Bool) e hp (fun a0 a1 a2 => f a0 a1) = true → C e) e hp (fun a0 a1 a2 _ h => k a0 a1 a2 h) hp h
noncomputable def onUn (e : Expr) (f : UnaryOp → Expr → Bool) : Bool := dite (e.ctorIdx = 3) (fun h => Expr.UnaryOp.elim (motive_1 := fun _ => Bool) e h (fun a0 a1 a2 => f a0 a1)) fun _ => false
theorem onUn_el {e : Expr} {f : UnaryOp → Expr → Bool} {C : Expr → Prop} (h : onUn e f = true) (k : ∀ (a0 : UnaryOp) (a1 : Expr) (a2 : Pos), f a0 a1 = true → C (.UnaryOp a0 a1 a2)) : C e :=
  dite_el h fun hp h => Expr.UnaryOp.elim (motive_1 := fun e => ∀ hp : e.ctorIdx = 3, Expr.UnaryOp.elim (motive_1 := fun _ => Bool) e hp (fun a0 a1 a2 => f a0 a1) = true → C e) e hp (fun a0 a1 a2 _ h => k a0 a1 a2 h) hp h
noncomputable def onIf (e : Expr) (f : Expr → Expr → Expr → Bool) : Bool := dite (e.ctorIdx = 5) (fun h => Expr.IfExp.elim (motive_1 := fun _ => Bool) e h (fun a0 a1 a2 a3 => f a0 a1 a2)) fun _ => false
theorem onIf_el {e : Expr} {f : Expr → Expr → Expr → Bool} {C : Expr → Prop} (h : onIf e f = true) (k : ∀ (a0 : Expr) (a1 : Expr) (a2 : Expr) (a3 : Pos), f a0 a1 a2 = true → C (.IfExp a0 a1 a2 a3)) : C e :=
  dite_el h fun hp h => Expr.IfExp.elim (motive_1 := fun e => ∀ hp : e.ctorIdx = 5, Expr.IfExp.elim (motive_1 := fun _ => Bool) e hp (fun a0 a1 a2 a3 => f a0 a1 a2) = true → C e) e hp (fun a0 a1 a2 a3 _ h => k a0 a1 a2 a3 h) hp h
noncomputable def onList (e : Expr) (f : List Expr → Bool) : Bool := dite (e.ctorIdx = 24) (fun h => Expr.List.elim (motive_1 := fun _ => Bool) e h (fun a0 a1 => f a0)) fun _ => false
theorem onList_el {e : Expr} {f : List Expr → Bool} {C : Expr → Prop} (h : onList e f = true) (k : ∀ (a0 : List Expr) (a1 : Pos), f a0 = true → C (.List a0 a1)) : C e :=
  dite_el h fun hp h => Expr.List.elim (motive_1 := fun e => ∀ hp : e.ctorIdx = 24, Expr.List.elim (motive_1 := fun _ => Bool) e hp (fun a0 a1 => f a0) = true → C e) e hp (fun a0 a1 _ h => k a0 a1 h) hp h
noncomputable def onTuple (e : Expr) (f : List Expr → Bool) : Bool := dite (e.ctorIdx = 25) (fun h => Expr.Tuple.elim (motive_1 := fun _ => Bool) e h (fun a0 a1 a2 => f a0)) fun _ => false
theorem onTuple_el {e : Expr} {f : List Expr → Bool} {C : Expr → Prop} (h : onTuple e f = true) (k : ∀ (a0 : List Expr) (a1 : Nat) (a2 : Pos), f a0 = true → C (.Tuple a0 a1 a2)) : C e :=
  dite_el h fun hp h => Expr.Tuple.elim (motive_1 := fun e => ∀ hp : e.ctorIdx = 25, Expr.Tuple.elim (motive_1 := fun _ => Bool) e hp (fun a0 a1 a2 => f a0) = true → C e) e hp (fun a0 a1 a2 _ h => k a0 a1 a2 h) hp h
noncomputable def onDict (e : Expr) (f : List (Option Expr) → List Expr → Bool) : Bool := dite (e.ctorIdx = 6) (fun h => Expr.Dict.elim (motive_1 := fun _ => Bool) e h (fun a0 a1 a2 => f a0 a1)) fun _ => false
theorem onDict_el {e : Expr} {f : List (Option Expr) → List Expr → Bool} {C : Expr → Prop} (h : onDict e f = true) (k : ∀ (a0 : List (Option Expr)) (a1 : List Expr) (a2 : Pos), f a0 a1 = true → C (.Dict a0 a1 a2)) : C e :=
  dite_el h fun hp h => Expr.Dict.elim (motive_1 := fun e => ∀ hp : e.ctorIdx = 6, Expr.Dict.elim (motive_1 := fun _ => Bool) e hp (fun a0 a1 a2 => f a0 a1) = true → C e) e hp (fun a0 a1 a2 _ h => k a0 a1 a2 h) hp h
noncomputable def onSub (e : Expr) (f : Expr → Expr → Bool) : Bool := dite (e.ctorIdx = 21) (fun h => Expr.Subscript.elim (motive_1 := fun _ => Bool) e h (fun a0 a1 a2 => f a0 a1)) fun _ => false
theorem onSub_el {e : Expr} {f : Expr → Expr → Bool} {C : Expr → Prop} (h : onSub e f = true) (k : ∀ (a0 : Expr) (a1 : Expr) (a2 : Pos), f a0 a1 = true → C (.Subscript a0 a1 a2)) : C e :=
  dite_el h fun hp h => Expr.Subscript.elim (motive_1 := fun e => ∀ hp : e.ctorIdx = 21, Expr.Subscript.elim (motive_1 := fun _ => Bool) e hp (fun a0 a1 a2 => f a0 a1) = true → C e) e hp (fun a0 a1 a2 _ h => k a0 a1 a2 h) hp h
noncomputable def onSlice (e : Expr) (f : Option Expr → Option Expr → Option Expr → Bool) : Bool := dite (e.ctorIdx = 26) (fun h => Expr.Slice.elim (motive_1 := fun _ => Bool) e h (fun a0 a1 a2 a3 => f a0 a1 a2)) fun _ => false
theorem onSlice_el {e : Expr} {f : Option Expr → Option Expr → Option Expr → Bool} {C : Expr → Prop} (h : onSlice e f = true) (k : ∀ (a0 : Option Expr) (a1 : Option Expr) (a2 : Option Expr) (a3 : Pos), f a0 a1 a2 = true → C (.Slice a0 a1 a2 a3)) : C e :=
  dite_el h fun hp h => Expr.Slice.elim (motive_1 := fun e => ∀ hp : e.ctorIdx = 26, Expr.Slice.elim (motive_1 := fun _ => Bool) e hp (fun a0 a1 a2 a3 => f a0 a1 a2) = true → C e) e hp (fun a0 a1 a2 a3 _ h => k a0 a1 a2 a3 h) hp h
noncomputable def onCall (e : Expr) (f : Expr → List Expr → List Keyword → Pos → Bool) : Bool := dite (e.ctorIdx = 16) (fun h => Expr.Call.elim (motive_1 := fun _ => Bool) e h f) fun _ => false
theorem onCall_el {e : Expr} {f : Expr → List Expr → List Keyword → Pos → Bool} {C : Expr → Prop} (h : onCall e f = true) (k : ∀ (a0 : Expr) (a1 : List Expr) (a2 : List Keyword) (a3 : Pos), f a0 a1 a2 a3 = true → C (.Call a0 a1 a2 a3)) : C e :=
  dite_el h fun hp h => Expr.Call.elim (motive_1 := fun e => ∀ hp : e.ctorIdx = 16, Expr.Call.elim (motive_1 := fun _ => Bool) e hp f = true → C e) e hp (fun a0 a1 a2 a3 _ h => k a0 a1 a2 a3 h) hp h
noncomputable def onAttr (e : Expr) (f : Expr → Str → Pos → Bool) : Bool := dite (e.ctorIdx = 20) (fun h => Expr.Attribute.elim (motive_1 := fun _ => Bool) e h f) fun _ => false
theorem onAttr_el {e : Expr} {f : Expr → Str → Pos → Bool} {C : Expr → Prop} (h : onAttr e f = true) (k : ∀ (a0 : Expr) (a1 : Str) (a2 : Pos), f a0 a1 a2 = true → C (.Attribute a0 a1 a2)) : C e :=
  dite_el h fun hp h => Expr.Attribute.elim (motive_1 := fun e => ∀ hp : e.ctorIdx = 20, Expr.Attribute.elim (motive_1 := fun _ => Bool) e hp f = true → C e) e hp (fun a0 a1 a2 _ h => k a0 a1 a2 h) hp h
noncomputable def onLC (e : Expr) (f : Expr → List Comprehension → Scope → Bool) : Bool := dite (e.ctorIdx = 8) (fun h => Expr.ListComp.elim (motive_1 := fun _ => Bool) e h (fun a0 a1 a2 a3 => f a0 a1 a2)) fun _ => false
theorem onLC_el {e : Expr} {f : Expr → List Comprehension → Scope → Bool} {C : Expr → Prop} (h : onLC e f = true) (k : ∀ (a0 : Expr) (a1 : List Comprehension) (a2 : Scope) (a3 : Pos), f a0 a1 a2 = true → C (.ListComp a0 a1 a2 a3)) : C e :=
  dite_el h fun hp h => Expr.ListComp.elim (motive_1 := fun e => ∀ hp : e.ctorIdx = 8, Expr.ListComp.elim (motive_1 := fun _ => Bool) e hp (fun a0 a1 a2 a3 => f a0 a1 a2) = true → C e) e hp (fun a0 a1 a2 a3 _ h => k a0 a1 a2 a3 h) hp h
noncomputable def onDC (e : Expr) (f : Expr → Expr → List Comprehension → Scope → Bool) : Bool := dite (e.ctorIdx = 10) (fun h => Expr.DictComp.elim (motive_1 := fun _ => Bool) e h (fun a0 a1 a2 a3 a4 => f a0 a1 a2 a3)) fun _ => false
theorem onDC_el {e : Expr} {f : Expr → Expr → List Comprehension → Scope → Bool} {C : Expr → Prop} (h : onDC e f = true) (k : ∀ (a0 : Expr) (a1 : Expr) (a2 : List Comprehension) (a3 : Scope) (a4 : Pos), f a0 a1 a2 a3 = true → C (.DictComp a0 a1 a2 a3 a4)) : C e :=
  dite_el h fun hp h => Expr.DictComp.elim (motive_1 := fun e => ∀ hp : e.ctorIdx = 10, Expr.DictComp.elim (motive_1 := fun _ => Bool) e hp (fun a0 a1 a2 a3 a4 => f a0 a1 a2 a3) = true → C e) e hp (fun a0 a1 a2 a3 a4 _ h => k a0 a1 a2 a3 a4 h) hp h
noncomputable def onOne {α : Type} (l : List α) (f : α → Bool) : Bool := match l with
  | [] => false
  | a :: r => match r with
    | [] => f a
    | _ :: _ => false
theorem onOne_el {α : Type} {l : List α} {f : α → Bool} {C : List α → Prop} (h : onOne l f = true) (k : ∀ a, f a = true → C [a]) : C l := by
  cases l with
  | nil => exact ff h
  | cons a r => cases r with
    | nil => exact k a h
    | cons => exact ff h
noncomputable def onTwo {α : Type} (l : List α) (f : α → α → Bool) : Bool := match l with
  | [] => false
  | a :: r => onOne r (f a)
theorem onTwo_el {α : Type} {l : List α} {f : α → α → Bool} {C : List α → Prop} (h : onTwo l f = true) (k : ∀ a b, f a b = true → C [a, b]) : C l := by
  cases l with
  | nil => exact ff h
  | cons a r => exact onOne_el (C := fun r => C (a :: r)) h (k a)
noncomputable def onNil {α : Type} : List α → Bool
  | [] => true
  | _ :: _ => false
theorem onNil_el {α : Type} {l : List α} {C : List α → Prop} (h : onNil l = true) (k : C []) : C l := by
  cases l with
  | nil => exact k
  | cons => exact ff h
noncomputable def bopB : BoolOp → Bool → Bool
  | .And, b => b
  | .Or, b => !b
theorem bopB_el {o : BoolOp} {b : Bool} {C : Bool → BoolOp → Prop} (h : bopB o b = true) (k1 : C true .And) (k2 : C false .Or) : C b o := by
  cases o <;> cases b
  · exact ff h
  · exact k1
  · exact k2
  · exact ff h
noncomputable def notB : UnaryOp → Bool
  | .Not => true
  | _ => false
theorem notB_el {o : UnaryOp} {C : UnaryOp → Prop} (h : notB o = true) (k : C .Not) : C o := by cases o <;> first | exact k | exact ff h
noncomputable def someB {α : Type} (o : Option α) (f : α → Bool) : Bool := match o with
  | some e => f e
  | none => false
theorem someB_el {α : Type} {o : Option α} {f : α → Bool} {C : Option α → Prop} (h : someB o f = true) (k : ∀ a, f a = true → C (some a)) : C o := by
  cases o with
  | none => exact ff h
  | some a => exact k a h
noncomputable def namesB (cx : Cx) (names : Names) : List Nat → List Expr → Bool := all2 fun i e => onName e fun x _ => wrB cx names i x
theorem namesB_ok {cx : Cx} {names : Names} {is : List Nat} : ∀ {es : List Expr}, namesB cx names is es = true → MtN cx names is es := by
  induction is with
  | nil => exact fun {es} h => by cases es with | nil => exact .nil | cons => exact ff h
  | cons i is ih =>
    intro es h
    cases es with
    | nil => exact ff h
    | cons e es => exact an h fun h1 h2 => onName_el (C := fun e => MtN cx names (i :: is) (e :: es)) h1 fun x p h1 => wr_el (C := fun x => MtN cx names (i :: is) (.Name x p :: es)) h1 fun w => .cons i _ w (ih h2)
noncomputable def tgtB (cx : Cx) (names : Names) (t : Tgt) (e : Expr) : Bool := match t with
  | .one i => onName e fun x _ => wrB cx names i x
  | .tup is => onTuple e fun es => namesB cx names is es
  | .item _ => false
theorem tgtB_ok {cx : Cx} {names : Names} {t : Tgt} {e : Expr} (h : tgtB cx names t e = true) : MtT cx names t e := by
  cases t with
  | one i => exact onName_el (C := MtT cx names _) h fun x p h => wr_el (C := fun x => MtT cx names (.one i) (.Name x p)) h fun w => .one _ _ w
  | tup is => exact onTuple_el (C := MtT cx names _) h fun es k p h => .tup _ _ (namesB_ok h)
  | item => exact ff h
noncomputable def dictKeysB (f : PE → Expr → Bool) : List PE → List (Option Expr) → Bool := all2 fun p o => someB o (f p)
noncomputable def genB (cx : Cx) (f : Names → PE → Expr → Bool) : Names → Names → List (Tgt × PE × List PE) → List Comprehension → Bool
  | _, _, [], l => onNil l
  | o, n, g :: r, l => match l with
    | [] => false
    | c :: r' => tgtB cx n g.1 c.target && (f o g.2.1 c.iter && (all2 (f n) g.2.2 c.ifs && (decide (c.is_async = 0) && genB cx f n n r r')))
noncomputable def zipB : BI → Bool
  | .zip => true
  | _ => false
theorem zipB_el {C : BI → Prop} {b : BI} (h : zipB b = true) (c : C .zip) : C b := by
  cases b with
  | zip => exact c
  | _ => exact ff h
noncomputable def chkE (cx : Cx) : Nat → Names → PE → Expr → Bool
  | 0, _, _, _ => false
  | k + 1, names, pe, e => match pe with
    | .var i => onName e fun x _ => seqB x (cx.name i)
    | .glob i => onName e fun x _ => seqB x (cx.name i) && glB names x
    | .cint v => onConst e fun c => onInt c fun w => decide (v = w)
    | .cstr l => onConst e fun c => onStr c fun x => all2 Nat.beq l x.cps.toList
    | .cnone => onConst e onNone
    | .cbool b => onConst e fun c => onBool c fun d => decide (b = d)
    | .bin op l r => onBin e fun l' op' r' => decide (op = op') && (chkE cx k names l l' && chkE cx k names r r')
    | .cmp op l r => onCmp e fun l' ops rs => onOne ops fun op' => onOne rs fun r' => decide (op = op') && (chkE cx k names l l' && chkE cx k names r r')
    | .boolop b es => onBop e fun o es' => bopB o b && all2 (chkE cx k names) es es'
    | .not a => onUn e fun o a' => notB o && chkE cx k names a a'
    | .ite t b o => onIf e fun t' b' o' => chkE cx k names t t' && (chkE cx k names b b' && chkE cx k names o o')
    | .list es => onList e fun es' => all2 (chkE cx k names) es es'
    | .newlist es => onList e fun es' => all2 (chkE cx k names) es es'
    | .tuple es => onTuple e fun es' => all2 (chkE cx k names) es es'
    | .newdict ks vs => onDict e fun ks' vs' => decide (ks'.length ≤ 15) && (dictKeysB (chkE cx k names) ks ks' && all2 (chkE cx k names) vs vs')
    | .slice v lo hi st => onSub e fun v' s => onSlice s fun lo' hi' st' => chkE cx k names v v' && (opt2 (chkE cx k names) lo lo' && (opt2 (chkE cx k names) hi hi' && opt2 (chkE cx k names) st st'))
    | .idx v i => onSub e fun v' i' => chkE cx k names v v' && chkE cx k names i i'
    | .call f es => onCall e fun g es' kw _ => onNil kw && onName g fun x _ => seqB x (cx.name f) && (glB names x && all2 (chkE cx k names) es es')
--@2:     | .bi b es => onCall e fun g es' kw _ => onNil kw && onName g fun x _ => seqB x (biNm b) && (glB names x && (notZip b && all2 (chkE cx k names) es es'))
    | .bi b es => onCall e fun g es' kw _ => onNil kw && onName g fun x _ => bif notZip b then seqB x (biNm b) && (glB names x && all2 (chkE cx k names) es es') else
        zipB b && (seqB x "list" && (glB names x && onOne es' fun c => onCall c fun g es' kw _ => onNil kw && onName g fun x _ => seqB x "zip" && (glB names x && all2 (chkE cx k names) es es')))
    | .meth m o es => onCall e fun g es' kw p => onNil kw && onAttr g fun o' a q => seqB a (meNm m) && (plainRecv o' && ((q.endLine == p.line) && (decide (es.length < 30) && (chkE cx k names o o' && all2 (chkE cx k names) es es'))))
    | .comp elt gens fv => onLC e fun elt' gens' scope => compB cx names scope fv && (chkE cx k scope.names elt elt' && genB cx (chkE cx k) names scope.names gens gens')
    | .dcomp a b gens fv => onDC e fun a' b' gens' scope => compB cx names scope fv && (chkE cx k scope.names a a' && (chkE cx k scope.names b b' && genB cx (chkE cx k) names scope.names gens gens'))
inductive Rs {α β : Type} (R : α → β → Prop) : List α → List β → Prop
  | nil : Rs R [] []
  | cons {a : α} {b : β} {as : List α} {bs : List β} : R a b → Rs R as bs → Rs R (a :: as) (b :: bs)
inductive RO {α β : Type} (R : α → β → Prop) : Option α → Option β → Prop
  | none : RO R none none
  | some {a : α} {b : β} : R a b → RO R (some a) (some b)
inductive MtG1 (cx : Cx) (R : Names → PE → Expr → Prop) : Names → Names → List (Tgt × PE × List PE) → List Comprehension → Prop
  | nil {o n : Names} : MtG1 cx R o n [] []
  | cons {o n : Names} {t : Tgt} {e : PE} {ts : List PE} {t' e' : Expr} {ts' : List Expr} {r : List (Tgt × PE × List PE)} {r' : List Comprehension} : MtT cx n t t' → R o e e' → Rs (R n) ts ts' → MtG1 cx R n n r r' →
      MtG1 cx R o n ((t, e, ts) :: r) (⟨t', e', ts', 0⟩ :: r')
inductive MtE1 (cx : Cx) (R : Names → PE → Expr → Prop) (names : Names) : PE → Expr → Prop
  | var (i : Nat) (p : Pos) : MtE1 cx R names (.var i) (.Name (cx.name i) p)
  | glob (i : Nat) (p : Pos) : glOk names (cx.name i) = true → MtE1 cx R names (.glob i) (.Name (cx.name i) p)
  | cint (v : Int) (k : Nat) (p : Pos) : MtE1 cx R names (.cint v) (.Constant (.int v) k p)
  | cstr (l : List Nat) (x : Str) (k : Nat) (p : Pos) : x.cps.toList = l → MtE1 cx R names (.cstr l) (.Constant (.str x) k p)
  | cnone (k : Nat) (p : Pos) : MtE1 cx R names .cnone (.Constant .none k p)
  | cbool (b : Bool) (k : Nat) (p : Pos) : MtE1 cx R names (.cbool b) (.Constant (.bool b) k p)
  | bin (op : Operator) {l r : PE} {l' r' : Expr} (p : Pos) : R names l l' → R names r r' → MtE1 cx R names (.bin op l r) (.BinOp l' op r' p)
  | cmp (op : CmpOp) {l r : PE} {l' r' : Expr} (p : Pos) : R names l l' → R names r r' → MtE1 cx R names (.cmp op l r) (.Compare l' [op] [r'] p)
  | and {es : List PE} {es' : List Expr} (p : Pos) : Rs (R names) es es' → MtE1 cx R names (.boolop true es) (.BoolOp .And es' p)
  | or {es : List PE} {es' : List Expr} (p : Pos) : Rs (R names) es es' → MtE1 cx R names (.boolop false es) (.BoolOp .Or es' p)
  | not {e : PE} {e' : Expr} (p : Pos) : R names e e' → MtE1 cx R names (.not e) (.UnaryOp .Not e' p)
  | ite {t b o : PE} {t' b' o' : Expr} (p : Pos) : R names t t' → R names b b' → R names o o' → MtE1 cx R names (.ite t b o) (.IfExp t' b' o' p)
  | list {es : List PE} {es' : List Expr} (p : Pos) : Rs (R names) es es' → MtE1 cx R names (.list es) (.List es' p)
  | newlist {es : List PE} {es' : List Expr} (p : Pos) : Rs (R names) es es' → MtE1 cx R names (.newlist es) (.List es' p)
  | tuple {es : List PE} {es' : List Expr} (k : Nat) (p : Pos) : Rs (R names) es es' → MtE1 cx R names (.tuple es) (.Tuple es' k p)
  | newdict {ks vs : List PE} {ks' vs' : List Expr} (p : Pos) : decide (ks'.length ≤ 15) = true → Rs (R names) ks ks' → Rs (R names) vs vs' → MtE1 cx R names (.newdict ks vs) (.Dict (ks'.map some) vs' p)
  | idx {v i : PE} {v' i' : Expr} (p : Pos) : R names v v' → R names i i' → MtE1 cx R names (.idx v i) (.Subscript v' i' p)
  | slice {v : PE} {lo hi st : Option PE} {v' : Expr} {lo' hi' st' : Option Expr} (q p : Pos) : R names v v' → RO (R names) lo lo' → RO (R names) hi hi' → RO (R names) st st' →
      MtE1 cx R names (.slice v lo hi st) (.Subscript v' (.Slice lo' hi' st' q) p)
  | call (f : Nat) {es : List PE} {es' : List Expr} (q p : Pos) : glOk names (cx.name f) = true → Rs (R names) es es' → MtE1 cx R names (.call f es) (.Call (.Name (cx.name f) q) es' [] p)
  | bi (b : BI) {es : List PE} {es' : List Expr} (q p : Pos) : notZip b = true → glOk names (biNm b) = true → Rs (R names) es es' → MtE1 cx R names (.bi b es) (.Call (.Name (biNm b) q) es' [] p)
  | zip {es : List PE} {es' : List Expr} (q' p' q p : Pos) : glOk names "list" = true → glOk names "zip" = true → Rs (R names) es es' → MtE1 cx R names (.bi .zip es) (.Call (.Name "list" q) [.Call (.Name "zip" q') es' [] p'] [] p)
  | meth (m : Me) {o : PE} {es : List PE} {o' : Expr} {es' : List Expr} (q p : Pos) : R names o o' → Rs (R names) es es' → (∀ env, attributeBase o' (meNm m) env (eval o' env) = eval o' env) →
      (q.endLine == p.line) = true → decide (es.length < 30) = true → MtE1 cx R names (.meth m o es) (.Call (.Attribute o' (meNm m) q) es' [] p)
  | comp {elt : PE} {gens : List (Tgt × PE × List PE)} {fv : List Nat} {elt' : Expr} {gens' : List Comprehension} {scope : Scope} (p : Pos) : compOk cx names scope fv = true → R scope.names elt elt' → MtG1 cx R names scope.names gens gens' →
      MtE1 cx R names (.comp elt gens fv) (.ListComp elt' gens' scope p)
  | dcomp {k v : PE} {gens : List (Tgt × PE × List PE)} {fv : List Nat} {k' v' : Expr} {gens' : List Comprehension} {scope : Scope} (p : Pos) : compOk cx names scope fv = true → R scope.names k k' → R scope.names v v' →
      MtG1 cx R names scope.names gens gens' → MtE1 cx R names (.dcomp k v gens fv) (.DictComp k' v' gens' scope p)
noncomputable def MtE (cx : Cx) (names : Names) (pe : PE) (e : Expr) : Prop := ∃ k, chkE cx k names pe e = true
noncomputable abbrev MtEs (cx : Cx) (names : Names) : List PE → List Expr → Prop := Rs (MtE cx names)
noncomputable abbrev MtO (cx : Cx) (names : Names) : Option PE → Option Expr → Prop := RO (MtE cx names)
noncomputable abbrev MtG (cx : Cx) : Names → Names → List (Tgt × PE × List PE) → List Comprehension → Prop := MtG1 cx (MtE cx)
section
variable {cx : Cx} {f : Names → PE → Expr → Bool} (hf : ∀ {names : Names} {pe : PE} {e : Expr}, f names pe e = true → MtE cx names pe e)
include hf
theorem all2_ok {names : Names} {es : List PE} : ∀ {es' : List Expr}, all2 (f names) es es' = true → MtEs cx names es es' := by
  induction es with
  | nil => exact fun {es'} h => by cases es' with | nil => exact .nil | cons => exact ff h
  | cons e es ih =>
    intro es' h
    cases es' with
    | nil => exact ff h
    | cons e' es' => exact an h fun h1 h2 => .cons (hf h1) (ih h2)
theorem opt2_ok {names : Names} {o : Option PE} {o' : Option Expr} (h : opt2 (f names) o o' = true) : MtO cx names o o' := by
  cases o <;> cases o' <;> first | exact .none | exact ff h | exact .some (hf h)
theorem dictKeysB_el {names : Names} {es : List PE} : ∀ {es' : List (Option Expr)}, dictKeysB (f names) es es' = true → ∃ ks, es' = ks.map some ∧ MtEs cx names es ks := by
  induction es with
  | nil => exact fun {es'} h => by cases es' with | nil => exact ⟨[], rfl, .nil⟩ | cons => exact ff h
  | cons e es ih =>
    intro es' h
    cases es' with
    | nil => exact ff h
    | cons o es' => exact an h fun h1 h2 => someB_el (C := fun o => ∃ ks, o :: es' = ks.map some ∧ MtEs cx names (e :: es) ks) h1 fun a h1 => (ih h2).elim fun ks hk => ⟨a :: ks, congrArg (some a :: ·) hk.1, .cons (hf h1) hk.2⟩
theorem genB_ok {g : List (Tgt × PE × List PE)} : ∀ {o n : Names} {g' : List Comprehension}, genB cx f o n g g' = true → MtG cx o n g g' := by
  induction g with
  | nil => exact fun {o n g'} h => onNil_el (C := MtG cx o n []) h .nil
  | cons c r ih =>
    intro o n g' h
    cases g' with
    | nil => exact ff h
    | cons c' r' =>
      obtain ⟨t', e', ts', a⟩ := c'
      exact an h fun h1 h => an h fun h2 h => an h fun h3 h => an h fun h4 h5 => eq_el (C := fun a => MtG cx o n (c :: r) (⟨t', e', ts', a⟩ :: r')) h4 (.cons (tgtB_ok h1) (hf h2) (all2_ok hf h3) (ih h5))
end
theorem MtE.inv {cx : Cx} {names : Names} {pe : PE} {e : Expr} (m : MtE cx names pe e) : MtE1 cx (MtE cx) names pe e := by
  obtain ⟨k, h⟩ := m
  cases k with
  | zero => exact ff h
  | succ k =>
    have wk := fun {names : Names} {pe : PE} {e : Expr} (h : chkE cx k names pe e = true) => (⟨k, h⟩ : MtE cx names pe e)
    cases pe with
    | var i => exact onName_el (C := MtE1 cx (MtE cx) names _) h fun x p h => seq_el (C := fun x => MtE1 cx (MtE cx) names (.var i) (.Name x p)) h (.var _ _)
    | glob i => exact onName_el (C := MtE1 cx (MtE cx) names _) h fun x p h => an h fun h => seq_el (C := fun x => glB names x = true → MtE1 cx (MtE cx) names (.glob i) (.Name x p)) h fun h => .glob _ _ (glB_ok h)
    | cint v => exact onConst_el (C := MtE1 cx (MtE cx) names _) h fun c n p h => onInt_el (C := fun c => MtE1 cx (MtE cx) names (.cint v) (.Constant c n p)) h fun w h => eq_el (C := fun v => MtE1 cx (MtE cx) names (.cint v) (.Constant (.int w) n p)) h (.cint _ _ _)
    | cstr l => exact onConst_el (C := MtE1 cx (MtE cx) names _) h fun c n p h => onStr_el (C := fun c => MtE1 cx (MtE cx) names (.cstr l) (.Constant c n p)) h fun x h => .cstr _ _ _ _ (all2_beq h).symm
    | cnone => exact onConst_el (C := MtE1 cx (MtE cx) names _) h fun c n p h => onNone_el (C := fun c => MtE1 cx (MtE cx) names .cnone (.Constant c n p)) h (.cnone _ _)
    | cbool b => exact onConst_el (C := MtE1 cx (MtE cx) names _) h fun c n p h => onBool_el (C := fun c => MtE1 cx (MtE cx) names (.cbool b) (.Constant c n p)) h fun d h => eq_el (C := fun b => MtE1 cx (MtE cx) names (.cbool b) (.Constant (.bool d) n p)) h (.cbool _ _ _)
    | bin op l r => exact onBin_el (C := MtE1 cx (MtE cx) names _) h fun l' op' r' p h => an h fun h h2 => eq_el (C := fun op => MtE1 cx (MtE cx) names (.bin op l r) (.BinOp l' op' r' p)) h (an h2 fun h1 h2 => .bin _ _ (wk h1) (wk h2))
    | cmp op l r => exact onCmp_el (C := MtE1 cx (MtE cx) names _) h fun l' ops rs p h => onOne_el (C := fun ops => MtE1 cx (MtE cx) names (.cmp op l r) (.Compare l' ops rs p)) h fun op' h => onOne_el (C := fun rs => MtE1 cx (MtE cx) names (.cmp op l r) (.Compare l' [op'] rs p)) h fun r' h => an h fun h h2 => eq_el (C := fun op => MtE1 cx (MtE cx) names (.cmp op l r) (.Compare l' [op'] [r'] p)) h (an h2 fun h1 h2 => .cmp _ _ (wk h1) (wk h2))
    | boolop b es => exact onBop_el (C := MtE1 cx (MtE cx) names _) h fun o es' p h => an h fun h1 h2 => bopB_el (C := fun b o => MtE1 cx (MtE cx) names (.boolop b es) (.BoolOp o es' p)) h1 (.and _ (all2_ok wk h2)) (.or _ (all2_ok wk h2))
    | not a => exact onUn_el (C := MtE1 cx (MtE cx) names _) h fun o a' p h => an h fun h1 h2 => notB_el (C := fun o => MtE1 cx (MtE cx) names (.not a) (.UnaryOp o a' p)) h1 (.not _ (wk h2))
    | ite t b o => exact onIf_el (C := MtE1 cx (MtE cx) names _) h fun t' b' o' p h => an h fun h1 h => an h fun h2 h3 => .ite _ (wk h1) (wk h2) (wk h3)
    | list es => exact onList_el (C := MtE1 cx (MtE cx) names _) h fun es' p h => .list _ (all2_ok wk h)
    | newlist es => exact onList_el (C := MtE1 cx (MtE cx) names _) h fun es' p h => .newlist _ (all2_ok wk h)
    | tuple es => exact onTuple_el (C := MtE1 cx (MtE cx) names _) h fun es' n p h => .tuple _ _ (all2_ok wk h)
    | newdict ks vs => exact onDict_el (C := MtE1 cx (MtE cx) names _) h fun ks' vs' p h => an h fun h1 h => an h fun h2 h3 => (dictKeysB_el wk h2).elim fun l hk => (hk.1 ▸ fun h1 => .newdict _ (by rwa [List.length_map] at h1) hk.2 (all2_ok wk h3) : decide (ks'.length ≤ 15) = true → MtE1 cx (MtE cx) names (.newdict ks vs) (.Dict ks' vs' p)) h1
    | slice v lo hi st => exact onSub_el (C := MtE1 cx (MtE cx) names _) h fun v' s p h => onSlice_el (C := fun s => MtE1 cx (MtE cx) names (.slice v lo hi st) (.Subscript v' s p)) h fun lo' hi' st' q h => an h fun h1 h => an h fun h2 h => an h fun h3 h4 => .slice _ _ (wk h1) (opt2_ok wk h2) (opt2_ok wk h3) (opt2_ok wk h4)
    | idx v i => exact onSub_el (C := MtE1 cx (MtE cx) names _) h fun v' i' p h => an h fun h1 h2 => .idx _ (wk h1) (wk h2)
    | call f es => exact onCall_el (C := MtE1 cx (MtE cx) names _) h fun g es' kw p h => an h fun h0 h => onNil_el (C := fun kw => MtE1 cx (MtE cx) names (.call f es) (.Call g es' kw p)) h0 (onName_el (C := fun g => MtE1 cx (MtE cx) names (.call f es) (.Call g es' [] p)) h fun x q h => an h fun h1 h => seq_el (C := fun x => (glB names x && all2 (chkE cx k names) es es') = true → MtE1 cx (MtE cx) names (.call f es) (.Call (.Name x q) es' [] p)) h1 (fun h => an h fun h2 h3 => .call _ _ _ (glB_ok h2) (all2_ok wk h3)) h)
--@2:     | bi b es => exact onCall_el (C := MtE1 cx (MtE cx) names _) h fun g es' kw p h => an h fun h0 h => onNil_el (C := fun kw => MtE1 cx (MtE cx) names (.bi b es) (.Call g es' kw p)) h0 (onName_el (C := fun g => MtE1 cx (MtE cx) names (.bi b es) (.Call g es' [] p)) h fun x q h => an h fun h1 h => seq_el (C := fun x => (glB names x && (notZip b && all2 (chkE cx k names) es es')) = true → MtE1 cx (MtE cx) names (.bi b es) (.Call (.Name x q) es' [] p)) h1 (fun h => an h fun h2 h => an h fun h3 h4 => .bi _ _ _ h3 (glB_ok h2) (all2_ok wk h4)) h)
    | bi b es =>
      refine onCall_el (C := MtE1 cx (MtE cx) names _) h fun g es' kw p h => an h fun h0 h => onNil_el (C := fun kw => MtE1 cx (MtE cx) names (.bi b es) (.Call g es' kw p)) h0 (onName_el (C := fun g => MtE1 cx (MtE cx) names (.bi b es) (.Call g es' [] p)) h fun x q h => ?_)
      cases hb : notZip b with
      | true =>
        rw [hb] at h
        exact an h fun h1 h => seq_el (C := fun x => (glB names x && all2 (chkE cx k names) es es') = true → MtE1 cx (MtE cx) names (.bi b es) (.Call (.Name x q) es' [] p)) h1 (fun h => an h fun h2 h4 => .bi _ _ _ hb (glB_ok h2) (all2_ok wk h4)) h
      | false =>
        rw [hb] at h
        refine an h fun h0 h => zipB_el (C := fun b => MtE1 cx (MtE cx) names (.bi b es) (.Call (.Name x q) es' [] p)) h0 (an h fun h1 h => seq_el (C := fun x => (glB names x && onOne es' fun c => onCall c fun g es' kw _ => onNil kw && onName g fun x _ => seqB x "zip" && (glB names x && all2 (chkE cx k names) es es')) = true → MtE1 cx (MtE cx) names (.bi .zip es) (.Call (.Name x q) es' [] p)) h1 (fun h => an h fun h2 h =>
          onOne_el (C := fun es' => MtE1 cx (MtE cx) names (.bi .zip es) (.Call (.Name "list" q) es' [] p)) h fun c h => onCall_el (C := fun c => MtE1 cx (MtE cx) names (.bi .zip es) (.Call (.Name "list" q) [c] [] p)) h fun g es' kw p' h => an h fun h0 h => onNil_el (C := fun kw => MtE1 cx (MtE cx) names (.bi .zip es) (.Call (.Name "list" q) [.Call g es' kw p'] [] p)) h0
            (onName_el (C := fun g => MtE1 cx (MtE cx) names (.bi .zip es) (.Call (.Name "list" q) [.Call g es' [] p'] [] p)) h fun x q' h => an h fun h1 h => seq_el (C := fun x => (glB names x && all2 (chkE cx k names) es es') = true → MtE1 cx (MtE cx) names (.bi .zip es) (.Call (.Name "list" q) [.Call (.Name x q') es' [] p'] [] p)) h1 (fun h => an h fun h3 h4 => .zip _ _ _ _ (glB_ok h2) (glB_ok h3) (all2_ok wk h4)) h)) h)
    | meth m o es => exact onCall_el (C := MtE1 cx (MtE cx) names _) h fun g es' kw p h => an h fun h0 h => onNil_el (C := fun kw => MtE1 cx (MtE cx) names (.meth m o es) (.Call g es' kw p)) h0 (onAttr_el (C := fun g => MtE1 cx (MtE cx) names (.meth m o es) (.Call g es' [] p)) h fun o' a q h => an h fun h1 h => seq_el (C := fun a => MtE1 cx (MtE cx) names (.meth m o es) (.Call (.Attribute o' a q) es' [] p)) h1 (an h fun h2 h => an h fun h3 h => an h fun h4 h => an h fun h5 h6 => .meth _ _ _ (wk h5) (all2_ok wk h6) (fun env => plainRecv_ok h2 _ _ _) h3 h4))
    | comp elt gens fv => exact onLC_el (C := MtE1 cx (MtE cx) names _) h fun elt' gens' scope p h => an h fun h1 h => an h fun h2 h3 => .comp _ (compB_ok h1) (wk h2) (genB_ok wk h3)
    | dcomp a b gens fv => exact onDC_el (C := MtE1 cx (MtE cx) names _) h fun a' b' gens' scope p h => an h fun h1 h => an h fun h2 h => an h fun h3 h4 => .dcomp _ (compB_ok h1) (wk h2) (wk h3) (genB_ok wk h4)
section
variable {cx : Cx} {names : Names}
noncomputable def plain (e : Expr) : Bool := [0, 2, 3, 5, 6, 8, 10, 15, 16, 19, 21, 23, 24, 25].contains e.ctorIdx
theorem MtE.plain {e : PE} {e' : Expr} (m : MtE cx names e e') : plain e' = true := by
  have i := m.inv
  clear m
  induction i <;> rfl
theorem MtE.star {e : PE} {e' : Expr} (m : MtE cx names e e') (rest : List Expr) (env : Env) : starEach (e' :: rest) env = (false, eval e' env) :: starEach rest env := by
  have h := m.plain
  clear m
  cases e' <;> first | rfl | exact ff h
theorem MtE.noSet {e : PE} {e' : Expr} (m : MtE cx names e e') (env : Env) (x : Value) : foldedSetIterable e' env x = pure x := by
  have h := m.plain
  clear m
  cases e' <;> first | rfl | exact ff h
theorem MtE.noMarks {e : PE} {e' : Expr} (m : MtE cx names e e') (op : CmpOp) : behindInMarks op e' = false := by
  have i := m.inv
  clear m
  induction i <;> rfl
theorem MtEs.starred {es : List PE} {es' : List Expr} (m : MtEs cx names es es') (env : Env) : (starEach es' env).any (·.1) = false ∧ (starEach es' env).all (fun x => !x.1) = true := by
  induction m with
  | nil => exact ⟨rfl, rfl⟩
  | cons h t ih => rw [h.star]; exact ih
theorem MtEs.len {es : List PE} {es' : List Expr} (m : MtEs cx names es es') : es'.length = es.length := by
  induction m with
  | nil => rfl
  | cons _ _ ih => exact congrArg (· + 1) ih
theorem backTo_star {es : List PE} {es' : List Expr} (m : MtEs cx names es es') (pos : Pos) (env : Env) : (backTo pos (starEach es' env)).any (·.1) = false ∧ (backTo pos (starEach es' env)).all (fun x => !x.1) = true := by
  have h := MtEs.starred m env
  unfold backTo
  rw [List.any_map, List.all_map]
  exact h
end
end Mine
end
section
namespace Mine
open PySem
section
variable {cx : Cx}
theorem VRel.flat {prog : Program} {w : World} {σ : List Addr} {B : Addr → Option Obj} {v : PV} {x : Value} (h : VRel prog w σ B v x) (hf : flatV v = true) : FRel v x := by
  cases h with
  | int i t => exact rfl
  | str l s t e => exact e
  | _ => exact ff hf
theorem put_sound {z : Z} {s : Shared} {A : Around} {k v : PV} {es es' : List (PV × PV)} {d : Addr} {o : Obj} {kx vx : Value} {E : Value → Shared → Prop} {Q : Unit → Shared → Prop} {t : Sem Unit} (h : put k v es = some es')
    (ho : s.heap.get? d = some o) (hd : DRel cx.prog cx.w es o) (hk : VR cx z k kx) (hv : VR cx z v vx) (hl : es.length ≤ 1000)
    (hset : ∀ {K : Type} [DecidableEq K] {knd : KeyKind cx.prog cx.w K} {kk : K} {kvs : List (K × Value)}, knd.is kk kx = true → s.heap.DictOf knd d kvs → kvs.length ≤ sizeLine →
      (∀ h', h'.DictOf knd d (stored kvs kk vx) → Heap.SameBut d s.heap h' → Q () { s with heap := h', toks := s.toks + 1 }) → wpAny (model cx.prog cx.w) A t Q E s)
    (hQ : ∀ h' o', h'.get? d = some o' → DRel cx.prog cx.w es' o' → Heap.SameBut d s.heap h' → Q () { s with heap := h', toks := s.toks + 1 }) :
    wpAny (model cx.prog cx.w) A t Q E s := by
  refine bif_el h fun hfl h => ?_
  have hF := hv.flat hfl
  have h1000 : ∀ {n : Nat}, es.length = n → n ≤ sizeLine := fun e => Nat.le_trans (e ▸ hl) (by decide)
  have of : ∀ {K : Type} [DecidableEq K] {knd : KeyKind cx.prog cx.w K} {kvs : List (K × Value)} {h' : Heap}, h'.DictOf knd d kvs → ∃ o', h'.get? d = some o' ∧ DObj knd o' kvs := fun x => x.elim fun o x => x.elim fun es x => x.elim fun ep x => ⟨o, x.1, fun h' b e => ⟨o, es, ep, e, x.2⟩⟩
  cases k with
  | int i =>
    obtain ⟨r, hr, rfl⟩ := Option.map_eq_some_iff.mp h
    cases hk with
    | int _ t =>
      obtain ⟨kvs, hD, hE⟩ := hd.int hr
      refine hset (knd := intKind cx.prog cx.w) (kk := i) (beq_self_eq_true i) (hD _ _ ho) (h1000 hE.length) fun h' hD' hs => ?_
      obtain ⟨o', ho', hD''⟩ := of hD'
      exact hQ h' o' ho' (.ik _ hD'' (hE.put (DictOf.nodup (hD _ _ ho)) hF)) hs
  | str l =>
    obtain ⟨r, hr, rfl⟩ := Option.map_eq_some_iff.mp h
    cases hk with
    | str _ y t e =>
      subst e
      obtain ⟨kvs, hD, hE⟩ := hd.str hr
      refine hset (knd := strKind cx.prog cx.w) (kk := y) (beq_self_eq_true y) (hD _ _ ho) (h1000 hE.length) fun h' hD' hs => ?_
      obtain ⟨o', ho', hD''⟩ := of hD'
      exact hQ h' o' ho' (.sk _ hD'' (hE.put (DictOf.nodup (hD _ _ ho)) hF)) hs
  | _ => exact nn h
theorem dictSet_sound {z : Z} {s : Shared} {A : Around} {k v : PV} {es es' : List (PV × PV)} {d : Addr} {o : Obj} {kx vx : Value} {E : Value → Shared → Prop} {Q : Unit → Shared → Prop} (h : put k v es = some es')
    (ho : s.heap.get? d = some o) (hd : DRel cx.prog cx.w es o) (hk : VR cx z k kx) (hv : VR cx z v vx) (hl : es.length ≤ 1000)
    (hQ : ∀ h' o', h'.get? d = some o' → DRel cx.prog cx.w es' o' → Heap.SameBut d s.heap h' → Q () { s with heap := h', toks := s.toks + 1 }) :
    wpAny (model cx.prog cx.w) A (dictSet d kx vx) Q E s :=
  put_sound h ho hd hk hv hl (fun hk hD hsz hq => wpAny_dictSet_pairs hk hD hq hsz) hQ
structure Glob (cx : Cx) (P : PProg) : Prop where
  nm : NmOk cx
  ns : ∃ mg mb, cx.h₀.Ns cx.gA mg ∧ cx.h₀.Ns cx.bA mb ∧ (∀ b, mg (biNm b) = none ∧ mb (biNm b) = some (biVal b)) ∧
    (∀ i v, P.G i = some v → ∃ x, mg (cx.name i) = some x ∧ ∀ σ (B : Addr → Option Obj), (∀ a o, cx.h₀.get? a = some o → B a = some o) → VRel cx.prog cx.w σ B v x) ∧
    (∀ f p, P.F f = some p → mg (cx.name f) = some (.ref (cx.fa f)) ∧ ∃ o fd, cx.h₀.get? (cx.fa f) = some o ∧ o.data = .func fd)
  lim : cx.h₀.NoLimit
noncomputable def SndE (cx : Cx) (rec : EvE) (n : Nat) : Prop := ∀ {names : Names} {pe : PE} {e : Expr} {env : Env} {penv : PEnv} {z : Z} {s : Shared} {A : Around} {v : PV} {st' : Store}, MtE cx names pe e → Fr cx names z env penv → OkZ cx z → s.heap = z.h →
  ArOk A n → rec pe penv z.st = some (v, st') → Runs cx A (eval e env) z v st' s
noncomputable def SndT (cx : Cx) (rec : EvE) (n : Nat) : Prop := ∀ {names : Names} {pe : PE} {e : Expr} {env : Env} {penv : PEnv} {z : Z} {s : Shared} {A : Around} {b : Bool} {st' : Store}, MtE cx names pe e → Fr cx names z env penv → OkZ cx z → s.heap = z.h →
  ArOk A n → evTest rec pe penv z.st = some (b, st') → RunsT cx A (isTrue e env (eval e env)) z b st' s
noncomputable def SndC (cx : Cx) (P : PProg) (call : EvC) (n : Nat) : Prop := ∀ {f : Nat} {vs : List PV} {vals : List Value} {z : Z} {s : Shared} {A : Around} {v : PV} {st' : Store}, OkZ cx z → s.heap = z.h → ArOk A n → VRs cx z vs vals →
  call f vs z.st = some (v, st') → Runs cx A (PySem.call (.ref (cx.fa f)) vals) z v st' s
variable {rec : EvE} {n : Nat} {names : Names} {env : Env} {penv : PEnv} {A : Around} {P : PProg} {call : EvC}
theorem ArOk.mono {m : Nat} (h : ArOk A n) (hm : m ≤ n) : ArOk A m := ⟨h.hh, Nat.lt_of_le_of_lt (Nat.add_le_add_left hm _) h.dep, by have := h.uni; omega⟩
section
variable {γ : Type} {r : γ} {C : Prop}
theorem mV {x : Option (PV × Store)} {f : PV → Store → Option γ} (h : (match x with
    | some (a, b) => f a b
    | none => none) = some r) (k : ∀ a b, x = some (a, b) → f a b = some r → C) : C := by
  cases x with
  | none => exact nn h
  | some p => exact k p.1 p.2 rfl h
theorem mL {x : Option (List PV × Store)} {f : List PV → Store → Option γ} (h : (match x with
    | some (a, b) => f a b
    | none => none) = some r) (k : ∀ a b, x = some (a, b) → f a b = some r → C) : C := by
  cases x with
  | none => exact nn h
  | some p => exact k p.1 p.2 rfl h
theorem mT {x : Option (Bool × Store)} {f g : Store → Option γ} (h : (match x with
    | some (true, st) => f st
    | some (false, st) => g st
    | none => none) = some r) (k : ∀ b st, x = some (b, st) → (bif b then f st else g st) = some r → C) : C := by
  cases x with
  | none => exact nn h
  | some p =>
    obtain ⟨b, st⟩ := p
    cases b <;> exact k _ _ rfl h
theorem mO {x : Option PV} {f : PV → Option γ} (h : (match x with
    | some a => f a
    | none => none) = some r) (k : ∀ a, x = some a → f a = some r → C) : C := by
  cases x with
  | none => exact nn h
  | some a => exact k a rfl h
theorem mB {x : Option Bool} {f : Bool → Option γ} (h : (match x with
    | some a => f a
    | none => none) = some r) (k : ∀ a, x = some a → f a = some r → C) : C := by
  cases x with
  | none => exact nn h
  | some a => exact k a rfl h
theorem mE {x : Option PEnv} {f : PEnv → Option γ} (h : (match x with
    | some a => f a
    | none => none) = some r) (k : ∀ a, x = some a → f a = some r → C) : C := by
  cases x with
  | none => exact nn h
  | some a => exact k a rfl h
end
theorem list_sound (hE : SndE cx rec n) (hA : ArOk A n) (pos : Pos) {es : List PE} {es' : List Expr} (m : MtEs cx names es es') : ∀ {z : Z} {s : Shared} {vs : List PV} {st' : Store}, Fr cx names z env penv → OkZ cx z → s.heap = z.h →
    evList rec es penv z.st = some (vs, st') → RunsL cx A (spliced (backTo pos (starEach es' env))) z vs st' s := by
  induction m with
  | nil =>
    intro z s vs st' f k hz h
    cases h
    intro E Q hQ
    have := hQ [] z s.toks k (.refl z) rfl .nil
    rw [← hz] at this
    exact wpAny_items_nil this
  | cons he ht ih =>
    intro z s vs st' f k hz h
    refine mV h fun v st1 h1 h => mL h fun us st2 h2 h => ?_
    cases h
    intro E Q hQ
    refine wpAny_items_cons (hE he f k hz hA h1 E _ fun x z1 tk k1 e1 s1 v1 => ?_) (he.star _ env)
    refine ih (f.ext e1) k1 rfl (by rw [s1]; exact h2) E _ fun xs z2 tk2 k2 e2 s2 v2 => ?_
    exact hQ (x :: xs) z2 tk2 k2 (e1.trans e2) s2 (.cons (v1.ext e2) v2)
theorem part_sound (hE : SndE cx rec n) (hA : ArOk A n) {o : Option PE} {o' : Option Expr} {z : Z} {s : Shared} {v : PV} {st' : Store} (m : MtO cx names o o') (f : Fr cx names z env penv) (k : OkZ cx z) (hz : s.heap = z.h)
    (h : optE rec o penv z.st = some (v, st')) : Runs cx A (evalPart o' env) z v st' s := by
  cases m with
  | none =>
    cases h
    exact .val k hz .none fun E Q hQ => wpAny_pure (hQ s.toks)
  | some m => exact hE m f k hz hA h
theorem Runs.bool {z : Z} {s : Shared} {t : Sem Value} (k : OkZ cx z) (hz : s.heap = z.h) {b : Bool} (h : ∀ (E : Value → Shared → Prop) (Q : Value → Shared → Prop), (∀ tk, Q (.bool b) { s with toks := tk }) → wpAny (model cx.prog cx.w) A t Q E s) : Runs cx A t z (.bool b) z.st s :=
  .val k hz (.bool b) h
theorem truthy_bool {b : Bool} {s : Shared} {E : Value → Shared → Prop} {Q : Bool → Shared → Prop} {z : Z} (hQ : ∀ tk, Q b { s with toks := tk }) : wpAny (model cx.prog cx.w) A (truthy (.bool b)) Q E s :=
  truthy_sound (cx := cx) (z := z) (v := .bool b) rfl rfl hQ
theorem glOk_ok {x : Str} (h : glOk names x = true) : names.lookup x = some .globalImplicit ∧ (x == ("__debug__" : Str)) = false := an h fun h1 h2 => ⟨beq_iff_eq.mp h1, nt h2⟩
theorem glob_sound (G : Glob cx P) {z : Z} {s : Shared} {i : Nat} {v : PV} (h : P.G i = some v) (hn : glOk names (cx.name i) = true) (f : Fr cx names z env penv) (k : OkZ cx z) (hz : s.heap = z.h) (p : Pos) :
    Runs cx A (eval (.Name (cx.name i) p) env) z v z.st s := by
  obtain ⟨mg, mb, hg, hb, _, hv, _⟩ := G.ns
  obtain ⟨x, hx, hr⟩ := hv i v h
  have hn := glOk_ok hn
  refine .val k hz (hr _ _ fun a o e => k.base a o e) fun E Q hQ => Calls.Name_function_global f.kind ((f.raw _ _ hn.1).1 (by decide)) ?_ hn.2
  refine Calls.loadGlobal_global (mg := mg) ?_ hx (hQ s.toks)
  rw [f.glob, hz]; exact hg.keeps fun b o e => k.sub _ _ (k.base _ _ e)
theorem fn_load (G : Glob cx P) {z : Z} {s : Shared} {i : Nat} {pb : List Nat × List PS} (h : P.F i = some pb) (hn : glOk names (cx.name i) = true) (f : Fr cx names z env penv) (k : OkZ cx z) (hz : s.heap = z.h) (p : Pos) {E Q : Value → Shared → Prop} (hQ : Q (.ref (cx.fa i)) s) :
    wpAny (model cx.prog cx.w) A (eval (.Name (cx.name i) p) env) Q E s := by
  obtain ⟨mg, mb, hg, hb, _, _, hf⟩ := G.ns
  obtain ⟨hx, _⟩ := hf i pb h
  have hn := glOk_ok hn
  refine Calls.Name_function_global f.kind ((f.raw _ _ hn.1).1 (by decide)) ?_ hn.2
  refine Calls.loadGlobal_global (mg := mg) ?_ hx hQ
  rw [f.glob, hz]; exact hg.keeps fun b o e => k.sub _ _ (k.base _ _ e)
theorem bi_load (G : Glob cx P) {z : Z} {s : Shared} {b : BI} (hn : glOk names (biNm b) = true) (f : Fr cx names z env penv) (k : OkZ cx z) (hz : s.heap = z.h) (p : Pos) {E Q : Value → Shared → Prop} (hQ : Q (biVal b) s) :
    wpAny (model cx.prog cx.w) A (eval (.Name (biNm b) p) env) Q E s := by
  obtain ⟨mg, mb, hg, hb, hv, _, _⟩ := G.ns
  obtain ⟨h1, h2⟩ := hv b
  have hn := glOk_ok hn
  have up : ∀ b o, cx.h₀.get? b = some o → s.heap.get? b = some o := fun b o e => by rw [hz]; exact k.sub _ _ (k.base _ _ e)
  refine Calls.Name_function_global f.kind ((f.raw _ _ hn.1).1 (by decide)) ?_ hn.2
  exact Calls.loadGlobal_builtin (mg := mg) (mb := mb) (by rw [f.glob]; exact hg.keeps up) h1 (by rw [f.bui]; exact hb.keeps up) h2 hQ
end
end Mine
end
section
namespace Mine
open PySem
section
variable {cx : Cx} {rec : EvE} {n : Nat} {names : Names} {env : Env} {penv : PEnv} {A : Around} {P : PProg} {call : EvC} {z : Z} {s : Shared} {v : PV} {st' : Store} {b : Bool}
theorem ArOk.two (h : ArOk A n) : A.units + 2 < cLine := Nat.lt_of_le_of_lt (by rw [Nat.add_assoc]; exact Nat.add_le_add_left (Nat.le_trans (by decide) (Nat.le_add_left 20 _)) _) h.uni
noncomputable def bop (isAnd : Bool) : BoolOp := if isAnd then .And else .Or
theorem evTest_of {e : PE} {v : PV} {st1 : Store} {b : Bool} (h : rec e penv z.st = some (v, st1)) (ht : truthyV v = some b) : evTest rec e penv z.st = some (b, st1) := by
  show (match rec e penv z.st with
    | some (v, st) => match truthyV v with
      | some b => some (b, st)
      | none => none
    | none => none) = _
  rw [h]
  show (match truthyV v with
    | some b => some (b, st1)
    | none => none) = _
  rw [ht]
theorem evBool_el {isAnd : Bool} {e e2 : PE} {es : List PE} {st : Store} {r : PV × Store} {C : Prop} (h : evBool rec isAnd (e :: e2 :: es) penv st = some r)
    (kt : ∀ v st1, rec e penv st = some (v, st1) → truthyV v = some isAnd → evBool rec isAnd (e2 :: es) penv st1 = some r → C) (kf : ∀ v st1, rec e penv st = some (v, st1) → truthyV v = some (!isAnd) → (v, st1) = r → C) : C :=
  mV h fun v st1 h1 h => mB h fun b hb h => by
    cases b <;> cases isAnd
    · exact kt v st1 h1 hb h
    · exact kf v st1 h1 hb (Option.some.inj h)
    · exact kf v st1 h1 hb (Option.some.inj h)
    · exact kt v st1 h1 hb h
theorem boolop_sound (hE : SndE cx rec n) (hA : ArOk A n) (isAnd : Bool) (pos : Pos) {es : List PE} {es' : List Expr} (m : MtEs cx names es es') : ∀ {z : Z} {s : Shared} {v : PV} {st' : Store}, Fr cx names z env penv → OkZ cx z → s.heap = z.h →
    evBool rec isAnd es penv z.st = some (v, st') → Runs cx A (boolOp pos (bop isAnd) (evalEach es' env)) z v st' s := by
  induction m with
  | nil => exact fun _ _ _ h => nn h
  | cons he ht ih =>
    cases ht with
    | nil => exact fun f k hz h => hE he f k hz hA h
    | @cons e2 e2' es es' h2 ht =>
      intro z s v st' f k hz h E Q hQ
      show wpAny _ A (do
        let v ← eval _ env
        standAt pos
        let t ← holding [v] (truthy v)
        match bop isAnd, t with
        | .And, false | .Or, true => pure v
        | _, _ => boolOp pos (bop isAnd) (evalEach (e2' :: es') env)) Q E s
      refine evBool_el h (fun u st1 h1 hb h => ?_) fun u st1 h1 hb h => ?_
      · refine wpAny_bind (hE he f k hz hA h1 E _ fun x z1 tk k1 e1 s1 v1 => wpAny_bind (wpAny_standAt (wpAny_bind (wpAny_holding (truthy_sound hb (v1.rv k1) fun tk1 => ?_)))))
        have := ih (f.ext e1) k1 (s := { s with heap := z1.h, toks := tk1 }) rfl (by rw [s1]; exact h) E Q fun x z2 tk2 k2 e2 s2 v2 => hQ x z2 tk2 k2 (e1.trans e2) s2 v2
        cases isAnd <;> exact this
      · refine wpAny_bind (hE he f k hz hA h1 E _ fun x z1 tk k1 e1 s1 v1 => wpAny_bind (wpAny_standAt (wpAny_bind (wpAny_holding (truthy_sound hb (v1.rv k1) fun tk1 => ?_)))))
        cases h
        have hq := hQ x z1 tk1 k1 e1 s1 v1
        cases isAnd <;> exact wpAny_pure hq
theorem allTrue_step {isAnd : Bool} {e : Expr} {rest : List Expr} {E : Value → Shared → Prop} {Q : Bool → Shared → Prop} (h : wpAny (model cx.prog cx.w) A (isTrue e env (eval e env)) (fun b s => if b = isAnd then wpAny (model cx.prog cx.w) A (allTrue (bop isAnd) rest env) Q E s else Q (!isAnd) s) E s) :
    wpAny (model cx.prog cx.w) A (allTrue (bop isAnd) (e :: rest) env) Q E s := by
  cases isAnd
  · exact wpAny_allTrue_Or_cons (wpAny_mono h (fun b s h => by cases b <;> exact h) fun _ _ x => x)
  · exact wpAny_allTrue_And_cons (wpAny_mono h (fun b s h => by cases b <;> exact h) fun _ _ x => x)
theorem allTrue_end {isAnd : Bool} {E : Value → Shared → Prop} {Q : Bool → Shared → Prop} (h : Q isAnd s) : wpAny (model cx.prog cx.w) A (allTrue (bop isAnd) [] env) Q E s := by
  cases isAnd
  · exact wpAny_allTrue_Or_nil h
  · exact wpAny_allTrue_And_nil h
theorem allTrue_sound (hT : SndT cx rec n) (hA : ArOk A n) (isAnd : Bool) {es : List PE} {es' : List Expr} (m : MtEs cx names es es') : ∀ {z : Z} {s : Shared} {v : PV} {st' : Store} {b : Bool}, Fr cx names z env penv → OkZ cx z → s.heap = z.h →
    evBool rec isAnd es penv z.st = some (v, st') → truthyV v = some b → RunsT cx A (allTrue (bop isAnd) es' env) z b st' s := by
  induction m with
  | nil => exact fun _ _ _ h => nn h
  | cons he ht ih =>
    cases ht with
    | nil =>
      intro z s v st' b f k hz h ht E Q hQ
      refine allTrue_step (hT he f k hz hA (evTest_of (rec := rec) h ht) E _ fun z1 tk k1 e1 s1 => ?_)
      have hq := hQ z1 tk k1 e1 s1
      split
      · rename_i e; exact allTrue_end (e ▸ hq)
      · rename_i e; exact (Bool.eq_not.mpr e) ▸ hq
    | @cons e2 e2' es es' h2 ht =>
      intro z s v st' b f k hz h hb E Q hQ
      refine evBool_el h (fun u st1 h1 hb1 h => ?_) fun u st1 h1 hb1 h => ?_
      · refine allTrue_step (hT he f k hz hA (evTest_of (rec := rec) h1 hb1) E _ fun z1 tk k1 e1 s1 => ?_)
        rw [if_pos rfl]
        exact ih (f.ext e1) k1 (s := { s with heap := z1.h, toks := tk }) rfl (by rw [s1]; exact h) hb E Q fun z2 tk2 k2 e2 s2 => hQ z2 tk2 k2 (e1.trans e2) s2
      · cases h
        cases Option.some.inj (hb.symm.trans hb1)
        refine allTrue_step (hT he f k hz hA (evTest_of (rec := rec) h1 hb1) E _ fun z1 tk k1 e1 s1 => ?_)
        rw [if_neg (by cases isAnd <;> exact nofun)]
        exact hQ z1 tk k1 e1 s1
theorem var_sound (G : Glob cx P) {i : Nat} (p : Pos) (f : Fr cx names z env penv) (k : OkZ cx z) (hz : s.heap = z.h) (h : penv.get i = some v) : Runs cx A (eval (.Name (cx.name i) p) env) z v z.st s :=
  fun E Q hQ => wpAny_Name (f.load G.nm hz h fun x hx => by
    have := hQ x z s.toks k (.refl z) rfl hx
    rwa [← hz] at this) (G.nm.dbg i (f.ids i v h))
theorem bin_case (hE : SndE cx rec n) (hA : ArOk A n) {op : Operator} {l r : PE} {l' r' : Expr} (p : Pos) (ml : MtE cx names l l') (mr : MtE cx names r r') (f : Fr cx names z env penv) (k : OkZ cx z) (hz : s.heap = z.h)
    (h : stepE P rec call (.bin op l r) penv z.st = some (v, st')) : Runs cx A (eval (.BinOp l' op r' p) env) z v st' s := by
  refine mV h fun a st1 h1 h => mV h fun b st2 h2 h => mO h fun w h3 h => ?_
  refine rs h ?_
  intro E Q hQ
  refine wpAny_BinOp (hE ml f k hz hA h1 E _ fun x z1 tk k1 e1 s1 v1 => ?_)
  refine hE mr (f.ext e1) k1 rfl hA (by rw [s1]; exact h2) E _ fun y z2 tk2 k2 e2 s2 v2 => ?_
  refine bin_sound (z := z2) (by rw [s2]; exact h3) k2 rfl (VRel.rd k2 (v1.ext e2)) (VRel.rd k2 v2) E _ fun w z3 tk3 k3 e3 s3 v3 => ?_
  exact hQ w z3 tk3 k3 ((e1.trans e2).trans e3) (s3.trans s2) v3
theorem cmp_case (hE : SndE cx rec n) (hA : ArOk A n) {op : CmpOp} {l r : PE} {l' r' : Expr} (p : Pos) (ml : MtE cx names l l') (mr : MtE cx names r r') (f : Fr cx names z env penv) (k : OkZ cx z) (hz : s.heap = z.h)
    (h : stepE P rec call (.cmp op l r) penv z.st = some (v, st')) : ∃ b, v = .bool b ∧
      ∀ (E : Value → Shared → Prop) (Q : Value → Shared → Prop), (∀ z' tk, OkZ cx z' → Ext z z' → z'.st = st' → Q (.bool b) { s with heap := z'.h, toks := tk }) →
        wpAny (model cx.prog cx.w) A (eval l' env) (fun a s₁ => wpAny (model cx.prog cx.w) A (eval r' env) (fun b s₂ => wpAny (model cx.prog cx.w) A (compareOp op a b) Q E s₂) E s₁) E s := by
  refine mV h fun a st1 h1 h => mV h fun b st2 h2 h => mB h fun w h3 h => ?_
  cases h
  refine ⟨w, rfl, fun E Q hQ => ?_⟩
  refine hE ml f k hz hA h1 E _ fun x z1 tk k1 e1 s1 v1 => ?_
  refine hE mr (f.ext e1) k1 rfl hA (by rw [s1]; exact h2) E _ fun y z2 tk2 k2 e2 s2 v2 => ?_
  refine cmp_sound (z := z2) (A := A) (by rw [s2]; exact h3) k2 rfl hA.two (VRel.rd k2 (v1.ext e2)) (VRel.rd k2 v2) fun tk3 => ?_
  exact hQ z2 tk3 k2 (e1.trans e2) s2
theorem idx_case (hE : SndE cx rec n) (hA : ArOk A n) {l r : PE} {l' r' : Expr} (p : Pos) (ml : MtE cx names l l') (mr : MtE cx names r r') (f : Fr cx names z env penv) (k : OkZ cx z) (hz : s.heap = z.h)
    (h : stepE P rec call (.idx l r) penv z.st = some (v, st')) : Runs cx A (eval (.Subscript l' r' p) env) z v st' s := by
  refine mV h fun a st1 h1 h => mV h fun b st2 h2 h => mO h fun w h3 h => ?_
  refine rs h ?_
  intro E Q hQ
  refine wpAny_Sub (hE ml f k hz hA h1 E _ fun x z1 tk k1 e1 s1 v1 => ?_)
  refine hE mr (f.ext e1) k1 rfl hA (by rw [s1]; exact h2) E _ fun y z2 tk2 k2 e2 s2 v2 => ?_
  have hx := VRel.rd k2 (v1.ext e2)
  rw [s2] at hx
  refine ⟨item_type (z := z2) rfl hx (pidx_kind h3), ?_⟩
  refine idx_sound (z := z2) h3 k2 rfl hx (VRel.rv k2 v2) E _ fun w z3 tk3 k3 e3 s3 v3 => ?_
  exact hQ w z3 tk3 k3 ((e1.trans e2).trans e3) (s3.trans s2) v3
theorem slice_case (hE : SndE cx rec n) (hA : ArOk A n) {o : PE} {lo hi sp : Option PE} {o' : Expr} {lo' hi' sp' : Option Expr} (q p : Pos) (mo : MtE cx names o o') (ml : MtO cx names lo lo') (mh : MtO cx names hi hi') (ms : MtO cx names sp sp')
    (f : Fr cx names z env penv) (k : OkZ cx z) (hz : s.heap = z.h)
    (h : stepE P rec call (.slice o lo hi sp) penv z.st = some (v, st')) : Runs cx A (eval (.Subscript o' (.Slice lo' hi' sp' q) p) env) z v st' s := by
  refine mV h fun a st1 h1 h => mV h fun l st2 h2 h => mV h fun u st3 h3 h => mV h fun c st4 h4 h => mO h fun w h5 h => ?_
  refine rs h ?_
  intro E Q hQ
  refine wpAny_Sub (hE mo f k hz hA h1 E _ fun x z1 tk k1 e1 s1 v1 => ?_)
  refine wpAny_Slice ?_
  refine part_sound hE hA ml (f.ext e1) k1 rfl (by rw [s1]; exact h2) E _ fun vl z2 tk2 k2 e2 s2 v2 => ?_
  refine part_sound hE hA mh ((f.ext e1).ext e2) k2 rfl (by rw [s2]; exact h3) E _ fun vu z3 tk3 k3 e3 s3 v3 => ?_
  refine part_sound hE hA ms (((f.ext e1).ext e2).ext e3) k3 rfl (by rw [s3]; exact h4) E _ fun vc z4 tk4 k4 e4 s4 v4 => ?_
  have hx := VRel.rd k4 (((v1.ext e2).ext e3).ext e4)
  rw [s4] at hx
  have hgrow : ∀ b o, z4.h.get? b = some o → (z4.h.push (sliceObj vl vu vc)).get? b = some o := fun b o e => Heap.get?_push_of_some _ e
  refine ⟨item_type (z := { z4 with h := z4.h.push (sliceObj vl vu vc) }) rfl (hx.grow hgrow) (pslice_kind h5), ?_⟩
  refine slice_sound (z := z4) (s := { s with heap := z4.h, toks := tk4 }) h5 k4 rfl hx (VRel.rv k4 ((v2.ext e3).ext e4)) (VRel.rv k4 (v3.ext e4)) (VRel.rv k4 v4) E Q fun w z5 tk5 k5 e5 s5 v5 => ?_
  exact hQ w z5 tk5 k5 ((((e1.trans e2).trans e3).trans e4).trans ((Ext.keep hgrow).trans e5)) (s5.trans s4) v5
end
end Mine
end
section
namespace Mine
open PySem
noncomputable def meT : Me → String
  | .lower => "str"
  | .split => "str"
  | .join => "str"
  | .append => "list"
  | .extend => "list"
  | .insert => "list"
  | .index => "list"
  | .get => "dict"
  | .add => "set"
theorem meSlot : ∀ m : Me, Slot (meT m) (meNm m) (meId m)
  | .lower => F.slot_str_lower
  | .split => F.slot_str_split
  | .join => F.slot_str_join
  | .append => F.slot_list_append
  | .extend => F.slot_list_extend
  | .insert => F.slot_list_insert
  | .index => F.slot_list_index
  | .get => F.slot_dict_get
  | .add => F.slot_set_add
theorem mePlain : ∀ m : Me, PlainAttrs (meT m)
  | .lower => F.plainAttrs_str
  | .split => F.plainAttrs_str
  | .join => F.plainAttrs_str
  | .append => F.plainAttrs_list
  | .extend => F.plainAttrs_list
  | .insert => F.plainAttrs_list
  | .index => F.plainAttrs_list
  | .get => F.plainAttrs_dict
  | .add => F.plainAttrs_set
theorem meType : ∀ m : Me, typeOf (.builtin (meId m)) = pure (.type "method_descriptor")
  | .lower => F.type_str_lower
  | .split => F.type_str_split
  | .join => F.type_str_join
  | .append => F.type_list_append
  | .extend => F.type_list_extend
  | .insert => F.type_list_insert
  | .index => F.type_list_index
  | .get => F.type_dict_get
  | .add => F.type_set_add
section
variable {cx : Cx} {rec : EvE} {n : Nat} {names : Names} {env : Env} {penv : PEnv} {A : Around} {P : PProg} {call : EvC} {z : Z} {s : Shared} {v : PV} {st' : Store} {b : Bool}
theorem mBS {γ : Type} {r : γ} {C : Prop} {x : Option (Bool × Store)} {f : Bool → Store → Option γ} (h : (match x with
    | some (a, b) => f a b
    | none => none) = some r) (k : ∀ a b, x = some (a, b) → f a b = some r → C) : C := by
  cases x with
  | none => exact nn h
  | some p => exact k p.1 p.2 rfl h
theorem args_any {M : Model} {E : Value → Shared → Prop} {f : Value} {trees : List (Bool × Sem Value)} {Q : Args → Shared → Prop} (hp : trees.any (·.1) = false) (h : wpAny M A (spliced trees) (fun vs s' => Q ⟨vs, []⟩ s') E s) :
    wpAny M A (evalArgs f true trees []) Q E s := by
  cases trees with
  | nil => exact thenW (x := spliced []) h fun _ _ q => wpAny_holding (wpAny_bind (wpAny_pure (wpAny_bind (wpAny_pure (wpAny_pure q)))))
  | cons t r => exact (show t = (false, t.2) from Prod.ext (Bool.or_eq_false_iff.mp hp).1 rfl) ▸ Calls.evalArgs_plain ((show t = (false, t.2) from Prod.ext (Bool.or_eq_false_iff.mp hp).1 rfl) ▸ h)
noncomputable def Kind (s : Shared) (x : Value) (T : String) : Prop := s.TypeIs x T ∧ ∀ a, x = .ref a → ∃ ob, s.heap.get? a = some ob ∧ ob.dict = none
theorem kind_str {o : PV} {x : Value} (h : isS o = true) (k : OkZ cx z) (hx : VR cx z o x) : Kind s x "str" := by
  cases o with
  | str l => obtain ⟨y, t, rfl, _⟩ := hx.rv k; exact ⟨typeIs_str s y t, nofun⟩
  | _ => exact ff h
theorem kind_of {a : Addr} {ob : Obj} {T : String} (ho : s.heap.get? a = some ob) (hT : s.TypeIs (.ref a) T) (hd : ob.dict = none) : Kind s (.ref a) T := ⟨hT, fun b e => by cases e; exact ⟨_, ho, hd⟩⟩
theorem kind_list {p : PV} {x : Value} (h : isL p = true) (hz : s.heap = z.h) (hr : RV cx z p x) : Kind s x "list" := by
  cases p with
  | list l =>
    obtain ⟨a, n, items, rfl, ho, _⟩ := hr
    rw [← hz] at ho
    exact kind_of ho ⟨_, ho, rfl⟩ rfl
  | _ => exact ff h
theorem kind_dobj {K : Type} [DecidableEq K] {knd : KeyKind cx.prog cx.w K} {kvs : List (K × Value)} {ob : Obj} {a : Addr} (hD : DObj knd ob kvs) (ho : s.heap.get? a = some ob) : Kind s (.ref a) "dict" :=
  (hD _ _ ho).elim fun o' h => h.elim fun _ h => h.elim fun _ h => kind_of h.1 (hD s.heap _ ho : s.heap.DictOf _ _ _).typeIs h.2.1.2.1
theorem kind_dict {p : PV} {x : Value} (h : isD p = true) (hz : s.heap = z.h) (hr : RV cx z p x) : Kind s x "dict" := by
  cases p with
  | dict l =>
    obtain ⟨a, ob, rfl, ho, hd, _⟩ := hr
    rw [← hz] at ho
    cases hd with
    | ik kvs hD _ => exact kind_dobj hD ho
    | sk kvs hD _ => exact kind_dobj hD ho
  | _ => exact ff h
theorem kind_set {o : PV} {x : Value} (h : meOk .add o z.st = true) (k : OkZ cx z) (hz : s.heap = z.h) (hx : VR cx z o x) : Kind s x "set" := by
  cases o with
  | ref n =>
    have h : (match z.st[n]? with
      | some p => match p with
        | .set _ => true
        | _ => false
      | none => false) = true := h
    cases hp : z.st[n]? with
    | none => rw [hp] at h; exact ff h
    | some p =>
      rw [hp] at h
      cases p with
      | set xs =>
        obtain ⟨a, rfl, hσ⟩ := hx.rv k
        obtain ⟨a', ha', _, _, hset⟩ := k.obj _ _ hp nofun
        cases Option.some.inj (hσ.symm.trans ha')
        have hset' : s.heap.SetOf (intKind cx.prog cx.w) a (fun k => xs.contains k) xs.length := by rw [hz]; exact hset
        exact ⟨hset'.typeIs, hset'.noDict⟩
      | _ => exact ff h
  | _ => exact ff h
theorem me_kind {m : Me} {o : PV} {x : Value} (h : meOk m o z.st = true) (k : OkZ cx z) (hz : s.heap = z.h) (hx : VR cx z o x) : Kind s x (meT m) := by
  cases m with
  | lower => exact kind_str h k hx
  | split => exact kind_str h k hx
  | join => exact kind_str h k hx
  | append => exact kind_list h hz (hx.rd k)
  | extend => exact kind_list h hz (hx.rd k)
  | insert => exact kind_list h hz (hx.rd k)
  | index => exact kind_list h hz (hx.rd k)
  | get => exact kind_dict h hz (hx.rd k)
  | add => exact kind_set h k hz hx
theorem meth_case (hE : SndE cx rec n) (hA : ArOk A n) {m : Me} {o : PE} {es : List PE} {o' : Expr} {es' : List Expr} (q p : Pos) (mo : MtE cx names o o') (me : MtEs cx names es es')
    (hbase : ∀ env, attributeBase o' (meNm m) env (eval o' env) = eval o' env) (hline : (q.endLine == p.line) = true) (hfew : decide (es.length < 30) = true) (f : Fr cx names z env penv) (k : OkZ cx z) (hz : s.heap = z.h)
    (h : stepE P rec call (.meth m o es) penv z.st = some (v, st')) : Runs cx A (eval (.Call (.Attribute o' (meNm m) q) es' [] p) env) z v st' s := by
  refine mV h fun a st1 h1 h => bif_el h fun hok h => mL h fun vs st2 h2 h => ?_
  intro E Q hQ
  obtain ⟨hs1, hs2⟩ := backTo_star me p env
  refine wpAny_Call_method (T := meT m) (id := meId m) (hbase env) ?_ hline (mePlain m) (meSlot m) (meType m) (hE mo f k hz hA h1 E _ fun x z1 tk k1 e1 s1 v1 => ?_)
  · rw [hs2]
    exact decide_eq_true (MtEs.len me ▸ dt hfew : es'.length + 0 + 0 < 30)
  · obtain ⟨hT, hd⟩ := me_kind (s := { s with heap := z1.h, toks := tk }) (by rw [s1]; exact hok) k1 rfl v1
    refine ⟨hT, hd, Calls.callWith_builtin hs1 (args_any hs1 ?_)⟩
    refine list_sound hE hA p me (f.ext e1) k1 rfl (by rw [s1]; exact h2) E _ fun xs z2 tk2 k2 e2 s2 v2 => ?_
    exact meth_sound (z := z2) (by rw [s2]; exact h) k2 rfl (v1.ext e2) v2 E Q fun x z3 tk3 k3 e3 s3 v3 => hQ x z3 tk3 k3 ((e1.trans e2).trans e3) s3 v3
theorem call_case (G : Glob cx P) (hE : SndE cx rec n) (hC : SndC cx P call n) (hF : ∀ f vs st r, call f vs st = some r → ∃ p, P.F f = some p) (hA : ArOk A n) {g : Nat} {es : List PE} {es' : List Expr} (q p : Pos) (hg : glOk names (cx.name g) = true)
    (me : MtEs cx names es es') (f : Fr cx names z env penv) (k : OkZ cx z) (hz : s.heap = z.h)
    (h : stepE P rec call (.call g es) penv z.st = some (v, st')) : Runs cx A (eval (.Call (.Name (cx.name g) q) es' [] p) env) z v st' s := by
  refine mL h fun vs st1 h1 h => ?_
  obtain ⟨pb, hp⟩ := hF _ _ _ _ h
  obtain ⟨mg, mb, _, _, _, _, hf⟩ := G.ns
  obtain ⟨_, o, fd, ho, hd⟩ := hf g pb hp
  obtain ⟨hs1, hs2⟩ := backTo_star me p env
  intro E Q hQ
  refine wpAny_Call_NameR (fn_load G hp hg f k hz q ?_)
  refine Calls.callWith_function (o := o) (fd := fd) (args_any hs1 ?_)
  refine list_sound hE hA p me f k hz h1 E _ fun xs z1 tk1 k1 e1 s1 v1 => ⟨⟨k1.sub _ _ (k1.base _ _ ho), hd⟩, ?_⟩
  exact hC (z := z1) k1 rfl hA v1 (by rw [s1]; exact h) E Q fun x z2 tk2 k2 e2 s2 v2 => hQ x z2 tk2 k2 (e1.trans e2) s2 v2
theorem bi_call {b : BI} {first : List Value} {pos : Pos} {trees : List (Bool × Sem Value)} {E Q : Value → Shared → Prop} (hp : trees.any (·.1) = false)
    (h : wpAny (model cx.prog cx.w) A (spliced trees) (fun vs s₁ => wpAny (model cx.prog cx.w) A (PySem.call (biVal b) vs) Q E s₁) E s) : wpAny (model cx.prog cx.w) A (callWith pos (biVal b) [] trees []) Q E s := by
  cases b
  all_goals first
    | exact Calls.callWith_builtin hp (args_any hp h)
    | exact PyProof.Rows.callWith_type hp (args_any hp h)
    | exact callWith_type hp (args_any hp h)
theorem bi_case (G : Glob cx P) (hE : SndE cx rec n) (hA : ArOk A n) {b : BI} {es : List PE} {es' : List Expr} (q p : Pos) (hb : notZip b = true) (hg : glOk names (biNm b) = true)
    (me : MtEs cx names es es') (f : Fr cx names z env penv) (k : OkZ cx z) (hz : s.heap = z.h)
    (h : stepE P rec call (.bi b es) penv z.st = some (v, st')) : Runs cx A (eval (.Call (.Name (biNm b) q) es' [] p) env) z v st' s := by
  refine mL h fun vs st1 h1 h => ?_
  obtain ⟨hs1, hs2⟩ := backTo_star me p env
  intro E Q hQ
  refine wpAny_Call_NameR (bi_load G hg f k hz q (bi_call (first := []) hs1 ?_))
  refine list_sound hE hA p me f k hz h1 E _ fun xs z1 tk1 k1 e1 s1 v1 => ?_
  exact bi_sound (z := z1) k1 rfl hA v1 (by rw [s1]; exact h) hb E Q fun x z2 tk2 k2 e2 s2 v2 => hQ x z2 tk2 k2 (e1.trans e2) s2 v2
theorem zip_case (G : Glob cx P) (hE : SndE cx rec n) (hA : ArOk A n) {es : List PE} {es' : List Expr} (q' p' q p : Pos) (hg : glOk names "list" = true) (hg' : glOk names "zip" = true)
    (me : MtEs cx names es es') (f : Fr cx names z env penv) (k : OkZ cx z) (hz : s.heap = z.h)
    (h : stepE P rec call (.bi .zip es) penv z.st = some (v, st')) : Runs cx A (eval (.Call (.Name "list" q) [.Call (.Name "zip" q') es' [] p'] [] p) env) z v st' s := by
  refine mL h fun vs st1 h1 h => ?_
  obtain ⟨hs1, hs2⟩ := backTo_star me p' env
  intro E Q hQ
  refine wpAny_Call_NameR (bi_load (b := .list) G hg f k hz q (bi_call (b := .list) (first := []) rfl ?_))
  refine wpAny_items_cons ?_ rfl
  refine wpAny_Call_NameR (bi_load (b := .zip) G hg' f k hz q' (bi_call (b := .zip) (first := []) hs1 ?_))
  refine list_sound hE hA p' me f k hz h1 E _ fun xs z1 tk1 k1 e1 s1 v1 => ?_
  have h' : pbi .zip vs z1.st = some (v, st') := by rw [s1]; exact h
  refine a2_vr (P := fun vals => wpAny (model cx.prog cx.w) A (PySem.call (biVal .zip) vals) _ E _) h' v1 fun a b x y h hx hy => oL_rv h (hx.rd k1) fun xs h hx => oL_rv h (hy.rd k1) fun ys h hy => bif_el h fun hc h => an hc fun hc hc2 => ?_
  cases h
  obtain ⟨a1, m1, ix, rfl, g1, w1⟩ := hx
  obtain ⟨a2, m2, iy, rfl, g2, w2⟩ := hy
  refine zip_call (z := z1) k1 rfl hA.hh (lst_at (s := { heap := z1.h }) rfl g1) (lst_at (s := { heap := z1.h }) rfl g2) w1 w2 (dt hc) (Nat.le_trans (lim_le (dt hc2)) (by decide)) fun zp h' _ hk hl => ?_
  refine wpAny_items_nil ?_
  exact hl rfl hA.hh fun l z' tk k' e' s' v' => hQ _ z' tk k' (e1.trans e') s' v'
theorem pushed (k : OkZ cx z) {o : Obj} (hal : o.isFreed = false) : OkZ cx { z with B := addB z.B z.h.objs.size o, h := z.h.push o } ∧ Ext z { z with B := addB z.B z.h.objs.size o, h := z.h.push o } := by
  have hn : z.h.get? z.h.objs.size = none := none_at_size (s := { heap := z.h }) rfl
  have hk : ∀ b x, z.h.get? b = some x → (z.h.push o).get? b = some x := fun b x e => Heap.get?_push_of_some _ e
  exact ⟨k.freeze hk hn (Heap.get?_push_size _ hal), k.freeze_ext hk hn⟩
theorem stored_new (k : OkZ cx z) {o : Obj} (hal : o.isFreed = false) {p : PObj} (hp : ORel cx.prog cx.w z.σ z.B (z.h.push o) p z.h.objs.size) :
    OkZ cx { z with σ := z.σ ++ [z.h.objs.size], st := z.st ++ [p], h := z.h.push o } ∧ Ext z { z with σ := z.σ ++ [z.h.objs.size], st := z.st ++ [p], h := z.h.push o } := by
  have hn : z.h.get? z.h.objs.size = none := none_at_size (s := { heap := z.h }) rfl
  have hk : ∀ b x, z.h.get? b = some x → (z.h.push o).get? b = some x := fun b x e => Heap.get?_push_of_some _ e
  exact ⟨k.store hk hn (Heap.get?_push_size _ hal) hp, k.store_ext hk hn⟩
theorem list_case (hE : SndE cx rec n) (hA : ArOk A n) {es : List PE} {es' : List Expr} (p : Pos) (me : MtEs cx names es es') (f : Fr cx names z env penv) (k : OkZ cx z) (hz : s.heap = z.h)
    (h : stepE P rec call (.list es) penv z.st = some (v, st')) : Runs cx A (eval (.List es' p) env) z v st' s := by
  refine mL h fun vs st1 h1 h => ?_
  refine bif_el h fun hl h => ?_
  refine rs h ?_
  intro E Q hQ
  refine wpAny_List (list_sound hE hA p me f k hz h1 E _ fun xs z1 tk1 k1 e1 s1 v1 => ⟨?_, ?_⟩)
  · rw [← v1.length]; exact lim_le (dt hl)
  · obtain ⟨k2, e2⟩ := pushed k1 (o := { cls := .type "list", data := .seq xs.toArray }) rfl
    exact hQ _ _ tk1 k2 (e1.trans e2) s1 (.list (items := xs.toArray) (addB_self _ _ _) ⟨0, rfl⟩ (v1.ext e2))
theorem tuple_case (hE : SndE cx rec n) (hA : ArOk A n) {es : List PE} {es' : List Expr} (kk : Nat) (p : Pos) (me : MtEs cx names es es') (f : Fr cx names z env penv) (k : OkZ cx z) (hz : s.heap = z.h)
    (h : stepE P rec call (.tuple es) penv z.st = some (v, st')) : Runs cx A (eval (.Tuple es' kk p) env) z v st' s := by
  refine mL h fun vs st1 h1 h => ?_
  refine bif_el h fun hl h => ?_
  refine rs h ?_
  intro E Q hQ
  refine wpAny_Tuple (list_sound hE hA p me f k hz h1 E _ fun xs z1 tk1 k1 e1 s1 v1 => ⟨?_, ?_⟩)
  · rw [← v1.length]; exact lim_le (dt hl)
  · obtain ⟨k2, e2⟩ := pushed k1 (o := { cls := .type "tuple", data := .seq xs.toArray }) rfl
    exact hQ _ _ tk1 k2 (e1.trans e2) s1 (.tuple (items := xs.toArray) (addB_self _ _ _) ⟨0, rfl⟩ (v1.ext e2))
theorem newlist_case (hE : SndE cx rec n) (hA : ArOk A n) {es : List PE} {es' : List Expr} (p : Pos) (me : MtEs cx names es es') (f : Fr cx names z env penv) (k : OkZ cx z) (hz : s.heap = z.h)
    (h : stepE P rec call (.newlist es) penv z.st = some (v, st')) : Runs cx A (eval (.List es' p) env) z v st' s := by
  refine mL h fun vs st1 h1 h => ?_
  refine bif_el h fun hl h => ?_
  refine rs h ?_
  intro E Q hQ
  refine wpAny_List (list_sound hE hA p me f k hz h1 E _ fun xs z1 tk1 k1 e1 s1 v1 => ⟨?_, ?_⟩)
  · rw [← v1.length]; exact lim_le (dt hl)
  · obtain ⟨k2, e2⟩ := stored_new k1 (o := { cls := .type "list", data := .seq xs.toArray }) (p := .list vs) rfl ⟨_, xs.toArray, Heap.get?_push_size _ rfl, ⟨0, rfl⟩, v1⟩
    refine hQ _ _ tk1 k2 (e1.trans e2) (by rw [s1]) (.ref ?_)
    show (z1.σ ++ [z1.h.objs.size])[st1.length]? = some z1.h.objs.size
    rw [← s1, ← k1.len]; exact List.getElem?_concat_length
theorem not_case (hT : SndT cx rec n) (hE : SndE cx rec n) (hA : ArOk A n) {e : PE} {e' : Expr} (p : Pos) (me : MtE cx names e e') (f : Fr cx names z env penv) (k : OkZ cx z) (hz : s.heap = z.h)
    (h : stepE P rec call (.not e) penv z.st = some (v, st')) : Runs cx A (eval (.UnaryOp .Not e' p) env) z v st' s := by
  refine mBS h fun b st1 h1 h => ?_
  cases h
  refine mV h1 fun u st2 h2 h1 => mB h1 fun b' hb h1 => ?_
  cases h1
  intro E Q hQ
  refine wpAny_UnaryOp (hE me f k hz hA h2 E _ fun x z1 tk k1 e1 s1 v1 => not_value (truthy_sound hb (v1.rv k1) fun tk1 => ?_))
  exact hQ _ z1 tk1 k1 e1 s1 (.bool _)
theorem ite_case (hT : SndT cx rec n) (hE : SndE cx rec n) (hA : ArOk A n) {t b o : PE} {t' b' o' : Expr} (p : Pos) (mt : MtE cx names t t') (mb : MtE cx names b b') (mo : MtE cx names o o') (f : Fr cx names z env penv) (k : OkZ cx z) (hz : s.heap = z.h)
    (h : stepE P rec call (.ite t b o) penv z.st = some (v, st')) : Runs cx A (eval (.IfExp t' b' o' p) env) z v st' s := by
  refine mT h fun c st1 h1 h => ?_
  intro E Q hQ
  refine wpAny_IfExp (hT mt f k hz hA h1 E _ fun z1 tk k1 e1 s1 => ?_)
  cases c with
  | true => exact hE mb (f.ext e1) k1 (s := { s with heap := z1.h, toks := tk }) rfl hA (by rw [s1]; exact h) E Q fun x z2 tk2 k2 e2 s2 v2 => hQ x z2 tk2 k2 (e1.trans e2) s2 v2
  | false => exact hE mo (f.ext e1) k1 (s := { s with heap := z1.h, toks := tk }) rfl hA (by rw [s1]; exact h) E Q fun x z2 tk2 k2 e2 s2 v2 => hQ x z2 tk2 k2 (e1.trans e2) s2 v2
end
end Mine
end
section
namespace Mine
open PySem
section
variable {cx : Cx} {z z0 : Z} {a : Addr} {o : Obj}
theorem adoptB (k : OkZ cx z) (f : Free z a) (ho : z.h.get? a = some o) : OkZ cx { z with B := addB z.B a o } :=
  k.addB (fun _ _ e => e) rfl (fun n p hp hd => ⟨hp, f.l n ⟨p, hp, hd⟩⟩) f.b ho
theorem adoptB_ext (e : Ext z0 z) (hn : z0.h.get? a = none) (f : Free z a) : Ext z0 { z with B := addB z.B a o } :=
  ⟨e.sig, fun b x h => addB_of f.b (e.frz _ _ h), fun b x h g => have q := e.prv b x h g; ⟨q.1, addB_none (fun hb => nn (hn.symm.trans (hb ▸ h))) q.2.b, q.2.l⟩⟩
theorem VRs.adopt (f : Free z a) {vs : List PV} {xs : List Value} (h : VRs cx z vs xs) : VRs cx { z with B := addB z.B a o } vs xs :=
  h.mono (fun _ _ e => e) fun b x e => addB_of f.b e
theorem adoptS (k : OkZ cx z) (f : Free z a) (ho : z.h.get? a = some o) {p : PObj} (hp : ORel cx.prog cx.w z.σ z.B z.h p a) : OkZ cx { z with σ := z.σ ++ [a], st := z.st ++ [p] } := k.adopt f (fun _ _ e => e) ho hp
theorem adoptS_ext (k : OkZ cx z) (e : Ext z0 z) (hn : z0.h.get? a = none) {p : PObj} : Ext z0 { z with σ := z.σ ++ [a], st := z.st ++ [p] } := k.adopt_ext e (fun _ _ e => e) hn
theorem emptyD {prog : Program} {w : World} : DRel prog w [] { cls := .type "dict", data := .dict #[] } :=
  .ik [] (fun h a e => ⟨_, #[], 0, e, ⟨rfl, rfl, rfl⟩, rfl, fun e h => absurd h (Array.not_mem_empty e), .nil, List.nodup_nil⟩) trivial
theorem change_free (k : OkZ cx z) (f : Free z a) {h' : Heap} (hs : Heap.SameBut a z.h h') : OkZ cx { z with h := h' } := ok_sameBut k f hs
theorem change_ext (e : Ext z0 z) (hn : z0.h.get? a = none) {h' : Heap} (hs : Heap.SameBut a z.h h') : Ext z0 { z with h := h' } :=
  ⟨e.sig, e.frz, fun b x h g => have q := e.prv b x h g; ⟨(hs.2 b (fun hb => nn (hn.symm.trans (hb ▸ h)))).trans q.1, q.2.b, q.2.l⟩⟩
theorem mD {γ : Type} {r : γ} {C : Prop} {x : Option (List (PV × PV))} {f : List (PV × PV) → Option γ} (h : (match x with
    | some a => f a
    | none => none) = some r) (k : ∀ a, x = some a → f a = some r → C) : C := by
  cases x with
  | none => exact nn h
  | some a => exact k a rfl h
theorem mK {γ : Type} {r : γ} {C : Prop} {x : Option (List (PV × PV) × Store)} {f : List (PV × PV) → Store → Option γ} (h : (match x with
    | some (a, b) => f a b
    | none => none) = some r) (k : ∀ a b, x = some (a, b) → f a b = some r → C) : C := by
  cases x with
  | none => exact nn h
  | some p => exact k p.1 p.2 rfl h
inductive PRs (cx : Cx) (z : Z) : List (PV × PV) → List (Value × Value) → Prop
  | nil : PRs cx z [] []
  | cons {a b : PV} {x y : Value} {r : List (PV × PV)} {t : List (Value × Value)} : VR cx z a x → VR cx z b y → PRs cx z r t → PRs cx z ((a, b) :: r) ((x, y) :: t)
variable {rec : EvE} {n : Nat} {names : Names} {env : Env} {penv : PEnv} {A : Around} {P : PProg} {call : EvC} {s : Shared} {v : PV} {st' : Store} {b : Bool} {E : Value → Shared → Prop}
theorem storeAll_sound {d : Addr} {ps : List (PV × PV)} {xs : List (Value × Value)} (m : PRs cx z ps xs) : ∀ {acc acc' : List (PV × PV)} {s : Shared} {o : Obj} {Q : PUnit → Shared → Prop}, s.heap.get? d = some o → DRel cx.prog cx.w acc o →
    putAll ps acc = some acc' → (∀ h' o' tk, h'.get? d = some o' → DRel cx.prog cx.w acc' o' → Heap.SameBut d s.heap h' → Q PUnit.unit { s with heap := h', toks := tk }) →
    wpAny (model cx.prog cx.w) A (forIn xs PUnit.unit fun (x : Value × Value) (_ : PUnit) => (do dictSet d x.1 x.2; pure (ForInStep.yield PUnit.unit) : Sem (ForInStep PUnit))) Q E s := by
  induction m with
  | nil =>
    intro acc acc' s o Q ho hd h hQ
    cases h
    rw [List.forIn_nil]
    exact wpAny_pure (hQ s.heap o s.toks ho hd (Heap.SameBut.refl _ _))
  | cons h1 h2 hr ih =>
    intro acc acc' s o Q ho hd h hQ
    refine mD h fun acc1 hp h => bif_el h fun hl h => ?_
    rw [List.forIn_cons]
    refine wpAny_bind (wpAny_bind (dictSet_sound hp ho hd h1 h2 (dt hl) fun h' o' ho' hd' hs => wpAny_pure ?_))
    exact ih ho' hd' h fun h'' o'' tk ho'' hd'' hs' => hQ h'' o'' tk ho'' hd'' (hs.trans hs')
noncomputable def pairTrees (pos : Pos) (env : Env) (ks vs : List Expr) : List (Sem Value × Sem Value) := (evalEach ks env).zip ((evalEach vs env).map fun v => do let x ← v; standAt pos; pure x)
theorem pairTrees_shape (pos : Pos) (env : Env) (ks : List Expr) : ∀ (vs : List Expr), (evalEachOpt (ks.map some) env).zip ((evalEach vs env).map fun v => do let x ← v; standAt pos; pure x) = (pairTrees pos env ks vs).map fun p => (some p.1, p.2) := by
  induction ks with
  | nil => exact fun vs => rfl
  | cons k ks ih =>
    intro vs
    cases vs with
    | nil => exact List.zip_nil_right
    | cons v vs => exact congrArg (List.cons _) (ih vs)
theorem pairTrees_len (pos : Pos) (env : Env) (ks : List Expr) : ∀ (vs : List Expr), (pairTrees pos env ks vs).length ≤ ks.length := by
  induction ks with
  | nil => exact fun vs => Nat.le_refl 0
  | cons k ks ih => exact fun vs => by cases vs with | nil => exact Nat.zero_le _ | cons v vs => exact Nat.succ_le_succ (ih vs)
theorem evKVs_el {k v : PE} {ks vs : List PE} {st : Store} {r : List (PV × PV) × Store} {C : Prop} (h : evKVs rec (k :: ks) (v :: vs) penv st = some r)
    (c : ∀ a st1 b st2 ps st3, rec k penv st = some (a, st1) → rec v penv st1 = some (b, st2) → evKVs rec ks vs penv st2 = some (ps, st3) → ((a, b) :: ps, st3) = r → C) : C :=
  mV h fun a st1 h1 h => mV h fun b st2 h2 h => mK h fun ps st3 h3 h => c a st1 b st2 ps st3 h1 h2 h3 (Option.some.inj h)
theorem pairs_sound (hE : SndE cx rec n) (hA : ArOk A n) (pos : Pos) {ks : List PE} {ks' : List Expr} (mk : MtEs cx names ks ks') : ∀ {vs : List PE} {vs' : List Expr} {z : Z} {s : Shared} {ps : List (PV × PV)} {st' : Store}, MtEs cx names vs vs' → Fr cx names z env penv → OkZ cx z → s.heap = z.h →
    evKVs rec ks vs penv z.st = some (ps, st') →
      ∀ (E : Value → Shared → Prop) (Q : List (Value × Value) → Shared → Prop), (∀ xs z' tk, OkZ cx z' → Ext z z' → z'.st = st' → PRs cx z' ps xs → Q xs { s with heap := z'.h, toks := tk }) →
        wpAny (model cx.prog cx.w) A (evalPairs (pairTrees pos env ks' vs')) Q E s := by
  induction mk with
  | nil =>
    intro vs vs' z s ps st' mv f k hz h E Q hQ
    cases mv with
    | nil =>
      cases h
      have := hQ [] z s.toks k (.refl z) rfl .nil
      rw [← hz] at this
      exact evalPairs_nil this
    | cons => exact nn h
  | cons hk hks ih =>
    intro vs vs' z s ps st' mv f k hz h E Q hQ
    cases mv with
    | nil => exact nn h
    | cons hv hvs =>
      refine evKVs_el h fun a st1 b st2 ps1 st3 h1 h2 h3 h => ?_
      cases h
      refine evalPairs_cons (hE hk f k hz hA h1 E _ fun x z1 tk1 k1 e1 s1 v1 => ?_)
      refine wpAny_bind (hE hv (f.ext e1) k1 rfl hA (by rw [s1]; exact h2) E _ fun y z2 tk2 k2 e2 s2 v2 => wpAny_bind (wpAny_standAt (wpAny_pure ?_)))
      refine ih hvs ((f.ext e1).ext e2) k2 rfl (by rw [s2]; exact h3) E _ fun xs z3 tk3 k3 e3 s3 v3 => ?_
      exact hQ _ z3 tk3 k3 ((e1.trans e2).trans e3) s3 (.cons ((v1.ext e2).ext e3) (v2.ext e3) v3)
theorem newdict_case (hE : SndE cx rec n) (hA : ArOk A n) {ks vs : List PE} {ks' vs' : List Expr} (p : Pos) (hlen : decide (ks'.length ≤ 15) = true) (mk : MtEs cx names ks ks') (mv : MtEs cx names vs vs') (f : Fr cx names z env penv) (k : OkZ cx z) (hz : s.heap = z.h)
    (h : stepE P rec call (.newdict ks vs) penv z.st = some (v, st')) : Runs cx A (eval (.Dict (ks'.map some) vs' p) env) z v st' s := by
  refine mK h fun ps st1 h1 h => mD h fun es h2 h => ?_
  refine rs h ?_
  intro E Q hQ
  have hn := none_at_size hz
  generalize ho : ({ cls := .type "dict", data := .dict #[] } : Obj) = od
  have hk : ∀ b x, z.h.get? b = some x → (s.heap.push od).get? b = some x := fun b x e => by rw [hz]; exact Heap.get?_push_of_some _ e
  have hnew : (s.heap.push od).get? s.heap.objs.size = some od := Heap.get?_push_size _ (ho ▸ rfl)
  have k0 : OkZ cx { z with h := s.heap.push od } := k.keep fun b o e _ => hk b o e
  have e0 : Ext z { z with h := s.heap.push od } := .keep hk
  have hf0 := k.free_of_none hn
  have hD0 : DRel cx.prog cx.w [] od := ho ▸ emptyD
  have hsm := k.not_sm hn
  rw [arm_eval_Dict, pairTrees_shape p env ks' vs']
  by_cases hp : pairTrees p env ks' vs' = []
  · cases mk with
    | nil =>
      cases mv with
      | nil =>
        cases h1; cases h2
        show wpAny _ A (do standAt p; newDict) Q E s
        refine wpAny_bind (wpAny_standAt (wpAny_newObj_type ?_))
        have := hQ (.ref s.heap.objs.size) _ s.toks (k.adopt hf0 (h' := s.heap.push od) hk hnew (p := .dict []) ⟨_, hnew, hD0, hsm⟩) (k.adopt_ext (.refl z) hk hn) rfl (.ref (by rw [← k.len]; exact List.getElem?_concat_length))
        rw [← ho] at this
        exact this
      | cons => exact nn h1
    | cons =>
      cases mv with
      | nil => exact nn h1
      | cons => cases hp
  · have hl := pairTrees_len p env ks' vs'
    have hle : (pairTrees p env ks' vs').length ≤ 15 := Nat.le_trans hl (dt hlen)
    rw [dictDisplay_pairs _ hp (Nat.lt_of_le_of_lt hle (by decide))]
    refine wpAny_bind (wpAny_standAt (wpAny_bind ?_))
    unfold subDict
    refine wpAny_bind (wpAny_alloc ?_)
    refine wpAny_bind (wpAny_holding ?_)
    rw [if_pos hle, ho]
    refine wpAny_bind ?_
    refine pairs_sound hE hA p mk mv (f.ext e0) k0 rfl h1 E _ fun xs z1 tk1 k1 e1 s1 v1 => ?_
    refine wpAny_holding (wpAny_bind ?_)
    obtain ⟨ho1, hf1⟩ := e1.prv _ _ hnew ⟨hf0.b, hf0.l⟩
    refine storeAll_sound v1 ho1 hD0 h2 fun h' o' tk' ho' hd' hs' => wpAny_pure (wpAny_pure (wpAny_pure ?_))
    have k2 := change_free k1 hf1 hs'
    have e2 := change_ext (e0.trans e1) hn hs'
    have hf2 : Free { z1 with h := h' } s.heap.objs.size := ⟨hf1.b, hf1.l⟩
    exact hQ _ _ tk' (adoptS k2 hf2 ho' (p := .dict es) ⟨o', ho', hd', hsm⟩) (adoptS_ext k2 e2 hn) (by rw [s1]) (.ref (by rw [← s1, ← k1.len]; exact List.getElem?_concat_length))
end
end Mine
end
section
namespace Mine
open PySem
section
variable {cx : Cx}
noncomputable def closed (env : Env) : List (Str × NameKind) → List (Str × Addr) → List (Str × Addr)
  | [], acc => acc
  | (n, k) :: r, acc => if k == .free then closed env r ((n, (env.cells.lookup n).getD 0) :: acc) else closed env r acc
theorem closureFor_pure {scope : Scope} {env : Env} (h : ∀ n, (n, NameKind.free) ∈ scope.names → ∃ c, env.cells.lookup n = some c) : closureFor scope env = pure (closed env scope.names []) := by
  have key : ∀ (names : List (Str × NameKind)) (acc : List (Str × Addr)), (∀ n, (n, NameKind.free) ∈ names → ∃ c, env.cells.lookup n = some c) →
      (forIn names acc (fun x r => if x.2 == NameKind.free then (do let a ← cellOf env x.1; pure (ForInStep.yield ((x.1, a) :: r))) else pure (ForInStep.yield r)) : Sem (List (Str × Addr))) = pure (closed env names acc) := by
    intro names
    induction names with
    | nil => exact fun acc _ => rfl
    | cons p r ih =>
      obtain ⟨n, k⟩ := p
      intro acc hm
      rw [List.forIn_cons]
      have hm' := fun n' h' => hm n' (List.mem_cons_of_mem _ h')
      by_cases hk : k = .free
      · subst hk
        obtain ⟨c, hc⟩ := hm n List.mem_cons_self
        have : cellOf env n = pure c := by unfold cellOf; rw [hc]
        show ((cellOf env n >>= fun a => pure (ForInStep.yield ((n, a) :: acc))) >>= _) = pure (closed env r ((n, (env.cells.lookup n).getD 0) :: acc))
        rw [this, pure_bind, pure_bind, hc]
        exact ih _ hm'
      · have hb : (k == NameKind.free) = false := beq_eq_false_iff_ne.mpr hk
        show ((if (k == NameKind.free) = true then _ else pure (ForInStep.yield acc)) >>= _) = pure (if (k == NameKind.free) = true then _ else closed env r acc)
        rw [hb, if_neg Bool.false_ne_true, if_neg Bool.false_ne_true, pure_bind]
        exact ih _ hm'
  have := key scope.names [] h
  unfold closureFor
  simp only [bind_pure]
  exact this
theorem lookup_if {α : Type} (n x : Str) (k : α) (r : List (Str × α)) : List.lookup x ((n, k) :: r) = if x = n then some k else r.lookup x := by
  rw [List.lookup_cons]
  cases h : x == n with
  | true => rw [if_pos (beq_iff_eq.mp h)]
  | false => rw [if_neg (beq_eq_false_iff_ne.mp h)]
theorem nodup_el {α : Type} {n : Str} {k : α} {r : List (Str × α)} (h : nodupS (((n, k) :: r).map (·.1)) = true) : (∀ q, (n, q) ∉ r) ∧ nodupS (r.map (·.1)) = true :=
  an h fun h1 h2 => ⟨fun q hm => ff ((nt h1).symm.trans (List.contains_iff_mem.mpr (List.mem_map.mpr ⟨_, hm, rfl⟩))), h2⟩
theorem lookup_of_mem_nodup {α : Type} {l : List (Str × α)} {n : Str} {c : α} (hn : nodupS (l.map (·.1)) = true) (h : (n, c) ∈ l) : l.lookup n = some c := by
  induction l with
  | nil => exact absurd h List.not_mem_nil
  | cons p r ih =>
    obtain ⟨m, d⟩ := p
    rw [lookup_if]
    rcases List.mem_cons.mp h with e | h'
    · cases e; exact if_pos rfl
    · rw [if_neg fun e : n = m => (nodup_el hn).1 c (e ▸ h')]; exact ih (nodup_el hn).2 h'
theorem closed_lookup {env : Env} {names : List (Str × NameKind)} : ∀ {acc : List (Str × Addr)} {x : Str}, nodupS (names.map (·.1)) = true → (∀ n, (n, NameKind.free) ∈ names → ∃ c, env.cells.lookup n = some c) →
    (closed env names acc).lookup x = if names.lookup x = some .free then env.cells.lookup x else acc.lookup x := by
  induction names with
  | nil => exact fun _ _ => (if_neg nofun).symm
  | cons p r ih =>
    intro acc x hn hm
    obtain ⟨n, k⟩ := p
    obtain ⟨h1, h2⟩ := nodup_el hn
    have hnr : ∀ {q}, r.lookup n ≠ some q := fun h => h1 _ (mem_of_lookup h)
    have ih' := fun acc => ih (acc := acc) (x := x) h2 fun n h => hm n (List.mem_cons_of_mem _ h)
    rw [lookup_if]
    by_cases hk : k = .free
    · subst hk
      obtain ⟨c, hc⟩ := hm n List.mem_cons_self
      show (closed env r ((n, (env.cells.lookup n).getD 0) :: acc)).lookup x = _
      rw [ih', lookup_if, hc]
      by_cases hx : x = n
      · subst hx
        rw [if_neg hnr, if_pos rfl, if_pos rfl, if_pos rfl, hc]; rfl
      · rw [if_neg hx, if_neg hx]
    · show (if (k == NameKind.free) = true then _ else closed env r acc).lookup x = _
      rw [if_neg (fun h => hk (beq_iff_eq.mp h)), ih']
      by_cases hx : x = n
      · subst hx
        rw [if_neg hnr, if_pos rfl, if_neg fun h => hk (Option.some.inj h)]
      · rw [if_neg hx]
structure CellsOk (h : Heap) (names : List (Str × NameKind)) (acc : List (Str × Addr)) : Prop where
  new : ∀ x, names.lookup x = some .cell → ∃ c, (cellsFrom h.objs.size names acc).lookup x = some c ∧ h.objs.size ≤ c ∧ (pushCells h names).IsCell c none
  old : ∀ x, names.lookup x ≠ some .cell → (cellsFrom h.objs.size names acc).lookup x = acc.lookup x
  inj : ∀ x y c, names.lookup x = some .cell → names.lookup y = some .cell → (cellsFrom h.objs.size names acc).lookup x = some c → (cellsFrom h.objs.size names acc).lookup y = some c → x = y
theorem cells_spec (names : List (Str × NameKind)) : ∀ (h : Heap) (acc : List (Str × Addr)), nodupS (names.map (·.1)) = true → CellsOk h names acc := by
  induction names with
  | nil => exact fun h acc _ => ⟨fun x e => nn e, fun x _ => rfl, fun x y c e => nn e⟩
  | cons p r ih =>
    intro h acc hn
    obtain ⟨n, k⟩ := p
    obtain ⟨h1, h2⟩ := nodup_el hn
    have hnr : ∀ {q}, r.lookup n ≠ some q := fun h => h1 _ (mem_of_lookup h)
    by_cases hk : k = .cell
    · subst hk
      have S := ih (h.push { cls := .type "cell", data := .cell none }) ((n, h.objs.size) :: acc) h2
      have ec : cellsFrom h.objs.size ((n, .cell) :: r) acc = cellsFrom (h.push { cls := .type "cell", data := .cell none }).objs.size r ((n, h.objs.size) :: acc) := by rw [Heap.size_push]; rfl
      have ep : pushCells h ((n, .cell) :: r) = pushCells (h.push { cls := .type "cell", data := .cell none }) r := rfl
      have hn' := S.old n hnr
      rw [lookup_if, if_pos rfl] at hn'
      have gt : ∀ {x c}, r.lookup x = some .cell → (cellsFrom h.objs.size ((n, .cell) :: r) acc).lookup x = some c → h.objs.size < c := fun hx e => by
        obtain ⟨c', g1, g2, _⟩ := S.new _ hx
        rw [ec, g1] at e
        rw [Heap.size_push] at g2
        exact Option.some.inj e ▸ g2
      constructor
      · intro x e
        rw [ec, ep]
        rw [lookup_if] at e
        by_cases hx : x = n
        · subst hx
          exact ⟨_, hn', Nat.le_refl _, ⟨_, pushCells_keeps r _ _ _ (Heap.get?_push_size _ rfl), rfl⟩⟩
        · rw [if_neg hx] at e
          obtain ⟨c, g1, g2, g3⟩ := S.new x e
          rw [Heap.size_push] at g2
          exact ⟨c, g1, Nat.le_of_succ_le g2, g3⟩
      · intro x e
        rw [lookup_if] at e
        by_cases hx : x = n
        · rw [if_pos hx] at e; exact absurd rfl e
        · rw [if_neg hx] at e
          rw [ec, S.old x e, lookup_if, if_neg hx]
      · intro x y c ex ey g1 g2
        rw [lookup_if] at ex ey
        by_cases hx : x = n
        · by_cases hy : y = n
          · rw [hx, hy]
          · rw [if_neg hy] at ey
            have h3 := gt ey g2
            rw [ec, hx, hn'] at g1
            exact absurd h3 (Option.some.inj g1 ▸ Nat.lt_irrefl _)
        · rw [if_neg hx] at ex
          by_cases hy : y = n
          · have h3 := gt ex g1
            rw [ec, hy, hn'] at g2
            exact absurd h3 (Option.some.inj g2 ▸ Nat.lt_irrefl _)
          · rw [if_neg hy] at ey
            rw [ec] at g1 g2
            exact S.inj x y c ex ey g1 g2
    · have S := ih h acc h2
      have hb : ¬ (k == NameKind.cell) = true := fun e => hk (beq_iff_eq.mp e)
      have ec : cellsFrom h.objs.size ((n, k) :: r) acc = cellsFrom h.objs.size r acc := if_neg hb
      have ep : pushCells h ((n, k) :: r) = pushCells h r := if_neg hb
      have cel : ∀ x, List.lookup x ((n, k) :: r) = some .cell → r.lookup x = some .cell := fun x e => by
        rw [lookup_if] at e
        by_cases hx : x = n
        · rw [if_pos hx] at e; exact absurd (Option.some.inj e) hk
        · rwa [if_neg hx] at e
      constructor
      · rw [ec, ep]; exact fun x e => S.new x (cel x e)
      · rw [ec]
        refine fun x e => S.old x fun e' => ?_
        rw [lookup_if] at e
        by_cases hx : x = n
        · exact hnr (hx ▸ e')
        · exact e ((if_neg hx).trans e')
      · rw [ec]; exact fun x y c ex ey => S.inj x y c (cel x ex) (cel y ey)
theorem lookup_map {β : Type} {f : Str × β → Str × β} {g : Str → β → β} (hf : ∀ p, f p = (p.1, g p.1 p.2)) (x : Str) (l : List (Str × β)) : (l.map f).lookup x = (l.lookup x).map (g x) := by
  induction l with
  | nil => rfl
  | cons p r ih =>
    rw [List.map_cons, hf, lookup_if, show p = (p.1, p.2) from rfl, lookup_if]
    by_cases hx : x = p.1
    · rw [if_pos hx, if_pos hx, hx]; rfl
    · rw [if_neg hx, if_neg hx]; exact ih
theorem relabel_lookup {scope : Scope} {env : Env} (hf : env.scope.kind = .function) (x : Str) :
    (relabel scope env).names.lookup x = (scope.names.lookup x).map fun k => if k = .free ∧ env.kindOf x = some .cell then .cell else k := by
  refine lookup_map (g := fun n k => if k = .free ∧ env.kindOf n = some .cell then .cell else k) (fun p => ?_) x scope.names
  have b : ∀ {c : Bool} {C : Prop} [Decidable C], (c = true ↔ C) → (if c = true then (p.1, NameKind.cell) else (p.1, p.2)) = (p.1, if C then NameKind.cell else p.2) := fun h => by
    split <;> split <;> first | rfl | exact absurd (h.mp ‹_›) ‹_› | exact absurd (h.mpr ‹_›) ‹_›
  exact b (by rw [hf, Bool.and_eq_true, Bool.and_eq_true, beq_iff_eq, beq_iff_eq, beq_iff_eq]; exact ⟨fun h => ⟨h.1.1, h.2⟩, fun h => ⟨⟨h.1, rfl⟩, h.2⟩⟩)
theorem keep_get {fv : List Nat} {penv : PEnv} {i : Nat} {v : PV} : (keep fv penv).get i = some v → i ∈ fv ∧ penv.get i = some v := by
  induction penv with
  | nil => exact fun h => nn h
  | cons p r ih =>
    obtain ⟨j, u⟩ := p
    intro h
    have h : PEnv.get (bif fv.any (Nat.beq j) then (j, u) :: keep fv r else keep fv r) i = some v := h
    show i ∈ fv ∧ (bif Nat.beq j i then some u else PEnv.get r i) = some v
    cases hj : Nat.beq j i with
    | true =>
      obtain rfl := (Nat.eq_of_beq_eq_true hj).symm
      cases hb : fv.any (Nat.beq i) with
      | true =>
        rw [hb] at h
        have h : (bif Nat.beq i i then some u else PEnv.get (keep fv r) i) = some v := h
        rw [hj] at h
        obtain ⟨m, hm, he⟩ := List.any_eq_true.mp hb
        exact ⟨Nat.eq_of_beq_eq_true he ▸ hm, h⟩
      | false =>
        rw [hb] at h
        exact ff (hb.symm.trans (List.any_eq_true.mpr ⟨i, (ih h).1, hj⟩))
    | false =>
      cases hb : fv.any (Nat.beq j) with
      | true =>
        rw [hb] at h
        have h : (bif Nat.beq j i then some u else PEnv.get (keep fv r) i) = some v := h
        rw [hj] at h; exact ih h
      | false => rw [hb] at h; exact ih h
structure CompOk (cx : Cx) (names : Names) (scope : Scope) (fv : List Nat) : Prop where
  kind : scope.kind = .function
  nodup : nodupS (scope.names.map (·.1)) = true
  fv : ∀ i ∈ fv, i < cx.nm.length ∧ scope.names.lookup (cx.name i) = some .free
  up : ∀ n, (n, NameKind.free) ∈ scope.names → names.lookup n = some .cell ∨ names.lookup n = some .free
theorem CompOk.of {names : Names} {scope : Scope} {fv : List Nat} (h : compOk cx names scope fv = true) : CompOk cx names scope fv :=
  an h fun h h4 => an h fun h h3 => an h fun h1 h2 => ⟨beq_iff_eq.mp h1, h2, fun i hi => an (List.all_eq_true.mp h3 i hi) fun a b => ⟨dt a, beq_iff_eq.mp b⟩, fun n hn => (Bool.or_eq_true_iff.mp (List.all_eq_true.mp h4 (n, .free) hn)).elim (fun h => (Bool.or_eq_true_iff.mp h).elim (fun h => ff h) fun h => .inl (beq_iff_eq.mp h)) fun h => .inr (beq_iff_eq.mp h)⟩
variable {names : Names} {env : Env} {penv : PEnv} {z : Z} {s : Shared} {A : Around} {E : Value → Shared → Prop} {M : Model}
theorem free_push {z : Z} (k : OkZ cx z) {a : Addr} (h : z.h.get? a = none) {h' : Heap} : Free { z with h := h' } a := ⟨(k.free_of_none h).b, (k.free_of_none h).l⟩
theorem comp_env (f : Fr cx names z env penv) (k : OkZ cx z) (hz : s.heap = z.h) {scope : Scope} {fv : List Nat} (c : CompOk cx names scope fv) {Q : Env → Shared → Prop}
    (hQ : ∀ cenv h1, OkZ cx { z with h := h1 } → Ext z { z with h := h1 } → Fr cx scope.names { z with h := h1 } { cenv with scope := relabel scope env } (keep fv penv) →
      (∀ a o, own scope.names { cenv with scope := relabel scope env } a → z.h.get? a ≠ some o) →
      (∀ n c, cenv.cells.lookup n = some c → own scope.names { cenv with scope := relabel scope env } c ∨ env.cells.lookup n = some c) → Q cenv { s with heap := h1 }) :
    wpAny M A (newFunctionEnv scope env.globals (closed env scope.names []) [] env.qual none .none (some env)) Q E s := by
  have hfree : ∀ x, scope.names.lookup x = some .free → env.kindOf x = some .cell ∨ env.kindOf x = some .free := fun x hx =>
    (c.up x (mem_of_lookup hx)).elim (fun h => .inl ((f.raw x _ h).1 nofun)) fun h => (f.raw x _ h).2 rfl
  have hcl : ∀ n, (n, NameKind.free) ∈ scope.names → ∃ c, env.cells.lookup n = some c := fun n hn => f.all n (hfree n (lookup_of_mem_nodup c.nodup hn))
  unfold newFunctionEnv
  simp only [Option.isSome_some, if_true]
  refine wpAny_bind (wpAny_alloc ?_)
  refine wpAny_bind (wpAny_layCells _ (fun name kind cells => by cases kind == NameKind.cell <;> simp) _ _ _ _ ?_)
  rw [List.forIn_nil]
  refine wpAny_bind (wpAny_pure (wpAny_pure ?_))
  have hn := none_at_size hz
  have S := cells_spec scope.names (s.heap.push { cls := .type "dict", data := .dict #[] }) (closed env scope.names []) c.nodup
  have S1 := S.new
  have S2 := S.old
  have S3 := S.inj
  clear S
  have hk0 := pushCells_keeps scope.names (s.heap.push { cls := .type "dict", data := .dict #[] })
  have loc0 := (Heap.Ns.new s.heap (.type "dict")).keeps hk0
  generalize pushCells (s.heap.push { cls := .type "dict", data := .dict #[] }) scope.names = h1 at *
  generalize cellsFrom (s.heap.push { cls := .type "dict", data := .dict #[] }).objs.size scope.names (closed env scope.names []) = cells at *
  rw [Heap.size_push] at S1
  have S2 : ∀ x, scope.names.lookup x ≠ some .cell → cells.lookup x = if scope.names.lookup x = some .free then env.cells.lookup x else none := fun x e => by rw [S2 x e, closed_lookup c.nodup hcl]; rfl
  have hk : ∀ b o, z.h.get? b = some o → h1.get? b = some o := fun b o e => hk0 _ _ (Heap.get?_push_of_some _ (by rw [hz]; exact e))
  have hlt : ∀ (b : Nat) o, z.h.get? b = some o → b < s.heap.objs.size := fun b o e => by rw [hz]; exact Heap.lt_size e
  have hge : ∀ (b : Nat), s.heap.objs.size ≤ b → z.h.get? b = none := fun b hb => by
    cases e : z.h.get? b with
    | none => rfl
    | some o => exact absurd (hlt b o e) (Nat.not_lt.mpr hb)
  have cell : ∀ {x a}, scope.names.lookup x = some .cell → cells.lookup x = some a → s.heap.objs.size + 1 ≤ a ∧ h1.IsCell a none := fun hx e => by
    obtain ⟨c', g1, g2⟩ := S1 _ hx
    exact Option.some.inj (g1.symm.trans e) ▸ g2
  have outer : ∀ {x a}, scope.names.lookup x ≠ some .cell → cells.lookup x = some a → env.cells.lookup x = some a := fun {x a} hx e => by
    rw [S2 _ hx] at e
    by_cases hf : scope.names.lookup x = some .free
    · rwa [if_pos hf] at e
    · rw [if_neg hf] at e; exact nn e
  have old : ∀ {x a}, env.cells.lookup x = some a → a < s.heap.objs.size := fun e => (f.cel _ _ e).2.2.elim fun _ h => h.elim fun _ h => hlt _ _ h.1
  have hrl := relabel_lookup (scope := scope) f.kind
  have hkf : ∀ x, scope.names.lookup x = some .free → (relabel scope env).names.lookup x = some .cell ∨ (relabel scope env).names.lookup x = some .free := fun x hx => by
    rw [hrl, hx]
    by_cases h : env.kindOf x = some .cell
    · exact .inl (congrArg some (if_pos ⟨rfl, h⟩))
    · exact .inr (congrArg some (if_neg fun g => h g.2))
  refine hQ ({ scope, locals := s.heap.objs.size, globals := env.globals, cells, qual := env.qual, func := none, code := env.code, frame := env.frame, builtins := env.builtins }) h1 (k.keep fun b o e _ => hk b o e) (.keep hk) ?_ ?_ ?_
  · refine ⟨c.kind, f.glob, f.bui, free_push k hn, fun i v h => (c.fv i (keep_get h).1).1, fun n kk h => ⟨fun hkk => ?_, fun hkk => hkf n (hkk ▸ h)⟩, fun i v h => .inr (hkf _ (c.fv i (keep_get h).1).2), ?_, fun n a h => ?_, fun n n' a h h' => ?_, fun n h => ?_, fun i v h _ => ?_⟩
    · show (relabel scope env).names.lookup n = some kk
      rw [hrl, h]; exact congrArg some (if_neg fun g => hkk g.1)
    · refine ⟨fun _ => none, ?_, fun i v h hl => ?_⟩
      · exact loc0
      · have h1 : (relabel scope env).names.lookup (cx.name i) = some .local := hl
        exact (hkf _ (c.fv i (keep_get h).1).2).elim (fun h2 => nomatch h1.symm.trans h2) fun h2 => nomatch h1.symm.trans h2
    · by_cases hx : scope.names.lookup n = some .cell
      · have g := cell hx h
        exact ⟨free_push k (hge _ (Nat.le_of_succ_le g.1)), Nat.ne_of_gt g.1, none, g.2⟩
      · obtain ⟨g1, g2, ov, o, ho, hd⟩ := f.cel n a (outer hx h)
        exact ⟨⟨g1.b, g1.l⟩, Nat.ne_of_lt (hlt _ _ ho), ov, o, hk _ _ ho, hd⟩
    · by_cases hx : scope.names.lookup n = some .cell
      · by_cases hy : scope.names.lookup n' = some .cell
        · exact S3 n n' a hx hy h h'
        · exact absurd (old (outer hy h')) (Nat.not_lt.mpr (Nat.le_of_succ_le (cell hx h).1))
      · by_cases hy : scope.names.lookup n' = some .cell
        · exact absurd (old (outer hx h)) (Nat.not_lt.mpr (Nat.le_of_succ_le (cell hy h').1))
        · exact f.apart n n' a (outer hx h) (outer hy h')
    · have h' : (relabel scope env).names.lookup n = some .cell ∨ (relabel scope env).names.lookup n = some .free := h
      rw [hrl] at h'
      by_cases hc : scope.names.lookup n = some .cell
      · exact (S1 n hc).imp fun c h => h.1
      · by_cases hf : scope.names.lookup n = some .free
        · obtain ⟨c', h1⟩ := hcl n (mem_of_lookup hf)
          exact ⟨c', ((S2 n hc).trans (if_pos hf)).trans h1⟩
        · cases hl : scope.names.lookup n with
          | none => rw [hl] at h'; exact h'.elim (fun h => nn h) fun h => nn h
          | some kk =>
            rw [hl] at h' hc hf
            have e : (if kk = NameKind.free ∧ env.kindOf n = some NameKind.cell then NameKind.cell else kk) = kk := if_neg fun g => hf (congrArg some g.1)
            have h' : some (if kk = NameKind.free ∧ env.kindOf n = some NameKind.cell then NameKind.cell else kk) = some NameKind.cell ∨ some (if kk = NameKind.free ∧ env.kindOf n = some NameKind.cell then NameKind.cell else kk) = some NameKind.free := h'
            rw [e] at h'
            exact h'.elim (fun h => absurd h hc) fun h => absurd h hf
    · obtain ⟨hi, hp⟩ := keep_get h
      have hx := (c.fv i hi).2
      obtain ⟨c', x, h1, ⟨o, ho, hd⟩, hv⟩ := f.cellV i v hp (hfree _ hx)
      exact ⟨c', x, ((S2 _ (by rw [hx]; exact nofun)).trans (if_pos hx)).trans h1, ⟨o, hk _ _ ho, hd⟩, hv⟩
  · intro a o ha e
    rcases ha with rfl | ⟨n, g1, g2⟩
    · exact nn (hn.symm.trans e)
    · exact nn ((hge _ (Nat.le_of_succ_le (cell g1 g2).1)).symm.trans e)
  · intro n a h
    by_cases hx : scope.names.lookup n = some .cell
    · exact .inl (.inr ⟨n, hx, h⟩)
    · exact .inr (outer hx h)
end
end Mine
end
section
namespace Mine
open PySem
theorem Wr.of {cx : Cx} {names : Names} {t : Nat} (h : wrOk cx names t = true) : t < cx.nm.length ∧ (names.lookup (cx.name t) = some .local ∨ names.lookup (cx.name t) = some .cell) :=
  an h fun h1 h2 => ⟨dt h1, (Bool.or_eq_true_iff.mp h2).imp beq_iff_eq.mp beq_iff_eq.mp⟩
noncomputable def isComp (e : Expr) : Bool := Nat.beq e.ctorIdx 8 || Nat.beq e.ctorIdx 10
theorem comp_el {C : Expr → Prop} {e : Expr} (h : isComp e = true) (kl : ∀ a g s p, C (.ListComp a g s p)) (kd : ∀ a b g s p, C (.DictComp a b g s p)) : C e := by
  cases e <;> first | exact kl _ _ _ _ | exact kd _ _ _ _ _ | exact ff h
section
variable (M : Model) (A : Around) (E : Value → Shared → Prop)
noncomputable def emitW (e : Expr) (acc : Value) (env : Env) (K : Shared → Prop) (s : Shared) : Prop := match e with
  | .ListComp elt _ _ _ => wpAny M A (eval elt env) (fun x => wpAny M A (call (.builtin "list.append") [acc, x]) (fun _ => K) E) E s
  | .DictComp a b _ _ _ => ∃ d, acc = .ref d ∧ wpAny M A (eval a env) (fun x => wpAny M A (eval b env) (fun y => wpAny M A (dictSet d x y) (fun _ => K) E) E) E s
  | _ => False
noncomputable def bodyW (e : Expr) (d : Nat) (acc : Value) (env : Env) (K : Shared → Prop) (s : Shared) : Prop := match (clausesOf e)[d]? with
  | none => emitW M A E e acc env K s
  | some g => wpAny M A (eval g.iter env) (fun x => wpAny M A (foldedSetIterable g.iter env x) (fun y => wpAny M A (pyIter y) (fun j => wpAny M A (runOwn (.compStart e d j acc env) env) (fun _ => K) E) E) E) E s
noncomputable def turnW (e : Expr) (d : Nat) (t : Expr) (ts : List Expr) (it acc : Value) (env : Env) (N K : Shared → Prop) (r : Option Value) (s : Shared) : Prop := match r with
  | none => N s
  | some v => wpAny M A (letOwnedTupleGo t it v) (fun _ => wpAny M A (assign t env v) (fun _ => wpAny M A (compTests ts env) (fun ok s => bif ok then bodyW M A E e (d + 1) acc env K s else K s) E) E) E s
end
section
variable {M : Model} {A : Around} {E : Value → Shared → Prop} {s : Shared} {R : Result → Shared → Prop}
theorem turn_wp {e : Expr} (he : isComp e = true) {d : Nat} {t i : Expr} {ts : List Expr} (hg : (clausesOf e)[d]? = some ⟨t, i, ts, 0⟩) (hg' : ∀ g, (clausesOf e)[d + 1]? = some g → g.is_async = 0) {it acc : Value} {env : Env} {Q : Fin → Shared → Prop} {N K : Shared → Prop}
    (hN : ∀ s, N s → Q (.done .next) s) (hK : ∀ s, K s → Q (.again (.compLoop e d it acc env)) s) (h : wpAny M A (pyNext it) (turnW M A E e d t ts it acc env N K) E s) : wpAny M A (compTurn e d it acc env) Q E s := by
  revert hg hg' hK h
  refine comp_el (C := fun e => (clausesOf e)[d]? = some ⟨t, i, ts, 0⟩ → (∀ g, (clausesOf e)[d + 1]? = some g → g.is_async = 0) → (∀ s, K s → Q (.again (.compLoop e d it acc env)) s) → wpAny M A (pyNext it) (turnW M A E e d t ts it acc env N K) E s → wpAny M A (compTurn e d it acc env) Q E s) he
    (fun a gens sc p => ?_) (fun a b gens sc p => ?_)
  all_goals
    intro hg hg' hK h
    replace hg : gens[d]? = _ := hg
    replace hg' : ∀ g, gens[d + 1]? = some g → g.is_async = 0 := hg'
    delta compTurn
    dsimp only
    rw [hg]
    refine wpAny_bind (wpAny_standAt (thenW (x := pyNext it) h fun r s₁ h => ?_))
    cases r with
    | none => exact wpAny_pure (hN _ h)
    | some v =>
      refine thenW h fun _ _ h => thenW h fun _ _ h => ?_
      unfold compTests at h
      rw [bind_pure] at h
      refine thenW h fun ok _ h => ?_
      cases ok with
      | false => exact wpAny_pure (hK _ h)
      | true =>
        replace h : (match gens[d + 1]? with | none => _ | some g => _) := h
        rw [if_pos rfl]
        cases hb : gens[d + 1]? with
        | none =>
          rw [hb] at h
          first
            | exact wpAny_bind (thenW h fun x _ h => thenW h fun _ _ h => wpAny_pure (wpAny_pure (hK _ h)))
            | obtain ⟨D, rfl, q⟩ := h
              exact wpAny_bind (thenW q fun x _ h => thenW (wpAny_holding h) fun y _ h => wpAny_bind (wpAny_standAt (wpAny_holding (wpAny_mono h (fun _ _ h => wpAny_pure (hK _ h)) fun _ _ e => e))))
        | some g =>
          rw [hb] at h
          obtain ⟨t2, i2, ts2, a2⟩ := g
          obtain rfl : a2 = 0 := hg' _ hb
          exact thenW h fun x _ h => wpAny_bind (wpAny_standAt (thenW h fun y _ h => thenW (wpAny_holding h) fun j _ h => thenW h fun _ _ h => wpAny_pure (hK _ h)))
end
section
variable {cx : Cx} {names : Names} {z z' : Z} {env : Env} {penv : PEnv} {M : Model} {A : Around} {E : Value → Shared → Prop} {s : Shared} {R : Result → Shared → Prop}
noncomputable def Apart (env : Env) (a : Addr) : Prop := a ≠ env.locals ∧ ∀ n c, env.cells.lookup n = some c → c ≠ a
theorem Apart.own {a : Addr} (h : Apart env a) : ¬ own names env a := fun h' => h'.elim h.1 fun h' => h'.elim fun n e => h.2 n a e.2 rfl
theorem Fr.extB {ow : Addr → Prop} (f : Fr cx names z env penv) (e : ExtB ow z z') (hL : ¬ ow env.locals) (hC : ∀ n c, env.cells.lookup n = some c → ¬ ow c) : Fr cx names z' env penv := by
  have hL' : ∀ o, z.h.get? env.locals = some o → z'.h.get? env.locals = some o := fun o h => (e.prv _ o h f.freeL).2.2 hL
  have hC' : ∀ n c ov, env.cells.lookup n = some c → z.h.IsCell c ov → z'.h.IsCell c ov := fun n c ov h ⟨o, ho, hd⟩ => ⟨o, (e.prv _ o ho (f.cel n c h).1).2.2 (hC n c h), hd⟩
  refine ⟨f.kind, f.glob, f.bui, ?_, f.ids, f.raw, f.kinds, ?_, fun n c h => ?_, f.apart, f.all, fun i v hi hk => ?_⟩
  · obtain ⟨m, ⟨o, _, _, ho, _⟩, _⟩ := f.hasL
    exact (e.prv _ o ho f.freeL).1
  · obtain ⟨m, ⟨o, es, ep, ho, r⟩, hm⟩ := f.hasL
    exact ⟨m, ⟨o, es, ep, hL' o ho, r⟩, fun i v hi hk => let ⟨x, hx, hv⟩ := hm i v hi hk; ⟨x, hx, hv.extB e⟩⟩
  · obtain ⟨h1, h2, ov, o, ho, hd⟩ := f.cel n c h
    exact ⟨(e.prv _ o ho h1).1, h2, ov, hC' n c ov h ⟨o, ho, hd⟩⟩
  · obtain ⟨c, x, hc, hx, hv⟩ := f.cellV i v hi hk
    exact ⟨c, x, hc, hC' _ c _ hc hx, hv.extB e⟩
theorem Fr.extA {a : Addr} (f : Fr cx names z env penv) (e : ExtB (· = a) z z') (h : Apart env a) : Fr cx names z' env penv := f.extB e (fun x => h.1 x.symm) fun n c hc x => h.2 n c hc x
theorem Fr.apartNew (f : Fr cx names z env penv) {a : Addr} (h : z.h.get? a = none) : Apart env a :=
  ⟨fun e => f.hasL.elim fun m h' => h'.1.elim fun o h' => h'.elim fun _ h' => h'.elim fun _ h' => nn (h.symm.trans (e ▸ h'.1)), fun n c hc e => (f.cel n c hc).2.2.elim fun ov h' => h'.elim fun o h' => nn (h.symm.trans (e ▸ h'.1))⟩
theorem extB_at {a : Addr} {h' : Heap} (hk : ∀ b o, b ∉ [a] → z.h.get? b = some o → h'.get? b = some o) (hx : ∃ o, h'.get? a = some o) : ExtB (· = a) z { z with h := h' } :=
  ⟨fun _ _ e => e, fun _ _ e => e, fun b o e f => ⟨⟨f.b, f.l⟩, by
    by_cases hb : b = a
    · subst hb; exact hx
    · exact ⟨o, hk b o (by simpa using hb) e⟩, fun hn => hk b o (by simpa using hn) e⟩⟩
theorem names_sound (no : NmOk cx) {is : List Nat} {es : List Expr} (m : MtN cx names is es) : ∀ {vs : List PV} {xs : List Value} {penv penv' : PEnv} {z : Z} {s : Shared} {Q : Unit → Shared → Prop}, OkZ cx z → Fr cx names z env penv → s.heap = z.h → VRs cx z vs xs →
    bindAll is vs penv = some penv' → (∀ h' tk, OkZ cx { z with h := h' } → Fr cx names { z with h := h' } env penv' → ExtB (own names env) z { z with h := h' } → Q () { s with heap := h', toks := tk }) →
    wpAny M A (assignInOrder ((assignEach es env).map (·.2)) xs) Q E s := by
  induction m with
  | nil =>
    intro vs xs penv penv' z s Q k f hz hv h hQ
    cases vs with
    | cons => exact nn h
    | nil =>
      cases h
      refine hv.nil_el (C := fun xs => wpAny M A (assignInOrder ((assignEach [] env).map (·.2)) xs) Q E s) ?_
      have := hQ z.h s.toks k f (.refl _ _)
      rw [← hz] at this
      exact PyProof.Rows.assignInOrder_nil this
  | @cons i p is es hw hm ih =>
    intro vs xs penv penv' z s Q k f hz hv h hQ
    cases vs with
    | nil => exact nn h
    | cons v vs =>
      refine hv.cons_el (C := fun xs => wpAny M A (assignInOrder ((assignEach (.Name (cx.name i) p :: es) env).map (·.2)) xs) Q E s) fun x xs hv hvs => ?_
      have hw := Wr.of hw
      refine PyProof.Rows.assignInOrder_cons (wpAny_assign_Name (f.store no k hz hw.1 hw.2 hv fun h1 tk k1 f1 e1 => ?_))
      exact ih k1 f1 (s := { s with heap := h1, toks := tk }) rfl (hvs.mono e1.sig e1.frz) h fun h2 tk2 k2 f2 e2 => hQ h2 tk2 k2 f2 (e1.trans e2)
theorem MtN.each (env : Env) {is : List Nat} {es : List Expr} (m : MtN cx names is es) : (assignEach es env).length = is.length ∧ (assignEach es env).findIdx? (·.1) = none := by
  induction m with
  | nil => exact ⟨rfl, rfl⟩
  | cons i p hw hm ih => exact ⟨congrArg (· + 1) ih.1, (List.findIdx?_cons ..).trans ((if_neg Bool.false_ne_true).trans (congrArg (Option.map (· + 1)) ih.2))⟩
theorem bindAll_len {is : List Nat} : ∀ {vs : List PV} {penv penv' : PEnv}, bindAll is vs penv = some penv' → is.length = vs.length := by
  induction is with
  | nil => exact fun {vs penv penv'} h => by cases vs with | nil => rfl | cons => exact nn h
  | cons i is ih => exact fun {vs penv penv'} h => by cases vs with | nil => exact nn h | cons v vs => exact congrArg (· + 1) (ih h)
theorem bind_sound (no : NmOk cx) {t : Tgt} {t' : Expr} {v : PV} {x : Value} {penv' : PEnv} (hh : A.handled = none) (m : MtT cx names t t') (k : OkZ cx z) (f : Fr cx names z env penv) (hz : s.heap = z.h) (hv : VR cx z v x) (h : bindTgt t v penv = some penv')
    {Q : Unit → Shared → Prop} (hQ : ∀ h' tk, OkZ cx { z with h := h' } → Fr cx names { z with h := h' } env penv' → ExtB (own names env) z { z with h := h' } → Q () { s with heap := h', toks := tk }) :
    wpAny (model cx.prog cx.w) A (assign t' env x) Q E s := by
  cases m with
  | one i p hw =>
    cases h
    exact wpAny_assign_Name (f.store no k hz (Wr.of hw).1 (Wr.of hw).2 hv hQ)
  | tup kk p hm =>
    cases v with
    | tuple vs =>
      obtain ⟨a, n, items, rfl, ha, hs⟩ := hv.rv k
      obtain ⟨hl1, hl2⟩ := MtN.each env hm
      refine wpAny_assign_Tuple hh (tup_at hz ha) (hl1.trans ((bindAll_len h).trans (vrs_size hs))) hl2 fun h1 hk => ?_
      have hn := none_at_size hz
      have hk' : ∀ b o, z.h.get? b = some o → h1.get? b = some o := fun b o e => hk b o (fun hb => nn (hn.symm.trans (hb ▸ e))) (by rw [hz]; exact e)
      have k1 : OkZ cx { z with h := h1 } := k.keep fun b o e _ => hk' b o e
      exact names_sound no hm k1 (f.ext (.keep hk')) (s := { s with heap := h1 }) rfl hs h fun h2 tk k2 f2 e2 => hQ h2 tk k2 f2 (((Ext.keep hk').toB _).trans e2)
    | _ => exact nn h
theorem tests_false {M : Model} {f : Expr → Bool → Sem (ForInStep Bool)} (hf : ∀ c, f c false = pure (.yield false)) {ts : List Expr} {Q : Bool → Shared → Prop} (h : Q false s) : wpAny M A (forIn ts false f) Q E s := by
  induction ts with
  | nil => exact wpAny_pure h
  | cons c r ih => rw [List.forIn_cons, hf]; exact wpAny_bind (wpAny_pure ih)
theorem tests_sound {rec : EvE} {n : Nat} (hT : SndT cx rec n) (hA : ArOk A n) {ts : List PE} {ts' : List Expr} (m : MtEs cx names ts ts') : ∀ {z : Z} {s : Shared} {b : Bool} {st' : Store}, Fr cx names z env penv → OkZ cx z → s.heap = z.h →
    evTests rec ts penv z.st = some (b, st') → RunsT cx A (compTests ts' env) z b st' s := by
  induction m with
  | nil =>
    intro z s b st' f k hz h
    cases h
    intro E Q hQ
    have := hQ z s.toks k (.refl z) rfl
    rw [← hz] at this
    exact wpAny_bind (wpAny_pure (wpAny_pure this))
  | cons hc hr ih =>
    intro z s b st' f k hz h E Q hQ
    unfold compTests
    rw [bind_pure, List.forIn_cons]
    refine mT h fun c st1 h1 h => wpAny_bind (wpAny_bind (hT hc f k hz hA h1 E _ fun z1 tk k1 e1 s1 => wpAny_pure ?_))
    cases c with
    | true =>
      have q := ih (f.ext e1) k1 (s := { s with heap := z1.h, toks := tk }) rfl (by rw [s1]; exact h) E Q fun z2 tk2 k2 e2 s2 => hQ z2 tk2 k2 (e1.trans e2) s2
      unfold compTests at q
      rwa [bind_pure] at q
    | false => cases h; exact tests_false (fun _ => rfl) (hQ z1 tk k1 e1 s1)
end
end Mine
end
section
namespace Mine
open PySem
section
variable {M : Model} {A : Around} {E : Value → Shared → Prop} {s : Shared} {R : Result → Shared → Prop}
variable {prog : Program} {w : World}
theorem loop_facts {e : Expr} (he : isComp e = true) {d : Nat} {it acc : Value} {env : Env} : (Code.compLoop e d it acc env).quiet = true ∧ A.under (.compLoop e d it acc env) = A ∧ A.under (.compStart e d it acc env) = A :=
  comp_el (C := fun e => (Code.compLoop e d it acc env).quiet = true ∧ A.under (.compLoop e d it acc env) = A ∧ A.under (.compStart e d it acc env) = A) he (fun _ _ _ _ => ⟨rfl, rfl, rfl⟩) (fun _ _ _ _ _ => ⟨rfl, rfl, rfl⟩)
theorem comp_loop {e : Expr} (he : isComp e = true) {d : Nat} {t i : Expr} {ts : List Expr} (hg : (clausesOf e)[d]? = some ⟨t, i, ts, 0⟩) (hg' : ∀ g, (clausesOf e)[d + 1]? = some g → g.is_async = 0) {it acc : Value} {env : Env} (I : Nat → Shared → Prop)
    (turn : ∀ n s (E : Value → Shared → Prop), I n s → wpAny (model prog w) A (pyNext it) (turnW (model prog w) A E e d t ts it acc env (R (.ok .next)) (fun t => ∃ m, m < n ∧ I m t)) E s)
    (n : Nat) (h : I n s) : codeAny (model prog w) A (.compLoop e d it acc env) R s := by
  have hu := (loop_facts (A := A) (d := d) (it := it) (acc := acc) (env := env) he).2.1
  have hden : (model prog w).den (.compLoop e d it acc env) = (compTurn e d it acc env).onRaise (fun x => do noteFrame x env; theTreesLotGoes x) := comp_el (C := fun e => (model prog w).den (.compLoop e d it acc env) = (compTurn e d it acc env).onRaise (fun x => do noteFrame x env; theTreesLotGoes x)) he (fun _ _ _ _ => rfl) (fun _ _ _ _ _ => rfl)
  refine codeAny_loop (loop_facts (A := A) he).1 I (fun n s hI => ?_) n h
  rw [hu, hden]
  refine wpAny_noted ?_
  exact turn_wp he hg hg' (fun _ h => h) (fun _ h => ⟨rfl, h⟩) (turn n s _ hI)
theorem comp_start {e : Expr} (he : isComp e = true) {d : Nat} {t i : Expr} {ts : List Expr} (hg : (clausesOf e)[d]? = some ⟨t, i, ts, 0⟩) {it acc : Value} {env : Env}
    (h : codeAny (model prog w) A (.compLoop e d it acc env) R s) (hself : ∀ (Q E : Value → Shared → Prop), Q it s → wpAny (model prog w) A (pyIter it) Q E s) : codeAny (model prog w) A (.compStart e d it acc env) R s := by
  have hq := (loop_facts (A := A) (d := d) (it := it) (acc := acc) (env := env) he).1
  have hu := (loop_facts (A := A) (d := d) (it := it) (acc := acc) (env := env) he).2.2
  have hden : (model prog w).den (.compStart e d it acc env) = (compStart e d it acc env).onRaise (fun x => do noteFrame x env; standAt theWindowsPlace) := comp_el (C := fun e => (model prog w).den (.compStart e d it acc env) = (compStart e d it acc env).onRaise (fun x => do noteFrame x env; standAt theWindowsPlace)) he (fun _ _ _ _ => rfl) (fun _ _ _ _ _ => rfl)
  refine codeAny_of_tree ?_
  rw [hu, hden]
  refine wpAny_notedAt ?_
  unfold compStart
  rw [hg]
  show wpAny _ _ (ask >>= _) _ _ s
  refine wpAny_bind (wpAny_askSetting (wpAny_ite ?_))
  split
  · first
      | exact wpAny_bind (wpAny_pure (wpAny_pure (And.intro hq h)))
      | exact wpAny_pure (And.intro hq h)
  · refine wpAny_bind (wpAny_rule ?_)
    first
      | exact wpAny_bind (wpAny_standAt (wpAny_bind (hself _ _ (wpAny_pure (And.intro hq h)))))
      | (show wpAny _ _ (standAt i.pos >>= _) _ _ s; exact wpAny_bind (wpAny_standAt (wpAny_bind (hself _ _ (wpAny_pure (And.intro hq h))))))
end
end Mine
end
section
namespace Mine
open PySem
structure AccOk (cx : Cx) {α : Type} (AR : Z → α → Prop) (D : Addr) : Prop where
  free : ∀ z a, AR z a → Free z D ∧ ∃ o, z.h.get? D = some o
  ext : ∀ (ow : Addr → Prop) z z' a, AR z a → OkZ cx z → OkZ cx z' → ExtB ow z z' → ¬ ow D → AR z' a
  stay : ∀ z h' a, AR z a → (∀ o, z.h.get? D = some o → h'.get? D = some o) → AR { z with h := h' } a
noncomputable def Emits (cx : Cx) (A : Around) (n : Names) (cenv : Env) (D : Addr) {α : Type} (AR : Z → α → Prop) (emit : PEnv → Store → α → Option (α × PEnv × Store)) (t : (Value → Shared → Prop) → (Shared → Prop) → Shared → Prop) : Prop :=
  ∀ (z : Z) (s : Shared) (penv penv' : PEnv) (acc acc' : α) (st' : Store), OkZ cx z → Fr cx n z cenv penv → s.heap = z.h → AR z acc → Apart cenv D → emit penv z.st acc = some (acc', penv', st') →
    ∀ (E : Value → Shared → Prop) (Q : Shared → Prop), (∀ z' tk, OkZ cx z' → ExtB (fun x => own n cenv x ∨ x = D) z z' → Fr cx n z' cenv penv' → AR z' acc' → z'.st = st' → Q { s with heap := z'.h, toks := tk }) → t E Q s
section
variable {cx : Cx} {n : Names} {cenv : Env} {A : Around} {D : Addr} {α : Type} {AR : Z → α → Prop} {rec : EvE} {lvl : Nat} {R : Result → Shared → Prop}
theorem Fr.stay {names : Names} {env : Env} {penv : PEnv} {z : Z} {I : Addr} {h' : Heap} (f : Fr cx names z env penv) (hk : ∀ b o, b ∉ [I] → z.h.get? b = some o → h'.get? b = some o) (ap : Apart env I) : Fr cx names { z with h := h' } env penv := by
  have hL : ∀ o, z.h.get? env.locals = some o → h'.get? env.locals = some o := fun o h => hk _ o (fun hm => ap.1.symm (List.mem_singleton.mp hm)) h
  have hC : ∀ n c ov, env.cells.lookup n = some c → z.h.IsCell c ov → h'.IsCell c ov := fun n c ov h ⟨o, ho, hd⟩ => ⟨o, hk _ o (fun hm => ap.2 n c h (List.mem_singleton.mp hm)) ho, hd⟩
  refine ⟨f.kind, f.glob, f.bui, ⟨f.freeL.b, f.freeL.l⟩, f.ids, f.raw, f.kinds, ?_, fun n c h => ?_, f.apart, f.all, fun i v hi hk => ?_⟩
  · obtain ⟨m, ⟨o, es, ep, ho, r⟩, hm⟩ := f.hasL
    exact ⟨m, ⟨o, es, ep, hL o ho, r⟩, hm⟩
  · obtain ⟨h1, h2, ov, hc⟩ := f.cel n c h
    exact ⟨⟨h1.b, h1.l⟩, h2, ov, hC n c ov h hc⟩
  · obtain ⟨c, x, hc, hx, hv⟩ := f.cellV i v hi hk
    exact ⟨c, x, hc, hC _ c _ hc hx, hv⟩
theorem mTG {α : Type} {C : Prop} {r : α × PEnv × Store} {x : Option (Bool × Store)} {f : Store → Option (α × PEnv × Store)} {g : Store → Option (α × PEnv × Store)} (h : (match x with
    | some (true, st) => f st
    | some (false, st) => g st
    | none => none) = some r) (k : ∀ b st, x = some (b, st) → (bif b then f st else g st) = some r → C) : C := mT h k
theorem mG {α γ : Type} {C : Prop} {r : γ} {x : Option (α × PEnv × Store)} {f : α → PEnv → Store → Option γ} (h : (match x with
    | some (a, p, st) => f a p st
    | none => none) = some r) (k : ∀ a p st, x = some (a, p, st) → f a p st = some r → C) : C := by
  cases x with
  | none => exact nn h
  | some p => exact k p.1 p.2.1 p.2.2 rfl h
theorem drop_cases {β : Type} (l : List β) {j : Nat} (hj : j ≤ l.length) {C : Prop} (k0 : j = l.length → l.drop j = [] → C) (k1 : ∀ x, l[j]? = some x → l.drop j = x :: l.drop (j + 1) → j < l.length → C) : C :=
  (Nat.lt_or_eq_of_le hj).elim (fun h => k1 _ (List.getElem?_eq_getElem h) (List.drop_eq_getElem_cons h) h) fun h => k0 h (List.drop_eq_nil_iff.mpr (Nat.le_of_eq h.symm))
theorem less_left {m j : Nat} (h : j < m) : m + 1 - (j + 1) < m + 1 - j := Nat.sub_lt_sub_left (Nat.lt_succ_of_lt h) (Nat.lt_succ_self j)
inductive LoopAt (cx : Cx) (n : Names) (cenv : Env) (D : Addr) {α : Type} (AR : Z → α → Prop) (items : List PV) (I : Addr) (fp : List Addr) (P : Nat → Value → Prop) (St : Nat → Heap → Prop) (z0 : Z) (s : Shared) (G : List PV → PEnv → Store → α → Prop) : Nat → Shared → Prop
  | mk (z' : Z) (penv' : PEnv) (a' : α) (tk : Nat) (j : Nat) : j ≤ items.length → ItZ cx I items fp P St z' j → OkZ cx z' → Fr cx n z' cenv penv' → AR z' a' → ExtB (fun x => own n cenv x ∨ x = D) z0 z' → G (items.drop j) penv' z'.st a' →
    LoopAt cx n cenv D AR items I fp P St z0 s G (items.length + 1 - j) { s with heap := z'.h, toks := tk }
theorem loop_sound (no : NmOk cx) (hT : SndT cx rec lvl) (hA : ArOk A lvl) (ao : AccOk cx AR D) {e : Expr} (he : isComp e = true) {d : Nat} {t' i' : Expr} {ts' : List Expr} (hg : (clausesOf e)[d]? = some ⟨t', i', ts', 0⟩)
    (hg' : ∀ g, (clausesOf e)[d + 1]? = some g → g.is_async = 0) {acc : Value} {t : Tgt} {ts : List PE} (mt : MtT cx n t t') (mts : MtEs cx n ts ts') {emit : PEnv → Store → α → Option (α × PEnv × Store)}
    (hem : Emits cx A n cenv D AR emit (fun E => bodyW (model cx.prog cx.w) A E e (d + 1) acc cenv)) {I : Addr} {items : List PV} {fp : List Addr} {P : Nat → Value → Prop} {St : Nat → Heap → Prop} (it : It cx I items fp P St)
    {z0 z : Z} {s : Shared} {penv penvF : PEnv} {a aF : α} {stF : Store} (hI0 : z0.h.get? I = none) (tz : ItZ cx I items fp P St z 0) (k : OkZ cx z) (f : Fr cx n z cenv penv) (hz : s.heap = z.h) (ha : AR z a) (hID : I ≠ D) (apI : Apart cenv I) (apD : Apart cenv D)
    (e0 : ExtB (fun x => own n cenv x ∨ x = D) z0 z) (h : evGen emit t (evTests rec ts) items penv z.st a = some (aF, penvF, stF))
    (hR : ∀ z' tk, OkZ cx z' → ExtB (fun x => own n cenv x ∨ x = D) z0 z' → Fr cx n z' cenv penvF → AR z' aF → z'.st = stF → R (.ok .next) { s with heap := z'.h, toks := tk }) :
    codeAny (model cx.prog cx.w) A (.compLoop e d (.ref I) acc cenv) R s := by
  have hs : s = { s with heap := z.h, toks := s.toks } := by rw [← hz]
  refine comp_loop he hg hg' (LoopAt cx n cenv D AR items I fp P St z0 s fun l p st a => evGen emit t (evTests rec ts) l p st a = some (aF, penvF, stF)) ?_ (items.length + 1)
    (hs ▸ .mk z penv a s.toks 0 (Nat.zero_le _) tz k f ha e0 h)
  intro m s' E hm
  cases hm with
  | mk z1 penv1 a1 tk1 j hj t1 k1 f1 ha1 e1 h1 =>
  have hnI : ¬ (own n cenv I ∨ I = D) := fun h => h.elim apI.own hID
  refine drop_cases items hj (fun hj' hd => ?_) fun x hx hd hlt => ?_
  · rw [hd] at h1
    cases h1
    refine t1.done it k1 (s := { s with heap := z1.h, toks := tk1 }) rfl hA.hh hj' fun h2 tk2 k2 hk2 => ?_
    exact hR { z1 with h := h2 } tk2 k2 (e1.change (wr := [I]) (fun b hb => List.mem_singleton.mp hb ▸ hI0) hk2) (f1.stay hk2 apI) (ao.stay _ _ _ ha1 fun o => hk2 D o fun hm => hID (List.mem_singleton.mp hm).symm) rfl
  · rw [hd] at h1
    refine mE h1 fun penv2 hb h1 => ?_
    refine t1.next it k1 (s := { s with heap := z1.h, toks := tk1 }) rfl hA.hh hx fun v h2 tk2 k2 t2 hv hk2 => ?_
    obtain ⟨oI, nI, hoI, hcI, hlI⟩ := it.cls _ _ t2.st
    have e2 : ExtB (· = I) z1 { z1 with h := h2 } := extB_at hk2 ⟨oI, hoI⟩
    have f2 := f1.extA e2 apI
    have ha2 := ao.ext _ _ _ _ ha1 k1 k2 e2 (fun h => hID h.symm)
    refine wpAny_noOwnedTuple (s := { s with heap := h2, toks := tk2 }) hoI hcI hlI ?_
    refine bind_sound no hA.hh mt k2 f2 (s := { s with heap := h2, toks := tk2 }) rfl (hv.extB e2) hb fun h3 tk3 k3 f3 e3 => ?_
    have e3' : ExtB (fun x => own n cenv x ∨ x = D) { z1 with h := h2 } { z1 with h := h3 } := e3.shrink fun x o hx _ => .inl hx
    have t3 := t2.extB it e3' hnI k2 k3
    have ha3 := ao.ext _ _ _ _ ha2 k2 k3 e3 apD.own
    have e13 : ExtB (fun x => own n cenv x ∨ x = D) z0 { z1 with h := h3 } := (e1.thenB e2 fun x o hx ho => nn (hI0.symm.trans (hx ▸ ho))).trans e3'
    refine mTG h1 fun c st4 ht h1 => ?_
    refine tests_sound hT hA mts f3 k3 (s := { s with heap := h3, toks := tk3 }) rfl ht E _ fun z4 tk4 k4 e4 s4 => ?_
    have e4' : ExtB (fun x => own n cenv x ∨ x = D) { z1 with h := h3 } z4 := e4.toB _
    have f4 := f3.ext e4
    have ha4 := ao.ext (fun _ => False) _ _ _ ha3 k3 k4 (e4.toB _) fun h => h
    have t4 := t3.extB it e4' hnI k3 k4
    have l4 := less_left hlt
    cases c with
    | true =>
      refine mG h1 fun a5 penv5 st5 hm h1 => ?_
      refine hem z4 _ penv2 penv5 a1 a5 st5 k4 f4 rfl ha4 apD (by rw [s4]; exact hm) E _ fun z5 tk5 k5 e5 f5 ha5 s5 => ?_
      exact ⟨_, l4, .mk z5 penv5 a5 tk5 (j + 1) hlt (t4.extB it e5 hnI k4 k5) k5 f5 ha5 ((e13.trans e4').trans e5) (by rw [s5]; exact h1)⟩
    | false => exact ⟨_, l4, .mk z4 penv2 a1 tk4 (j + 1) hlt t4 k4 f4 ha4 (e13.trans e4') (by rw [s4]; exact h1)⟩
theorem body_sound (no : NmOk cx) (hE : SndE cx rec lvl) (hT : SndT cx rec lvl) (hA : ArOk A lvl) (ao : AccOk cx AR D) {e : Expr} (he : isComp e = true) {emit : PEnv → Store → α → Option (α × PEnv × Store)} {acc : Value}
    (hbase : Emits cx A n cenv D AR emit (fun E => emitW (model cx.prog cx.w) A E e acc cenv)) (hasy : ∀ (d : Nat) g, (clausesOf e)[d]? = some g → g.is_async = 0) {o m : Names} {r : List (Tgt × PE × List PE)} {r' : List Comprehension} (mg : MtG cx o m r r') :
    ∀ {d : Nat}, o = n → m = n → (clausesOf e).drop d = r' → Emits cx A n cenv D AR (evGens rec emit r) (fun E => bodyW (model cx.prog cx.w) A E e d acc cenv) := by
  induction mg with
  | nil =>
    intro d _ _ hd
    unfold bodyW
    rw [List.getElem?_eq_none_iff.mpr (List.drop_eq_nil_iff.mp hd)]
    exact hbase
  | @cons o m t i ts t' i' ts' r r' mt mi mts mr ih =>
    intro d ho hm hd
    subst hm
    subst ho
    have hlt : d < (clausesOf e).length := Nat.lt_of_not_le fun h => by rw [List.drop_eq_nil_iff.mpr h] at hd; cases hd
    rw [List.drop_eq_getElem_cons hlt] at hd
    have hg : (clausesOf e)[d]? = some ⟨t', i', ts', 0⟩ := (List.getElem?_eq_getElem hlt).trans (congrArg some (List.cons.inj hd).1)
    have ih := ih rfl rfl (List.cons.inj hd).2
    intro z s penv penv' a a' st' k f hz ha apD h E Q hQ
    show bodyW _ _ _ _ _ _ _ _ _
    unfold bodyW
    rw [hg]
    refine mV h fun v st1 h1 h => mL h fun items st2 h2 h => ?_
    refine hE mi f k hz hA h1 E _ fun x z1 tk1 k1 e1 s1 v1 => wpAny_of_eq (mi.noSet cenv x) ?_
    refine iter_sound (z := z1) (by rw [s1]; exact h2) k1 (s := { s with heap := z1.h, toks := tk1 }) rfl v1 ?_
    intro I fp P St z2 tk2 it tz k2 e2 s2 hI
    refine wpAny_runOwn ?_
    have f2 := (f.ext e1).ext e2
    have hapI : Apart cenv I := (f.ext e1).apartNew hI
    have haD1 := ao.ext (fun _ => False) _ _ _ ha k k1 (e1.toB _) fun h => h
    obtain ⟨_, oD, hoD⟩ := ao.free _ _ haD1
    have hID : I ≠ D := fun e => nn (hI.symm.trans (e ▸ hoD))
    have ha2 := ao.ext (fun _ => False) _ _ _ haD1 k1 k2 (e2.toB _) fun h => h
    refine comp_start he hg (A := A) (loop_sound no hT hA ao he hg (fun g h => hasy _ g h) mt mts ih it hI tz k2 f2 (s := { s with heap := z2.h, toks := tk2 }) rfl ha2 hID hapI apD (e2.toB _) (by rw [s2]; exact h) fun z3 tk3 k3 e3 f3 ha3 s3 => ?_) fun Q' E' hq => ?_
    · exact hQ z3 tk3 k3 ((e1.toB _).trans e3) f3 ha3 s3
    · exact (it.W A hA.hh).self 0 _ _ _ tz.st hq
end
end Mine
end
section
namespace Mine
open PySem
noncomputable def New (z : Z) (a : Addr) : Prop := ∀ o, z.h.get? a = some o → ¬ Free z a
theorem New.of {z : Z} {a : Addr} (h : z.h.get? a = none) : New z a := fun o e => nn (h.symm.trans e)
theorem New.back {z z' : Z} {a : Addr} (e : Ext z z') (h : New z' a) : New z a := fun o ho f => by
  obtain ⟨h1, f1⟩ := e.prv a o ho f
  exact h o h1 f1
section
variable {cx : Cx} {z z0 z' : Z} {a : Addr} {o : Obj}
theorem ExtB.toExtN {ow : Addr → Prop} (e : ExtB ow z z') (h : ∀ x, ow x → New z x) : Ext z z' :=
  ⟨e.sig, e.frz, fun x o hx f => let ⟨f1, e1, h1⟩ := e.prv x o hx f; ⟨h1 fun hw => h x hw o hx f, f1⟩⟩
theorem adoptB_extN (e : Ext z0 z) (hn : New z0 a) (f : Free z a) : Ext z0 { z with B := addB z.B a o } :=
  ⟨e.sig, fun b x h => addB_of f.b (e.frz _ _ h), fun b x h g => have q := e.prv b x h g; ⟨q.1, addB_none (fun hb => hn x (hb ▸ h) (hb ▸ g)) q.2.b, q.2.l⟩⟩
theorem change_extN (e : Ext z0 z) (hn : New z0 a) {h' : Heap} (hs : Heap.SameBut a z.h h') : Ext z0 { z with h := h' } :=
  ⟨e.sig, e.frz, fun b x h g => have q := e.prv b x h g; ⟨(hs.2 b (fun hb => hn x (hb ▸ h) (hb ▸ g))).trans q.1, q.2.b, q.2.l⟩⟩
variable {names : Names} {env : Env} {penv penvF : PEnv} {A : Around} {rec : EvE} {lvl : Nat} {s : Shared} {E Q : Value → Shared → Prop} {α : Type} {AR : Addr → Z → α → Prop}
theorem comp_run (no : NmOk cx) (hE : SndE cx rec lvl) (hT : SndT cx rec lvl) (hA : ArOk A lvl) (ao : ∀ D, AccOk cx (AR D) D) {e : Expr} (he : isComp e = true) {scope : Scope} {fv : List Nat} (hc : compOk cx names scope fv = true) (f : Fr cx names z env penv) (k : OkZ cx z) (hz : s.heap = z.h)
    {t : Tgt} {i : PE} {ts : List PE} {r : List (Tgt × PE × List PE)} {t' i' : Expr} {ts' : List Expr} {r' : List Comprehension} (hcl : clausesOf e = ⟨t', i', ts', 0⟩ :: r') (mg : MtG cx names scope.names ((t, i, ts) :: r) (⟨t', i', ts', 0⟩ :: r'))
    (hasy : ∀ (d : Nat) g, (clausesOf e)[d]? = some g → g.is_async = 0) {emit : PEnv → Store → α → Option (α × PEnv × Store)} {a0 aF : α} {newAcc : Sem Value} {use : Option (Value → Sem Unit)}
    (hacc : ∀ (z : Z) (s : Shared) (E Q : Value → Shared → Prop), OkZ cx z → s.heap = z.h → (∀ D h', OkZ cx { z with h := h' } → Ext z { z with h := h' } → z.h.get? D = none → AR D { z with h := h' } a0 → Q (.ref D) { s with heap := h' }) → wpAny (model cx.prog cx.w) A newAcc Q E s)
    (hbase : ∀ D cenv, Emits cx A scope.names cenv D (AR D) emit (fun E => emitW (model cx.prog cx.w) A E e (.ref D) cenv))
    {v : PV} {st1 st2 stF : Store} {items : List PV} (h1 : rec i penv z.st = some (v, st1)) (h2 : itemsOf st1 v = some (items, st2)) (h3 : evGen (evGens rec emit r) t (evTests rec ts) items (keep fv penv) st2 a0 = some (aF, penvF, stF)) (pos : Pos)
    (hfin : ∀ D C z' tk, OkZ cx z' → Ext z z' → z'.st = stF → AR D z' aF → New z D → New z C → C ≠ D → Free z' C → (∃ m, z'.h.Ns C m) → compPost (model cx.prog cx.w) A E use Q (.ref D) C (.ok .next) { s with heap := z'.h, toks := tk }) :
    wpAny (model cx.prog cx.w) A (comprehension e scope env pos newAcc false (eval i' env) use) Q E s := by
  have c := CompOk.of hc
  cases mg with
  | cons mt mi mts mr =>
    have hclo : ∀ n, (n, NameKind.free) ∈ scope.names → ∃ c, env.cells.lookup n = some c := fun n hn => (c.up n hn).elim (fun h => f.all n (.inl ((f.raw n _ h).1 nofun))) fun h => f.all n ((f.raw n _ h).2 rfl)
    refine wpAny_comprehension_free hcl (fun x => mi.noSet env x) (closureFor_pure hclo) c.kind (fun x hx hl => by have := lookup_of_mem_nodup c.nodup (n := x.1) (c := x.2) hx; rw [hl] at this; exact this) ?_
    refine hE mi f k hz hA h1 E _ fun x z1 tk1 k1 e1 s1 v1 => ?_
    refine iter_sound (z := z1) (by rw [s1]; exact h2) k1 (s := { s with heap := z1.h, toks := tk1 }) rfl v1 ?_
    intro I fp P St z2 tk2 it tz k2 e2 s2 hI
    refine hacc z2 { s with heap := z2.h, toks := tk2 } E _ k2 rfl fun D h3' k3 e3 hD haD => ?_
    refine comp_env (s := { s with heap := h3', toks := tk2 }) (((f.ext e1).ext e2).ext e3) k3 rfl c fun cenv h4 k4 e4 f4 hown hcells => ?_
    obtain ⟨oI, _, hoI, _⟩ := it.cls _ _ tz.st
    have hID : I ≠ D := fun e => nn (hD.symm.trans (e ▸ hoI))
    obtain ⟨hfD, oD, hoD⟩ := (ao D).free _ _ haD
    have tz3 := tz.extB it (e3.toB (fun _ => False)) (fun h => h) k2 k3
    have tz4 := tz3.extB it (e4.toB (fun _ => False)) (fun h => h) k3 k4
    have haD4 := (ao D).ext (fun _ => False) _ _ _ haD k3 k4 (e4.toB _) fun h => h
    obtain ⟨oI3, _, hoI3, _⟩ := it.cls _ _ tz3.st
    have apN : ∀ a o, ({ z2 with h := h3' } : Z).h.get? a = some o → (∀ n c, env.cells.lookup n = some c → c ≠ a) → Apart { cenv with scope := relabel scope env } a := fun a o ho hcl' => by
      refine ⟨fun e => hown a o (.inl e) ho, fun n c' hc' e => ?_⟩
      subst e
      rcases hcells n c' hc' with h | h
      · exact hown c' o h ho
      · exact hcl' n c' h rfl
    have apI : Apart { cenv with scope := relabel scope env } I := by
      refine apN I oI3 hoI3 fun n c hc e => ?_
      exact ((f.ext e1).cel n c hc).2.2.elim fun ov h => h.elim fun o h => nn (hI.symm.trans (e ▸ h.1))
    have apD : Apart { cenv with scope := relabel scope env } D := by
      refine apN D oD hoD fun n c hc e => ?_
      exact (((f.ext e1).ext e2).cel n c hc).2.2.elim fun ov h => h.elim fun o h => nn (hD.symm.trans (e ▸ h.1))
    have hg : (clausesOf e)[0]? = some ⟨t', i', ts', 0⟩ := by rw [hcl]; rfl
    have ih := body_sound no hE hT hA (ao D) he (hbase D { cenv with scope := relabel scope env }) hasy mr (d := 1) rfl rfl (by rw [hcl]; rfl)
    refine comp_start he hg (loop_sound no hT hA (ao D) he hg (fun g h => hasy _ g h) mt mts ih it hI tz4 k4 f4 (s := { s with heap := h4, toks := tk2 }) rfl haD4 hID apI apD (((e2.trans e3).trans e4).toB _) (by rw [show ({ z2 with h := h4 } : Z).st = st2 from s2]; exact h3) fun z5 tk5 k5 e5 f5 ha5 s5 => ?_) fun Q' E' hq => (it.W A hA.hh).self 0 _ _ _ tz4.st hq
    have hnew : ∀ x, own scope.names { cenv with scope := relabel scope env } x ∨ x = D → New z1 x := fun x hx => by
      rcases hx with hx | rfl
      · refine New.back (e2.trans e3) fun o ho hf => hown x o hx ho
      · exact New.back e2 (New.of hD)
    have e15 := e5.toExtN hnew
    refine hfin D cenv.locals z5 tk5 k5 (e1.trans e15) s5 ha5 (New.back e1 (hnew D (.inr rfl))) (New.back e1 (hnew _ (.inl (.inl rfl)))) apD.1.symm f5.freeL ?_
    obtain ⟨m, hm, _⟩ := f5.hasL
    exact ⟨m, hm⟩
end
end Mine
end
section
namespace Mine
open PySem
noncomputable def ARL (cx : Cx) (D : Addr) (z : Z) (a : List PV) : Prop := Free z D ∧ ∃ o items, z.h.get? D = some o ∧ LObj o items ∧ VRs cx z a items.toList
noncomputable def ARD (cx : Cx) (D : Addr) (z : Z) (a : List (PV × PV)) : Prop := Free z D ∧ (∃ o, z.h.get? D = some o ∧ DRel cx.prog cx.w a o) ∧ (D == sysModules) = false
section
variable {cx : Cx} {z z0 z' : Z} {a : Addr} {o : Obj} {names : Names} {env : Env} {penv penvF : PEnv} {A : Around} {rec : EvE} {lvl : Nat} {s : Shared} {E Q : Value → Shared → Prop} {P : PProg} {call : EvC} {v : PV} {st' : Store}
theorem ARL.ok (D : Addr) : AccOk cx (ARL cx D) D where
  free := fun z a h => ⟨h.1, h.2.imp fun o h => h.elim fun _ h => h.1⟩
  ext := fun ow z z' a h k k' e hn => h.2.elim fun o h2 => h2.elim fun items h2 => have q := e.prv D o h2.1 h.1; ⟨q.1, o, items, q.2.2 hn, h2.2.1, h2.2.2.mono e.sig e.frz⟩
  stay := fun z h' a h hk => ⟨⟨h.1.b, h.1.l⟩, h.2.imp fun o h => h.imp fun items h => ⟨hk o h.1, h.2⟩⟩
theorem ARD.ok (D : Addr) : AccOk cx (ARD cx D) D where
  free := fun z a h => ⟨h.1, h.2.1.imp fun o h => h.1⟩
  ext := fun ow z z' a h k k' e hn => h.2.1.elim fun o h2 => have q := e.prv D o h2.1 h.1; ⟨q.1, ⟨o, q.2.2 hn, h2.2⟩, h.2.2⟩
  stay := fun z h' a h hk => ⟨⟨h.1.b, h.1.l⟩, h.2.1.imp fun o h => ⟨hk o h.1, h.2⟩, h.2.2⟩
theorem emitL_sound (hE : SndE cx rec lvl) (hA : ArOk A lvl) {n : Names} {elt : PE} {elt' : Expr} {g : List Comprehension} {sc : Scope} {p : Pos} (me : MtE cx n elt elt') (D : Addr) (cenv : Env) :
    Emits cx A n cenv D (ARL cx D) (emitL rec elt) (fun E => emitW (model cx.prog cx.w) A E (.ListComp elt' g sc p) (.ref D) cenv) := by
  intro z s penv penv' acc acc' st' k f hz ha apD h E Q hQ
  refine mV h fun v st1 h1 h => bif_el h fun hl e' => ?_
  cases e'
  refine hE me f k hz hA h1 E _ fun x z1 tk1 k1 e1 s1 v1 => ?_
  obtain ⟨f1, o, items, ho, ⟨m, rfl⟩, hv⟩ := (ARL.ok D).ext (fun _ => False) _ _ _ ha k k1 (e1.toB _) fun h => h
  refine call_meets (s := { s with heap := z1.h, toks := tk1 }) F.slot_list_append (isList_typeIs ho) F.entry_list_append (F.args_list_append_2 _ _) (list_append D items m x (lim_le (vrs_size hv ▸ dt hl))) ⟨ho, ?_⟩
  have hu := IsL.update (show IsL z1.h D items m from ho) (fun its => its.push x)
  have hs : Heap.SameBut D z1.h (z1.h.update D (Obj.mapSeq fun its => its.push x)) := Heap.SameBut.update ..
  generalize z1.h.update D (Obj.mapSeq fun its => its.push x) = h2 at hu hs ⊢
  have eD : ExtB (fun x => own n cenv x ∨ x = D) z1 { z1 with h := h2 } := extB_sameBut (.inr rfl) hs ⟨_, hu⟩
  have eA : ExtB (· = D) z1 { z1 with h := h2 } := extB_sameBut (ow := (· = D)) rfl hs ⟨_, hu⟩
  exact (hQ { z1 with h := h2 } tk1 (change_free k1 f1 hs) ((e1.toB _).trans eD) ((f.ext e1).extA eA apD) ⟨⟨f1.b, f1.l⟩, _, items.push x, hu, ⟨_, rfl⟩, by rw [Array.toList_push]; exact hv.append (.cons v1 .nil)⟩ s1)
theorem emitD_sound (hE : SndE cx rec lvl) (hA : ArOk A lvl) {n : Names} {ke ve : PE} {ke' ve' : Expr} {g : List Comprehension} {sc : Scope} {p : Pos} (mk : MtE cx n ke ke') (mv : MtE cx n ve ve') (D : Addr) (cenv : Env) :
    Emits cx A n cenv D (ARD cx D) (emitD rec ke ve) (fun E => emitW (model cx.prog cx.w) A E (.DictComp ke' ve' g sc p) (.ref D) cenv) := by
  intro z s penv penv' acc acc' st' k f hz ha apD h E Q hQ
  refine mV h fun a st1 h1 h => mV h fun b st2 h2 h => mD h fun acc1 hp h => bif_el h fun hl e' => ?_
  cases e'
  refine ⟨D, rfl, hE mk f k hz hA h1 E _ fun x z1 tk1 k1 e1 s1 v1 => hE mv (f.ext e1) k1 rfl hA (by rw [s1]; exact h2) E _ fun y z2 tk2 k2 e2 s2 v2 => ?_⟩
  have e12 := e1.trans e2
  obtain ⟨f2, ⟨o, ho, hd⟩, hsm⟩ := (ARD.ok D).ext (fun _ => False) _ _ _ ha k k2 (e12.toB _) fun h => h
  refine dictSet_sound (z := z2) (s := { s with heap := z2.h, toks := tk2 }) hp ho hd (v1.ext e2) v2 (dt hl) fun h' o' ho' hd' hs => ?_
  have eD : ExtB (fun x => own n cenv x ∨ x = D) z2 { z2 with h := h' } := extB_sameBut (.inr rfl) hs ⟨_, ho'⟩
  have eA : ExtB (· = D) z2 { z2 with h := h' } := extB_sameBut (ow := (· = D)) rfl hs ⟨_, ho'⟩
  exact hQ { z2 with h := h' } _ (change_free k2 f2 hs) ((e12.toB _).trans eD) ((f.ext e12).extA eA apD) ⟨⟨f2.b, f2.l⟩, ⟨o', ho', hd'⟩, hsm⟩ s2
theorem accL (z : Z) (s : Shared) (E Q : Value → Shared → Prop) (k : OkZ cx z) (hz : s.heap = z.h)
    (h : ∀ D h', OkZ cx { z with h := h' } → Ext z { z with h := h' } → z.h.get? D = none → ARL cx D { z with h := h' } [] → Q (.ref D) { s with heap := h' }) : wpAny (model cx.prog cx.w) A (newList []) Q E s := by
  have hn := none_at_size hz
  have hk : ∀ b x, z.h.get? b = some x → (s.heap.push { cls := .type "list", data := .seq ([] : List Value).toArray }).get? b = some x := fun b x e => by rw [hz]; exact Heap.get?_push_of_some _ e
  refine wpAny_newObj_type (h s.heap.objs.size _ (k.keep fun b o e _ => hk b o e) (.keep hk) hn ⟨⟨(k.free_of_none hn).b, (k.free_of_none hn).l⟩, _, #[], Heap.get?_push_size _ rfl, ⟨0, rfl⟩, .nil⟩) (by size_fits)
theorem accD (z : Z) (s : Shared) (E Q : Value → Shared → Prop) (k : OkZ cx z) (hz : s.heap = z.h)
    (h : ∀ D h', OkZ cx { z with h := h' } → Ext z { z with h := h' } → z.h.get? D = none → ARD cx D { z with h := h' } [] → Q (.ref D) { s with heap := h' }) : wpAny (model cx.prog cx.w) A (newDict) Q E s := by
  have hn := none_at_size hz
  have hk : ∀ b x, z.h.get? b = some x → (s.heap.push { cls := .type "dict", data := .dict #[] }).get? b = some x := fun b x e => by rw [hz]; exact Heap.get?_push_of_some _ e
  refine wpAny_newObj_type (h s.heap.objs.size _ (k.keep fun b o e _ => hk b o e) (.keep hk) hn ⟨⟨(k.free_of_none hn).b, (k.free_of_none hn).l⟩, ⟨_, Heap.get?_push_size _ rfl, emptyD⟩, k.not_sm hn⟩)
noncomputable def CompEnd (cx : Cx) (A : Around) (E : Value → Shared → Prop) (use : Option (Value → Sem Unit)) (Q : Value → Shared → Prop) (z : Z) (v : PV) (st' : Store) (s : Shared) : Prop :=
  ∀ x C z' tk, OkZ cx z' → Ext z z' → z'.st = st' → VR cx z' v x → New z C → Free z' C → (∃ m, z'.h.Ns C m) → compPost (model cx.prog cx.w) A E use Q x C (.ok .next) { s with heap := z'.h, toks := tk }
theorem MtG.async {o n : Names} {g : List (Tgt × PE × List PE)} {g' : List Comprehension} (m : MtG cx o n g g') : ∀ (d : Nat) c, g'[d]? = some c → c.is_async = 0 := by
  induction m with
  | nil => exact fun d c h => nn h
  | cons _ _ _ _ ih => exact fun d c h => by cases d with | zero => exact Option.some.inj h ▸ rfl | succ d => exact ih d c h
theorem mGA {α γ : Type} {C : Prop} {r : γ} {x : Option (α × PEnv × Store)} {f : α → Store → Option γ} (h : (match x with
    | some (a, _, st) => f a st
    | none => none) = some r) (k : ∀ a p st, x = some (a, p, st) → f a st = some r → C) : C := by
  cases x with
  | none => exact nn h
  | some p => exact k p.1 p.2.1 p.2.2 rfl h
theorem comp_any (no : NmOk cx) (hE : SndE cx rec lvl) (hT : SndT cx rec lvl) (hA : ArOk A lvl) {elt : PE} {gens : List (Tgt × PE × List PE)} {fv : List Nat} {elt' t' i' : Expr} {ts' : List Expr} {r' : List Comprehension} {scope : Scope} (p pos : Pos)
    (hc : compOk cx names scope fv = true) (me : MtE cx scope.names elt elt') (mg : MtG cx names scope.names gens (⟨t', i', ts', 0⟩ :: r')) (f : Fr cx names z env penv) (k : OkZ cx z) (hz : s.heap = z.h) {use : Option (Value → Sem Unit)}
    (h : stepE P rec call (.comp elt gens fv) penv z.st = some (v, st')) (hfin : CompEnd cx A E use Q z v st' s) :
    wpAny (model cx.prog cx.w) A (comprehension (.ListComp elt' (⟨t', i', ts', 0⟩ :: r') scope p) scope env pos (newList []) false (eval i' env) use) Q E s := by
  refine mL h fun vs st1 h1 h => ?_
  cases h
  cases mg with
  | @cons _ _ t i ts _ _ _ r _ mt mi mts mr =>
    refine mV h1 fun u st2 h2 h1 => mL h1 fun items st3 h3 h1 => mGA h1 fun a penvF stF h4 h1 => ?_
    cases h1
    refine comp_run (e := .ListComp elt' (⟨t', i', ts', 0⟩ :: r') scope p) no hE hT hA ARL.ok rfl hc f k hz rfl (.cons mt mi mts mr) (fun d g hg => MtG.async (.cons mt mi mts mr) d g hg) accL (fun D cenv => emitL_sound hE hA me D cenv) h2 h3 h4 pos fun D C z' tk k' e' s' ha hD hC hCD hfC hns => ?_
    obtain ⟨fD, o, items', ho, hl, hv⟩ := ha
    refine hfin (.ref D) C { z' with B := addB z'.B D o } tk (adoptB k' fD ho) (adoptB_extN e' hD fD) s' (.list (addB_self _ _ _) hl (VRs.adopt fD hv)) hC ⟨addB_none hCD hfC.b, hfC.l⟩ hns
theorem dcomp_any (no : NmOk cx) (hE : SndE cx rec lvl) (hT : SndT cx rec lvl) (hA : ArOk A lvl) {ke ve : PE} {gens : List (Tgt × PE × List PE)} {fv : List Nat} {ke' ve' t' i' : Expr} {ts' : List Expr} {r' : List Comprehension} {scope : Scope} (p pos : Pos)
    (hc : compOk cx names scope fv = true) (mk : MtE cx scope.names ke ke') (mv : MtE cx scope.names ve ve') (mg : MtG cx names scope.names gens (⟨t', i', ts', 0⟩ :: r')) (f : Fr cx names z env penv) (k : OkZ cx z) (hz : s.heap = z.h) {use : Option (Value → Sem Unit)}
    (h : stepE P rec call (.dcomp ke ve gens fv) penv z.st = some (v, st')) (hfin : CompEnd cx A E use Q z v st' s) :
    wpAny (model cx.prog cx.w) A (comprehension (.DictComp ke' ve' (⟨t', i', ts', 0⟩ :: r') scope p) scope env pos newDict false (eval i' env) use) Q E s := by
  refine mK h fun vs st1 h1 h => ?_
  cases h
  cases mg with
  | @cons _ _ t i ts _ _ _ r _ mt mi mts mr =>
    refine mV h1 fun u st2 h2 h1 => mL h1 fun items st3 h3 h1 => mGA h1 fun a penvF stF h4 h1 => ?_
    cases h1
    refine comp_run (e := .DictComp ke' ve' (⟨t', i', ts', 0⟩ :: r') scope p) no hE hT hA ARD.ok rfl hc f k hz rfl (.cons mt mi mts mr) (fun d g hg => MtG.async (.cons mt mi mts mr) d g hg) accD (fun D cenv => emitD_sound hE hA mk mv D cenv) h2 h3 h4 pos fun D C z' tk k' e' s' ha hD hC hCD hfC hns => ?_
    obtain ⟨fD, ⟨o, ho, hd⟩, hsm⟩ := ha
    refine hfin (.ref D) C { z' with B := addB z'.B D o } tk (adoptB k' fD ho) (adoptB_extN e' hD fD) s' (.dict (addB_self _ _ _) hd hsm) hC ⟨addB_none hCD hfC.b, hfC.l⟩ hns
theorem compEnd_plain (hQ : ∀ x z' tk, OkZ cx z' → Ext z z' → z'.st = st' → VR cx z' v x → Q x { s with heap := z'.h, toks := tk }) : CompEnd cx A E none Q z v st' s :=
  fun x C z' tk k e hs hv hC hfC ⟨m, hm⟩ => ⟨m, hm, fun h' hs' => hQ x { z' with h := h' } tk (change_free k hfC hs') (change_extN e hC hs') hs hv⟩
end
end Mine
end
section
namespace Mine
open PySem
section
variable {cx : Cx} {P : PProg} {rec : EvE} {call : EvC} {n : Nat}
theorem comp_case (no : NmOk cx) (hE : SndE cx rec n) (hT : SndT cx rec n) {names : Names} {env : Env} {penv : PEnv} {A : Around} {z : Z} {s : Shared} {v : PV} {st' : Store} (hA : ArOk A n) {elt : PE} {gens : List (Tgt × PE × List PE)} {fv : List Nat} {elt' : Expr} {gens' : List Comprehension} {scope : Scope} (p : Pos)
    (hc : compOk cx names scope fv = true) (me : MtE cx scope.names elt elt') (mg : MtG cx names scope.names gens gens') (f : Fr cx names z env penv) (k : OkZ cx z) (hz : s.heap = z.h)
    (h : stepE P rec call (.comp elt gens fv) penv z.st = some (v, st')) : Runs cx A (eval (.ListComp elt' gens' scope p) env) z v st' s := by
  cases mg with
  | nil => exact nn h
  | cons mt mi mts mr =>
    rename_i t i ts t' i' ts' r r'
    intro E Q hQ
    show wpAny _ A (comprehension (.ListComp elt' (⟨t', i', ts', 0⟩ :: r') scope p) scope env i'.pos (newList []) false (eval i' env) none) Q E s
    exact comp_any no hE hT hA p i'.pos hc me (.cons mt mi mts mr) f k hz h (compEnd_plain hQ)
theorem dcomp_case (no : NmOk cx) (hE : SndE cx rec n) (hT : SndT cx rec n) {names : Names} {env : Env} {penv : PEnv} {A : Around} {z : Z} {s : Shared} {v : PV} {st' : Store} (hA : ArOk A n) {ke ve : PE} {gens : List (Tgt × PE × List PE)} {fv : List Nat} {ke' ve' : Expr} {gens' : List Comprehension} {scope : Scope} (p : Pos)
    (hc : compOk cx names scope fv = true) (mk : MtE cx scope.names ke ke') (mv : MtE cx scope.names ve ve') (mg : MtG cx names scope.names gens gens') (f : Fr cx names z env penv) (k : OkZ cx z) (hz : s.heap = z.h)
    (h : stepE P rec call (.dcomp ke ve gens fv) penv z.st = some (v, st')) : Runs cx A (eval (.DictComp ke' ve' gens' scope p) env) z v st' s := by
  cases mg with
  | nil => exact nn h
  | cons mt mi mts mr =>
    rename_i t i ts t' i' ts' r r'
    intro E Q hQ
    show wpAny _ A (comprehension (.DictComp ke' ve' (⟨t', i', ts', 0⟩ :: r') scope p) scope env i'.pos newDict false (eval i' env) none) Q E s
    exact dcomp_any no hE hT hA p i'.pos hc mk mv (.cons mt mi mts mr) f k hz h (compEnd_plain hQ)
theorem stepE_sound (G : Glob cx P) (hE : SndE cx rec n) (hT : SndT cx rec n) (hC : SndC cx P call n) (hF : ∀ f vs st r, call f vs st = some r → ∃ p, P.F f = some p) : SndE cx (stepE P rec call) (n + 1) := by
  intro names pe e env penv z s A v st' m f k hz hA' h
  have hA : ArOk A n := hA'.mono (Nat.le_succ n)
  have i := m.inv
  clear m
  induction i with
  | var i p =>
    refine mO h fun w hw h => ?_
    cases h; exact var_sound G p f k hz hw
  | glob i p hg =>
    refine mO h fun w hw h => ?_
    cases h; exact glob_sound G hw hg f k hz p
  | cint w kk p => cases h; exact .int k hz fun E Q hQ => wpAny_Constant_int (hQ _ _)
  | cstr l x kk p hx => cases h; exact .str k hz hx fun E Q hQ => wpAny_Constant_str (hQ _ _)
  | cnone kk p => cases h; exact .val k hz .none fun E Q hQ => wpAny_Constant_none (hQ s.toks)
  | cbool b kk p => cases h; exact .val k hz (.bool b) fun E Q hQ => wpAny_Constant_bool (hQ s.toks)
  | bin op p ml mr => exact bin_case hE hA p ml mr f k hz h
  | cmp op p ml mr =>
    obtain ⟨b, rfl, hb⟩ := cmp_case hE hA p ml mr f k hz h
    exact fun E Q hQ => wpAny_Compare1 (hb E Q fun z' tk k' e' s' => hQ _ z' tk k' e' s' (.bool b)) (mr.noMarks op)
  | and p me =>
    intro E Q hQ
    rw [arm_eval_BoolOp]
    exact boolop_sound hE hA true p me f k hz h E Q hQ
  | or p me =>
    intro E Q hQ
    rw [arm_eval_BoolOp]
    exact boolop_sound hE hA false p me f k hz h E Q hQ
  | not p me => exact not_case hT hE hA p me f k hz h
  | ite p mt mb mo => exact ite_case hT hE hA p mt mb mo f k hz h
  | list p me => exact list_case hE hA p me f k hz h
  | newlist p me => exact newlist_case hE hA p me f k hz h
  | tuple kk p me => exact tuple_case hE hA kk p me f k hz h
  | newdict p hl mk mv => exact newdict_case hE hA p hl mk mv f k hz h
  | idx p mv mi => exact idx_case hE hA p mv mi f k hz h
  | slice q p mv ml mh ms => exact slice_case hE hA q p mv ml mh ms f k hz h
  | call g q p hg me => exact call_case G hE hC hF hA q p hg me f k hz h
  | bi b q p hb hg me => exact bi_case G hE hA q p hb hg me f k hz h
  | zip q' p' q p hg hg' me => exact zip_case G hE hA q' p' q p hg hg' me f k hz h
  | meth mm q p mo me hbase hline hfew => exact meth_case hE hA q p mo me hbase hline hfew f k hz h
  | comp p hc me mg => exact comp_case G.nm hE hT hA p hc me mg f k hz h
  | dcomp p hc mk mv mg => exact dcomp_case G.nm hE hT hA p hc mk mv mg f k hz h
theorem evTest_el {pe : PE} {penv : PEnv} {st : Store} {r : Bool × Store} {C : Prop} {rec : EvE} (h : evTest rec pe penv st = some r) (c : ∀ v st1 b, rec pe penv st = some (v, st1) → truthyV v = some b → (b, st1) = r → C) : C :=
  mV h fun v st1 h1 h => mB h fun b hb h => c v st1 b h1 hb (Option.some.inj h)
theorem test_value (hE : SndE cx rec n) {names : Names} {env : Env} {penv : PEnv} {A : Around} {z : Z} {s : Shared} {b : Bool} {st' : Store} {pe : PE} {e : Expr} (hA : ArOk A n) (m : MtE cx names pe e) (f : Fr cx names z env penv) (k : OkZ cx z) (hz : s.heap = z.h)
    (h : evTest rec pe penv z.st = some (b, st')) (he : isTrue e env (eval e env) = (do let v ← eval e env; standAt e.pos; holding [v] (truthy v))) : RunsT cx A (isTrue e env (eval e env)) z b st' s :=
  evTest_el h fun v st1 b' h1 hb h => by
    cases h
    intro E Q hQ
    exact wpAny_isTrue_value (hE m f k hz hA h1 E _ fun x z1 tk k1 e1 s1 v1 => truthy_sound hb (v1.rv k1) fun tk1 => hQ z1 tk1 k1 e1 s1) he
theorem stepT_sound (hSE : SndE cx (stepE P rec call) (n + 1)) (hE : SndE cx rec n) (hT : SndT cx rec n) : SndT cx (stepE P rec call) (n + 1) := by
  intro names pe e env penv z s A b st' m f k hz hA' h
  have hA : ArOk A n := hA'.mono (Nat.le_succ n)
  have tv := test_value hSE hA' m f k hz h
  have i := m.inv
  clear m
  induction i with
  | cmp op p ml mr =>
    refine evTest_el h fun v st1 b' h1 hb h => ?_
    cases h
    obtain ⟨b2, rfl, h2⟩ := cmp_case hE hA p ml mr f k hz h1
    cases hb
    exact fun E Q hQ => wpAny_isTrue_Compare1 (h2 E _ fun z' tk k' e' s' => truthy_bool (z := z') fun tk1 => hQ z' tk1 k' e' s') (mr.noMarks op)
  | and p me =>
    refine evTest_el h fun v st1 b' h1 hb h => ?_
    cases h
    exact fun E Q hQ => wpAny_isTrue_BoolOp (allTrue_sound hT hA true me f k hz h1 hb E Q hQ)
  | or p me =>
    refine evTest_el h fun v st1 b' h1 hb h => ?_
    cases h
    exact fun E Q hQ => wpAny_isTrue_BoolOp (allTrue_sound hT hA false me f k hz h1 hb E Q hQ)
  | not p me =>
    refine evTest_el h fun v st1 b' h1 hb h => ?_
    cases h
    refine mBS h1 fun c st2 h2 h1 => ?_
    cases h1
    cases hb
    exact fun E Q hQ => wpAny_isTrue_Not (hT me f k hz hA h2 E _ fun z1 tk k1 e1 s1 => hQ z1 tk k1 e1 s1)
  | ite p mt mb mo =>
    refine evTest_el h fun v st1 b' h1 hb h => ?_
    cases h
    refine mT h1 fun c st2 h2 h1 => ?_
    intro E Q hQ
    rw [arm_isTrue_IfExp]
    refine wpAny_bind (hT mt f k hz hA h2 E _ fun z1 tk k1 e1 s1 => ?_)
    cases c with
    | true => exact hT mb (f.ext e1) k1 (s := { s with heap := z1.h, toks := tk }) rfl hA (evTest_of (z := z1) (by rw [s1]; exact h1) hb) E Q fun z2 tk2 k2 e2 s2 => hQ z2 tk2 k2 (e1.trans e2) s2
    | false => exact hT mo (f.ext e1) k1 (s := { s with heap := z1.h, toks := tk }) rfl hA (evTest_of (z := z1) (by rw [s1]; exact h1) hb) E Q fun z2 tk2 k2 e2 s2 => hQ z2 tk2 k2 (e1.trans e2) s2
  | _ => exact tv rfl
end
end Mine
end
section
namespace Mine
open PySem
noncomputable def isTupleE (e : Expr) : Bool := Nat.beq e.ctorIdx 25
noncomputable def localOk (names : Names) (x : Str) : Bool := names.lookup x == some .local
inductive MtS1 (cx : Cx) (R : PS → Stmt → Prop) (names : Names) : PS → Stmt → Prop
  | assign (t : Nat) {e : PE} {e' : Expr} (q p : Pos) : wrOk cx names t = true → MtE cx names e e' → MtS1 cx R names (.assign t e) (.Assign [.Name (cx.name t) q] e' p)
  | assign2 (t u : Nat) {e : PE} {e' : Expr} (q q' p : Pos) : wrOk cx names t = true → wrOk cx names u = true → MtE cx names e e' → MtS1 cx R names (.assign2 t u e) (.Assign [.Name (cx.name t) q, .Name (cx.name u) q'] e' p)
  | assignTup {is : List Nat} {es : List Expr} {e : PE} {e' : Expr} (k : Nat) (q p : Pos) : MtN cx names is es → MtE cx names e e' → isTupleE e' = false → MtS1 cx R names (.assignTup is e) (.Assign [.Tuple es k q] e' p)
  | swap (i j a b : Nat) (k k2 : Nat) (p1 p2 q q1 q2 q3 p : Pos) : wrOk cx names i = true → wrOk cx names j = true → localOk names (cx.name i) = true → localOk names (cx.name j) = true → (i == j) = false → (p2.line == p1.line) = true →
      (cx.name a == ("__debug__" : Str)) = false → MtS1 cx R names (.assignTup [i, j] (.tuple [.var a, .var b])) (.Assign [.Tuple [.Name (cx.name i) p1, .Name (cx.name j) p2] k q] (.Tuple [.Name (cx.name a) q1, .Name (cx.name b) q2] k2 q3) p)
  | setItem {o i e : PE} {o' i' e' : Expr} (q p : Pos) : MtE cx names o o' → MtE cx names i i' → MtE cx names e e' → MtS1 cx R names (.setItem o i e) (.Assign [.Subscript o' i' q] e' p)
  | aug (t : Nat) (op : Operator) {e : PE} {e' : Expr} (q p : Pos) : wrOk cx names t = true → MtE cx names e e' → MtS1 cx R names (.aug t op e) (.AugAssign (.Name (cx.name t) q) op e' p)
  | augItem {o i e : PE} {o' i' e' : Expr} (op : Operator) (q p : Pos) : MtE cx names o o' → MtE cx names i i' → MtE cx names e e' → MtS1 cx R names (.augItem o i op e) (.AugAssign (.Subscript o' i' q) op e' p)
  | expr {e : PE} {e' : Expr} (p : Pos) : MtE cx names e e' → isComp e' = false → MtS1 cx R names (.expr e) (.Expr e' p)
  | ifS {t : PE} {b o : List PS} {t' : Expr} {b' o' : List Stmt} (p : Pos) : MtE cx names t t' → Rs R b b' → Rs R o o' → MtS1 cx R names (.ifS t b o) (.If t' b' o' p)
  | whileS {t : PE} {b : List PS} {t' : Expr} {b' : List Stmt} (p : Pos) : MtE cx names t t' → Rs R b b' → MtS1 cx R names (.whileS t b) (.While t' b' [] p)
  | forS {t : Tgt} {it : PE} {b : List PS} {t' it' : Expr} {b' : List Stmt} (p : Pos) : MtT cx names t t' → MtE cx names it it' → Rs R b b' → MtS1 cx R names (.forS t it b) (.For t' it' b' [] p)
  | ret {e : PE} {e' : Expr} (p : Pos) : MtE cx names e e' → MtS1 cx R names (.ret e) (.Return (some e') p)
noncomputable def onAssign (e : Stmt) (f : List Expr → Expr → Bool) : Bool := dite (e.ctorIdx = 5) (fun h => Stmt.Assign.elim (motive_2 := fun _ => Bool) e h (fun a0 a1 a2 => f a0 a1)) fun _ => false
theorem onAssign_el {e : Stmt} {f : List Expr → Expr → Bool} {C : Stmt → Prop} (h : onAssign e f = true) (k : ∀ (a0 : List Expr) (a1 : Expr) (a2 : Pos), f a0 a1 = true → C (.Assign a0 a1 a2)) : C e :=
  dite_el h fun hp h => Stmt.Assign.elim (motive_2 := fun e => ∀ hp : e.ctorIdx = 5, Stmt.Assign.elim (motive_2 := fun _ => Bool) e hp (fun a0 a1 a2 => f a0 a1) = true → C e) e hp (fun a0 a1 a2 _ h => k a0 a1 a2 h) hp h
noncomputable def onAug (e : Stmt) (f : Expr → Operator → Expr → Bool) : Bool := dite (e.ctorIdx = 7) (fun h => Stmt.AugAssign.elim (motive_2 := fun _ => Bool) e h (fun a0 a1 a2 a3 => f a0 a1 a2)) fun _ => false
theorem onAug_el {e : Stmt} {f : Expr → Operator → Expr → Bool} {C : Stmt → Prop} (h : onAug e f = true) (k : ∀ (a0 : Expr) (a1 : Operator) (a2 : Expr) (a3 : Pos), f a0 a1 a2 = true → C (.AugAssign a0 a1 a2 a3)) : C e :=
  dite_el h fun hp h => Stmt.AugAssign.elim (motive_2 := fun e => ∀ hp : e.ctorIdx = 7, Stmt.AugAssign.elim (motive_2 := fun _ => Bool) e hp (fun a0 a1 a2 a3 => f a0 a1 a2) = true → C e) e hp (fun a0 a1 a2 a3 _ h => k a0 a1 a2 a3 h) hp h
noncomputable def onExpr (e : Stmt) (f : Expr → Bool) : Bool := dite (e.ctorIdx = 24) (fun h => Stmt.Expr.elim (motive_2 := fun _ => Bool) e h (fun a0 a1 => f a0)) fun _ => false
theorem onExpr_el {e : Stmt} {f : Expr → Bool} {C : Stmt → Prop} (h : onExpr e f = true) (k : ∀ (a0 : Expr) (a1 : Pos), f a0 = true → C (.Expr a0 a1)) : C e :=
  dite_el h fun hp h => Stmt.Expr.elim (motive_2 := fun e => ∀ hp : e.ctorIdx = 24, Stmt.Expr.elim (motive_2 := fun _ => Bool) e hp (fun a0 a1 => f a0) = true → C e) e hp (fun a0 a1 _ h => k a0 a1 h) hp h
noncomputable def onIfS (e : Stmt) (f : Expr → List Stmt → List Stmt → Bool) : Bool := dite (e.ctorIdx = 12) (fun h => Stmt.If.elim (motive_2 := fun _ => Bool) e h (fun a0 a1 a2 a3 => f a0 a1 a2)) fun _ => false
theorem onIfS_el {e : Stmt} {f : Expr → List Stmt → List Stmt → Bool} {C : Stmt → Prop} (h : onIfS e f = true) (k : ∀ (a0 : Expr) (a1 : List Stmt) (a2 : List Stmt) (a3 : Pos), f a0 a1 a2 = true → C (.If a0 a1 a2 a3)) : C e :=
  dite_el h fun hp h => Stmt.If.elim (motive_2 := fun e => ∀ hp : e.ctorIdx = 12, Stmt.If.elim (motive_2 := fun _ => Bool) e hp (fun a0 a1 a2 a3 => f a0 a1 a2) = true → C e) e hp (fun a0 a1 a2 a3 _ h => k a0 a1 a2 a3 h) hp h
noncomputable def onWhile (e : Stmt) (f : Expr → List Stmt → List Stmt → Bool) : Bool := dite (e.ctorIdx = 11) (fun h => Stmt.While.elim (motive_2 := fun _ => Bool) e h (fun a0 a1 a2 a3 => f a0 a1 a2)) fun _ => false
theorem onWhile_el {e : Stmt} {f : Expr → List Stmt → List Stmt → Bool} {C : Stmt → Prop} (h : onWhile e f = true) (k : ∀ (a0 : Expr) (a1 : List Stmt) (a2 : List Stmt) (a3 : Pos), f a0 a1 a2 = true → C (.While a0 a1 a2 a3)) : C e :=
  dite_el h fun hp h => Stmt.While.elim (motive_2 := fun e => ∀ hp : e.ctorIdx = 11, Stmt.While.elim (motive_2 := fun _ => Bool) e hp (fun a0 a1 a2 a3 => f a0 a1 a2) = true → C e) e hp (fun a0 a1 a2 a3 _ h => k a0 a1 a2 a3 h) hp h
noncomputable def onFor (e : Stmt) (f : Expr → Expr → List Stmt → List Stmt → Bool) : Bool := dite (e.ctorIdx = 9) (fun h => Stmt.For.elim (motive_2 := fun _ => Bool) e h (fun a0 a1 a2 a3 a4 => f a0 a1 a2 a3)) fun _ => false
theorem onFor_el {e : Stmt} {f : Expr → Expr → List Stmt → List Stmt → Bool} {C : Stmt → Prop} (h : onFor e f = true) (k : ∀ (a0 : Expr) (a1 : Expr) (a2 : List Stmt) (a3 : List Stmt) (a4 : Pos), f a0 a1 a2 a3 = true → C (.For a0 a1 a2 a3 a4)) : C e :=
  dite_el h fun hp h => Stmt.For.elim (motive_2 := fun e => ∀ hp : e.ctorIdx = 9, Stmt.For.elim (motive_2 := fun _ => Bool) e hp (fun a0 a1 a2 a3 a4 => f a0 a1 a2 a3) = true → C e) e hp (fun a0 a1 a2 a3 a4 _ h => k a0 a1 a2 a3 a4 h) hp h
noncomputable def onRet (e : Stmt) (f : Option Expr → Bool) : Bool := dite (e.ctorIdx = 3) (fun h => Stmt.Return.elim (motive_2 := fun _ => Bool) e h (fun a0 a1 => f a0)) fun _ => false
theorem onRet_el {e : Stmt} {f : Option Expr → Bool} {C : Stmt → Prop} (h : onRet e f = true) (k : ∀ (a0 : Option Expr) (a1 : Pos), f a0 = true → C (.Return a0 a1)) : C e :=
  dite_el h fun hp h => Stmt.Return.elim (motive_2 := fun e => ∀ hp : e.ctorIdx = 3, Stmt.Return.elim (motive_2 := fun _ => Bool) e hp (fun a0 a1 => f a0) = true → C e) e hp (fun a0 a1 _ h => k a0 a1 h) hp h
noncomputable def onV (e : PE) (f : Nat → Bool) : Bool := dite (e.ctorIdx = 0) (fun h => PE.var.elim (motive_1 := fun _ => Bool) e h f) fun _ => false
theorem onV_el {e : PE} {f : Nat → Bool} {C : PE → Prop} (h : onV e f = true) (k : ∀ (a0 : Nat), f a0 = true → C (.var a0)) : C e :=
  dite_el h fun hp h => PE.var.elim (motive_1 := fun e => ∀ hp : e.ctorIdx = 0, PE.var.elim (motive_1 := fun _ => Bool) e hp f = true → C e) e hp (fun a0 _ h => k a0 h) hp h
noncomputable def onT (e : PE) (f : List PE → Bool) : Bool := dite (e.ctorIdx = 13) (fun h => PE.tuple.elim (motive_1 := fun _ => Bool) e h f) fun _ => false
theorem onT_el {e : PE} {f : List PE → Bool} {C : PE → Prop} (h : onT e f = true) (k : ∀ (a0 : List PE), f a0 = true → C (.tuple a0)) : C e :=
  dite_el h fun hp h => PE.tuple.elim (motive_1 := fun e => ∀ hp : e.ctorIdx = 13, PE.tuple.elim (motive_1 := fun _ => Bool) e hp f = true → C e) e hp (fun a0 _ h => k a0 h) hp h
noncomputable def swB (cx : Cx) (names : Names) (is : List Nat) (e : PE) (es : List Expr) (e' : Expr) : Bool :=
  onTwo is fun i j => onT e fun vs => onTwo vs fun va vb => onV va fun a => onV vb fun b => onTwo es fun n1 n2 => onName n1 fun x p1 => onName n2 fun y p2 => onTuple e' fun es' => onTwo es' fun m1 m2 => onName m1 fun xa _ => onName m2 fun xb _ =>
    wrB cx names i x && (wrB cx names j y && (kOf names x .local && (kOf names y .local && (!(Nat.beq i j) && ((p2.line == p1.line) && (seqB xa (cx.name a) && (seqB xb (cx.name b) && !(seqB xa dbg))))))))
theorem swB_ok {cx : Cx} {names : Names} {is : List Nat} {e : PE} {es : List Expr} {e' : Expr} (k0 : Nat) (q p : Pos) {R : PS → Stmt → Prop} (h : swB cx names is e es e' = true) : MtS1 cx R names (.assignTup is e) (.Assign [.Tuple es k0 q] e' p) :=
  onTwo_el (C := fun is => MtS1 cx R names (.assignTup is e) (.Assign [.Tuple es k0 q] e' p)) h fun i j h =>
  onT_el (C := fun e => MtS1 cx R names (.assignTup [i, j] e) (.Assign [.Tuple es k0 q] e' p)) h fun vs h =>
  onTwo_el (C := fun vs => MtS1 cx R names (.assignTup [i, j] (.tuple vs)) (.Assign [.Tuple es k0 q] e' p)) h fun va vb h =>
  onV_el (C := fun va => MtS1 cx R names (.assignTup [i, j] (.tuple [va, vb])) (.Assign [.Tuple es k0 q] e' p)) h fun a h =>
  onV_el (C := fun vb => MtS1 cx R names (.assignTup [i, j] (.tuple [.var a, vb])) (.Assign [.Tuple es k0 q] e' p)) h fun b h =>
  onTwo_el (C := fun es => MtS1 cx R names (.assignTup [i, j] (.tuple [.var a, .var b])) (.Assign [.Tuple es k0 q] e' p)) h fun n1 n2 h =>
  onName_el (C := fun n1 => MtS1 cx R names (.assignTup [i, j] (.tuple [.var a, .var b])) (.Assign [.Tuple [n1, n2] k0 q] e' p)) h fun x p1 h =>
  onName_el (C := fun n2 => MtS1 cx R names (.assignTup [i, j] (.tuple [.var a, .var b])) (.Assign [.Tuple [.Name x p1, n2] k0 q] e' p)) h fun y p2 h =>
  onTuple_el (C := fun e' => MtS1 cx R names (.assignTup [i, j] (.tuple [.var a, .var b])) (.Assign [.Tuple [.Name x p1, .Name y p2] k0 q] e' p)) h fun es' k2 q3 h =>
  onTwo_el (C := fun es' => MtS1 cx R names (.assignTup [i, j] (.tuple [.var a, .var b])) (.Assign [.Tuple [.Name x p1, .Name y p2] k0 q] (.Tuple es' k2 q3) p)) h fun m1 m2 h =>
  onName_el (C := fun m1 => MtS1 cx R names (.assignTup [i, j] (.tuple [.var a, .var b])) (.Assign [.Tuple [.Name x p1, .Name y p2] k0 q] (.Tuple [m1, m2] k2 q3) p)) h fun xa q1 h =>
  onName_el (C := fun m2 => MtS1 cx R names (.assignTup [i, j] (.tuple [.var a, .var b])) (.Assign [.Tuple [.Name x p1, .Name y p2] k0 q] (.Tuple [.Name xa q1, m2] k2 q3) p)) h fun xb q2 h =>
  an h fun h1 h => an h fun h2 h => an h fun h3 h => an h fun h4 h => an h fun h5 h => an h fun h6 h => an h fun h7 h => an h fun h8 h9 => by
    obtain ⟨rfl, w1⟩ := wrB_ok h1
    obtain ⟨rfl, w2⟩ := wrB_ok h2
    cases seqB_eq h7
    cases seqB_eq h8
    exact .swap _ _ _ _ _ _ _ _ _ _ _ _ _ w1 w2 (beq_iff_eq.mpr (kOf_eq h3)) (beq_iff_eq.mpr (kOf_eq h4)) (nbF (nt h5)) h6 (seqB_ne (nt h9))
noncomputable def chkS (cx : Cx) (names : Names) : Nat → PS → Stmt → Bool
  | 0, _, _ => false
  | k + 1, x, x' => match x with
    | .assign t e => onAssign x' fun ts e' => onOne ts fun y => onName y fun y _ => wrB cx names t y && chkE cx k names e e'
    | .assign2 t u e => onAssign x' fun ts e' => onTwo ts fun y y' => onName y fun y _ => onName y' fun y' _ => wrB cx names t y && (wrB cx names u y' && chkE cx k names e e')
    | .assignTup is e => onAssign x' fun ts e' => onOne ts fun y => onTuple y fun es => swB cx names is e es e' || (namesB cx names is es && (!(isTupleE e') && chkE cx k names e e'))
    | .setItem o i e => onAssign x' fun ts e' => onOne ts fun y => onSub y fun o' i' => chkE cx k names o o' && (chkE cx k names i i' && chkE cx k names e e')
    | .aug t op e => onAug x' fun y op' e' => onName y fun y _ => wrB cx names t y && (decide (op = op') && chkE cx k names e e')
    | .augItem o i op e => onAug x' fun y op' e' => onSub y fun o' i' => decide (op = op') && (chkE cx k names o o' && (chkE cx k names i i' && chkE cx k names e e'))
    | .expr e => onExpr x' fun e' => !(isComp e') && chkE cx k names e e'
    | .ifS t b o => onIfS x' fun t' b' o' => chkE cx k names t t' && (all2 (chkS cx names k) b b' && all2 (chkS cx names k) o o')
    | .whileS t b => onWhile x' fun t' b' o' => onNil o' && (chkE cx k names t t' && all2 (chkS cx names k) b b')
    | .forS t it b => onFor x' fun t' it' b' o' => onNil o' && (tgtB cx names t t' && (chkE cx k names it it' && all2 (chkS cx names k) b b'))
    | .ret e => onRet x' fun o => someB o fun e' => chkE cx k names e e'
noncomputable def MtS (cx : Cx) (names : Names) (x : PS) (x' : Stmt) : Prop := ∃ k, chkS cx names k x x' = true
noncomputable abbrev MtSs (cx : Cx) (names : Names) : List PS → List Stmt → Prop := Rs (MtS cx names)
theorem allS_ok {R : PS → Stmt → Prop} {f : PS → Stmt → Bool} (hf : ∀ {x : PS} {x' : Stmt}, f x x' = true → R x x') {b : List PS} : ∀ {b' : List Stmt}, all2 f b b' = true → Rs R b b' := by
  induction b with
  | nil => exact fun {es'} h => by cases es' with | nil => exact .nil | cons => exact ff h
  | cons e es ih =>
    intro es' h
    cases es' with
    | nil => exact ff h
    | cons e' es' => exact an h fun h1 h2 => .cons (hf h1) (ih h2)
theorem MtS.inv {cx : Cx} {names : Names} {x : PS} {x' : Stmt} (m : MtS cx names x x') : MtS1 cx (MtS cx names) names x x' := by
  obtain ⟨k, h⟩ := m
  cases k with
  | zero => exact ff h
  | succ k =>
    have ce := fun {pe : PE} {e : Expr} (h : chkE cx k names pe e = true) => (⟨k, h⟩ : MtE cx names pe e)
    have wk := fun {x : PS} {x' : Stmt} (h : chkS cx names k x x' = true) => (⟨k, h⟩ : MtS cx names x x')
    cases x with
    | assign t e => exact onAssign_el (C := MtS1 cx (MtS cx names) names _) h fun ts e' p h => onOne_el (C := fun ts => MtS1 cx (MtS cx names) names (.assign t e) (.Assign ts e' p)) h fun y h => onName_el (C := fun y => MtS1 cx (MtS cx names) names (.assign t e) (.Assign [y] e' p)) h fun y q h => an h fun h1 h2 => wr_el (C := fun y => MtS1 cx (MtS cx names) names (.assign t e) (.Assign [.Name y q] e' p)) h1 fun w => .assign _ _ _ w (ce h2)
    | assign2 t u e => exact onAssign_el (C := MtS1 cx (MtS cx names) names _) h fun ts e' p h => onTwo_el (C := fun ts => MtS1 cx (MtS cx names) names (.assign2 t u e) (.Assign ts e' p)) h fun y y' h => onName_el (C := fun y => MtS1 cx (MtS cx names) names (.assign2 t u e) (.Assign [y, y'] e' p)) h fun y q h => onName_el (C := fun y' => MtS1 cx (MtS cx names) names (.assign2 t u e) (.Assign [.Name y q, y'] e' p)) h fun y' q' h => an h fun h1 h => an h fun h2 h3 => wr_el (C := fun y => MtS1 cx (MtS cx names) names (.assign2 t u e) (.Assign [.Name y q, .Name y' q'] e' p)) h1 fun w => wr_el (C := fun y' => MtS1 cx (MtS cx names) names (.assign2 t u e) (.Assign [.Name (cx.name t) q, .Name y' q'] e' p)) h2 fun w' => .assign2 _ _ _ _ _ w w' (ce h3)
    | assignTup is e => exact onAssign_el (C := MtS1 cx (MtS cx names) names _) h fun ts e' p h => onOne_el (C := fun ts => MtS1 cx (MtS cx names) names (.assignTup is e) (.Assign ts e' p)) h fun y h => onTuple_el (C := fun y => MtS1 cx (MtS cx names) names (.assignTup is e) (.Assign [y] e' p)) h fun es kk q h => (Bool.or_eq_true_iff.mp h).elim (fun h => swB_ok kk q p h) fun h => an h fun h1 h => an h fun h2 h3 => .assignTup _ _ _ (namesB_ok h1) (ce h3) (nt h2)
    | setItem o i e => exact onAssign_el (C := MtS1 cx (MtS cx names) names _) h fun ts e' p h => onOne_el (C := fun ts => MtS1 cx (MtS cx names) names (.setItem o i e) (.Assign ts e' p)) h fun y h => onSub_el (C := fun y => MtS1 cx (MtS cx names) names (.setItem o i e) (.Assign [y] e' p)) h fun o' i' q h => an h fun h1 h => an h fun h2 h3 => .setItem _ _ (ce h1) (ce h2) (ce h3)
    | aug t op e => exact onAug_el (C := MtS1 cx (MtS cx names) names _) h fun y op' e' p h => onName_el (C := fun y => MtS1 cx (MtS cx names) names (.aug t op e) (.AugAssign y op' e' p)) h fun y q h => an h fun h1 h => an h fun h2 h3 => wr_el (C := fun y => MtS1 cx (MtS cx names) names (.aug t op e) (.AugAssign (.Name y q) op' e' p)) h1 fun w => eq_el (C := fun op => MtS1 cx (MtS cx names) names (.aug t op e) (.AugAssign (.Name (cx.name t) q) op' e' p)) h2 (.aug _ _ _ _ w (ce h3))
    | augItem o i op e => exact onAug_el (C := MtS1 cx (MtS cx names) names _) h fun y op' e' p h => onSub_el (C := fun y => MtS1 cx (MtS cx names) names (.augItem o i op e) (.AugAssign y op' e' p)) h fun o' i' q h => an h fun h1 h => an h fun h2 h => an h fun h3 h4 => eq_el (C := fun op => MtS1 cx (MtS cx names) names (.augItem o i op e) (.AugAssign (.Subscript o' i' q) op' e' p)) h1 (.augItem _ _ _ (ce h2) (ce h3) (ce h4))
    | expr e => exact onExpr_el (C := MtS1 cx (MtS cx names) names _) h fun e' p h => an h fun h1 h2 => .expr _ (ce h2) (nt h1)
    | ifS t b o => exact onIfS_el (C := MtS1 cx (MtS cx names) names _) h fun t' b' o' p h => an h fun h1 h => an h fun h2 h3 => .ifS _ (ce h1) (allS_ok wk h2) (allS_ok wk h3)
    | whileS t b => exact onWhile_el (C := MtS1 cx (MtS cx names) names _) h fun t' b' o' p h => an h fun h0 h => onNil_el (C := fun o' => MtS1 cx (MtS cx names) names (.whileS t b) (.While t' b' o' p)) h0 (an h fun h1 h2 => .whileS _ (ce h1) (allS_ok wk h2))
    | forS t it b => exact onFor_el (C := MtS1 cx (MtS cx names) names _) h fun t' it' b' o' p h => an h fun h0 h => onNil_el (C := fun o' => MtS1 cx (MtS cx names) names (.forS t it b) (.For t' it' b' o' p)) h0 (an h fun h1 h => an h fun h2 h3 => .forS _ (tgtB_ok h1) (ce h2) (allS_ok wk h3))
    | ret e => exact onRet_el (C := MtS1 cx (MtS cx names) names _) h fun o p h => someB_el (C := fun o => MtS1 cx (MtS cx names) names (.ret e) (.Return o p)) h fun e' h => .ret _ (ce h)
noncomputable def FlR (cx : Cx) (z : Z) (a : PFlow) (b : Flow) : Prop := match a with
  | .next => b = .next
  | .ret v => ∃ x, b = .ret x ∧ VR cx z v x
noncomputable def RunsS (cx : Cx) (A : Around) (names : Names) (env : Env) (t : Sem Flow) (z : Z) (fl : PFlow) (penv' : PEnv) (st' : Store) (s : Shared) : Prop :=
  ∀ (E : Value → Shared → Prop) (Q : Flow → Shared → Prop), (∀ f z' tk, OkZ cx z' → ExtB (own names env) z z' → z'.st = st' → Fr cx names z' env penv' → FlR cx z' fl f → Q f { s with heap := z'.h, toks := tk }) → wpAny (model cx.prog cx.w) A t Q E s
noncomputable def SndS (cx : Cx) (recS : EvS) (n : Nat) : Prop := ∀ {names : Names} {ps : List PS} {body : List Stmt} {env : Env} {penv penv' : PEnv} {z : Z} {s : Shared} {A : Around} {fl : PFlow} {st' : Store}, MtSs cx names ps body → Fr cx names z env penv → OkZ cx z → s.heap = z.h →
  ArOk A n → recS ps penv z.st = some (fl, penv', st') → RunsS cx A names env (execs body env) z fl penv' st' s
section
variable {cx : Cx} {P : PProg} {rec : EvE} {recS : EvS} {call : EvC} {n : Nat} {names : Names} {env : Env} {penv penv' : PEnv} {A : Around} {z : Z} {s : Shared} {v : PV} {st' : Store} {fl : PFlow}
theorem Fr.congr {penv1 penv2 : PEnv} (f : Fr cx names z env penv1) (h : ∀ i v, penv2.get i = some v → penv1.get i = some v) : Fr cx names z env penv2 :=
  ⟨f.kind, f.glob, f.bui, f.freeL, fun i v e => f.ids i v (h i v e), f.raw, fun i v e => f.kinds i v (h i v e), let ⟨m, hm, hv⟩ := f.hasL; ⟨m, hm, fun i v e => hv i v (h i v e)⟩, f.cel, f.apart, f.all, fun i v e => f.cellV i v (h i v e)⟩
theorem swaps_plain {e : Expr} (h : plain e = true) (t : Expr) (line : Nat) (env : Env) (ht : ∀ x p, t ≠ .Name x p) : swapsWith e (some t) line env = pure false := by
  have key : ∀ {a : Expr}, isComp a = true → swapsWith a (some t) line env = pure false := fun {a} ha => comp_el (C := fun a => swapsWith a (some t) line env = pure false) ha (fun _ _ _ _ => by cases t <;> first | rfl | exact absurd rfl (ht _ _)) fun _ _ _ _ _ => by cases t <;> first | rfl | exact absurd rfl (ht _ _)
  cases e <;> first | rfl | exact ff h | exact key rfl
theorem MtE.swaps {e : PE} {e' : Expr} (m : MtE cx names e e') (t : Expr) (line : Nat) (env : Env) (ht : ∀ x p, t ≠ .Name x p) : swapsWith e' (some t) line env = pure false := swaps_plain m.plain t line env ht
theorem swapsN_plain {e : Expr} (h : plain e = true) (x : Str) (p : Pos) (line : Nat) (env : Env) : (isComp e = false ∧ swapsWith e (some (.Name x p)) line env = pure false) ∨ (isComp e = true ∧ ∃ b, swapsWith e (some (.Name x p)) line env = pure b) := by
  cases e <;> first | exact .inl ⟨rfl, rfl⟩ | exact .inr ⟨rfl, _, rfl⟩ | exact ff h
theorem MtE.swapsN {e : PE} {e' : Expr} (m : MtE cx names e e') (x : Str) (p : Pos) (line : Nat) (env : Env) : (isComp e' = false ∧ swapsWith e' (some (.Name x p)) line env = pure false) ∨ (isComp e' = true ∧ ∃ b, swapsWith e' (some (.Name x p)) line env = pure b) := swapsN_plain m.plain x p line env
theorem storeEnd (no : NmOk cx) {t : Nat} {x : Value} (hw : wrOk cx names t = true) (f : Fr cx names z env penv) (k : OkZ cx z) (hz : s.heap = z.h) (hv : VR cx z v x) (q : Pos) {M : Model} {E : Value → Shared → Prop} {Q : Unit → Shared → Prop}
    (hQ : ∀ h' tk, OkZ cx { z with h := h' } → Fr cx names { z with h := h' } env (penv.set t v) → ExtB (own names env) z { z with h := h' } → Q () { s with heap := h', toks := tk }) :
    wpAny M A (assign (.Name (cx.name t) q) env x) Q E s :=
  wpAny_assign_Name (f.store no k hz (Wr.of hw).1 (Wr.of hw).2 hv hQ)
theorem ExtB.changeN {z0 z' : Z} {ow : Addr → Prop} (a : ExtB ow z0 z') {C : Addr} {h' : Heap} (hC : New z0 C) (hk : ∀ b o, b ∉ [C] → z'.h.get? b = some o → h'.get? b = some o) : ExtB ow z0 { z' with h := h' } :=
  ⟨a.sig, a.frz, fun x o hx f =>
    have q := a.prv x o hx f
    have hn : x ∉ [C] := fun hm => hC o (List.mem_singleton.mp hm ▸ hx) (List.mem_singleton.mp hm ▸ f)
    ⟨⟨q.1.b, q.1.l⟩, q.2.1.imp fun o1 e1 => hk x o1 hn e1, fun hn' => hk x o hn (q.2.2 hn')⟩⟩
theorem MtE.comp_el2 {e : PE} {e' : Expr} (m : MtE cx names e e') (hc : isComp e' = true) {C : PE → Expr → Prop} (kl : ∀ elt gens fv elt' gens' scope p, compOk cx names scope fv = true → MtE cx scope.names elt elt' → MtG cx names scope.names gens gens' → C (.comp elt gens fv) (.ListComp elt' gens' scope p))
    (kd : ∀ a b gens fv a' b' gens' scope p, compOk cx names scope fv = true → MtE cx scope.names a a' → MtE cx scope.names b b' → MtG cx names scope.names gens gens' → C (.dcomp a b gens fv) (.DictComp a' b' gens' scope p)) : C e e' := by
  have i := m.inv
  clear m
  induction i with
  | comp p h1 h2 h3 => exact kl _ _ _ _ _ _ p h1 h2 h3
  | dcomp p h1 h2 h3 h4 => exact kd _ _ _ _ _ _ _ _ p h1 h2 h3 h4
  | _ => exact ff hc
theorem assign_fin (no : NmOk cx) {t : Nat} {E : Value → Shared → Prop} {Q : Flow → Shared → Prop} (q : Pos) (hw : wrOk cx names t = true) (f : Fr cx names z env penv)
    (hQ : ∀ f z' tk, OkZ cx z' → ExtB (own names env) z z' → z'.st = st' → Fr cx names z' env (penv.set t v) → FlR cx z' .next f → Q f { s with heap := z'.h, toks := tk }) :
    CompEnd cx A E (some fun x => assignAll x ((assignEach [.Name (cx.name t) q] env).map (·.2))) (fun _ s' => Q .next s') z v st' s := by
  intro x C z1 tk1 k1 e1 s1 v1 hC hfC hns
  show wpAny (model cx.prog cx.w) A (assign (.Name (cx.name t) q) env x) (fun _ s'' => ∃ m, s''.heap.Ns C m ∧ ∀ h', Heap.SameBut C s''.heap h' → Q Flow.next { s'' with heap := h' }) E { s with heap := z1.h, toks := tk1 }
  have apC : Apart env C := ⟨fun e => f.hasL.elim fun m h => h.1.elim fun o h => h.elim fun _ h => h.elim fun _ h => hC o (e ▸ h.1) (e ▸ f.freeL), fun n c hc e => have h := f.cel n c hc; h.2.2.elim fun ov h' => h'.elim fun o h' => hC o (e ▸ h'.1) (e ▸ h.1)⟩
  refine storeEnd no hw (f.ext e1) k1 (s := { s with heap := z1.h, toks := tk1 }) rfl v1 q fun h2 tk2 k2 f2 e2 => ?_
  obtain ⟨m, o, es, ep, ho, r⟩ := hns
  obtain ⟨hfC2, _, hkC⟩ := e2.prv C o ho hfC
  refine ⟨m, ⟨o, es, ep, hkC apC.own, r⟩, fun h3 hs3 => ?_⟩
  have hk3 : ∀ b o, b ∉ [C] → h2.get? b = some o → h3.get? b = some o := fun b o hb e => (hs3.2 b fun h => hb (h ▸ List.mem_singleton_self _)).trans e
  exact hQ .next { z1 with h := h3 } tk2 (change_free k2 hfC2 hs3) (((e1.toB _).trans e2).changeN hC hk3) s1 (f2.stay hk3 apC) rfl
theorem assign_case (no : NmOk cx) (hSE : SndE cx (stepE P rec call) (n + 1)) (hE : SndE cx rec n) (hT : SndT cx rec n) (hA : ArOk A (n + 1)) {t : Nat} {e : PE} {e' : Expr} (q p : Pos) (hw : wrOk cx names t = true) (m : MtE cx names e e') (f : Fr cx names z env penv) (k : OkZ cx z) (hz : s.heap = z.h)
    (h : stepE P rec call e penv z.st = some (v, st')) : RunsS cx A names env (exec (.Assign [.Name (cx.name t) q] e' p) env) z .next (penv.set t v) st' s := by
  intro E Q hQ
  have plain : swapsWith e' (some (.Name (cx.name t) q)) p.line env = pure false → wpAny (model cx.prog cx.w) A (exec (.Assign [.Name (cx.name t) q] e' p) env) Q E s := fun hs => by
    refine wpAny_Assign_Name (hSE m f k hz hA h E _ fun x z1 tk1 k1 e1 s1 v1 => ?_) hs
    refine (f.ext e1).store no k1 rfl (Wr.of hw).1 (Wr.of hw).2 v1 fun h2 tk2 k2 f2 e2 => ?_
    exact hQ .next { z1 with h := h2 } tk2 k2 ((e1.toB _).trans e2) s1 f2 rfl
  rcases m.swapsN (cx.name t) q p.line env with ⟨_, hs⟩ | ⟨hc, b, hs⟩
  · exact plain hs
  · cases b with
    | false => exact plain hs
    | true =>
      rw [exec_Assign_arm]
      refine wpAny_bind (wpAny_standAt ?_)
      have hs' : swapsWithSole [.Name (cx.name t) q] e' p.line env = pure true := hs
      rw [hs']
      refine wpAny_bind (wpAny_pure ?_)
      rw [if_pos rfl]
      have fin := assign_fin (A := A) no (E := E) q hw f hQ
      clear plain hs hs' hSE hQ
      revert h
      apply MtE.comp_el2 m hc
      · intro elt gens fv elt' gens' scope p' hc' me mg h
        cases mg with
        | nil => exact nn h
        | cons mt mi mts mr =>
          rename_i t0 i0 ts0 t' i' ts' r r'
          exact wpAny_bind (wpAny_bind (wpAny_mono (comp_any no hE hT (hA.mono (Nat.le_succ n)) p' i'.pos hc' me (.cons mt mi mts mr) f k hz h fin) (fun _ _ hq => wpAny_pure (wpAny_pure hq)) fun _ _ x => x))
      · intro a b gens fv a' b' gens' scope p' hc' mk mv mg h
        cases mg with
        | nil => exact nn h
        | cons mt mi mts mr =>
          rename_i t0 i0 ts0 t' i' ts' r r'
          exact wpAny_bind (wpAny_bind (wpAny_mono (dcomp_any no hE hT (hA.mono (Nat.le_succ n)) p' i'.pos hc' mk mv (.cons mt mi mts mr) f k hz h fin) (fun _ _ hq => wpAny_pure (wpAny_pure hq)) fun _ _ x => x))
end
end Mine
end
section
namespace Mine
open PySem
section
variable {cx : Cx} {P : PProg} {rec : EvE} {recS : EvS} {call : EvC} {n : Nat} {names : Names} {env : Env} {penv penv' : PEnv} {A : Around} {z : Z} {s : Shared} {v : PV} {st' : Store} {fl : PFlow} {E : Value → Shared → Prop}
set_option maxRecDepth 100000 in
theorem mS {γ : Type} {r : γ} {C : Prop} {x : Option Store} {f : Store → Option γ} (h : (match x with
    | some a => f a
    | none => none) = some r) (k : ∀ a, x = some a → f a = some r → C) : C := by
  cases x with
  | none => exact nn h
  | some a => exact k a rfl h
theorem mN {γ : Type} {r : γ} {C : Prop} {x : Option (PV × Store)} {f : Store → Option γ} (h : (match x with
    | some (.none, st) => f st
    | _ => none) = some r) (k : ∀ st, x = some (.none, st) → f st = some r → C) : C := by
  cases x with
  | none => exact nn h
  | some p =>
    obtain ⟨v, st⟩ := p
    cases v with
    | none => exact k st rfl h
    | _ => exact nn h
theorem rsS {t : Sem Flow} {a : PFlow} {p : PEnv} {st : Store} (h : some (a, p, st) = some (fl, penv', st')) (k : RunsS cx A names env t z a p st s) : RunsS cx A names env t z fl penv' st' s := by cases h; exact k
theorem setAt_list {m i : Nat} {xs : List PV} {ov x : Value} {t : Tok} (hlt : i < xs.length) (hle : xs.length ≤ lim) (hp : z.st[m]? = some (.list xs)) (k : OkZ cx z) (hz : s.heap = z.h) (ha : VR cx z (.ref m) ov) (hv : VR cx z v x) {Q : Unit → Shared → Prop}
    (hQ : ∀ z' tk, OkZ cx z' → Ext z z' → z'.st = z.st.set m (.list (xs.set i v)) → Q () { s with heap := z'.h, toks := tk }) : wpAny (model cx.prog cx.w) A (setItem ov (.int i t) x) Q E s := by
  obtain ⟨l, c, items, rfl, hσ, ho, hvs⟩ := store_list k hp (ha.rv k)
  have hlen := vrs_size hvs
  rw [hlen] at hlt hle
  have ho' := ho; rw [← hz] at ho'
  refine PySem.W.ki_setAt (k := (i : Int)) ho' (Int.natCast_nonneg i) (Int.lt_of_lt_of_le (Int.ofNat_lt.mpr hlt) (Int.le_of_lt (Int.not_le.mp (lim_not hle)))) (Int.ofNat_lt.mpr hlt) ?_
  rw [Int.toNat_natCast]
  have hu := IsL.update (show IsL z.h l items c from ho) (fun its => its.setIfInBounds i x)
  have hs : Heap.ExtBut l z.h (z.h.update l (Obj.mapSeq fun its => its.setIfInBounds i x)) := (Heap.SameBut.update ..).extBut
  rw [hz]
  generalize z.h.update l (Obj.mapSeq fun its => its.setIfInBounds i x) = h2 at hu hs ⊢
  have hp0 : PObj.list xs ≠ .dead := nofun
  exact hQ { z with st := z.st.set m (.list (xs.set i v)), h := h2 } s.toks (k.change hp hp0 hσ hs ⟨_, hu⟩ ⟨_, _, hu, ⟨_, rfl⟩, by rw [Array.toList_setIfInBounds]; exact hvs.set i hv⟩) (k.change_ext hp hp0 hσ hs) rfl
theorem setAt_dict {m : Nat} {k' : PV} {es es' : List (PV × PV)} {ov iv x : Value} (hput : put k' v es = some es') (hc : es.length ≤ 1000) (hp : z.st[m]? = some (.dict es)) (k : OkZ cx z) (hz : s.heap = z.h) (ha : VR cx z (.ref m) ov) (hk : VR cx z k' iv) (hv : VR cx z v x) {Q : Unit → Shared → Prop}
    (hQ : ∀ z' tk, OkZ cx z' → Ext z z' → z'.st = z.st.set m (.dict es') → Q () { s with heap := z'.h, toks := tk }) : wpAny (model cx.prog cx.w) A (setItem ov iv x) Q E s := by
  obtain ⟨d, rfl, hσ⟩ := ha.rv k
  obtain ⟨d', hd', _, _, o, ho, hdr, hsm⟩ := k.obj m _ hp nofun
  cases Option.some.inj (hσ.symm.trans hd')
  have ho' := ho; rw [← hz] at ho'
  have hp0 : PObj.dict es ≠ .dead := nofun
  refine put_sound (z := z) (s := s) hput ho' hdr hk hv hc (fun hk hD hsz hq => wpAny_setItem_pairs hk hD hq hsz) fun h' o' ho2 hd2 hs => ?_
  rw [hz] at hs
  exact hQ { z with st := z.st.set m (.dict es'), h := h' } _ (k.change hp hp0 hσ hs.extBut ⟨o', ho2⟩ ⟨o', ho2, hd2, hsm⟩) (k.change_ext hp hp0 hσ hs.extBut) rfl
theorem setAt_sound {a k' : PV} {st2 : Store} {ov iv x : Value} (h : setAt a k' v z.st = some st2) (k : OkZ cx z) (hz : s.heap = z.h) (ha : VR cx z a ov) (hk : VR cx z k' iv) (hv : VR cx z v x) {Q : Unit → Shared → Prop}
    (hQ : ∀ z' tk, OkZ cx z' → Ext z z' → z'.st = st2 → Q () { s with heap := z'.h, toks := tk }) : wpAny (model cx.prog cx.w) A (setItem ov iv x) Q E s := by
  cases a with
  | ref m =>
    refine oO_el h fun p hp h => ?_
    cases p with
    | list xs =>
      refine oI_vr (R := fun iv => wpAny (model cx.prog cx.w) A (setItem ov iv x) Q E s) h hk fun i t h => bif_el h fun hc e => an hc fun hc h3 => an hc fun h1 h2 => ?_
      cases Option.some.inj e
      obtain ⟨j, rfl⟩ := Int.eq_ofNat_of_zero_le (dt h1)
      exact setAt_list (dt h2) (dt h3) hp k hz ha hv hQ
    | dict es =>
      refine oO_el h fun es' hput h => bif_el h fun hc e => ?_
      cases Option.some.inj e
      exact setAt_dict hput (dt hc) hp k hz ha hk hv hQ
    | _ => exact nn h
  | _ => exact nn h
theorem setItem_case (hSE : SndE cx rec n) (hA : ArOk A n) {o i e : PE} {o' i' e' : Expr} (q p : Pos) (mo : MtE cx names o o') (mi : MtE cx names i i') (me : MtE cx names e e') (f : Fr cx names z env penv) (k : OkZ cx z) (hz : s.heap = z.h)
    (h : stepS1 rec recS (.setItem o i e) penv z.st = some (fl, penv', st')) : RunsS cx A names env (exec (.Assign [.Subscript o' i' q] e' p) env) z fl penv' st' s := by
  refine mV h fun v st1 h1 h => mV h fun a st2 h2 h => mV h fun kk st3 h3 h => mS h fun st4 h4 h => rsS h ?_
  intro E Q hQ
  refine wpAny_Assign_Subscript (hSE me f k hz hA h1 E _ fun x z1 tk1 k1 e1 s1 v1 => ?_) (me.swaps _ _ _ fun _ _ => nofun)
  refine hSE mo (f.ext e1) k1 rfl hA (by rw [s1]; exact h2) E _ fun ov z2 tk2 k2 e2 s2 v2 => ?_
  refine hSE mi ((f.ext e1).ext e2) k2 rfl hA (by rw [s2]; exact h3) E _ fun iv z3 tk3 k3 e3 s3 v3 => ?_
  refine setAt_sound (z := z3) (by rw [s3]; exact h4) k3 rfl (v2.ext e3) v3 ((v1.ext e2).ext e3) fun z4 tk4 k4 e4 s4 => ?_
  exact hQ .next z4 tk4 k4 ((((e1.trans e2).trans e3).trans e4).toB _) s4 ((((f.ext e1).ext e2).ext e3).ext e4) rfl
theorem paug_ints {op : Operator} {a b v : PV} (h : paug op a b = some v) : ∃ i j, a = .int i ∧ b = .int j := by
  cases a with
  | int i => cases b with
    | int j => exact ⟨i, j, rfl, rfl⟩
    | _ => exact nn h
  | _ => exact nn h
theorem aug_case (no : NmOk cx) (hSE : SndE cx rec n) (hA : ArOk A n) {t : Nat} {op : Operator} {e : PE} {e' : Expr} (q p : Pos) (hw : wrOk cx names t = true) (me : MtE cx names e e') (f : Fr cx names z env penv) (k : OkZ cx z) (hz : s.heap = z.h)
    (h : stepS1 rec recS (.aug t op e) penv z.st = some (fl, penv', st')) : RunsS cx A names env (exec (.AugAssign (.Name (cx.name t) q) op e' p) env) z fl penv' st' s := by
  refine mO h fun a ha h => mV h fun b st1 h1 h => mO h fun v hv h => rsS h ?_
  intro E Q hQ
  refine wpAny_AugAssign_Name (f.load no hz ha fun x hx => ?_)
  refine hSE me f k hz hA h1 E _ fun y z1 tk1 k1 e1 s1 v1 => ?_
  obtain ⟨i, j, rfl, rfl⟩ := paug_ints hv
  refine aug_sound hv k1 rfl ((hx.ext e1).rv k1) (v1.rv k1) E _ fun r z2 tk2 k2 e2 s2 v2 => ?_
  refine ((f.ext e1).ext e2).store no k2 rfl (Wr.of hw).1 (Wr.of hw).2 v2 fun h3 tk3 k3 f3 e3 => ?_
  exact hQ .next { z2 with h := h3 } tk3 k3 (((e1.trans e2).toB _).trans e3) (s2.trans s1) f3 rfl
theorem MtE.noSlice {e : PE} {e' : Expr} (m : MtE cx names e e') (ov iv new : Value) : augStore e' ov iv new = (do holding [new, ov, iv] (setItem ov iv new); release [new, ov, iv] []; pure .next) := by
  have h := m.plain
  clear m
  cases e' <;> first | rfl | exact ff h
theorem augItem_case (hSE : SndE cx rec n) (hA : ArOk A n) {o i e : PE} {o' i' e' : Expr} {op : Operator} (q p : Pos) (mo : MtE cx names o o') (mi : MtE cx names i i') (me : MtE cx names e e') (f : Fr cx names z env penv) (k : OkZ cx z) (hz : s.heap = z.h)
    (h : stepS1 rec recS (.augItem o i op e) penv z.st = some (fl, penv', st')) : RunsS cx A names env (exec (.AugAssign (.Subscript o' i' q) op e' p) env) z fl penv' st' s := by
  refine mV h fun a st1 h1 h => mV h fun kk st2 h2 h => mO h fun x hx h => mV h fun y st3 h3 h => mO h fun v hv h => mS h fun st4 h4 h => rsS h ?_
  intro E Q hQ
  refine wpAny_AugAssign_SubscriptAny (hSE mo f k hz hA h1 E _ fun ov z1 tk1 k1 e1 s1 v1 => ?_) (fun ov iv new => mi.noSlice ov iv new)
  refine hSE mi (f.ext e1) k1 rfl hA (by rw [s1]; exact h2) E _ fun iv z2 tk2 k2 e2 s2 v2 => ?_
  have hrd := VRel.rd k2 (v1.ext e2)
  rw [s2] at hrd
  refine idx_sound (z := z2) hx k2 rfl hrd (v2.rv k2) E _ fun old z3 tk3 k3 e3 s3 v3 => ?_
  refine hSE me (((f.ext e1).ext e2).ext e3) k3 rfl hA (by rw [s3, s2]; exact h3) E _ fun yv z4 tk4 k4 e4 s4 v4 => ?_
  refine aug_sound hv k4 rfl ((v3.ext e4).rv k4) (v4.rv k4) E _ fun nv z5 tk5 k5 e5 s5 v5 => ?_
  refine setAt_sound (z := z5) (by rw [s5, s4]; exact h4) k5 rfl ((((v1.ext e2).ext e3).ext e4).ext e5) (((v2.ext e3).ext e4).ext e5) v5 fun z6 tk6 k6 e6 s6 => ?_
  exact hQ .next z6 tk6 k6 ((((((e1.trans e2).trans e3).trans e4).trans e5).trans e6).toB _) s6 ((((((f.ext e1).ext e2).ext e3).ext e4).ext e5).ext e6) rfl
theorem expr_case (hSE : SndE cx rec n) (hA : ArOk A n) {e : PE} {e' : Expr} (p : Pos) (me : MtE cx names e e') (hc : isComp e' = false) (f : Fr cx names z env penv) (k : OkZ cx z) (hz : s.heap = z.h)
    (h : stepS1 rec recS (.expr e) penv z.st = some (fl, penv', st')) : RunsS cx A names env (exec (.Expr e' p) env) z fl penv' st' s := by
  refine mN h fun st1 h1 h => rsS h ?_
  intro E Q hQ
  refine wpAny_Expr (hSE me f k hz hA h1 E _ fun x z1 tk1 k1 e1 s1 v1 => ?_) (by unfold interactive; rw [f.kind]; rfl) ?_
  · cases v1
    exact hQ .next z1 tk1 k1 (e1.toB _) s1 (f.ext e1) rfl
  · have h := me.plain
    clear me
    cases e' <;> first | rfl | exact ff h | exact ff hc.symm
theorem ret_case (hSE : SndE cx rec n) (hA : ArOk A n) {e : PE} {e' : Expr} (p : Pos) (me : MtE cx names e e') (f : Fr cx names z env penv) (k : OkZ cx z) (hz : s.heap = z.h)
    (h : stepS1 rec recS (.ret e) penv z.st = some (fl, penv', st')) : RunsS cx A names env (exec (.Return (some e') p) env) z fl penv' st' s := by
  refine mV h fun v st1 h1 h => rsS h ?_
  intro E Q hQ
  exact wpAny_Return_some (hSE me f k hz hA h1 E _ fun x z1 tk1 k1 e1 s1 v1 => hQ (.ret x) z1 tk1 k1 (e1.toB _) s1 (f.ext e1) ⟨x, rfl, v1⟩)
theorem if_case (hT : SndT cx rec n) (hS : SndS cx recS n) (hA : ArOk A n) {t : PE} {b o : List PS} {t' : Expr} {b' o' : List Stmt} (p : Pos) (mt : MtE cx names t t') (mb : MtSs cx names b b') (mo : MtSs cx names o o') (f : Fr cx names z env penv) (k : OkZ cx z) (hz : s.heap = z.h)
    (h : stepS1 rec recS (.ifS t b o) penv z.st = some (fl, penv', st')) : RunsS cx A names env (exec (.If t' b' o' p) env) z fl penv' st' s := by
  refine mT h fun c st1 h1 h => ?_
  intro E Q hQ
  refine wpAny_If (hT mt f k hz hA h1 E _ fun z1 tk k1 e1 s1 => ?_)
  cases c with
  | true => exact hS mb (f.ext e1) k1 (s := { s with heap := z1.h, toks := tk }) rfl hA (by rw [s1]; exact h) E Q fun fl' z2 tk2 k2 e2 s2 f2 hf => hQ fl' z2 tk2 k2 ((e1.toB _).trans e2) s2 f2 hf
  | false => exact hS mo (f.ext e1) k1 (s := { s with heap := z1.h, toks := tk }) rfl hA (by rw [s1]; exact h) E Q fun fl' z2 tk2 k2 e2 s2 f2 hf => hQ fl' z2 tk2 k2 ((e1.toB _).trans e2) s2 f2 hf
end
end Mine
end
section
namespace Mine
open PySem
section
variable {cx : Cx} {P : PProg} {rec : EvE} {recS : EvS} {call : EvC} {n : Nat} {names : Names} {env : Env} {penv penv' : PEnv} {A : Around} {z : Z} {s : Shared} {v : PV} {st' : Store} {fl : PFlow} {E : Value → Shared → Prop}
theorem mLs {γ : Type} {r : γ} {C : Prop} {x : Option (List PV)} {f : List PV → Option γ} (h : (match x with
    | some a => f a
    | none => none) = some r) (k : ∀ a, x = some a → f a = some r → C) : C := by
  cases x with
  | none => exact nn h
  | some a => exact k a rfl h
theorem lenS_el {α : Type} {C : List α → Prop} {n : Nat} (k : ∀ a (l : List α), l.length = n → C (a :: l)) (l : List α) (h : l.length = n + 1) : C l := by
  cases l with
  | nil => cases h
  | cons a l => exact k a l (Nat.succ.inj h)
theorem len0_el {α : Type} {C : List α → Prop} (k : C []) : ∀ l : List α, l.length = 0 → C l := fun l h => List.length_eq_zero_iff.mp h ▸ k
theorem len1_el {α : Type} {C : List α → Prop} (k : ∀ a, C [a]) : ∀ l : List α, l.length = 1 → C l := lenS_el fun a l h => by
  cases l with
  | nil => exact k a
  | cons => cases h
theorem len2_el {α : Type} {C : List α → Prop} (k : ∀ a b, C [a, b]) : ∀ l : List α, l.length = 2 → C l := lenS_el fun a => len1_el (C := fun l => C (a :: l)) (k a)
theorem assign2_case (no : NmOk cx) (hSE : SndE cx rec n) (hA : ArOk A n) {t u : Nat} {e : PE} {e' : Expr} (q q' p : Pos) (hw : wrOk cx names t = true) (hw' : wrOk cx names u = true) (me : MtE cx names e e') (f : Fr cx names z env penv) (k : OkZ cx z) (hz : s.heap = z.h)
    (h : stepS1 rec recS (.assign2 t u e) penv z.st = some (fl, penv', st')) : RunsS cx A names env (exec (.Assign [.Name (cx.name t) q, .Name (cx.name u) q'] e' p) env) z fl penv' st' s := by
  refine mV h fun v st1 h1 h => rsS h ?_
  intro E Q hQ
  refine wpAny_Assign_two (hSE me f k hz hA h1 E _ fun x z1 tk1 k1 e1 s1 v1 => ?_) rfl (by have h := me.plain; clear me; cases e' <;> first | rfl | exact ff h)
  refine storeEnd no hw (f.ext e1) k1 (s := { s with heap := z1.h, toks := tk1 }) rfl v1 q fun h2 tk2 k2 f2 e2 => ?_
  refine storeEnd no hw' f2 k2 (s := { s with heap := h2, toks := tk2 }) rfl (v1.extB e2) q' fun h3 tk3 k3 f3 e3 => ?_
  exact hQ .next { z1 with h := h3 } tk3 k3 (((e1.toB _).trans e2).trans e3) s1 f3 rfl
theorem draw_sound {I : Addr} {items : List PV} {fp : List Addr} {P : Nat → Value → Prop} {St : Nat → Heap → Prop} (it : It cx I items fp P St) (hh : A.handled = none) (m : Nat) : ∀ (j : Nat) {z : Z} {s : Shared} {Q : List Value → Shared → Prop}, m + j = items.length →
    ItZ cx I items fp P St z j → OkZ cx z → s.heap = z.h → (∀ xs h' tk, OkZ cx { z with h := h' } → ItZ cx I items fp P St { z with h := h' } items.length → VRs cx { z with h := h' } (items.drop j) xs → (∀ b o, b ∉ [I] → z.h.get? b = some o → h'.get? b = some o) → Q xs { s with heap := h', toks := tk }) →
    wpAny (model cx.prog cx.w) A (draw (.ref I) m) Q E s := by
  induction m with
  | zero =>
    intro j z s Q hm t k hz hQ
    have hj : j = items.length := (Nat.zero_add j).symm.trans hm
    have := hQ [] z.h s.toks k (hj ▸ t) (by rw [hj, List.drop_length]; exact .nil) (fun _ _ _ e => e)
    rw [← hz] at this
    exact wpAny_pure this
  | succ m ih =>
    intro j z s Q hm t k hz hQ
    have hm' : m + (j + 1) = items.length := (Nat.succ_add_eq_add_succ m j).symm.trans hm
    have hlt : j < items.length := hm' ▸ Nat.lt_of_lt_of_le (Nat.lt_succ_self j) (Nat.le_add_left ..)
    show wpAny _ A (pyNext (.ref I) >>= _) Q E s
    refine wpAny_bind (t.next it k hz hh (List.getElem?_eq_getElem hlt) fun v h1 tk1 k1 t1 v1 hk1 => ?_)
    refine wpAny_bind (wpAny_holding (ih (j + 1) (s := { s with heap := h1, toks := tk1 }) hm' t1 k1 rfl fun xs h2 tk2 k2 t2 v2 hk2 => wpAny_pure ?_))
    exact hQ (v :: xs) h2 tk2 k2 t2 (by rw [List.drop_eq_getElem_cons hlt]; exact .cons v1 v2) fun b o hb e => hk2 b o hb (hk1 b o hb e)
theorem unpack_tuple {vs : List PV} {x : Value} (hh : A.handled = none) (k : OkZ cx z) (hz : s.heap = z.h) (hv : VR cx z (.tuple vs) x) {targets : List (Bool × (Value → Sem Unit))} (hn : targets.length = vs.length) (hstar : targets.findIdx? (·.1) = none)
    {Q : Unit → Shared → Prop} (hQ : ∀ xs z' tk, OkZ cx z' → Ext z z' → z'.st = z.st → VRs cx z' vs xs → wpAny (model cx.prog cx.w) A (assignInOrder (targets.map (·.2)) xs) Q E { s with heap := z'.h, toks := tk }) :
    wpAny (model cx.prog cx.w) A (unpack x targets) Q E s := by
  have hnn := none_at_size hz
  obtain ⟨a, m, items, rfl, ha, hs⟩ := hv.rv k
  refine wpAny_unpack_tuple hh (tup_at hz ha) (hn.trans (vrs_size hs)) hstar fun h1 hk => ?_
  have hk' : ∀ b o, z.h.get? b = some o → h1.get? b = some o := fun b o e => hk b o (fun hb => nn (hnn.symm.trans (hb ▸ e))) (by rw [hz]; exact e)
  exact hQ items.toList { z with h := h1 } s.toks (k.keep fun b o e _ => hk' b o e) (.keep hk') rfl hs
theorem unpack_list {vs : List PV} {x : Value} (hc : decide (vs.length ≤ lim) = true) (hh : A.handled = none) (k : OkZ cx z) (hz : s.heap = z.h) (hv : VR cx z (.list vs) x) {targets : List (Bool × (Value → Sem Unit))} (hn : targets.length = vs.length) (hstar : targets.findIdx? (·.1) = none)
    {Q : Unit → Shared → Prop} (hQ : ∀ xs z' tk, OkZ cx z' → Ext z z' → z'.st = z.st → VRs cx z' vs xs → wpAny (model cx.prog cx.w) A (assignInOrder (targets.map (·.2)) xs) Q E { s with heap := z'.h, toks := tk }) :
    wpAny (model cx.prog cx.w) A (unpack x targets) Q E s := by
  unfold unpack
  rw [hn, hstar]
  refine wpAny_bind (wpAny_holding ?_)
  unfold unpackItems
  have hx : s.TypeIs x "list" := (hv.rv k).elim fun a h => h.elim fun m h => h.elim fun items h => h.1 ▸ (lst_at hz h.2.1).typeIs
  unfold notIterableAtAll
  refine wpAny_bind (wpAny_bind (wpAny_specialOf hx slot_list_iter.lookup ?_))
  refine wpAny_pure ?_
  rw [if_neg Bool.false_ne_true]
  have hit : itemsOf z.st (.list vs) = some (vs, z.st) := congrArg (fun c => bif c then some (vs, z.st) else none) hc
  refine wpAny_bind (wpAny_holding (iter_sound hit k hz hv ?_))
  intro I fp P St z1 tk1 it tz k1 e1 s1 hI
  refine wpAny_bind (wpAny_holding (draw_sound it hh vs.length 0 rfl tz k1 (s := { s with heap := z1.h, toks := tk1 }) rfl fun ys h2 tk2 k2 t2 v2 hk2 => ?_))
  rw [List.drop_zero] at v2
  rw [if_neg (Nat.not_lt.mpr (Nat.le_of_eq v2.length))]
  refine wpAny_bind (wpAny_holding (t2.done it k2 (s := { s with heap := h2, toks := tk2 }) rfl hh rfl fun h3 tk3 k3 hk3 => ?_))
  rw [if_neg (show ¬ (Option.isSome (none : Option Value) = true) from Bool.false_ne_true)]
  refine wpAny_pure ?_
  have e13 : Ext z { z1 with h := h3 } := ⟨e1.sig, e1.frz, fun b o hb hf =>
    have q := e1.prv b o hb hf
    have hbI : b ∉ [I] := fun hm => nn (hI.symm.trans (List.mem_singleton.mp hm ▸ hb))
    ⟨hk3 b o hbI (hk2 b o hbI q.1), q.2.b, q.2.l⟩⟩
  exact hQ ys { z1 with h := h3 } tk3 k3 e13 s1 v2
theorem unpack_sound {vs : List PV} {x : Value} (h : unpackL v = some vs) (hh : A.handled = none) (k : OkZ cx z) (hz : s.heap = z.h) (hv : VR cx z v x) {targets : List (Bool × (Value → Sem Unit))} (hn : targets.length = vs.length) (hstar : targets.findIdx? (·.1) = none)
    {Q : Unit → Shared → Prop} (hQ : ∀ xs z' tk, OkZ cx z' → Ext z z' → z'.st = z.st → VRs cx z' vs xs → wpAny (model cx.prog cx.w) A (assignInOrder (targets.map (·.2)) xs) Q E { s with heap := z'.h, toks := tk }) :
    wpAny (model cx.prog cx.w) A (unpack x targets) Q E s := by
  cases v with
  | tuple l => cases Option.some.inj h; exact unpack_tuple hh k hz hv hn hstar hQ
  | list l => exact bif_el h fun hc e => by cases Option.some.inj e; exact unpack_list hc hh k hz hv hn hstar hQ
  | _ => exact nn h
theorem assignTup_case (no : NmOk cx) (hSE : SndE cx rec n) (hA : ArOk A n) {is : List Nat} {es : List Expr} {e : PE} {e' : Expr} (kk : Nat) (q p : Pos) (hm : MtN cx names is es) (me : MtE cx names e e') (ht : isTupleE e' = false) (f : Fr cx names z env penv) (k : OkZ cx z) (hz : s.heap = z.h)
    (h : stepS1 rec recS (.assignTup is e) penv z.st = some (fl, penv', st')) : RunsS cx A names env (exec (.Assign [.Tuple es kk q] e' p) env) z fl penv' st' s := by
  refine mV h fun v st1 h1 h => mLs h fun vs h2 h => mE h fun penv2 h3 h => rsS h ?_
  intro E Q hQ
  obtain ⟨hl1, hl2⟩ := MtN.each env hm
  have hsw : swapsWithSole [.Tuple es kk q] e' p.line env = pure false := me.swaps (.Tuple es kk q) p.line env (fun _ _ => nofun)
  have hst : swappedStores [.Tuple es kk q] e' env = pure none := by
    have h := me.plain
    clear me h1 hsw
    cases e' <;> first | rfl | exact ff h | exact ff ht.symm
  refine PyProof.Rows.Assign_Tuple (hSE me f k hz hA h1 E _ fun x z1 tk1 k1 e1 s1 v1 => ?_) hsw hst
  rw [arm_assign_Tuple]
  refine wpAny_bind (wpAny_standAt (unpack_sound h2 hA.hh k1 (s := { s with heap := z1.h, toks := tk1 }) rfl v1 (hl1.trans (bindAll_len h3)) hl2 fun xs z2 tk2 k2 e2 s2 v2 => ?_))
  refine names_sound no hm k2 ((f.ext e1).ext e2) (s := { s with heap := z2.h, toks := tk2 }) rfl v2 h3 fun h4 tk4 k4 f4 e4 => ?_
  exact hQ .next { z2 with h := h4 } tk4 k4 (((e1.trans e2).toB _).trans e4) (s2.trans s1) f4 rfl
theorem swapped_two {x y a b : Str} {p1 p2 q q1 q2 q3 : Pos} {k k2 : Nat} (hf : env.scope.kind = .function) (hx : env.kindOf x = some .local) (hy : env.kindOf y = some .local) (hp : (p2.line == p1.line) = true) (hne : x ≠ y) (ha : (a == ("__debug__" : Str)) = false) :
    swappedStores [.Tuple [.Name x p1, .Name y p2] k q] (.Tuple [.Name a q1, .Name b q2] k2 q3) env = pure (some [x, y]) := by
  have hb : env.blockKind = .function := by unfold Env.blockKind; rw [hf]; rfl
  have h1 : constantsAlone 8 (.Name a q1) = false := ha
  have h2 : ∀ c q, foldedForSure 8 (.Name c q) = false := fun _ _ => rfl
  have h3 : [x, y].eraseDups = [x, y] := by rw [List.eraseDups_cons, List.filter_cons_of_pos (by rw [beq_eq_false_iff_ne.mpr (Ne.symm hne)]; rfl)]; rfl
  delta swappedStores
  refine (if_neg (by rw [hb]; exact Bool.false_ne_true)).trans ((if_neg (show ¬ (false = true) from Bool.false_ne_true)).trans ?_)
  have hx' : (env.kindOf x == some .local) = true := beq_iff_eq.mpr hx
  have hy' : (env.kindOf y == some .local) = true := beq_iff_eq.mpr hy
  have h4 : (Expr.Name x p1).pos = p1 := rfl
  simp only [List.head?_cons, Option.map_some, Option.getD_some, h4, List.filterMap_cons, List.filterMap_nil, hx', hy', hp, beq_self_eq_true, Bool.and_self, if_true, h3, List.all_cons, h1, h2, Bool.false_and]
  rfl
theorem set_swap {i j m : Nat} {a b w : PV} (hij : i ≠ j) (h : ((penv.set i a).set j b).get m = some w) : ((penv.set j b).set i a).get m = some w := by
  rw [get_set, get_set] at h ⊢
  by_cases h1 : m = j
  · rw [if_pos h1] at h
    rw [if_neg (fun e => hij (e.symm.trans h1)), if_pos h1]; exact h
  · rw [if_neg h1] at h
    rw [if_neg h1]; exact h
theorem swap_case (G : Glob cx P) (hSE : SndE cx (stepE P rec call) (n + 1)) (hE : SndE cx rec n) (hA : ArOk A (n + 1)) {i j a b : Nat} (kk k2 : Nat) (p1 p2 q q1 q2 q3 p : Pos) (hw : wrOk cx names i = true) (hw' : wrOk cx names j = true) (hli : localOk names (cx.name i) = true) (hlj : localOk names (cx.name j) = true) (hij : (i == j) = false)
    (hp : (p2.line == p1.line) = true) (ha : (cx.name a == ("__debug__" : Str)) = false) (f : Fr cx names z env penv) (k : OkZ cx z) (hz : s.heap = z.h)
    (h : stepS1 (stepE P rec call) recS (.assignTup [i, j] (.tuple [.var a, .var b])) penv z.st = some (fl, penv', st')) :
    RunsS cx A names env (exec (.Assign [.Tuple [.Name (cx.name i) p1, .Name (cx.name j) p2] kk q] (.Tuple [.Name (cx.name a) q1, .Name (cx.name b) q2] k2 q3) p) env) z fl penv' st' s := by
  have me : MtE cx names (.tuple [.var a, .var b]) (.Tuple [.Name (cx.name a) q1, .Name (cx.name b) q2] k2 q3) := ⟨2, (by rw [seqB_self, seqB_self]; rfl : (seqB (cx.name a) (cx.name a) && (seqB (cx.name b) (cx.name b) && true)) = true)⟩
  refine mV h fun v st1 h1 h => mLs h fun vs h2 h => mE h fun penv2 h3 h => rsS h ?_
  intro E Q hQ
  have hne : cx.name i ≠ cx.name j := fun e => beq_eq_false_iff_ne.mp hij (G.nm.inj i j (Wr.of hw).1 (Wr.of hw').1 e)
  have hki : env.kindOf (cx.name i) = some .local := (f.raw _ _ (beq_iff_eq.mp hli)).1 nofun
  have hkj : env.kindOf (cx.name j) = some .local := (f.raw _ _ (beq_iff_eq.mp hlj)).1 nofun
  have hvt : ∃ va vb, v = .tuple [va, vb] ∧ vs = [va, vb] ∧ (penv.set i va).set j vb = penv2 := mL h1 fun ws st2 h4 h1 => bif_el h1 fun _ e => by
    cases Option.some.inj e
    cases Option.some.inj h2
    exact len2_el (C := fun ws => bindAll [i, j] ws penv = some penv2 → ∃ va vb, PV.tuple ws = .tuple [va, vb] ∧ ws = [va, vb] ∧ (penv.set i va).set j vb = penv2) (fun va vb h3 => ⟨va, vb, rfl, rfl, Option.some.inj h3⟩) _ (bindAll_len h3).symm h3
  obtain ⟨va, vb, rfl, rfl, rfl⟩ := hvt
  refine PyProof.Rows.Assign_Tuple_swapped (names := [cx.name i, cx.name j]) (hSE me f k hz hA h1 E _ fun x z1 tk1 k1 e1 s1 v1 => ?_) rfl (swapped_two f.kind hki hkj hp hne ha)
  obtain ⟨l, m, items, rfl, hB, hs⟩ := v1.rv k1
  have hn := none_at_size (z := z1) (s := { s with heap := z1.h, toks := tk1 }) rfl
  have hT : ({ s with heap := z1.h, toks := tk1 } : Shared).heap.IsTuple l items := tup_at (z := z1) rfl hB
  show wpAny _ A (unpackItems (.ref l) [va, vb].length none) _ E _
  rw [vrs_size hs]
  refine wpAny_unpackItems_tuple hA.hh hT fun h2' hk2 => ?_
  have hk' : ∀ b o, z1.h.get? b = some o → h2'.get? b = some o := fun b o e => hk2 b o (fun hb => nn (hn.symm.trans (hb ▸ e))) e
  have k2' : OkZ cx { z1 with h := h2' } := k1.keep fun b o e _ => hk' b o e
  have e2 : Ext z1 { z1 with h := h2' } := .keep hk'
  have f2 := (f.ext e1).ext e2
  obtain ⟨xa, xb, hitems, hva, hvb⟩ : ∃ xa xb, items.toList = [xa, xb] ∧ VR cx z1 va xa ∧ VR cx z1 vb xb := hs.cons_el (C := fun its => ∃ xa xb, its = [xa, xb] ∧ VR cx z1 va xa ∧ VR cx z1 vb xb) fun xa us h1 hs => (VRs.one hs).elim fun xb h => ⟨xa, xb, congrArg (xa :: ·) h.1, h1, h.2⟩
  rw [hitems]
  show wpAny _ A (assignInOrder [bindName env (cx.name j), bindName env (cx.name i)] [xb, xa]) _ E _
  refine PyProof.Rows.assignInOrder_cons (wpAny_bindName (f2.store G.nm k2' (s := { s with heap := h2', toks := tk1 }) rfl (Wr.of hw').1 (Wr.of hw').2 (hvb.ext e2) fun h5 tk5 k5 f5 e5 => ?_))
  refine PyProof.Rows.assignInOrder_cons (wpAny_bindName (f5.store G.nm k5 (s := { s with heap := h5, toks := tk5 }) rfl (Wr.of hw).1 (Wr.of hw).2 ((hva.ext e2).extB e5) fun h6 tk6 k6 f6 e6 => ?_))
  exact PyProof.Rows.assignInOrder_nil (hQ .next { z1 with h := h6 } tk6 k6 ((((e1.trans e2).toB _).trans e5).trans e6) s1 (f6.congr fun m w hmw => set_swap (beq_eq_false_iff_ne.mp hij) hmw) rfl)
end
end Mine
end
section
namespace Mine
open PySem
section
variable {cx : Cx} {P : PProg} {rec : EvE} {recS : EvS} {call : EvC} {n : Nat} {names : Names} {env : Env} {penv penv' : PEnv} {A : Around} {z : Z} {s : Shared} {v : PV} {st' : Store} {fl : PFlow} {E : Value → Shared → Prop}
theorem mF {C : Prop} {r : PFlow × PEnv × Store} {x : Option (PFlow × PEnv × Store)} {f : PEnv → Store → Option (PFlow × PEnv × Store)} (h : (match x with
    | some (.next, env, st) => f env st
    | x => x) = some r) (kn : ∀ p st, x = some (.next, p, st) → f p st = some r → C) (kr : ∀ v p st, x = some (.ret v, p, st) → (PFlow.ret v, p, st) = r → C) : C := by
  cases x with
  | none => exact nn h
  | some q =>
    obtain ⟨fl, p, st⟩ := q
    cases fl with
    | next => exact kn p st rfl h
    | ret v => exact kr v p st rfl (Option.some.inj h)
theorem fl_next {C : Flow → Prop} {b : Flow} (h : FlR cx z .next b) (k : C .next) : C b := (show b = .next from h) ▸ k
theorem whileN_el {test : PEnv → Store → Option (Bool × Store)} {body : PEnv → Store → Option (PFlow × PEnv × Store)} {m : Nat} {p : PEnv} {st : Store} {r : PFlow × PEnv × Store} {C : Prop} (h : whileN test body (m + 1) p st = some r)
    (kt : ∀ st1, test p st = some (true, st1) → (match body p st1 with
      | some (.next, env, st) => whileN test body m env st
      | x => x) = some r → C) (kf : ∀ st1, test p st = some (false, st1) → (PFlow.next, p, st1) = r → C) : C :=
  mT h fun b st1 h1 h => by
    cases b with
    | true => exact kt st1 h1 h
    | false => exact kf st1 h1 (Option.some.inj h)
inductive WhileAt (cx : Cx) (names : Names) (env : Env) (z : Z) (s : Shared) (F : Nat → PEnv → Store → Prop) : Nat → Shared → Prop
  | mk (m : Nat) (z1 : Z) (penv1 : PEnv) (tk : Nat) : OkZ cx z1 → ExtB (own names env) z z1 → Fr cx names z1 env penv1 → F m penv1 z1.st → WhileAt cx names env z s F m { s with heap := z1.h, toks := tk }
theorem while_case (hT : SndT cx rec n) (hS : SndS cx recS n) (hA : ArOk A n) {t : PE} {b : List PS} {t' : Expr} {b' : List Stmt} (p : Pos) (mt : MtE cx names t t') (mb : MtSs cx names b b') (f : Fr cx names z env penv) (k : OkZ cx z) (hz : s.heap = z.h)
    (h : stepS1 rec recS (.whileS t b) penv z.st = some (fl, penv', st')) : RunsS cx A names env (exec (.While t' b' [] p) env) z fl penv' st' s := by
  intro E Q hQ
  have hs : s = { s with heap := z.h, toks := s.toks } := by rw [← hz]
  refine wpAny_While (codeAny_whileLoop (WhileAt cx names env z s fun m penv1 st => whileN (evTest rec t) (recS b) m penv1 st = some (fl, penv', st')) ?_ 64 (hs ▸ .mk 64 z penv s.toks k (.refl _ _) f h))
  intro m s' hm
  induction hm with
  | mk z1 penv1 tk1 k1 e1 f1 h1 =>
  cases m with
  | zero => exact nn h1
  | succ m =>
    refine whileN_el h1 (fun st2 h2 h1 => ?_) fun st2 h2 h1 => ?_
    · refine hT mt f1 k1 (s := { s with heap := z1.h, toks := tk1 }) rfl hA h2 _ _ fun z2 tk2 k2 e2 s2 => ?_
      rw [if_pos rfl]
      refine mF h1 (fun penv3 st3 h3 h1 => ?_) fun w penv3 st3 h3 h1 => ?_
      · refine hS mb (f1.ext e2) k2 (s := { s with heap := z2.h, toks := tk2 }) rfl hA (by rw [s2]; exact h3) _ _ fun fl' z3 tk3 k3 e3 s3 f3 hf => ?_
        cases (show fl' = .next from hf)
        exact ⟨m, Nat.lt_succ_self m, .mk m z3 penv3 tk3 k3 ((e1.trans (e2.toB _)).trans e3) f3 (by rw [s3]; exact h1)⟩
      · refine hS mb (f1.ext e2) k2 (s := { s with heap := z2.h, toks := tk2 }) rfl hA (by rw [s2]; exact h3) _ _ fun fl' z3 tk3 k3 e3 s3 f3 hf => ?_
        cases h1
        obtain ⟨x, rfl, hv⟩ := hf
        exact hQ _ z3 tk3 k3 ((e1.trans (e2.toB _)).trans e3) s3 f3 ⟨x, rfl, hv⟩
    · refine hT mt f1 k1 (s := { s with heap := z1.h, toks := tk1 }) rfl hA h2 _ _ fun z2 tk2 k2 e2 s2 => ?_
      cases h1
      rw [if_neg Bool.false_ne_true]
      exact wpAny_execs_nil (hQ .next z2 tk2 k2 (e1.trans (e2.toB _)) s2 (f1.ext e2) rfl)
inductive ForAt (cx : Cx) (names : Names) (env : Env) (items : List PV) (I : Addr) (fp : List Addr) (PP : Nat → Value → Prop) (St : Nat → Heap → Prop) (z : Z) (s : Shared) (F : List PV → PEnv → Store → Prop) : Nat → Shared → Prop
  | mk (z1 : Z) (penv1 : PEnv) (tk j : Nat) : j ≤ items.length → ItZ cx I items fp PP St z1 j → OkZ cx z1 → Fr cx names z1 env penv1 → ExtB (own names env) z z1 → F (items.drop j) penv1 z1.st → ForAt cx names env items I fp PP St z s F (items.length + 1 - j) { s with heap := z1.h, toks := tk }
theorem for_case (no : NmOk cx) (hSE : SndE cx rec n) (hS : SndS cx recS n) (hA : ArOk A n) {t : Tgt} {i : PE} {b : List PS} {t' i' : Expr} {b' : List Stmt} (p : Pos) (mt : MtT cx names t t') (mi : MtE cx names i i') (mb : MtSs cx names b b') (f : Fr cx names z env penv) (k : OkZ cx z) (hz : s.heap = z.h)
    (h : stepS1 rec recS (.forS t i b) penv z.st = some (fl, penv', st')) : RunsS cx A names env (exec (.For t' i' b' [] p) env) z fl penv' st' s := by
  refine mV h fun v st1 h1 h => mL h fun items st2 h2 h => ?_
  intro E Q hQ
  refine wpAny_For (hSE mi f k hz hA h1 E _ fun x z1 tk1 k1 e1 s1 v1 => ?_) (fun x => mi.noSet env x)
  refine iter_sound (z := z1) (by rw [s1]; exact h2) k1 (s := { s with heap := z1.h, toks := tk1 }) rfl v1 ?_
  intro I fp PP St z2 tk2 it tz k2 e2 s2 hI
  have apI : Apart env I := (f.ext e1).apartNew hI
  have f2 := (f.ext e1).ext e2
  refine codeAny_forLoop_any (ForAt cx names env items I fp PP St z1 s fun l penv1 st => forN (recS b) t l penv1 st = some (fl, penv', st')) ?_ (items.length + 1) (.mk z2 penv tk2 0 (Nat.zero_le _) tz k2 f2 (e2.toB _) (by rw [s2]; exact h))
  intro m s' hm
  induction hm with
  | mk z3 penv1 tk3 j hj t3 k3 f3 e3 h3 =>
  refine drop_cases items hj (fun hj' hd => ?_) fun x hx hd hlt => ?_
  · rw [hd] at h3
    cases h3
    refine t3.done it k3 (s := { s with heap := z3.h, toks := tk3 }) rfl hA.hh hj' fun h4 tk4 k4 hk4 => ?_
    refine wpAny_execs_nil (hQ .next { z3 with h := h4 } tk4 k4 ?_ rfl (f3.stay hk4 apI) rfl)
    exact ((e1.toB _).trans (e3.change (wr := [I]) (fun b hb => List.mem_singleton.mp hb ▸ hI) hk4))
  · rw [hd] at h3
    refine mE h3 fun penv2 hb h3 => ?_
    refine t3.next it k3 (s := { s with heap := z3.h, toks := tk3 }) rfl hA.hh hx fun w h4 tk4 k4 t4 hw hk4 => ?_
    obtain ⟨oI, nI, hoI, hcI, hlI⟩ := it.cls _ _ t4.st
    have e4 : ExtB (· = I) z3 { z3 with h := h4 } := extB_at hk4 ⟨oI, hoI⟩
    have f4 := f3.extA e4 apI
    refine wpAny_noOwnedTuple (s := { s with heap := h4, toks := tk4 }) hoI hcI hlI ?_
    refine bind_sound no hA.hh mt k4 f4 (s := { s with heap := h4, toks := tk4 }) rfl (hw.extB e4) hb fun h5 tk5 k5 f5 e5 => ?_
    have t5 := t4.extB it e5 apI.own k4 k5
    have e15 : ExtB (own names env) z1 { z3 with h := h5 } := (e3.thenB e4 fun x o hx ho => nn (hI.symm.trans (hx ▸ ho))).trans e5
    refine mF h3 (fun penv6 st6 h6 h3 => ?_) fun w penv6 st6 h6 h3 => ?_
    · refine hS mb f5 k5 (s := { s with heap := h5, toks := tk5 }) rfl hA h6 _ _ fun fl' z6 tk6 k6 e6 s6 f6 hf => ?_
      cases (show fl' = .next from hf)
      exact ⟨_, less_left hlt, .mk z6 penv6 tk6 (j + 1) hlt (t5.extB it e6 apI.own k5 k6) k6 f6 (e15.trans e6) (by rw [s6]; exact h3)⟩
    · refine hS mb f5 k5 (s := { s with heap := h5, toks := tk5 }) rfl hA h6 _ _ fun fl' z6 tk6 k6 e6 s6 f6 hf => ?_
      cases h3
      obtain ⟨x, rfl, hv⟩ := hf
      exact hQ _ z6 tk6 k6 ((e1.toB _).trans (e15.trans e6)) s6 f6 ⟨x, rfl, hv⟩
theorem stepS1_sound (G : Glob cx P) (hSE : SndE cx (stepE P rec call) (n + 1)) (hST : SndT cx (stepE P rec call) (n + 1)) (hE : SndE cx rec n) (hT : SndT cx rec n) (hS : SndS cx recS (n + 1)) (hA : ArOk A (n + 1)) {x : PS} {x' : Stmt} (m : MtS cx names x x') (f : Fr cx names z env penv) (k : OkZ cx z) (hz : s.heap = z.h)
    (h : stepS1 (stepE P rec call) recS x penv z.st = some (fl, penv', st')) : RunsS cx A names env (exec x' env) z fl penv' st' s := by
  have no := G.nm
  have i := m.inv
  clear m
  induction i with
  | assign t q p hw me =>
    refine mV h fun v st1 h1 h => rsS h ?_
    exact assign_case no hSE hE hT hA q p hw me f k hz h1
  | assign2 t u q q' p hw hw' me => exact assign2_case no hSE hA q q' p hw hw' me f k hz h
  | assignTup kk q p hm me ht => exact assignTup_case no hSE hA kk q p hm me ht f k hz h
  | swap i j a b kk k2 p1 p2 q q1 q2 q3 p hw hw' hli hlj hij hp ha => exact swap_case G hSE hE hA kk k2 p1 p2 q q1 q2 q3 p hw hw' hli hlj hij hp ha f k hz h
  | setItem q p mo mi me => exact setItem_case hSE hA q p mo mi me f k hz h
  | aug t op q p hw me => exact aug_case no hSE hA q p hw me f k hz h
  | augItem op q p mo mi me => exact augItem_case hSE hA q p mo mi me f k hz h
  | expr p me hc => exact expr_case hSE hA p me hc f k hz h
  | ifS p mt mb mo => exact if_case hST hS hA p mt mb mo f k hz h
  | whileS p mt mb => exact while_case hST hS hA p mt mb f k hz h
  | forS p mt mi mb => exact for_case no hSE hS hA p mt mi mb f k hz h
  | ret p me => exact ret_case hSE hA p me f k hz h
theorem execs_sound (G : Glob cx P) (hSE : SndE cx (stepE P rec call) (n + 1)) (hST : SndT cx (stepE P rec call) (n + 1)) (hE : SndE cx rec n) (hT : SndT cx rec n) (hS : SndS cx recS (n + 1)) (hA : ArOk A (n + 1)) {ps : List PS} {body : List Stmt} (m : MtSs cx names ps body) :
    ∀ {penv penv' : PEnv} {z : Z} {s : Shared} {fl : PFlow} {st' : Store}, Fr cx names z env penv → OkZ cx z → s.heap = z.h →
    stepS (stepE P rec call) recS ps penv z.st = some (fl, penv', st') → RunsS cx A names env (execs body env) z fl penv' st' s := by
  induction m with
  | nil =>
    intro penv penv' z s fl st' f k hz h
    cases h
    intro E Q hQ
    have := hQ .next z s.toks k (.refl _ _) rfl f rfl
    rw [← hz] at this
    exact wpAny_execs_nil this
  | cons mx mr ih =>
    intro penv penv' z s fl st' f k hz h E Q hQ
    refine wpAny_execs_cons ?_
    refine mF h (fun penv1 st1 h1 h => ?_) fun w penv1 st1 h1 h => ?_
    · refine stepS1_sound G hSE hST hE hT hS hA mx f k hz h1 E _ fun fl' z1 tk1 k1 e1 s1 f1 hf => ?_
      cases (show fl' = .next from hf)
      exact ih f1 k1 (s := { s with heap := z1.h, toks := tk1 }) rfl (by rw [s1]; exact h) E Q fun fl' z2 tk2 k2 e2 s2 f2 hf => hQ fl' z2 tk2 k2 (e1.trans e2) s2 f2 hf
    · refine stepS1_sound G hSE hST hE hT hS hA mx f k hz h1 E _ fun fl' z1 tk1 k1 e1 s1 f1 hf => ?_
      cases h
      obtain ⟨x, rfl, hv⟩ := hf
      exact hQ _ z1 tk1 k1 e1 s1 f1 ⟨x, rfl, hv⟩
theorem stepS1_none (recS : EvS) (x : PS) (penv : PEnv) (st : Store) : stepS1 (fun _ _ _ => none) recS x penv st = none := by
  cases x with
  | aug t op e =>
    show (match penv.get t with
      | some a => none
      | none => none : Option (PFlow × PEnv × Store)) = none
    cases penv.get t <;> rfl
  | _ => rfl
theorem stepS_sound (G : Glob cx P) (hSE : SndE cx (stepE P rec call) (n + 1)) (hST : SndT cx (stepE P rec call) (n + 1)) (hE : SndE cx rec n) (hT : SndT cx rec n) (hS : SndS cx recS (n + 1)) : SndS cx (stepS (stepE P rec call) recS) (n + 2) := by
  intro names ps body env penv penv' z s A fl st' m f k hz hA h
  exact execs_sound G hSE hST hE hT hS (hA.mono (Nat.le_succ _)) m f k hz h
theorem stepS_sound0 (recS : EvS) : SndS cx (stepS (fun _ _ _ => none) recS) 1 := by
  intro names ps body env penv penv' z s A fl st' m f k hz hA h
  cases m with
  | nil =>
    cases h
    intro E Q hQ
    have := hQ .next z s.toks k (.refl _ _) rfl f rfl
    rw [← hz] at this
    exact wpAny_execs_nil this
  | cons mx mr =>
    refine mF h (fun penv1 st1 h1 h => ?_) fun w penv1 st1 h1 h => ?_
    · exact nn ((stepS1_none ..).symm.trans h1)
    · exact nn ((stepS1_none ..).symm.trans h1)
end
structure FnOk (cx : Cx) (f : Nat) (ps : List Nat) (body : List PS) (fd : FuncData) (o : Obj) (body' : List Stmt) : Prop where
  obj : cx.h₀.get? (cx.fa f) = some o
  data : o.data = .func fd
  stm : fd.body = .stmts body'
  clo : fd.closure = []
  glo : fd.globals = cx.gA
  bui : fd.builtins = cx.bA
  co : fd.scope.isCoroutine = false
  gen : fd.scope.isGenerator = false
  kind : fd.scope.kind = .function
  rcd : cx.h₀.CodeRec fd.code fd.qualname
  bind : ∀ vals : List Value, vals.length = ps.length → bindArgs fd ⟨vals, []⟩ = pure ((ps.map cx.name).zip vals)
  nodup : nodupS (fd.scope.names.map (·.1)) = true
  nofree : ∀ x ∈ fd.scope.names, x.2 ≠ .free
  par : ∀ i ∈ ps, i < cx.nm.length ∧ (fd.scope.names.lookup (cx.name i) = some .local ∨ fd.scope.names.lookup (cx.name i) = some .cell)
  mt : MtSs cx fd.scope.names body body'
section
variable {cx : Cx} {P : PProg} {recS : EvS} {n : Nat}
theorem bind_spec (no : NmOk cx) (kindOf : Str → Option NameKind) {z : Z} {ps : List Nat} : ∀ {vs : List PV} {xs : List Value} {m cm : Str → Option Value} {penv penv' : PEnv}, VRs cx z vs xs → bindAll ps vs penv = some penv' → (∀ i ∈ ps, i < cx.nm.length) →
    (∀ i v, penv.get i = some v → i < cx.nm.length ∧ (kindOf (cx.name i) = some .local → ∃ x, m (cx.name i) = some x ∧ VR cx z v x) ∧ (kindOf (cx.name i) ≠ some .local → ∃ x, cm (cx.name i) = some x ∧ VR cx z v x)) →
    ∀ i v, penv'.get i = some v → (i < cx.nm.length ∧ (kindOf (cx.name i) = some .local → ∃ x, bindL kindOf ((ps.map cx.name).zip xs) m (cx.name i) = some x ∧ VR cx z v x) ∧ (kindOf (cx.name i) ≠ some .local → ∃ x, bindC kindOf ((ps.map cx.name).zip xs) cm (cx.name i) = some x ∧ VR cx z v x)) := by
  induction ps with
  | nil =>
    intro vs xs m cm penv penv' hv h _ hI
    cases vs with
    | nil => cases h; exact hI
    | cons => exact nn h
  | cons i0 ps ih =>
    intro vs xs m cm penv penv' hv h hp hI
    cases vs with
    | nil => exact nn h
    | cons v0 vs =>
      refine hv.cons_el (C := fun xs => ∀ i v, penv'.get i = some v → (i < cx.nm.length ∧ (kindOf (cx.name i) = some .local → ∃ x, bindL kindOf (((i0 :: ps).map cx.name).zip xs) m (cx.name i) = some x ∧ VR cx z v x) ∧ (kindOf (cx.name i) ≠ some .local → ∃ x, bindC kindOf (((i0 :: ps).map cx.name).zip xs) cm (cx.name i) = some x ∧ VR cx z v x))) fun x0 xs hv hvs => ?_
      have hi0 := hp i0 List.mem_cons_self
      refine ih hvs h (fun i hi => hp i (List.mem_cons_of_mem _ hi)) fun i v hg => ?_
      rw [get_set] at hg
      by_cases hi : i = i0
      · subst hi
        rw [if_pos rfl] at hg; cases Option.some.inj hg
        exact ⟨hi0, fun hk => by rw [if_pos hk]; exact ⟨x0, if_pos rfl, hv⟩, fun hk => by rw [if_neg hk]; exact ⟨x0, if_pos rfl, hv⟩⟩
      · rw [if_neg hi] at hg
        obtain ⟨h1, h2, h3⟩ := hI i v hg
        have hne : cx.name i ≠ cx.name i0 := fun e => hi (no.inj i i0 h1 hi0 e)
        refine ⟨h1, fun hk => (h2 hk).imp fun x h => ⟨?_, h.2⟩, fun hk => (h3 hk).imp fun x h => ⟨?_, h.2⟩⟩
        · split
          · exact (if_neg hne).trans h.1
          · exact h.1
        · split
          · exact h.1
          · exact (if_neg hne).trans h.1
theorem freeze_el {w : PV} {st : Store} {r : PV × Store} {C : Prop} (h : freeze w st = r) (k0 : (w, st) = r → C) (k1 : ∀ m xs, w = .ref m → st[m]? = some (.list xs) → (PV.list xs, st.set m .dead) = r → C) : C := by
  cases w with
  | ref m =>
    have h : (match st[m]? with
      | some p => match p with
        | .list xs => (PV.list xs, st.set m .dead)
        | _ => (.ref m, st)
      | none => (.ref m, st)) = r := h
    cases hp : st[m]? with
    | none => rw [hp] at h; exact k0 h
    | some p =>
      rw [hp] at h
      cases p with
      | list xs => exact k1 m xs rfl hp h
      | _ => exact k0 h
  | _ => exact k0 h
theorem bind_par {ps : List Nat} {vs : List PV} {penv : PEnv} (h : bindAll ps vs [] = some penv) (i : Nat) (v : PV) (hg : penv.get i = some v) : i ∈ ps := by
  have key : ∀ {ps : List Nat} {vs : List PV} {p p' : PEnv}, bindAll ps vs p = some p' → ∀ i v, p'.get i = some v → (∃ v', p.get i = some v') ∨ i ∈ ps := by
    intro ps
    induction ps with
    | nil => exact fun {vs p p'} h i v hg => by cases vs with | nil => exact .inl ⟨v, Option.some.inj h ▸ hg⟩ | cons => exact nn h
    | cons i0 ps ih =>
      intro vs p p' h i v hg
      cases vs with
      | nil => exact nn h
      | cons v0 vs =>
        rcases ih h i v hg with ⟨v', hv'⟩ | hm
        · rw [get_set] at hv'
          by_cases hi : i = i0
          · exact .inr (hi ▸ List.mem_cons_self)
          · rw [if_neg hi] at hv'; exact .inl ⟨v', hv'⟩
        · exact .inr (List.mem_cons_of_mem _ hm)
  exact (key h i v hg).elim (fun h => h.elim fun _ h => nn h) id
theorem call_frame (no : NmOk cx) {f : Nat} {ps : List Nat} {body : List PS} {fd : FuncData} {o : Obj} {body' : List Stmt} (F : FnOk cx f ps body fd o body') {z : Z} {s s₁ : Shared} {vs : List PV} {vals : List Value} {penv : PEnv} (k : OkZ cx z) (hz : s.heap = z.h) (hv : VRs cx z vs vals)
    (hb : bindAll ps vs [] = some penv)
    (X : InCallC s (callEnvC fd s.heap.objs.size (cx.fa f)).locals (bindL (callEnvC fd s.heap.objs.size (cx.fa f)).kindOf ((ps.map cx.name).zip vals) fun _ => none) (callEnvC fd s.heap.objs.size (cx.fa f)).cells
        (bindC (callEnvC fd s.heap.objs.size (cx.fa f)).kindOf ((ps.map cx.name).zip vals) fun _ => none) s₁) :
    (∃ tk, s₁ = { s with heap := s₁.heap, toks := tk }) ∧ OkZ cx { z with h := s₁.heap } ∧ Ext z { z with h := s₁.heap } ∧ Fr cx fd.scope.names { z with h := s₁.heap } (callEnvC fd s.heap.objs.size (cx.fa f)) penv ∧
      ∀ a, own fd.scope.names (callEnvC fd s.heap.objs.size (cx.fa f)) a → New z a := by
  have keep : ∀ b o, z.h.get? b = some o → s₁.heap.get? b = some o := fun b o e => X.toInCall.keep b o (by rw [hz]; exact e)
  have k1 : OkZ cx { z with h := s₁.heap } := k.keep fun b o e _ => keep b o e
  have e1 : Ext z { z with h := s₁.heap } := .keep keep
  have hlt : ∀ (b : Nat) o, z.h.get? b = some o → b < s.heap.objs.size := fun b o e => by rw [hz]; exact Heap.lt_size e
  have hge : ∀ (b : Nat), s.heap.objs.size ≤ b → z.h.get? b = none := fun b hb => by
    cases e : z.h.get? b with
    | none => rfl
    | some o => exact absurd (hlt b o e) (Nat.not_lt.mpr hb)
  have S := cells_spec fd.scope.names (s.heap.push { cls := .type "frame", data := .dict #[] }) [] F.nodup
  have c1 := S.new
  have c2 := S.old
  have c3 := S.inj
  rw [Heap.size_push] at c1 c2 c3
  clear S
  have cell_of : ∀ x c, (callEnvC fd s.heap.objs.size (cx.fa f)).cells.lookup x = some c → fd.scope.names.lookup x = some .cell ∧ s.heap.objs.size + 1 ≤ c := fun x c h => by
    by_cases hx : fd.scope.names.lookup x = some .cell
    · obtain ⟨c', h1, h2, _⟩ := c1 x hx
      exact ⟨hx, Option.some.inj (h1.symm.trans h) ▸ h2⟩
    · exact nn ((c2 x hx).symm.trans h)
  have bs := bind_spec no (callEnvC fd s.heap.objs.size (cx.fa f)).kindOf (m := fun _ => none) (cm := fun _ => none) hv hb (fun i hi => (F.par i hi).1) (fun i v h => nn h)
  refine ⟨X.toInCall.same.elim fun h' h => h.elim fun tk e => ⟨tk, by rw [e]⟩, k1, e1, ?_, fun a ha => New.of ?_⟩
  · refine ⟨F.kind, F.glo, F.bui, free_push k (hge _ (Nat.le_refl _)), fun i v h => (bs i v h).1, fun x kk h => ⟨fun _ => h, fun hk => absurd hk (F.nofree _ (mem_of_lookup h))⟩, fun i v h => (F.par i (bind_par hb i v h)).2.imp id .inl, ⟨_, X.toInCall.ns, fun i v h hk => (bs i v h).2.1 hk⟩, fun x c h => ?_, fun x y c h h' => ?_, fun x h => ?_, fun i v h hk => ?_⟩
    · have q := (cell_of x c h).2
      exact ⟨free_push k (hge _ (Nat.le_of_succ_le q)), Nat.ne_of_gt q, _, X.cell x c h⟩
    · exact c3 x y c (cell_of x c h).1 (cell_of y c h').1 h h'
    · exact h.elim (fun h => (c1 x h).imp fun c h => h.1) fun h => absurd rfl (F.nofree _ (mem_of_lookup h))
    · have hkc : fd.scope.names.lookup (cx.name i) = some .cell := hk.elim id fun hk => absurd rfl (F.nofree _ (mem_of_lookup hk))
      obtain ⟨c, hc, _⟩ := c1 _ hkc
      obtain ⟨x, hx, hvx⟩ := (bs i v h).2.2 (fun e => nomatch (hkc.symm.trans e))
      exact ⟨c, x, hc, hx ▸ X.cell _ c hc, hvx⟩
  · rcases ha with rfl | ⟨x, h1, h2⟩
    · exact hge _ (Nat.le_refl _)
    · exact hge _ (Nat.le_of_succ_le (cell_of x a h2).2)
theorem stepC_el {f : Nat} {vs : List PV} {st : Store} {r : PV × Store} {C : Prop} (h : stepC P recS f vs st = some r) (c : ∀ ps body penv, P.F f = some (ps, body) → bindAll ps vs [] = some penv → (match recS body penv st with
    | some (.ret v, _, st) => some (freeze v st)
    | some (.next, _, st) => some (.none, st)
    | none => none) = some r → C) : C := by
  unfold stepC at h
  cases h1 : P.F f with
  | none => rw [h1] at h; exact nn h
  | some q =>
    rw [h1] at h
    exact mE h fun penv hb h => c q.1 q.2 penv h1 hb h
theorem body_el {x : Option (PFlow × PEnv × Store)} {r : PV × Store} {C : Prop} (h : (match x with
    | some (.ret v, _, st) => some (freeze v st)
    | some (.next, _, st) => some (.none, st)
    | none => none) = some r) (kr : ∀ v p st, x = some (.ret v, p, st) → freeze v st = r → C) (kn : ∀ p st, x = some (.next, p, st) → (PV.none, st) = r → C) : C := by
  cases x with
  | none => exact nn h
  | some q =>
    obtain ⟨fl, p, st⟩ := q
    cases fl with
    | next => exact kn p st rfl (Option.some.inj h)
    | ret v => exact kr v p st rfl (Option.some.inj h)
theorem stepC_sound (G : Glob cx P) (hF : ∀ f ps body, P.F f = some (ps, body) → ∃ fd o body', FnOk cx f ps body fd o body') (hS : SndS cx recS n) : SndC cx P (stepC P recS) (n + 1) := by
  intro f vs vals z s A v st' k hz hA hv h
  refine stepC_el h fun ps body penv hPF hb h => ?_
  obtain ⟨fd, o, body', F⟩ := hF f ps body hPF
  intro E Q hQ
  have up : ∀ b o, cx.h₀.get? b = some o → s.heap.get? b = some o := fun b o e => by rw [hz]; exact k.sub _ _ (k.base _ _ e)
  have hlen : vals.length = ps.length := hv.length.symm.trans (bindAll_len hb).symm
  have hd : A.depth < recursionLimit := Nat.lt_of_le_of_lt (Nat.le_add_right _ _) hA.dep
  have c1 := (cells_spec fd.scope.names (s.heap.push { cls := .type "frame", data := .dict #[] }) [] F.nodup).new
  rw [Heap.size_push] at c1
  refine wpAny_call (codeAny_call_cells hd (up _ _ F.obj) F.data (G.lim.keeps up) (F.rcd.keeps up) F.stm (F.bind vals hlen) F.clo (fun x hx => ?_) (fun s₁ X => ?_) F.co F.gen F.kind)
  · obtain ⟨i, hi, e⟩ := List.mem_map.mp (List.of_mem_zip hx).1
    rw [← e]
    exact (F.par i hi).2.imp id fun h1 => ⟨h1, (c1 _ h1).elim fun c hc => hc.1 ▸ rfl⟩
  · obtain ⟨⟨tk1, hs1⟩, k1, e1, f1, hown⟩ := call_frame G.nm F k hz hv hb X
    have hA' : ArOk (A.deeper (callEnvC fd s.heap.objs.size (cx.fa f))) n := ⟨hA.hh, (Nat.succ_add_eq_add_succ A.depth n).symm ▸ hA.dep, by have := hA.uni; show A.units + 3 + 10 * n + 20 < _; omega⟩
    refine body_el h (fun w penv2 st2 h2 h => ?_) fun penv2 st2 h2 h => ?_
    · refine hS F.mt f1 k1 (s := s₁) rfl hA' h2 _ _ fun fl z2 tk2 k2 e2 s2 f2 hf => ?_
      obtain ⟨x, rfl, hf⟩ := hf
      have e12 : Ext z z2 := ((e1.toB _).trans e2).toExtN hown
      have fin : ∀ z3 : Z, OkZ cx z3 → Ext z2 z3 → z3.h = z2.h → z3.st = st' → VR cx z3 v x → Q x { s₁ with heap := z2.h, toks := tk2 } := fun z3 k3 e3 h3 s3 v3 => by
        have := hQ x z3 tk2 k3 (e12.trans e3) s3 v3
        rw [h3] at this
        rw [hs1]
        exact this
      refine freeze_el h (fun h => ?_) fun m xs hw hp h' => ?_
      · cases h
        exact fin z2 k2 (.refl _) rfl s2 hf
      · subst hw
        cases h'
        have hp' : z2.st[m]? = some (.list xs) := by rw [s2]; exact hp
        obtain ⟨a, c, items, rfl, hσ, ho, hvs⟩ := store_list k2 hp' (VRel.rv k2 hf)
        have hp0 : (PObj.list xs) ≠ .dead := nofun
        have k3 := k2.die hp' hp0 hσ ho
        have e3 := k2.die_ext (o := { cls := .type "list", dict := none, data := .seq items c, slots := #[] }) hp' hp0 hσ
        exact fin _ k3 e3 rfl (by rw [s2]) (.list (items := items) (addB_self _ _ _) ⟨c, rfl⟩ (hvs.ext e3))
    · cases h
      refine hS F.mt f1 k1 (s := s₁) rfl hA' h2 _ _ fun fl z2 tk2 k2 e2 s2 f2 hf => ?_
      cases (show fl = .next from hf)
      have := hQ .none z2 tk2 k2 (((e1.toB _).trans e2).toExtN hown) s2 .none
      rw [hs1]
      exact this
theorem stepC_fn {recS : EvS} {f : Nat} {vs : List PV} {st : Store} {r : PV × Store} (h : stepC P recS f vs st = some r) : ∃ p, P.F f = some p := stepC_el h fun ps body _ h _ _ => ⟨_, h⟩
structure Snd (cx : Cx) (P : PProg) (n : Nat) : Prop where
  E : SndE cx (ev P n).E n
  T : SndT cx (ev P n).E n
  S : SndS cx (ev P n).S n
  C : SndC cx P (ev P n).C n
theorem ev_sound (G : Glob cx P) (hF : ∀ f ps body, P.F f = some (ps, body) → ∃ fd o body', FnOk cx f ps body fd o body') : ∀ n, Snd cx P n ∧ Snd cx P (n + 1) := by
  have h0 : Snd cx P 0 := {
    E := by exact fun _ _ _ _ _ h => nn h
    T := by exact fun _ _ _ _ _ h => nn h
    S := by exact fun _ _ _ _ _ h => nn h
    C := by exact fun _ _ _ _ h => nn h }
  have hC0 : ∀ n f vs st r, (ev P n).C f vs st = some r → ∃ p, P.F f = some p := fun n f vs st r h => by
    cases n with
    | zero => exact nn h
    | succ n => exact stepC_fn h
  have stepET : ∀ n, Snd cx P n → SndE cx (ev P (n + 1)).E (n + 1) ∧ SndT cx (ev P (n + 1)).E (n + 1) := fun n X => by
    have e : SndE cx (stepE P (ev P n).E (ev P n).C) (n + 1) := stepE_sound G X.E X.T X.C (hC0 n)
    exact And.intro e (stepT_sound e X.E X.T)
  intro n
  induction n with
  | zero =>
    obtain ⟨e, t⟩ := stepET 0 h0
    exact ⟨h0, e, t, stepS_sound0 _, stepC_sound G hF h0.S⟩
  | succ n ih =>
    obtain ⟨X, Y⟩ := ih
    obtain ⟨e, t⟩ := stepET (n + 1) Y
    exact ⟨Y, e, t, stepS_sound G Y.E Y.T X.E X.T Y.S, stepC_sound G hF Y.S⟩
end
end Mine
end
section
namespace Mine
open PySem
open PyProof.Rows (IntsAre)
noncomputable def fnChk (cx : Cx) (ps : List Nat) (body : List PS) (scope : Scope) (body' : List Stmt) : Bool :=
  ndB (scope.names.map (·.1)) && (scope.names.all (fun x => !(kindB x.2 .free)) && (ps.all (fun i => wrB cx scope.names i (cx.name i)) && (fnB scope.kind && (!scope.isCoroutine && (!scope.isGenerator && all2 (chkS cx scope.names 60) body body')))))
theorem fnOk_of {cx : Cx} {f : Nat} {ps : List Nat} {body : List PS} {fd : FuncData} {o oc : Obj} {body' : List Stmt} {c : Addr} {vs : Array Value} {t : Tok} (h : fnChk cx ps body fd.scope body' = true)
    (obj : cx.h₀.get? (cx.fa f) = some o) (data : o.data = .func fd) (stm : fd.body = .stmts body') (clo : fd.closure = []) (glo : fd.globals = cx.gA) (bui : fd.builtins = cx.bA)
    (hc : fd.code = .ref c) (ho : cx.h₀.get? c = some oc) (hd : oc.data = .fields vs) (hv : vs[1]? = some (.str fd.qualname t))
    (bind : ∀ vals : List Value, vals.length = ps.length → bindArgs fd ⟨vals, []⟩ = pure ((ps.map cx.name).zip vals)) : FnOk cx f ps body fd o body' := by
  refine an h fun h1 h => an h fun h2 h => an h fun h3 h => an h fun h4 h => an h fun h5 h => an h fun h6 h7 => ⟨obj, data, stm, clo, glo, bui, nt h5, nt h6, ?_, ⟨c, oc, vs, t, hc, ho, hd, hv⟩, bind, by rw [← ndB_eq]; exact h1, fun x hx e => ?_, fun i hi => ?_, allS_ok (fun h => ⟨60, h⟩) h7⟩
  · generalize fd.scope.kind = k at h4
    cases k <;> first | rfl | exact ff h4
  · have := nt (List.all_eq_true.mp h2 x hx); rw [e] at this; exact ff this.symm
  · exact Wr.of (wrB_ok (List.all_eq_true.mp h3 i hi)).2
noncomputable def onPI (e : PV) (f : Int → Bool) : Bool := dite (e.ctorIdx = 2) (fun h => PV.int.elim (motive_1 := fun _ => Bool) e h f) fun _ => false
theorem onPI_el {e : PV} {f : Int → Bool} {C : PV → Prop} (h : onPI e f = true) (k : ∀ (a0 : Int), f a0 = true → C (.int a0)) : C e :=
  dite_el h fun hp h => PV.int.elim (motive_1 := fun e => ∀ hp : e.ctorIdx = 2, PV.int.elim (motive_1 := fun _ => Bool) e hp f = true → C e) e hp (fun a0 _ h => k a0 h) hp h
noncomputable def onPS (e : PV) (f : List Nat → Bool) : Bool := dite (e.ctorIdx = 3) (fun h => PV.str.elim (motive_1 := fun _ => Bool) e h f) fun _ => false
theorem onPS_el {e : PV} {f : List Nat → Bool} {C : PV → Prop} (h : onPS e f = true) (k : ∀ (a0 : List Nat), f a0 = true → C (.str a0)) : C e :=
  dite_el h fun hp h => PV.str.elim (motive_1 := fun e => ∀ hp : e.ctorIdx = 3, PV.str.elim (motive_1 := fun _ => Bool) e hp f = true → C e) e hp (fun a0 _ h => k a0 h) hp h
noncomputable def onXI (e : Value) (f : Int → Bool) : Bool := dite (e.ctorIdx = 4) (fun h => Value.int.elim (motive := fun _ => Bool) e h (fun a0 a1 => f a0)) fun _ => false
theorem onXI_el {e : Value} {f : Int → Bool} {C : Value → Prop} (h : onXI e f = true) (k : ∀ (a0 : Int) (a1 : Tok), f a0 = true → C (.int a0 a1)) : C e :=
  dite_el h fun hp h => Value.int.elim (motive := fun e => ∀ hp : e.ctorIdx = 4, Value.int.elim (motive := fun _ => Bool) e hp (fun a0 a1 => f a0) = true → C e) e hp (fun a0 a1 _ h => k a0 a1 h) hp h
noncomputable def onXS (e : Value) (f : Str → Bool) : Bool := dite (e.ctorIdx = 6) (fun h => Value.str.elim (motive := fun _ => Bool) e h (fun a0 a1 => f a0)) fun _ => false
theorem onXS_el {e : Value} {f : Str → Bool} {C : Value → Prop} (h : onXS e f = true) (k : ∀ (a0 : Str) (a1 : Tok), f a0 = true → C (.str a0 a1)) : C e :=
  dite_el h fun hp h => Value.str.elim (motive := fun e => ∀ hp : e.ctorIdx = 6, Value.str.elim (motive := fun _ => Bool) e hp (fun a0 a1 => f a0) = true → C e) e hp (fun a0 a1 _ h => k a0 a1 h) hp h
noncomputable def chkI : List (PV × PV) → List DictEntry → Bool
  | [], l => onNil l
  | p :: r, l => match l with
    | [] => false
    | e :: t => onPI p.1 fun k => onPS p.2 fun l => onXI e.key fun k' => onXS e.val fun s => decide (k = k') && (decide (e.hash = hashInt k') && (all2 Nat.beq l s.cps.toList && chkI r t))
noncomputable def keysI : List DictEntry → List Int
  | ⟨_, .int k _, _⟩ :: r => k :: keysI r
  | _ => []
noncomputable def incI : List Int → Bool
  | a :: b :: r => decide (a < b) && incI (b :: r)
  | _ => true
noncomputable def kvI : List DictEntry → List (Int × Value)
  | ⟨_, .int k _, v⟩ :: r => (k, v) :: kvI r
  | _ => []
theorem kvI_keys : ∀ l : List DictEntry, (kvI l).map (·.1) = keysI l
  | [] => rfl
  | ⟨_, k, v⟩ :: r => by cases k <;> first | rfl | (simp only [kvI, keysI, List.map_cons, kvI_keys r])
theorem incI_nodup {l : List Int} : incI l = true → l.Nodup ∧ ∀ a r, l = a :: r → ∀ b ∈ r, a < b := by
  induction l with
  | nil => exact fun _ => ⟨List.nodup_nil, fun a r e => nomatch e⟩
  | cons a r ih =>
    intro h
    have hall : (r.Nodup ∧ ∀ c ∈ r, a < c) := by
      cases r with
      | nil => exact ⟨List.nodup_nil, fun c hc => absurd hc List.not_mem_nil⟩
      | cons b r => exact an h fun h1 h2 => ⟨(ih h2).1, fun c hc => (List.mem_cons.mp hc).elim (fun e => e ▸ of_decide_eq_true h1) fun hc => Int.lt_trans (of_decide_eq_true h1) ((ih h2).2 b r rfl c hc)⟩
    exact ⟨List.nodup_cons.mpr ⟨fun hm => Int.lt_irrefl a (hall.2 a hm), hall.1⟩, fun a' r' e => (List.cons.inj e).1 ▸ (List.cons.inj e).2 ▸ hall.2⟩
theorem chkI_ok {prog : Program} {w : World} {es : List (PV × PV)} : ∀ {ents : List DictEntry}, chkI es ents = true → EI es (kvI ents) ∧ Pairs (intKind prog w) ents (kvI ents) ∧ ∀ e ∈ ents, ∃ k, (intKind prog w).is k e.key = true ∧ e.hash = (intKind prog w).hash k := by
  induction es with
  | nil => exact fun {ents} h => onNil_el (C := fun ents => EI [] (kvI ents) ∧ Pairs (intKind prog w) ents (kvI ents) ∧ ∀ e ∈ ents, ∃ k, (intKind prog w).is k e.key = true ∧ e.hash = (intKind prog w).hash k) h ⟨trivial, .nil, fun e h => absurd h List.not_mem_nil⟩
  | cons p r ih =>
    intro ents h
    cases ents with
    | nil => exact ff h
    | cons e t =>
      obtain ⟨k, v⟩ := p
      obtain ⟨h0, key, val⟩ := e
      refine onPI_el (C := fun k => EI ((k, v) :: r) (kvI (⟨h0, key, val⟩ :: t)) ∧ Pairs (intKind prog w) (⟨h0, key, val⟩ :: t) (kvI (⟨h0, key, val⟩ :: t)) ∧ ∀ e ∈ (⟨h0, key, val⟩ :: t : List DictEntry), ∃ k, (intKind prog w).is k e.key = true ∧ e.hash = (intKind prog w).hash k) h fun k h => ?_
      refine onPS_el (C := fun v => EI ((.int k, v) :: r) (kvI (⟨h0, key, val⟩ :: t)) ∧ Pairs (intKind prog w) (⟨h0, key, val⟩ :: t) (kvI (⟨h0, key, val⟩ :: t)) ∧ ∀ e ∈ (⟨h0, key, val⟩ :: t : List DictEntry), ∃ k, (intKind prog w).is k e.key = true ∧ e.hash = (intKind prog w).hash k) h fun l h => ?_
      refine onXI_el (C := fun key => EI ((.int k, .str l) :: r) (kvI (⟨h0, key, val⟩ :: t)) ∧ Pairs (intKind prog w) (⟨h0, key, val⟩ :: t) (kvI (⟨h0, key, val⟩ :: t)) ∧ ∀ e ∈ (⟨h0, key, val⟩ :: t : List DictEntry), ∃ k, (intKind prog w).is k e.key = true ∧ e.hash = (intKind prog w).hash k) h fun k' u h => ?_
      refine onXS_el (C := fun val => EI ((.int k, .str l) :: r) (kvI (⟨h0, .int k' u, val⟩ :: t)) ∧ Pairs (intKind prog w) (⟨h0, .int k' u, val⟩ :: t) (kvI (⟨h0, .int k' u, val⟩ :: t)) ∧ ∀ e ∈ (⟨h0, .int k' u, val⟩ :: t : List DictEntry), ∃ k, (intKind prog w).is k e.key = true ∧ e.hash = (intKind prog w).hash k) h fun s u' h => ?_
      refine an h fun h1 h => an h fun h2 h => an h fun h3 h4 => ?_
      cases of_decide_eq_true h1
      have i := ih h4
      exact ⟨⟨rfl, (all2_beq h3).symm, i.1⟩, .cons (beq_self_eq_true k) rfl i.2.1, fun e he => (List.mem_cons.mp he).elim (fun e' => e' ▸ ⟨k, beq_self_eq_true k, of_decide_eq_true h2⟩) (i.2.2 e)⟩
theorem dictI {prog : Program} {w : World} {es : List (PV × PV)} {ents : Array DictEntry} {ep : Nat} (h : chkI es ents.toList = true) (hi : incI (keysI ents.toList) = true) : DRel prog w es { cls := .type "dict", dict := none, data := .dict ents ep, slots := #[] } := by
  have hc := chkI_ok (prog := prog) (w := w) h
  refine .ik (kvI ents.toList) (fun h a e => ⟨_, ents, ep, e, ⟨rfl, rfl, rfl⟩, rfl, fun x hx => hc.2.2 x (Array.mem_toList_iff.mpr hx), hc.2.1, ?_⟩) hc.1
  rw [kvI_keys]; exact (incI_nodup hi).1
noncomputable def chkT : List (PV × PV) → List DictEntry → Bool
  | [], l => onNil l
  | p :: r, l => match l with
    | [] => false
    | e :: t => onPS p.1 fun l => onPI p.2 fun v => onXS e.key fun s => onXI e.val fun v' => decide (v = v') && (all2 Nat.beq l s.cps.toList && chkT r t)
noncomputable def keysT : List DictEntry → List Str
  | ⟨_, .str k _, _⟩ :: r => k :: keysT r
  | _ => []
noncomputable def kvT : List DictEntry → List (Str × Value)
  | ⟨_, .str k _, v⟩ :: r => (k, v) :: kvT r
  | _ => []
noncomputable def hashV (w : World) (v : Value) : Int := dite (v.ctorIdx = 6) (fun h => Value.str.elim (motive := fun _ => Int) v h fun k _ => hashStr w k) fun _ => 0
theorem kvT_keys : ∀ l : List DictEntry, (kvT l).map (·.1) = keysT l
  | [] => rfl
  | ⟨_, k, v⟩ :: r => by cases k <;> first | rfl | (simp only [kvT, keysT, List.map_cons, kvT_keys r])
theorem nodupS_nodup {l : List Str} : nodupS l = true → l.Nodup := by
  induction l with
  | nil => exact fun _ => List.nodup_nil
  | cons x r ih => exact fun h => an h fun h1 h2 => List.nodup_cons.mpr ⟨fun hm => ff ((nt h1).symm.trans (List.contains_iff_mem.mpr hm)), ih h2⟩
theorem chkT_ok {prog : Program} {w : World} {es : List (PV × PV)} : ∀ {ents : List DictEntry}, chkT es ents = true → ES es (kvT ents) ∧ Pairs (strKind prog w) ents (kvT ents) ∧ ∀ e ∈ ents, ∃ k t, e.key = .str k t := by
  induction es with
  | nil => exact fun {ents} h => onNil_el (C := fun ents => ES [] (kvT ents) ∧ Pairs (strKind prog w) ents (kvT ents) ∧ ∀ e ∈ ents, ∃ k t, e.key = .str k t) h ⟨trivial, .nil, fun e h => absurd h List.not_mem_nil⟩
  | cons p r ih =>
    intro ents h
    cases ents with
    | nil => exact ff h
    | cons e t =>
      obtain ⟨k, v⟩ := p
      obtain ⟨h0, key, val⟩ := e
      refine onPS_el (C := fun k => ES ((k, v) :: r) (kvT (⟨h0, key, val⟩ :: t)) ∧ Pairs (strKind prog w) (⟨h0, key, val⟩ :: t) (kvT (⟨h0, key, val⟩ :: t)) ∧ ∀ e ∈ (⟨h0, key, val⟩ :: t : List DictEntry), ∃ k t, e.key = .str k t) h fun l h => ?_
      refine onPI_el (C := fun v => ES ((.str l, v) :: r) (kvT (⟨h0, key, val⟩ :: t)) ∧ Pairs (strKind prog w) (⟨h0, key, val⟩ :: t) (kvT (⟨h0, key, val⟩ :: t)) ∧ ∀ e ∈ (⟨h0, key, val⟩ :: t : List DictEntry), ∃ k t, e.key = .str k t) h fun v h => ?_
      refine onXS_el (C := fun key => ES ((.str l, .int v) :: r) (kvT (⟨h0, key, val⟩ :: t)) ∧ Pairs (strKind prog w) (⟨h0, key, val⟩ :: t) (kvT (⟨h0, key, val⟩ :: t)) ∧ ∀ e ∈ (⟨h0, key, val⟩ :: t : List DictEntry), ∃ k t, e.key = .str k t) h fun s u h => ?_
      refine onXI_el (C := fun val => ES ((.str l, .int v) :: r) (kvT (⟨h0, .str s u, val⟩ :: t)) ∧ Pairs (strKind prog w) (⟨h0, .str s u, val⟩ :: t) (kvT (⟨h0, .str s u, val⟩ :: t)) ∧ ∀ e ∈ (⟨h0, .str s u, val⟩ :: t : List DictEntry), ∃ k t, e.key = .str k t) h fun v' u' h => ?_
      refine an h fun h1 h => an h fun h2 h4 => ?_
      cases of_decide_eq_true h1
      cases all2_beq h2
      have i := ih h4
      exact ⟨⟨rfl, rfl, i.1⟩, .cons (beq_self_eq_true s) rfl i.2.1, fun e he => (List.mem_cons.mp he).elim (fun e' => e' ▸ ⟨s, u, rfl⟩) (i.2.2 e)⟩
theorem dictT {prog : Program} {w : World} {es : List (PV × PV)} {ents : Array DictEntry} {ep : Nat} (h : chkT es ents.toList = true) (hk : ents.toList.map (·.hash) = ents.toList.map fun e => hashV w e.key) (hi : ndB (keysT ents.toList) = true) : DRel prog w es { cls := .type "dict", dict := none, data := .dict ents ep, slots := #[] } := by
  have hc := chkT_ok (prog := prog) (w := w) h
  refine .sk (kvT ents.toList) (fun h a e => ⟨_, ents, ep, e, ⟨rfl, rfl, rfl⟩, rfl, fun x hx => ?_, hc.2.1, ?_⟩) hc.1
  · have hx := Array.mem_toList_iff.mpr hx
    obtain ⟨k, t, e1⟩ := hc.2.2 x hx
    have e2 := List.map_inj_left.mp hk x hx
    rw [e1] at e2
    exact ⟨k, by rw [e1]; exact beq_self_eq_true k, e2⟩
  · rw [kvT_keys]; exact nodupS_nodup (by rw [← ndB_eq]; exact hi)
inductive AllIdx {α : Type} (Q : Nat → α → Prop) : Nat → List α → Prop
  | nil {n : Nat} : AllIdx Q n []
  | cons {n : Nat} {a : α} {l : List α} : Q n a → AllIdx Q (n + 1) l → AllIdx Q n (a :: l)
theorem AllIdx.at {α : Type} {Q : Nat → α → Prop} {n : Nat} {l : List α} (h : AllIdx Q n l) : ∀ f p, l[f]? = some p → Q (n + f) p := by
  induction h with
  | nil => exact fun f p e => nomatch e
  | cons h t ih =>
    intro f p e
    cases f with
    | zero => exact Option.some.inj e ▸ h
    | succ f => exact (Nat.succ_add_eq_add_succ _ f) ▸ ih f p e
theorem all_idx {α : Type} {Q : Nat → α → Prop} {l : List α} (h : AllIdx Q 0 l) : ∀ f p, l[f]? = some p → Q f p := fun f p e => Nat.zero_add f ▸ h.at f p e
inductive AllK (Q : Nat → PV → Prop) : List (Nat × PV) → Prop
  | nil : AllK Q []
  | cons {i : Nat} {v : PV} {l : List (Nat × PV)} : Q i v → AllK Q l → AllK Q ((i, v) :: l)
theorem all_k {Q : Nat → PV → Prop} {l : List (Nat × PV)} (h : AllK Q l) : ∀ i v, alook i l = some v → Q i v := by
  induction h with
  | nil => exact fun i p e => nomatch e
  | @cons j u l h t ih =>
    intro i p e
    unfold alook at e
    cases hb : Nat.beq j i with
    | true => rw [hb] at e; exact Option.some.inj e ▸ Nat.eq_of_beq_eq_true hb ▸ h
    | false => rw [hb] at e; exact ih i p e
section
variable {α : Type} {C : List α → Prop}
theorem len3_el (k : ∀ a b c, C [a, b, c]) : ∀ l : List α, l.length = 3 → C l := lenS_el fun a => len2_el (C := fun l => C (a :: l)) (k a)
theorem len4_el (k : ∀ a b c d, C [a, b, c, d]) : ∀ l : List α, l.length = 4 → C l := lenS_el fun a => len3_el (C := fun l => C (a :: l)) (k a)
theorem len5_el (k : ∀ a b c d e, C [a, b, c, d, e]) : ∀ l : List α, l.length = 5 → C l := lenS_el fun a => len4_el (C := fun l => C (a :: l)) (k a)
end
theorem startOk {cx : Cx} (hs : ∃ o, cx.h₀.get? sysModules = some o) : OkZ cx ⟨[], cx.h₀.get?, [], cx.h₀⟩ :=
  ⟨hs, rfl, fun _ _ e => e, fun _ _ e => e, fun n p h _ => by simp at h, fun n m a ⟨p, h, _⟩ => by simp at h⟩
theorem intsAre_vr {cx : Cx} {z : Z} : ∀ {vs : List Value} {ns : List Int}, IntsAre vs ns → VRs cx z (ns.map .int) vs
  | _, _, .nil => .nil
  | _, _, .cons n u h => .cons (.int n u) (intsAre_vr h)
noncomputable def cdict : Str := "__classdict__"
noncomputable def nmChk (l : List Str) : Bool := ndB l && l.all (fun x => !seqB x dbg && !seqB x cdict)
theorem nodup_getD : ∀ {l : List Str}, nodupS l = true → ∀ i j, i < l.length → j < l.length → l.getD i Str.empty = l.getD j Str.empty → i = j := by
  intro l h i j hi hj e
  have hn := nodupS_nodup h
  rw [List.getD_eq_getElem?_getD, List.getD_eq_getElem?_getD, List.getElem?_eq_getElem hi, List.getElem?_eq_getElem hj] at e
  exact (List.getElem_inj hn).mp e
theorem nmOk_of {cx : Cx} (h : nmChk cx.nm = true) : NmOk cx := by
  simp only [nmChk, Bool.and_eq_true, List.all_eq_true, Bool.not_eq_true'] at h
  have hm : ∀ i, i < cx.nm.length → cx.name i ∈ cx.nm := fun i hi => by
    unfold Cx.name
    rw [List.getD_eq_getElem?_getD, List.getElem?_eq_getElem hi]
    exact List.getElem_mem hi
  exact ⟨fun i j hi hj e => nodup_getD (by rw [← ndB_eq]; exact h.1) i j hi hj e, fun i hi => seqB_ne (h.2 _ (hm i hi)).1, fun i hi => seqB_ne (h.2 _ (hm i hi)).2⟩
end Mine
end
section
set_option backward.eqns.nonrecursive false
namespace Mine.L1
open Mine
noncomputable def f0 : List Nat × List PS := ([18, 19], [ .ifS (.cmp .Eq (.var 18) (.var 19)) [ .ret (.cint 0)] [], .ifS (.cmp .Eq (.meth .lower (.var 18) []) (.meth .lower (.var 19) [])) [ .ret (.glob 20)] [], .ret (.glob 21)])
noncomputable def f1 : List Nat × List PS := ([22, 23, 24], [ .ifS (.cmp .Eq (.var 22) (.var 23)) [ .ret (.cint 0)] [], .assign 25 (.cint 0), .whileS (.boolop true [(.slice (.var 22) (some (.var 25)) none none), (.slice (.var 23) (some (.var 25)) none none), (.cmp .Eq (.idx (.var 22) (.var 25)) (.idx (.var 23) (.var 25)))]) [ .aug 25 .Add (.cint 1)], .assign 22 (.slice (.var 22) (some (.var 25)) none none), .assign 23 (.slice (.var 23) (some (.var 25)) none none), .assign 26 (.cint 0), .whileS (.boolop true [(.slice (.var 22) none (some (.boolop false [(.var 26), .cnone])) none), (.slice (.var 23) none (some (.boolop false [(.var 26), .cnone])) none), (.cmp .Eq (.idx (.var 22) (.bin .Sub (.var 26) (.cint 1))) (.idx (.var 23) (.bin .Sub (.var 26) (.cint 1))))]) [ .aug 26 .Sub (.cint 1)], .assign 22 (.slice (.var 22) none (some (.boolop false [(.var 26), .cnone])) none), .assign 23 (.slice (.var 23) none (some (.boolop false [(.var 26), .cnone])) none), .ifS (.boolop false [(.not (.var 22)), (.not (.var 23))]) [ .ret (.bin .Mult (.glob 21) (.bin .Add (.bi .len [(.var 22)]) (.bi .len [(.var 23)])))] [], .ifS (.boolop false [(.cmp .Gt (.bi .len [(.var 22)]) (.glob 27)), (.cmp .Gt (.bi .len [(.var 23)]) (.glob 27))]) [ .ret (.bin .Add (.var 24) (.cint 1))] [], .ifS (.cmp .Lt (.bi .len [(.var 23)]) (.bi .len [(.var 22)])) [ .assignTup [22, 23] (.tuple [(.var 23), (.var 22)])] [], .ifS (.cmp .Gt (.bin .Mult (.bin .Sub (.bi .len [(.var 23)]) (.bi .len [(.var 22)])) (.glob 21)) (.var 24)) [ .ret (.bin .Add (.var 24) (.cint 1))] [], .assign 28 (.bi .list [(.bi .range [(.glob 21), (.bin .Mult (.glob 21) (.bin .Add (.bi .len [(.var 22)]) (.cint 1))), (.glob 21)])]), .assign 29 (.cint 0), .forS (.one 30) (.bi .range [(.bi .len [(.var 23)])]) [ .assign 31 (.idx (.var 23) (.var 30)), .assign2 32 29 (.bin .Mult (.var 30) (.glob 21)), .assign 33 (.cint 9223372036854775807), .forS (.one 34) (.bi .range [(.bi .len [(.var 22)])]) [ .assign 35 (.bin .Add (.var 32) (.call 0 [(.var 31), (.idx (.var 22) (.var 34))])), .assign 32 (.idx (.var 28) (.var 34)), .assign 36 (.bin .Add (.bi .min [(.var 29), (.var 32)]) (.glob 21)), .assign 29 (.bi .min [(.var 36), (.var 35)]), .setItem (.var 28) (.var 34) (.var 29), .ifS (.cmp .Lt (.var 29) (.var 33)) [ .assign 33 (.var 29)] []], .ifS (.cmp .Gt (.var 33) (.var 24)) [ .ret (.bin .Add (.var 24) (.cint 1))] []], .ret (.var 29)])
noncomputable def f2 : List Nat × List PS := ([37], [ .assign 23 (.bi .next [(.var 37)]), .assign 38 (.bin .BitAnd (.var 23) (.cint 63)), .whileS (.bin .BitAnd (.var 23) (.cint 64)) [ .aug 38 .LShift (.cint 6), .assign 23 (.bi .next [(.var 37)]), .aug 38 .BitOr (.bin .BitAnd (.var 23) (.cint 63))], .ret (.var 38)])
noncomputable def f3 : List Nat × List PS := ([39], [ .assign 41 (.meth .get (.glob 40) [(.bi .ord [(.var 39)])]), .ifS (.cmp .IsNot (.var 41) .cnone) [ .ret (.var 41)] [], .ret (.meth .lower (.var 39) [])])
noncomputable def f4 : List Nat × List PS := ([42], [ .ret (.cmp .GtE (.var 42) (.glob 43))])
noncomputable def f5 : List Nat × List PS := ([42], [ .ret (.cmp .Eq (.var 42) (.glob 44))])
noncomputable def f6 : List Nat × List PS := ([45], [ .assign 88 (.list [(.cint 4), (.cint 16), (.cint 21), (.cint 23), (.cint 0), (.cint 1), (.cint 2), (.cint 3), (.cint 0), (.cint 2)]), .assign 60 (.comp (.bin .Mod (.bin .Add (.idx (.var 88) (.var 50)) (.bi .sum [(.slice (.slice (.var 45) none (some (.cint 63)) none) (some (.var 50)) none (some (.cint 10)))])) (.bin .Pow (.cint 10) (.cint 6))) [((.one 50), (.bi .range [(.cint 10)]), [])] [45, 88]), .assign 89 (.newlist []), .forS (.one 42) (.slice (.var 60) none (some (.cint 4)) none) [ .assign 90 (.bin .Mod (.var 42) (.cint 37)), .whileS (.cmp .In (.var 90) (.var 89)) [ .assign 90 (.bin .Mod (.bin .Add (.var 90) (.cint 1)) (.cint 37))], .expr (.meth .append (.var 89) [(.var 90)])], .assign 91 (.call 7 []), .ret (.tuple [(.comp (.idx (.var 91) (.var 90)) [((.one 90), (.var 89), [])] [91]), (.comp (.bin .Mod (.var 42) (.cint 4)) [((.one 42), (.slice (.var 60) (some (.cint 4)) none none), [])] []), (.bin .Add (.cint 3) (.bin .Mod (.bin .FloorDiv (.idx (.var 60) (.cint 0)) (.cint 37)) (.cint 3)))])])
noncomputable def f7 : List Nat × List PS := ([], [ .assign 52 (.list [(.cint 13184), (.cint 13185), (.cint 13187), (.cint 13188), (.cint 13236), (.cint 13237), (.cint 13239), (.cint 13240), (.cint 13242), (.cint 13243), (.cint 13245), (.cint 13246), (.cint 13225), (.cint 13241), (.cint 13247)]), .assign 92 (.meth .split (.cstr [112, 97, 32, 110, 97, 32, 109, 97, 32, 107, 97, 32, 112, 118, 32, 110, 118, 32, 109, 118, 32, 107, 118, 32, 112, 119, 32, 110, 119, 32, 109, 119, 32, 107, 119, 32, 112, 97, 32, 109, 118, 32, 109, 119]) []), .assign 93 (.meth .split (.cstr [61, 61, 32, 33, 61, 32, 60, 61, 32, 62, 61, 32, 126, 32, 94, 32, 60, 60, 32, 62, 62, 32, 42, 42, 32, 43, 61, 32, 45, 61, 32, 42, 61, 32, 47, 61, 32, 37, 61, 32, 38, 61, 32, 124, 61, 32, 94, 61, 32, 60, 60, 61, 32, 62, 62, 61, 32, 42, 42, 61, 32, 47, 47, 32, 47, 47, 61, 32, 64, 32, 64, 61, 32, 45, 62]) []), .assign 94 (.comp (.tuple [(.bin .Add (.bin .Mult (.cint 65536) (.bi .ord [(.idx (.var 83) (.cint 0))])) (.bi .ord [(.idx (.var 83) (.cint 1))])), (.meth .lower (.var 83) [])]) [((.one 83), (.list [(.cstr [80, 65]), (.cstr [78, 86]), (.cstr [75, 87]), (.cstr [77, 65])]), [])] []), .ret (.bin .Add (.bin .Add (.bi .zip [(.var 52), (.var 92)]) (.var 94)) (.comp (.tuple [(.bin .Add (.cint 27) (.var 50)), (.idx (.var 93) (.var 50))]) [((.one 50), (.bi .range [(.cint 25)]), [(.cmp .Eq (.bi .len [(.idx (.var 93) (.var 50))]) (.cint 2))])] [93]))])
noncomputable def f8 : List Nat × List PS := ([65], [ .assign 28 (.newlist [(.bin .Mod (.var 65) (.cint 64))]), .whileS (.cmp .Gt (.var 65) (.cint 63)) [ .aug 65 .FloorDiv (.cint 64), .expr (.meth .insert (.var 28) [(.cint 0), (.bin .Add (.bin .Mod (.var 65) (.cint 64)) (.cint 64))])], .augItem (.var 28) (.cint 0) .Add (.cint 128), .ret (.var 28)])
noncomputable def f9 : List Nat × List PS := ([66], [ .assign 95 (.dcomp (.idx (.glob 67) (.var 83)) (.var 83) [((.one 83), (.glob 67), [])] []), .assign 96 (.newlist []), .assign 65 (.call 2 [(.var 66)]), .whileS (.cmp .Is (.call 5 [(.var 65)]) (.cbool false)) [ .ifS (.cmp .Is (.call 4 [(.var 65)]) (.cbool true)) [ .assign 93 (.comp (.bi .chr [(.var 97)]) [((.one 97), (.list [(.bin .FloorDiv (.var 65) (.cint 65536)), (.bin .Mod (.var 65) (.cint 65536))]), [(.cmp .Gt (.var 97) (.cint 0))])] []), .expr (.meth .append (.var 96) [(.tuple [(.var 65), (.meth .join (.cstr []) [(.comp (.call 3 [(.var 63)]) [((.one 63), (.var 93), [])] [])])])])] [ .expr (.meth .append (.var 96) [(.tuple [(.var 65), (.idx (.var 95) (.var 65))])])], .assign 65 (.call 2 [(.var 66)])], .ret (.var 96)])
noncomputable def f10 : List Nat × List PS := ([28, 98], [ .assign 99 (.newlist []), .forS (.one 50) (.bi .range [(.bi .len [(.var 28)])]) [ .expr (.meth .append (.var 99) [(.bin .Add (.cint 1) (.bi .max [(.bin .Add (.list [(.cint 0)]) (.comp (.idx (.var 99) (.var 77)) [((.one 77), (.bi .range [(.var 50)]), [(.cmp .Lt (.idx (.idx (.var 98) (.idx (.var 28) (.var 77))) (.idx (.var 28) (.var 50))) (.cint 4))])] [28, 50, 98, 99]))]))])], .ret (.var 99)])
noncomputable def f11 : List Nat × List PS := ([28, 91], [ .assign 46 (.newdict [] []), .assign 47 (.newdict [] []), .assign 100 (.newlist []), .forS (.one 50) (.var 28) [ .assign 83 (.idx (.idx (.var 91) (.var 50)) (.cint 1)), .assign 101 (.bin .Add (.cint 1) (.bi .max [(.meth .get (.var 46) [(.idx (.var 83) (.cint 0)), (.cint 0)]), (.meth .get (.var 47) [(.idx (.var 83) (.cint 1)), (.cint 0)])])), .setItem (.var 46) (.idx (.var 83) (.cint 0)) (.var 101), .setItem (.var 47) (.idx (.var 83) (.cint 1)) (.var 101), .expr (.meth .append (.var 100) [(.tuple [(.var 101), (.var 83)])])], .ret (.var 100)])
noncomputable def f12 : List Nat × List PS := ([91], [ .assign 102 (.comp (.comp (.boolop true [(.cmp .NotEq (.idx (.idx (.var 72) (.cint 1)) (.cint 0)) (.idx (.idx (.var 73) (.cint 1)) (.cint 0))), (.cmp .NotEq (.idx (.idx (.var 72) (.cint 1)) (.cint 1)) (.idx (.idx (.var 73) (.cint 1)) (.cint 1)))]) [((.one 73), (.var 91), [])] [72]) [((.one 72), (.var 91), [])] [91]), .assign 103 (.comp (.tuple [(.var 76), (.var 77)]) [((.one 76), (.bi .range [(.cint 4)]), []), ((.one 77), (.bi .range [(.var 76)]), [(.idx (.idx (.var 102) (.var 76)) (.var 77))])] [102]), .assign 104 (.comp (.tuple [(.var 76), (.var 77), (.var 50)]) [((.tup [76, 77]), (.var 103), []), ((.one 50), (.bi .range [(.var 77)]), [(.boolop true [(.idx (.idx (.var 102) (.var 76)) (.var 50)), (.idx (.idx (.var 102) (.var 77)) (.var 50))])])] [102]), .ret (.bin .Add (.bin .Sub (.cint 64) (.bin .Mult (.cint 8) (.bi .len [(.var 103)]))) (.bi .len [(.var 104)]))])
noncomputable def f13 : List Nat × List PS := ([45], [ .assignTup [91, 28, 105] (.call 6 [(.var 45)]), .assign 82 (.newlist []), .forS (.one 65) (.bin .Add (.bin .Add (.bin .Add (.comp (.idx (.var 106) (.cint 0)) [((.one 106), (.var 91), [])] []) (.list [(.cint 0)])) (.comp (.idx (.idx (.var 91) (.var 50)) (.cint 0)) [((.one 50), (.var 28), [])] [91])) (.list [(.cint 0)])) [ .expr (.meth .extend (.var 82) [(.call 8 [(.var 65)])])], .assign 66 (.bi .iter [(.var 82)]), .assign 107 (.call 9 [(.var 66)]), .assign 96 (.call 9 [(.var 66)]), .assign 98 (.comp (.comp (.call 1 [(.idx (.var 72) (.cint 1)), (.idx (.var 73) (.cint 1)), (.var 105)]) [((.one 73), (.var 107), [])] [72, 105]) [((.one 72), (.var 107), [])] [105, 107]), .assign 60 (.comp (.idx (.var 108) (.cint 0)) [((.one 108), (.var 107), [])] []), .assign 89 (.comp (.meth .index (.var 60) [(.idx (.var 108) (.cint 0))]) [((.one 108), (.var 96), [])] [60]), .assign 99 (.call 10 [(.var 89), (.var 98)]), .ifS (.cmp .NotEq (.comp (.tuple [(.idx (.var 99) (.var 50)), (.idx (.idx (.var 96) (.var 50)) (.cint 1))]) [((.one 50), (.bi .range [(.bi .len [(.var 96)])]), [])] [96, 99]) (.call 11 [(.var 28), (.var 91)])) [ .ret (.cbool false)] [], .assign 95 (.comp (.idx (.idx (.var 91) (.var 50)) (.cint 1)) [((.one 50), (.var 28), [])] [91]), .assign 100 (.comp (.bin .Add (.bin .Mult (.cint 2) (.cmp .NotEq (.idx (.idx (.var 95) (.var 50)) (.cint 0)) (.idx (.idx (.var 95) (.bin .Add (.var 50) (.cint 1))) (.cint 0)))) (.bin .Mult (.cint 2) (.cmp .NotEq (.idx (.idx (.var 95) (.var 50)) (.cint 1)) (.idx (.idx (.var 95) (.bin .Add (.var 50) (.cint 1))) (.cint 1))))) [((.one 50), (.bi .range [(.cint 5)]), [])] [95]), .ifS (.cmp .NotEq (.comp (.idx (.idx (.var 98) (.idx (.var 89) (.var 50))) (.idx (.var 89) (.bin .Add (.var 50) (.cint 1)))) [((.one 50), (.bi .range [(.cint 5)]), [])] [89, 98]) (.var 100)) [ .ret (.cbool false)] [], .assign 109 (.bi .set []), .forS (.one 65) (.bi .range [(.cint 64)]) [ .assign 61 (.list [(.bin .Mod (.var 65) (.cint 4)), (.bin .Mod (.bin .FloorDiv (.var 65) (.cint 4)) (.cint 4)), (.bin .FloorDiv (.var 65) (.cint 16))]), .assign 110 (.call 10 [(.var 61), (.var 98)]), .expr (.meth .add (.var 109) [(.bi .sum [(.comp (.bin .Pow (.cint 2) (.bin .Add (.bin .Mult (.cint 4) (.idx (.var 110) (.var 77))) (.idx (.var 61) (.var 77)))) [((.one 77), (.bi .range [(.cint 3)]), [])] [61, 110])])])], .ret (.cmp .Eq (.bi .len [(.var 109)]) (.call 12 [(.var 91)]))])
noncomputable def Fl : List (List Nat × List PS) := [f0, f1, f2, f3, f4, f5, f6, f7, f8, f9, f10, f11, f12, f13]
noncomputable def F (f : Nat) : Option (List Nat × List PS) := Fl[f]?
noncomputable def names : List String := ["_substitution_cost", "_levenshtein_distance", "_parse_varint", "map_table_b3", "ISNONTERMINAL", "ISEOF", "_law_draw", "_law_kinds", "_law_octets", "_law_read", "_law_levels", "_law_told_heap", "_law_told_count", "law", "_law_part", "_law_join", "_law_told", "spare17", "ch_a", "ch_b", "_CASE_COST", "_MOVE_COST", "a", "b", "max_cost", "pre", "post", "_MAX_STRING_SIZE", "row", "result", "bindex", "bchar", "distance", "minimum", "index", "substitute", "insert_delete", "iterator", "val", "code", "b3_exceptions", "r", "x", "NT_OFFSET", "ENDMARKER", "script", "first", "second", "third", "fourth", "k", "typed", "codes", "words", "figures", "marks", "parts", "shape", "inner", "outer", "numbers", "word", "mark", "sign", "rows", "number", "reader", "EXACT_TOKEN_TYPES", "meaning", "pile", "right", "left", "one", "two", "stretch", "letter", "i", "j", "nothing", "table", "again", "three", "tape", "text", "asked", "end", "least", "below", "starts", "places", "place", "kinds", "units", "signs", "capitals", "texts", "pieces", "half", "apart", "levels", "told", "level", "free", "pairs", "triples", "bound", "kind", "known", "piece", "heaps", "heights"]
noncomputable def g40e : List (PV × PV) := Mine.H1.items.map fun i => (.int i.k, .str i.s.cps.toList)
noncomputable def g40 : PV := .dict g40e
noncomputable def g44 : PV := .int 0
noncomputable def g43 : PV := .int 256
noncomputable def g67e : List (PV × PV) := [(.str [33], .int 54), (.str [33, 61], .int 28), (.str [37], .int 24), (.str [37, 61], .int 40), (.str [38], .int 19), (.str [38, 61], .int 41), (.str [40], .int 7), (.str [41], .int 8), (.str [42], .int 16), (.str [42, 42], .int 35), (.str [42, 42, 61], .int 46), (.str [42, 61], .int 38), (.str [43], .int 14), (.str [43, 61], .int 36), (.str [44], .int 12), (.str [45], .int 15), (.str [45, 61], .int 37), (.str [45, 62], .int 51), (.str [46], .int 23), (.str [46, 46, 46], .int 52), (.str [47], .int 17), (.str [47, 47], .int 47), (.str [47, 47, 61], .int 48), (.str [47, 61], .int 39), (.str [58], .int 11), (.str [58, 61], .int 53), (.str [59], .int 13), (.str [60], .int 20), (.str [60, 60], .int 33), (.str [60, 60, 61], .int 44), (.str [60, 61], .int 29), (.str [61], .int 22), (.str [61, 61], .int 27), (.str [62], .int 21), (.str [62, 61], .int 30), (.str [62, 62], .int 34), (.str [62, 62, 61], .int 45), (.str [64], .int 49), (.str [64, 61], .int 50), (.str [91], .int 9), (.str [93], .int 10), (.str [94], .int 32), (.str [94, 61], .int 43), (.str [123], .int 25), (.str [124], .int 18), (.str [124, 61], .int 42), (.str [125], .int 26), (.str [126], .int 31)]
noncomputable def g67 : PV := .dict g67e
noncomputable def g27 : PV := .int 40
noncomputable def g21 : PV := .int 2
noncomputable def g20 : PV := .int 1
noncomputable def Gl : List (Nat × PV) := [(40, g40), (44, g44), (43, g43), (67, g67), (27, g27), (21, g21), (20, g20)]
noncomputable def G (i : Nat) : Option PV := alook i Gl
noncomputable def P : PProg := ⟨G, F⟩
end Mine.L1
end
section
set_option maxRecDepth 100000
set_option maxHeartbeats 0
namespace Mine.J1
open PySem PySem.W Mine.H1 Mine.Hd
open PyProof.Rows (IntsAre)
noncomputable def nms : List Str := [(Str.ofString "_substitution_cost"), (Str.ofString "_levenshtein_distance"), (Str.ofString "_parse_varint"), (Str.ofString "map_table_b3"), (Str.ofString "ISNONTERMINAL"), (Str.ofString "ISEOF"), (Str.ofString "_law_draw"), (Str.ofString "_law_kinds"), (Str.ofString "_law_octets"), (Str.ofString "_law_read"), (Str.ofString "_law_levels"), (Str.ofString "_law_told_heap"), (Str.ofString "_law_told_count"), (Str.ofString "law"), (Str.ofString "_law_part"), (Str.ofString "_law_join"), (Str.ofString "_law_told"), (Str.ofString "spare17"), (Str.ofString "ch_a"), (Str.ofString "ch_b"), (Str.ofString "_CASE_COST"), (Str.ofString "_MOVE_COST"), (Str.ofString "a"), (Str.ofString "b"), (Str.ofString "max_cost"), (Str.ofString "pre"), (Str.ofString "post"), (Str.ofString "_MAX_STRING_SIZE"), (Str.ofString "row"), (Str.ofString "result"), (Str.ofString "bindex"), (Str.ofString "bchar"), (Str.ofString "distance"), (Str.ofString "minimum"), (Str.ofString "index"), (Str.ofString "substitute"), (Str.ofString "insert_delete"), (Str.ofString "iterator"), (Str.ofString "val"), (Str.ofString "code"), (Str.ofString "b3_exceptions"), (Str.ofString "r"), (Str.ofString "x"), (Str.ofString "NT_OFFSET"), (Str.ofString "ENDMARKER"), (Str.ofString "script"), (Str.ofString "first"), (Str.ofString "second"), (Str.ofString "third"), (Str.ofString "fourth"), (Str.ofString "k"), (Str.ofString "typed"), (Str.ofString "codes"), (Str.ofString "words"), (Str.ofString "figures"), (Str.ofString "marks"), (Str.ofString "parts"), (Str.ofString "shape"), (Str.ofString "inner"), (Str.ofString "outer"), (Str.ofString "numbers"), (Str.ofString "word"), (Str.ofString "mark"), (Str.ofString "sign"), (Str.ofString "rows"), (Str.ofString "number"), (Str.ofString "reader"), (Str.ofString "EXACT_TOKEN_TYPES"), (Str.ofString "meaning"), (Str.ofString "pile"), (Str.ofString "right"), (Str.ofString "left"), (Str.ofString "one"), (Str.ofString "two"), (Str.ofString "stretch"), (Str.ofString "letter"), (Str.ofString "i"), (Str.ofString "j"), (Str.ofString "nothing"), (Str.ofString "table"), (Str.ofString "again"), (Str.ofString "three"), (Str.ofString "tape"), (Str.ofString "text"), (Str.ofString "asked"), (Str.ofString "end"), (Str.ofString "least"), (Str.ofString "below"), (Str.ofString "starts"), (Str.ofString "places"), (Str.ofString "place"), (Str.ofString "kinds"), (Str.ofString "units"), (Str.ofString "signs"), (Str.ofString "capitals"), (Str.ofString "texts"), (Str.ofString "pieces"), (Str.ofString "half"), (Str.ofString "apart"), (Str.ofString "levels"), (Str.ofString "told"), (Str.ofString "level"), (Str.ofString "free"), (Str.ofString "pairs"), (Str.ofString "triples"), (Str.ofString "bound"), (Str.ofString "kind"), (Str.ofString "known"), (Str.ofString "piece"), (Str.ofString "heaps"), (Str.ofString "heights")]
noncomputable def fa (f : Nat) : Addr := [91, 98, 67, 60, 77, 84, 108, 103, 115, 120, 125, 132, 137, 142].getD f 0
noncomputable def cx (w : World) (h : Heap) : Cx := ⟨row.prog, w, h, nms, 3, 0, fa⟩
section
variable {w : World} {h : Heap}
theorem nmk : nmChk nms = true := by kernel_rfl
theorem fn0 (X : (K w.params).In h) : ∃ fd o body', FnOk (cx w h) 0 L1.f0.1 L1.f0.2 fd o body' :=
  ⟨_, _, _, fnOk_of (cx := cx w h) (f := 0) (ps := L1.f0.1) (body := L1.f0.2) (o := (o91_50 w.params)) (oc := (o90_49 w.params)) (c := 90) (by kernel_rfl) (X 91 _ (by kernel_rfl)) rfl rfl rfl rfl rfl rfl (X 90 _ (by kernel_rfl)) rfl rfl
    (by apply len2_el; intro a b; rfl)⟩
theorem fn1 (X : (K w.params).In h) : ∃ fd o body', FnOk (cx w h) 1 L1.f1.1 L1.f1.2 fd o body' :=
  ⟨_, _, _, fnOk_of (cx := cx w h) (f := 1) (ps := L1.f1.1) (body := L1.f1.2) (o := (o98_57 w.params)) (oc := (o97_56 w.params)) (c := 97) (by kernel_rfl) (X 98 _ (by kernel_rfl)) rfl rfl rfl rfl rfl rfl (X 97 _ (by kernel_rfl)) rfl rfl
    (by apply len3_el; intro a b c; rfl)⟩
theorem fn2 (X : (K w.params).In h) : ∃ fd o body', FnOk (cx w h) 2 L1.f2.1 L1.f2.2 fd o body' :=
  ⟨_, _, _, fnOk_of (cx := cx w h) (f := 2) (ps := L1.f2.1) (body := L1.f2.2) (o := (o67_22 w.params)) (oc := (o66_21 w.params)) (c := 66) (by kernel_rfl) (X 67 _ (by kernel_rfl)) rfl rfl rfl rfl rfl rfl (X 66 _ (by kernel_rfl)) rfl rfl
    (by apply len1_el; intro a; rfl)⟩
theorem fn3 (X : (K w.params).In h) : ∃ fd o body', FnOk (cx w h) 3 L1.f3.1 L1.f3.2 fd o body' :=
  ⟨_, _, _, fnOk_of (cx := cx w h) (f := 3) (ps := L1.f3.1) (body := L1.f3.2) (o := (o60_15 w.params)) (oc := (o59_14 w.params)) (c := 59) (by kernel_rfl) (X 60 _ (by kernel_rfl)) rfl rfl rfl rfl rfl rfl (X 59 _ (by kernel_rfl)) rfl rfl
    (by apply len1_el; intro a; rfl)⟩
theorem fn4 (X : (K w.params).In h) : ∃ fd o body', FnOk (cx w h) 4 L1.f4.1 L1.f4.2 fd o body' :=
  ⟨_, _, _, fnOk_of (cx := cx w h) (f := 4) (ps := L1.f4.1) (body := L1.f4.2) (o := (o77_36 w.params)) (oc := (o76_35 w.params)) (c := 76) (by kernel_rfl) (X 77 _ (by kernel_rfl)) rfl rfl rfl rfl rfl rfl (X 76 _ (by kernel_rfl)) rfl rfl
    (by apply len1_el; intro a; rfl)⟩
theorem fn5 (X : (K w.params).In h) : ∃ fd o body', FnOk (cx w h) 5 L1.f5.1 L1.f5.2 fd o body' :=
  ⟨_, _, _, fnOk_of (cx := cx w h) (f := 5) (ps := L1.f5.1) (body := L1.f5.2) (o := (o84_43 w.params)) (oc := (o83_42 w.params)) (c := 83) (by kernel_rfl) (X 84 _ (by kernel_rfl)) rfl rfl rfl rfl rfl rfl (X 83 _ (by kernel_rfl)) rfl rfl
    (by apply len1_el; intro a; rfl)⟩
theorem fn6 (X : (K w.params).In h) : ∃ fd o body', FnOk (cx w h) 6 L1.f6.1 L1.f6.2 fd o body' :=
  ⟨_, _, _, fnOk_of (cx := cx w h) (f := 6) (ps := L1.f6.1) (body := L1.f6.2) (o := (o108_67 w.params)) (oc := (o107_66 w.params)) (c := 107) (by kernel_rfl) (X 108 _ (by kernel_rfl)) rfl rfl rfl rfl rfl rfl (X 107 _ (by kernel_rfl)) rfl rfl
    (by apply len1_el; intro a; rfl)⟩
theorem fn7 (X : (K w.params).In h) : ∃ fd o body', FnOk (cx w h) 7 L1.f7.1 L1.f7.2 fd o body' :=
  ⟨_, _, _, fnOk_of (cx := cx w h) (f := 7) (ps := L1.f7.1) (body := L1.f7.2) (o := (o103_62 w.params)) (oc := (o102_61 w.params)) (c := 102) (by kernel_rfl) (X 103 _ (by kernel_rfl)) rfl rfl rfl rfl rfl rfl (X 102 _ (by kernel_rfl)) rfl rfl
    (by apply len0_el; rfl)⟩
theorem fn8 (X : (K w.params).In h) : ∃ fd o body', FnOk (cx w h) 8 L1.f8.1 L1.f8.2 fd o body' :=
  ⟨_, _, _, fnOk_of (cx := cx w h) (f := 8) (ps := L1.f8.1) (body := L1.f8.2) (o := (o115_74 w.params)) (oc := (o114_73 w.params)) (c := 114) (by kernel_rfl) (X 115 _ (by kernel_rfl)) rfl rfl rfl rfl rfl rfl (X 114 _ (by kernel_rfl)) rfl rfl
    (by apply len1_el; intro a; rfl)⟩
theorem fn9 (X : (K w.params).In h) : ∃ fd o body', FnOk (cx w h) 9 L1.f9.1 L1.f9.2 fd o body' :=
  ⟨_, _, _, fnOk_of (cx := cx w h) (f := 9) (ps := L1.f9.1) (body := L1.f9.2) (o := (o120_79 w.params)) (oc := (o119_78 w.params)) (c := 119) (by kernel_rfl) (X 120 _ (by kernel_rfl)) rfl rfl rfl rfl rfl rfl (X 119 _ (by kernel_rfl)) rfl rfl
    (by apply len1_el; intro a; rfl)⟩
theorem fn10 (X : (K w.params).In h) : ∃ fd o body', FnOk (cx w h) 10 L1.f10.1 L1.f10.2 fd o body' :=
  ⟨_, _, _, fnOk_of (cx := cx w h) (f := 10) (ps := L1.f10.1) (body := L1.f10.2) (o := (o125_86 w.params)) (oc := (o124_85 w.params)) (c := 124) (by kernel_rfl) (X 125 _ (by kernel_rfl)) rfl rfl rfl rfl rfl rfl (X 124 _ (by kernel_rfl)) rfl rfl
    (by apply len2_el; intro a b; rfl)⟩
theorem fn11 (X : (K w.params).In h) : ∃ fd o body', FnOk (cx w h) 11 L1.f11.1 L1.f11.2 fd o body' :=
  ⟨_, _, _, fnOk_of (cx := cx w h) (f := 11) (ps := L1.f11.1) (body := L1.f11.2) (o := (o132_93 w.params)) (oc := (o131_92 w.params)) (c := 131) (by kernel_rfl) (X 132 _ (by kernel_rfl)) rfl rfl rfl rfl rfl rfl (X 131 _ (by kernel_rfl)) rfl rfl
    (by apply len2_el; intro a b; rfl)⟩
theorem fn12 (X : (K w.params).In h) : ∃ fd o body', FnOk (cx w h) 12 L1.f12.1 L1.f12.2 fd o body' :=
  ⟨_, _, _, fnOk_of (cx := cx w h) (f := 12) (ps := L1.f12.1) (body := L1.f12.2) (o := (o137_98 w.params)) (oc := (o136_97 w.params)) (c := 136) (by kernel_rfl) (X 137 _ (by kernel_rfl)) rfl rfl rfl rfl rfl rfl (X 136 _ (by kernel_rfl)) rfl rfl
    (by apply len1_el; intro a; rfl)⟩
theorem fn13 (X : (K w.params).In h) : ∃ fd o body', FnOk (cx w h) 13 L1.f13.1 L1.f13.2 fd o body' :=
  ⟨_, _, _, fnOk_of (cx := cx w h) (f := 13) (ps := L1.f13.1) (body := L1.f13.2) (o := (o142_103 w.params)) (oc := (o141_102 w.params)) (c := 141) (by kernel_rfl) (X 142 _ (by kernel_rfl)) rfl rfl rfl rfl rfl rfl (X 141 _ (by kernel_rfl)) rfl rfl
    (by apply len1_el; intro a; rfl)⟩
theorem fns (X : (K w.params).In h) : ∀ f p, L1.Fl[f]? = some p → ∃ fd o body', FnOk (cx w h) f p.1 p.2 fd o body' :=
  all_idx (.cons (fn0 X) (.cons (fn1 X) (.cons (fn2 X) (.cons (fn3 X) (.cons (fn4 X) (.cons (fn5 X) (.cons (fn6 X) (.cons (fn7 X) (.cons (fn8 X) (.cons (fn9 X) (.cons (fn10 X) (.cons (fn11 X) (.cons (fn12 X) (.cons (fn13 X) (.nil)))))))))))))))
theorem mgs (X : (K w.params).In h) {mg : Str → Option Value} (hg : h.Ns mainGlobals mg) : ∀ f p, L1.Fl[f]? = some p → mg ((cx w h).name f) = some (.ref (fa f)) :=
  all_idx (.cons (mg_of X hg (by kernel_rfl)) (.cons (mg_of X hg (by kernel_rfl)) (.cons (mg_of X hg (by kernel_rfl)) (.cons (mg_of X hg (by kernel_rfl)) (.cons (mg_of X hg (by kernel_rfl)) (.cons (mg_of X hg (by kernel_rfl)) (.cons (mg_of X hg (by kernel_rfl)) (.cons (mg_of X hg (by kernel_rfl)) (.cons (mg_of X hg (by kernel_rfl)) (.cons (mg_of X hg (by kernel_rfl)) (.cons (mg_of X hg (by kernel_rfl)) (.cons (mg_of X hg (by kernel_rfl)) (.cons (mg_of X hg (by kernel_rfl)) (.cons (mg_of X hg (by kernel_rfl)) (.nil)))))))))))))))
theorem dic40 (prog : Program) (w : World) : DRel prog w L1.g40e (d0) :=
  dictI (by kernel_rfl) (by kernel_rfl)
theorem dic67 (prog : Program) (w : World) : DRel prog w L1.g67e (o68_25 w.params) :=
  dictT (by kernel_rfl) (by kernel_rfl) (by kernel_rfl)
theorem gls (X : (K w.params).In h) {mg : Str → Option Value} (hg : h.Ns mainGlobals mg) : ∀ i v, alook i L1.Gl = some v → ∃ x, mg ((cx w h).name i) = some x ∧ ∀ σ (B : Addr → Option Obj), (∀ a o, h.get? a = some o → B a = some o) → VRel row.prog w σ B v x :=
  all_k (
    .cons ⟨.ref 15, mg_of X hg (by kernel_rfl), fun _ _ hB => .dict (hB 15 _ (X 15 (d0) (by kernel_rfl))) (dic40 _ w) (by decide)⟩ (
    .cons ⟨(.int 0 2161), mg_of X hg (by kernel_rfl), fun _ _ _ => .int _ _⟩ (
    .cons ⟨(.int 256 2259), mg_of X hg (by kernel_rfl), fun _ _ _ => .int _ _⟩ (
    .cons ⟨.ref 68, mg_of X hg (by kernel_rfl), fun _ _ hB => .dict (hB 68 _ (X 68 (o68_25 w.params) (by kernel_rfl))) (dic67 _ w) (by decide)⟩ (
    .cons ⟨(.int 40 2374), mg_of X hg (by kernel_rfl), fun _ _ _ => .int _ _⟩ (
    .cons ⟨(.int 2 2376), mg_of X hg (by kernel_rfl), fun _ _ _ => .int _ _⟩ (
    .cons ⟨(.int 1 2378), mg_of X hg (by kernel_rfl), fun _ _ _ => .int _ _⟩ (
    .nil))))))))
theorem bis (X : (K w.params).In h) {mg mb : Str → Option Value} (hg : h.Ns mainGlobals mg) (hbv : ∀ x : Str, x ≠ "__name__" → mb x = bootBuiltins x) (b : BI) : mg (biNm b) = none ∧ mb (biNm b) = some (biVal b) := by
  have hd : nsIn (K w.params) mainGlobals (biNm b) = some none := by cases b <;> kernel_rfl
  have hn : biNm b ≠ "__name__" := by cases b <;> decide
  exact ⟨ns_none_of X hg hd, (hbv _ hn).trans (by cases b <;> kernel_rfl)⟩
theorem glob (X : (K w.params).In h) {mg mb : Str → Option Value} (hg : h.Ns mainGlobals mg) (hb : h.Ns builtinsNs mb) (hbv : ∀ x : Str, x ≠ "__name__" → mb x = bootBuiltins x) (hl : h.NoLimit) : Glob (cx w h) L1.P where
  nm := nmOk_of (cx := cx w h) nmk
  lim := hl
  ns := ⟨mg, mb, hg, hb, bis X hg hbv, gls X hg, fun f p e => ⟨mgs X hg f p e, (fns X f p e).elim fun fd h => h.elim fun o h => h.elim fun _ h => ⟨o, fd, h.obj, h.data⟩⟩⟩
end
end Mine.J1
end
section
set_option backward.eqns.nonrecursive false
namespace Mine
section
variable {P : PProg} {n : Nat} {e : PE} {env : PEnv} {st : Store}
theorem eE : (ev P (n + 1)).E e env st = stepE P (ev P n).E (ev P n).C e env st := id rfl
theorem eS {b : List PS} : (ev P (n + 1)).S b env st = stepS (ev P n).E (ev P n).S b env st := id rfl
theorem eC {f : Nat} {vs : List PV} : (ev P (n + 1)).C f vs st = stepC P (ev P n).S f vs st := id rfl
end
theorem get_set' (penv : PEnv) (i : Nat) (v : PV) (j : Nat) : (PEnv.set penv i v).get j = if j = i then some v else penv.get j := by
  induction penv with
  | nil =>
    by_cases h : j = i
    · subst h; simp [PEnv.set, PEnv.get]
    · have : Nat.beq i j = false := by rw [Bool.eq_false_iff]; intro e; exact h (Nat.eq_of_beq_eq_true e).symm
      simp [PEnv.set, PEnv.get, h, this]
  | cons p r ih =>
    obtain ⟨k, u⟩ := p
    by_cases hki : k = i
    · subst hki
      by_cases h : j = k
      · subst h; simp [PEnv.set, PEnv.get]
      · have : Nat.beq k j = false := by rw [Bool.eq_false_iff]; intro e; exact h (Nat.eq_of_beq_eq_true e).symm
        simp [PEnv.set, PEnv.get, h, this]
    · have h1 : Nat.beq k i = false := by rw [Bool.eq_false_iff]; intro e; exact hki (Nat.eq_of_beq_eq_true e)
      by_cases h : k = j
      · subst h; simp [PEnv.set, PEnv.get, h1, hki]
      · have h2 : Nat.beq k j = false := by rw [Bool.eq_false_iff]; intro e; exact h (Nat.eq_of_beq_eq_true e)
        simp only [PEnv.set, h1, cond_false, PEnv.get, h2]; exact ih
noncomputable def sub (a b : Nat) : Nat := if a = b then 0 else if lowC a = lowC b then 1 else 2
section
variable {st : Store}
theorem rd_str (l : List Nat) : rd st (.str l) = .str l := id rfl
theorem rd_int (i : Int) : rd st (.int i) = .int i := id rfl
theorem rd_list (l : List PV) : rd st (.list l) = .list l := id rfl
theorem rd_dict (l : List (PV × PV)) : rd st (.dict l) = .dict l := id rfl
theorem rd_tuple (l : List PV) : rd st (.tuple l) = .tuple l := id rfl
theorem rd_none : rd st .none = .none := id rfl
theorem rd_bool (b : Bool) : rd st (.bool b) = .bool b := id rfl
theorem rd_ref {n : Nat} {xs : List PV} (h : st[n]? = some (.list xs)) : rd st (.ref n) = .list xs := by simp only [rd, h]
theorem rd_refd {n : Nat} {xs : List (PV × PV)} (h : st[n]? = some (.dict xs)) : rd st (.ref n) = .dict xs := by simp only [rd, h]
end
theorem nb (a b : Nat) : Nat.beq a b = decide (a = b) := by
  by_cases h : a = b
  · subst h; simp
  · rw [decide_eq_false h, Bool.eq_false_iff]; exact fun e => h (Nat.eq_of_beq_eq_true e)
theorem bif_t {α : Type} (a b : α) : (bif true then a else b) = a := id rfl
theorem bif_f {α : Type} (a b : α) : (bif false then a else b) = b := id rfl
theorem low_one {a : Nat} (ha : a < 128) : plower [a] = some [lowC a] := by
  unfold plower
  simp [ha, lim]
theorem min2_c (a b : Int) (st : Store) : pbi .min [.int a, .int b] st = some (.int (min a b), st) := id rfl
theorem sub_def : L1.P.F 0 = some L1.f0 := id rfl
theorem G21 : L1.P.G 21 = some (.int 2) := id rfl
theorem G20 : L1.P.G 20 = some (.int 1) := id rfl
theorem sub_c (n : Nat) (st : Store) (a b : Nat) (ha : a < 128) (hb : b < 128) : (ev L1.P (n + 8)).C 0 [.str [a], .str [b]] st = some (.int (sub a b), st) := by
  by_cases h : a = b
  · subst h
    simp [eC, stepC, sub_def, L1.f0, bindAll, PEnv.set, nb, eS, eE, stepS, stepS1, stepE, evTest, PEnv.get, pcmp, PV.eqv, eqF, rd_str, truthyV, sub, freeze]
  · have h' : (a == b) = false := by simpa using h
    by_cases h2 : lowC a = lowC b
    · have h2' : (lowC a == lowC b) = true := by simpa using h2
      simp [eC, stepC, sub_def, L1.f0, bindAll, PEnv.set, nb, eS, eE, stepS, stepS1, stepE, evTest, PEnv.get, pcmp, PV.eqv, eqF, rd_str, truthyV, sub, freeze, h, h', h2, h2', meOk, isS, a0, oS, evList, pmeth, low_one ha, low_one hb, G20, G21]
    · have h2' : (lowC a == lowC b) = false := by simpa using h2
      simp [eC, stepC, sub_def, L1.f0, bindAll, PEnv.set, nb, eS, eE, stepS, stepS1, stepE, evTest, PEnv.get, pcmp, PV.eqv, eqF, rd_str, truthyV, sub, freeze, h, h', h2, h2', meOk, isS, a0, oS, evList, pmeth, low_one ha, low_one hb, G20, G21]
end Mine
end
section
set_option backward.eqns.nonrecursive false
namespace Mine
theorem sub_self (a : Nat) : sub a a = 0 := if_pos rfl
theorem sub_le (a b : Nat) : sub a b ≤ 2 := by
  unfold sub
  split
  · exact Nat.zero_le _
  · split
    · exact Nat.le_succ _
    · exact Nat.le_refl _
theorem sub_comm (a b : Nat) : sub a b = sub b a := by
  unfold sub
  by_cases h : a = b
  · rw [if_pos h, if_pos h.symm]
  · rw [if_neg h, if_neg (Ne.symm h)]
    by_cases h2 : lowC a = lowC b
    · rw [if_pos h2, if_pos h2.symm]
    · rw [if_neg h2, if_neg (Ne.symm h2)]
noncomputable def edc (a : Nat) (f : List Nat → Nat) : List Nat → Nat
  | [] => f [] + 2
  | b :: v => min (f v + sub a b) (min (f (b :: v)) (edc a f v) + 2)
noncomputable def ed : List Nat → List Nat → Nat
  | [] => fun v => 2 * v.length
  | a :: u => edc a (ed u)
theorem ed_nil (v : List Nat) : ed [] v = 2 * v.length := rfl
theorem ed_nil' (u : List Nat) : ed u [] = 2 * u.length := by
  induction u with
  | nil => rfl
  | cons a u ih => exact congrArg (· + 2) ih
theorem ed_cons (a : Nat) (u : List Nat) (b : Nat) (v : List Nat) : ed (a :: u) (b :: v) = min (ed u v + sub a b) (min (ed u (b :: v)) (ed (a :: u) v) + 2) := rfl
section
variable {a b : Nat} {u v : List Nat} {n : Nat}
theorem ed_1 : ed (a :: u) (b :: v) ≤ ed u v + sub a b := Nat.min_le_left ..
theorem ed_2 : ed (a :: u) (b :: v) ≤ ed u (b :: v) + 2 := Nat.le_trans (Nat.min_le_right ..) (Nat.add_le_add_right (Nat.min_le_left ..) 2)
theorem ed_3 : ed (a :: u) (b :: v) ≤ ed (a :: u) v + 2 := Nat.le_trans (Nat.min_le_right ..) (Nat.add_le_add_right (Nat.min_le_right ..) 2)
theorem ed_by {C : Nat → Prop} (h1 : C (ed u v + sub a b)) (h2 : C (ed u (b :: v) + 2)) (h3 : C (ed (a :: u) v + 2)) : C (ed (a :: u) (b :: v)) := by
  rw [ed_cons, ← Nat.add_min_add_right]
  rcases Nat.le_total (ed u (b :: v) + 2) (ed (a :: u) v + 2) with h | h
  · rw [Nat.min_eq_left h]
    rcases Nat.le_total (ed u v + sub a b) (ed u (b :: v) + 2) with g | g
    · rw [Nat.min_eq_left g]; exact h1
    · rw [Nat.min_eq_right g]; exact h2
  · rw [Nat.min_eq_right h]
    rcases Nat.le_total (ed u v + sub a b) (ed (a :: u) v + 2) with g | g
    · rw [Nat.min_eq_left g]; exact h1
    · rw [Nat.min_eq_right g]; exact h3
end
theorem two_ind {C : List Nat → List Nat → Prop} (h0 : ∀ v, C [] v) (h1 : ∀ a u, C (a :: u) []) (h2 : ∀ a u b v, C u v → C u (b :: v) → C (a :: u) v → C (a :: u) (b :: v)) (u : List Nat) : ∀ v, C u v := by
  induction u with
  | nil => exact h0
  | cons a u ih =>
    intro v
    induction v with
    | nil => exact h1 a u
    | cons b v iv => exact h2 a u b v (ih v) (ih _) iv
theorem ed_comm (u v : List Nat) : ed u v = ed v u := by
  have key : ∀ u v, ed u v ≤ ed v u := two_ind (C := fun u v => ed u v ≤ ed v u) (fun v => Nat.le_of_eq (ed_nil' v).symm) (fun a u => Nat.le_of_eq (ed_nil' (a :: u))) fun a u b v i1 i2 i3 =>
    ed_by (C := fun n => ed (a :: u) (b :: v) ≤ n) (sub_comm a b ▸ Nat.le_trans ed_1 (Nat.add_le_add_right i1 _)) (Nat.le_trans ed_3 (Nat.add_le_add_right i3 2)) (Nat.le_trans ed_2 (Nat.add_le_add_right i2 2))
  exact Nat.le_antisymm (key u v) (key v u)
theorem ed_up (u : List Nat) (b : Nat) (v : List Nat) : ed u (b :: v) ≤ ed u v + 2 := by
  cases u with
  | nil => exact Nat.le_refl _
  | cons a u => exact ed_3
theorem ed_up' (u : List Nat) (b : Nat) (v : List Nat) : ed (b :: u) v ≤ ed u v + 2 := by rw [ed_comm, ed_comm u]; exact ed_up v b u
theorem ed_down (u : List Nat) (b : Nat) (v : List Nat) : ed u v ≤ ed u (b :: v) + 2 := by
  induction u generalizing v with
  | nil => exact Nat.le_trans (Nat.le_add_right _ 2) (Nat.le_add_right _ 2)
  | cons a u ih =>
    have h1 := ed_up' u a v
    exact ed_by (C := fun n => ed (a :: u) v ≤ n + 2) (Nat.le_trans h1 (Nat.add_le_add_right (Nat.le_add_right ..) 2)) (Nat.le_trans h1 (Nat.add_le_add_right (ih v) 2)) (Nat.le_trans (Nat.le_add_right _ 2) (Nat.le_add_right _ 2))
theorem ed_down' (u : List Nat) (b : Nat) (v : List Nat) : ed u v ≤ ed (b :: u) v + 2 := by rw [ed_comm, ed_comm (b :: u)]; exact ed_down v b u
theorem ed_same (c : Nat) (u v : List Nat) : ed (c :: u) (c :: v) = ed u v :=
  Nat.le_antisymm (Nat.le_trans ed_1 (Nat.le_of_eq (congrArg (ed u v + ·) (sub_self c)))) (ed_by (C := fun n => ed u v ≤ n) (Nat.le_add_right ..) (ed_down u c v) (ed_down' u c v))
theorem ed_app_le (x₁ x₂ u v : List Nat) : ed (x₁ ++ x₂) (u ++ v) ≤ ed x₁ u + ed x₂ v := by
  refine two_ind (C := fun x₁ u => ed (x₁ ++ x₂) (u ++ v) ≤ ed x₁ u + ed x₂ v) (fun u => ?_) (fun a x₁ => ?_) (fun a x₁ b u i1 i2 i3 => ?_) x₁ u
  · induction u with
    | nil => exact Nat.le_of_eq (Nat.zero_add _).symm
    | cons b u ih => exact Nat.le_trans (ed_up x₂ b (u ++ v)) (Nat.le_trans (Nat.add_le_add_right ih 2) (Nat.le_of_eq (Nat.add_right_comm ..)))
  · induction x₁ generalizing a with
    | nil => exact Nat.le_trans (ed_up' x₂ a v) (Nat.le_of_eq (Nat.add_comm ..))
    | cons c x₁ ih => exact Nat.le_trans (ed_up' _ a v) (Nat.le_trans (Nat.add_le_add_right (ih c) 2) (Nat.le_of_eq (Nat.add_right_comm ..)))
  · exact ed_by (C := fun n => ed (a :: (x₁ ++ x₂)) (b :: (u ++ v)) ≤ n + ed x₂ v) (Nat.le_trans ed_1 (Nat.le_trans (Nat.add_le_add_right i1 _) (Nat.le_of_eq (Nat.add_right_comm ..)))) (Nat.le_trans ed_2 (Nat.le_trans (Nat.add_le_add_right i2 _) (Nat.le_of_eq (Nat.add_right_comm ..))))
      (Nat.le_trans ed_3 (Nat.le_trans (Nat.add_le_add_right i3 _) (Nat.le_of_eq (Nat.add_right_comm ..))))
theorem ed_app_ex (x u v : List Nat) : ∃ k, k ≤ x.length ∧ ed (x.take k) u + ed (x.drop k) v ≤ ed x (u ++ v) := by
  refine two_ind (C := fun x u => ∃ k, k ≤ x.length ∧ ed (x.take k) u + ed (x.drop k) v ≤ ed x (u ++ v)) (fun u => ⟨0, Nat.le_refl _, ?_⟩) (fun a x => ⟨0, Nat.zero_le _, Nat.le_of_eq (Nat.zero_add _)⟩) (fun a x b u i1 i2 i3 => ?_) x u
  · show 2 * u.length + 2 * v.length ≤ 2 * (u ++ v).length
    rw [List.length_append, Nat.mul_add]; exact Nat.le_refl _
  · obtain ⟨k1, h1, e1⟩ := i1
    obtain ⟨k2, h2, e2⟩ := i2
    obtain ⟨k3, h3, e3⟩ := i3
    have st : ∀ {p q r d n : Nat}, p ≤ q + d → q + r ≤ n → p + r ≤ n + d := fun h g => Nat.le_trans (Nat.add_le_add_right h _) (Nat.le_trans (Nat.le_of_eq (Nat.add_right_comm ..)) (Nat.add_le_add_right g _))
    exact ed_by (C := fun n => ∃ k, k ≤ (a :: x).length ∧ ed ((a :: x).take k) (b :: u) + ed ((a :: x).drop k) v ≤ n) ⟨k1 + 1, Nat.succ_le_succ h1, st ed_1 e1⟩ ⟨k2 + 1, Nat.succ_le_succ h2, st ed_2 e2⟩ ⟨k3, h3, st (ed_up _ b u) e3⟩
theorem ed_rev (u v : List Nat) : ed u.reverse v.reverse = ed u v := by
  have one : ∀ (u v : List Nat) (a b : Nat), ed (u ++ [a]) (v ++ [b]) ≤ ed u v + sub a b := fun u v a b => Nat.le_trans (ed_app_le u [a] v [b]) (Nat.add_le_add_left (Nat.le_trans ed_1 (Nat.le_of_eq (Nat.zero_add _))) _)
  have two : ∀ (u v : List Nat) (a : Nat), ed (u ++ [a]) v ≤ ed u v + 2 := fun u v a => by
    have := ed_app_le u [a] v []
    rwa [List.append_nil] at this
  have key : ∀ u v, ed u.reverse v.reverse ≤ ed u v := two_ind (C := fun u v => ed u.reverse v.reverse ≤ ed u v) (fun v => Nat.le_of_eq (by rw [ed_nil, List.reverse_nil, ed_nil, List.length_reverse])) (fun a u => Nat.le_of_eq (by rw [ed_nil', List.reverse_nil, ed_nil', List.length_reverse])) fun a u b v i1 i2 i3 => by
    rw [List.reverse_cons] at i2 i3 ⊢
    rw [List.reverse_cons]
    refine ed_by (C := fun n => ed (u.reverse ++ [a]) (v.reverse ++ [b]) ≤ n) (Nat.le_trans (one ..) (Nat.add_le_add_right i1 _)) (Nat.le_trans (two ..) (Nat.add_le_add_right i2 _)) (Nat.le_trans ?_ (Nat.add_le_add_right i3 _))
    rw [ed_comm, ed_comm (u.reverse ++ [a])]; exact two ..
  refine Nat.le_antisymm (key u v) ?_
  have := key u.reverse v.reverse
  rwa [List.reverse_reverse, List.reverse_reverse] at this
theorem ed_snoc (u v : List Nat) (a b : Nat) : ed (u ++ [a]) (v ++ [b]) = min (ed u v + sub a b) (min (ed u (v ++ [b])) (ed (u ++ [a]) v) + 2) := by
  rw [← ed_rev (u ++ [a]), ← ed_rev u v, ← ed_rev u (v ++ [b]), ← ed_rev (u ++ [a]) v, List.reverse_concat, List.reverse_concat]
  exact ed_cons ..
theorem ed_sameEnd (u v : List Nat) (c : Nat) : ed (u ++ [c]) (v ++ [c]) = ed u v := by
  rw [← ed_rev, List.reverse_concat, List.reverse_concat, ed_same, ed_rev]
theorem ed_pre (p u v : List Nat) : ed (p ++ u) (p ++ v) = ed u v := by
  induction p with
  | nil => rfl
  | cons c p ih => exact (ed_same ..).trans ih
theorem ed_post (u v p : List Nat) : ed (u ++ p) (v ++ p) = ed u v := by
  rw [← ed_rev, List.reverse_append, List.reverse_append, ed_pre, ed_rev]
theorem ed_self (u : List Nat) : ed u u = 0 := by
  have := ed_pre u [] []
  rwa [List.append_nil] at this
theorem ed_len (u v : List Nat) : 2 * v.length ≤ ed u v + 2 * u.length := by
  induction u with
  | nil => exact Nat.le_refl _
  | cons a u ih => exact Nat.le_trans ih (Nat.le_trans (Nat.add_le_add_right (ed_down' u a v) _) (Nat.le_of_eq (Nat.add_right_comm ..)))
end Mine
end
section
set_option backward.eqns.nonrecursive false
namespace Mine
open PySem
theorem range_pick {α : Type} (l : List α) (a m : Nat) (h : a + m ≤ l.length) : ((List.range m).map (a + ·)).filterMap (l[·]?) = (l.drop a).take m := by
  induction m with
  | zero => exact (List.take_zero ..).symm
  | succ m ih =>
    have h1 : l[a + m]? = some l[a + m] := List.getElem?_eq_getElem h
    rw [List.range_succ, List.map_append, List.filterMap_append, ih (Nat.le_of_succ_le h), List.take_add_one, List.getElem?_drop, h1]
    exact congrArg (List.take m (List.drop a l) ++ ·) (List.filterMap_cons_some h1)
theorem cut_nat {k n d : Nat} (h : k ≤ n) : cutAt n d (some (k : Int)) = (k : Int) := by
  show max 0 (min (if (k : Int) < 0 then _ else _) (n : Int)) = _
  rw [if_neg (Int.not_lt.mpr (Int.natCast_nonneg k)), Int.min_eq_left (Int.ofNat_le.mpr h), Int.max_eq_right (Int.natCast_nonneg k)]
theorem cut_neg {k n d : Nat} (h : k ≤ n) (h0 : 0 < k) : cutAt n d (some (-(k : Int))) = ((n - k : Nat) : Int) := by
  show max 0 (min (if -(k : Int) < 0 then _ else _) (n : Int)) = _
  rw [if_pos (Int.neg_neg_of_pos (Int.ofNat_lt.mpr h0)), Int.add_comm, ← Int.sub_eq_add_neg, ← Int.ofNat_sub h, Int.min_eq_left (Int.ofNat_le.mpr (Nat.sub_le ..)), Int.max_eq_right (Int.natCast_nonneg _)]
theorem pick_at {α : Type} (l : List α) {lo hi : Option Int} {a b : Nat} (ha : cutAt l.length 0 lo = (a : Int)) (hb : cutAt l.length l.length hi = (b : Int)) (h : b ≤ l.length) : Mine.pick l lo hi 1 = (l.drop a).take (b - a) := by
  unfold Mine.pick
  rw [ssi_one, ha, hb, sliceRange_one]
  by_cases hab : a ≤ b
  · exact range_pick l a (b - a) (by rw [Nat.add_sub_cancel' hab]; exact h)
  · rw [Nat.sub_eq_zero_of_le (Nat.le_of_not_le hab), List.take_zero]; rfl
theorem pick_from {α : Type} (l : List α) {k : Nat} (h : k ≤ l.length) : Mine.pick l (some (k : Int)) none 1 = l.drop k := by
  rw [pick_at l (cut_nat h) rfl (Nat.le_refl _)]
  exact List.take_of_length_le (Nat.le_of_eq (List.length_drop ..))
theorem pick_all {α : Type} (l : List α) : Mine.pick l none none 1 = l := by
  rw [pick_at l (a := 0) rfl rfl (Nat.le_refl _)]
  exact List.take_length
theorem pick_to {α : Type} (l : List α) {k : Nat} (h : k ≤ l.length) : Mine.pick l none (some (k : Int)) 1 = l.take k := pick_at l (a := 0) rfl (cut_nat h) h
theorem pick_toNeg {α : Type} (l : List α) {k : Nat} (h : k ≤ l.length) (h0 : 0 < k) : Mine.pick l none (some (-(k : Int))) 1 = l.take (l.length - k) := pick_at l (a := 0) rfl (cut_neg h h0) (Nat.sub_le ..)
theorem slice_str_c (l : List Nat) {lo hi : PV} {a b : Option Int} (hl : l.length ≤ lim) (ha : partO lo = some a) (hb : partO hi = some b) : pslice (.str l) lo hi .none = some (.str (Mine.pick l a b 1)) := by
  unfold pslice
  rw [ha, hb]
  exact congrArg (fun c => bif c then some (PV.str (Mine.pick l a b 1)) else none) (decide_eq_true hl)
theorem slice_from (l : List Nat) {k : Nat} (h : k ≤ l.length) (hl : l.length ≤ lim) : pslice (.str l) (.int k) .none .none = some (.str (l.drop k)) := pick_from l h ▸ slice_str_c l hl rfl rfl
theorem slice_all (l : List Nat) (hl : l.length ≤ lim) : pslice (.str l) .none .none .none = some (.str l) := (slice_str_c l hl rfl rfl).trans (congrArg (fun x => some (PV.str x)) (pick_all l))
theorem slice_toNeg (l : List Nat) {k : Nat} (h : k ≤ l.length) (h0 : 0 < k) (hl : l.length ≤ lim) : pslice (.str l) .none (.int (-(k : Int))) .none = some (.str (l.take (l.length - k))) := pick_toNeg l h h0 ▸ slice_str_c l hl rfl rfl
theorem slice_to (l : List Nat) {k : Nat} (h : k ≤ l.length) (hl : l.length ≤ lim) : pslice (.str l) .none (.int k) .none = some (.str (l.take k)) := pick_to l h ▸ slice_str_c l hl rfl rfl
theorem idx_str_c (l : List Nat) {i : Int} {j c : Nat} (h1 : seqIndex? i l.length = some j) (hc : l[j]? = some c) (hl : l.length ≤ lim) (h2 : -(lim : Int) ≤ i) (h3 : i ≤ (lim : Int)) : pidx (.str l) (.int i) = some (.str [c]) := by
  show (bif decide (l.length ≤ lim) && decide (-(lim : Int) ≤ i) && decide (i ≤ (lim : Int)) then ((seqIndex? i l.length).bind (l[·]?)).map fun c => PV.str [c] else none) = _
  rw [decide_eq_true hl, decide_eq_true h2, decide_eq_true h3, h1]
  exact congrArg (Option.map fun c => PV.str [c]) hc
theorem idx_str (l : List Nat) {k c : Nat} (hc : l[k]? = some c) (hl : l.length ≤ lim) : pidx (.str l) (.int k) = some (.str [c]) :=
  have hk := (List.getElem?_eq_some_iff.mp hc).1
  idx_str_c l (seqIndex_nat (Int.natCast_nonneg k) hk) hc hl (Int.le_trans (by decide) (Int.natCast_nonneg k)) (Int.ofNat_le.mpr (Nat.le_trans (Nat.le_of_lt hk) hl))
theorem idx_strNeg (l : List Nat) {k c : Nat} (h0 : 0 < k) (hk : k ≤ l.length) (hc : l[l.length - k]? = some c) (hl : l.length ≤ lim) : pidx (.str l) (.int (-(k : Int))) = some (.str [c]) := by
  have e1 : (-(k : Int)) < 0 := Int.neg_neg_of_pos (Int.ofNat_lt.mpr h0)
  have e4 : (-(k : Int) + l.length) = ((l.length - k : Nat) : Int) := by rw [Int.add_comm, ← Int.sub_eq_add_neg, ← Int.ofNat_sub hk]
  have h1 : seqIndex? (-(k : Int)) l.length = some (l.length - k) := by
    unfold seqIndex?
    simp only [if_pos e1, e4]
    exact if_pos (by rw [decide_eq_true (Int.natCast_nonneg _), decide_eq_true (Int.ofNat_lt.mpr (Nat.sub_lt (Nat.lt_of_lt_of_le h0 hk) h0))]; rfl)
  exact idx_str_c l h1 hc hl (Int.neg_le_neg (Int.ofNat_le.mpr (Nat.le_trans hk hl))) (Int.le_trans (Int.le_of_lt e1) (by decide))
theorem while_run {test : PEnv → Store → Option (Bool × Store)} {body : PEnv → Store → Option (PFlow × PEnv × Store)} (E : Nat → PEnv) (S : Nat → Store) (K : Nat)
    (ht : ∀ i, i < K → test (E i) (S i) = some (true, S i)) (hb : ∀ i, i < K → body (E i) (S i) = some (.next, E (i + 1), S (i + 1))) (hl : test (E K) (S K) = some (false, S K)) (d : Nat) :
    ∀ (fuel i : Nat), i + d = K → d < fuel → whileN test body fuel (E i) (S i) = some (.next, E K, S K) := by
  induction d with
  | zero =>
    intro fuel i hi hf
    cases fuel with
    | zero => exact absurd hf (Nat.not_lt_zero _)
    | succ fuel =>
      have hi : i = K := hi
      subst hi
      show (match test (E i) (S i) with
        | some (true, st) => match body (E i) st with
          | some (.next, env, st) => whileN test body fuel env st
          | x => x
        | some (false, st) => some (.next, E i, st)
        | none => none) = _
      rw [hl]
  | succ d ih =>
    intro fuel i hi hf
    cases fuel with
    | zero => exact absurd hf (Nat.not_lt_zero _)
    | succ fuel =>
      have hlt : i < K := hi ▸ Nat.lt_add_of_pos_right (Nat.succ_pos d)
      show (match test (E i) (S i) with
        | some (true, st) => match body (E i) st with
          | some (.next, env, st) => whileN test body fuel env st
          | x => x
        | some (false, st) => some (.next, E i, st)
        | none => none) = _
      rw [ht i hlt]
      show (match body (E i) (S i) with
          | some (.next, env, st) => whileN test body fuel env st
          | x => x) = _
      rw [hb i hlt]
      exact ih fuel (i + 1) ((Nat.succ_add_eq_add_succ i d).trans hi) (Nat.lt_of_succ_lt_succ hf)
theorem for_run {body : PEnv → Store → Option (PFlow × PEnv × Store)} {t : Tgt} (E : Nat → PEnv) (S : Nat → Store) (items : List PV) : ∀ (i : Nat),
    (∀ j x, items[j]? = some x → ∃ env, bindTgt t x (E (i + j)) = some env ∧ body env (S (i + j)) = some (.next, E (i + j + 1), S (i + j + 1))) →
    forN body t items (E i) (S i) = some (.next, E (i + items.length), S (i + items.length)) := by
  induction items with
  | nil => exact fun _ _ => rfl
  | cons x r ih =>
    intro i h
    obtain ⟨env, h1, h2⟩ := h 0 x rfl
    show (match bindTgt t x (E i) with
      | some env => match body env (S i) with
        | some (.next, env, st) => forN body t r env st
        | x => x
      | none => none) = _
    rw [show bindTgt t x (E i) = some env from h1]
    show (match body env (S i) with
        | some (.next, env, st) => forN body t r env st
        | x => x) = _
    rw [show body env (S i) = some (.next, E (i + 1), S (i + 1)) from h2]
    have := ih (i + 1) fun j y hy => by
      have := h (j + 1) y hy
      rw [Nat.add_right_comm i 1 j]; exact this
    rw [List.length_cons, ← Nat.add_assoc, Nat.add_right_comm]; exact this
end Mine
end
section
set_option backward.eqns.nonrecursive false
namespace Mine
open PySem
noncomputable def natV (l : List Nat) : List PV := l.map fun (x : Nat) => PV.int (x : Int)
noncomputable def rowGo (bc : Nat) : Nat → Nat → List Nat → List Nat → List Nat
  | res, dist, a :: as, c :: cs => min (min res c + 2) (dist + sub bc a) :: rowGo bc (min (min res c + 2) (dist + sub bc a)) c as cs
  | _, _, _, _ => []
noncomputable def lastD : Nat → List Nat → Nat
  | d, [] => d
  | _, x :: r => lastD x r
noncomputable def minI : Int → List Nat → Int
  | m, [] => m
  | m, x :: r => minI (if (x : Int) < m then (x : Int) else m) r
noncomputable def inBody : List PS := [
              .assign 35 (.bin .Add (.var 32) (.call 0 [(.var 31), (.idx (.var 22) (.var 34))])),
              .assign 32 (.idx (.var 28) (.var 34)),
              .assign 36 (.bin .Add (.bi .min [(.var 29), (.var 32)]) (.glob 21)),
              .assign 29 (.bi .min [(.var 36), (.var 35)]),
              .setItem (.var 28) (.var 34) (.var 29),
              .ifS (.cmp .Lt (.var 29) (.var 33))
                [
                  .assign 33 (.var 29)]
                []]
theorem set_same {α : Type} {l : List α} {n : Nat} {x : α} (h : l[n]? = some x) : l.set n x = l := by
  apply List.ext_getElem?
  intro i
  rw [List.getElem?_set]
  split
  · rename_i e; subst e
    obtain ⟨h1, h2⟩ := List.getElem?_eq_some_iff.mp h
    simp [h1, h2]
  · rfl
theorem setAt_c {st : Store} {r : Nat} {xs : List PV} (h : st[r]? = some (.list xs)) {i : Nat} (hi : i < xs.length) (hl : xs.length ≤ lim) (v : PV) : setAt (.ref r) (.int (i : Int)) v st = some (st.set r (.list (xs.set i v))) := by
  show oO st[r]? _ = _
  rw [h]
  show (bif decide (0 ≤ (i : Int)) && decide ((i : Int).toNat < xs.length) && decide (xs.length ≤ lim) then some (st.set r (.list (xs.set (i : Int).toNat v))) else none) = _
  rw [decide_eq_true (Int.natCast_nonneg i), Int.toNat_natCast, decide_eq_true hi, decide_eq_true hl]; rfl
theorem G27 : L1.P.G 27 = some (.int 40) := id rfl
theorem in_step (n : Nat) (a b : List Nat) (mx : Int) (r : Nat) (bc x c : Nat) (res dist : Nat) (mn : Int) (i : Nat) (env : PEnv) (st : Store) (xs : List PV) (ha : a[i]? = some x) (hl : a.length ≤ 50) (hx : x < 128) (hb : bc < 128)
    (h22 : env.get 22 = some (.str a)) (h28 : env.get 28 = some (.ref r)) (h29 : env.get 29 = some (.int res)) (h31 : env.get 31 = some (.str [bc])) (h32 : env.get 32 = some (.int dist)) (h33 : env.get 33 = some (.int mn))
    (hst : st[r]? = some (.list xs)) (hc : xs[i]? = some (.int c)) (hxl : xs.length ≤ 50) :
    (ev L1.P (n + 14)).S inBody (env.set 34 (.int i)) st =
      some (.next, (if ((min (min res c + 2) (dist + sub bc x) : Nat) : Int) < mn then
        (((((env.set 34 (.int i)).set 35 (.int ((dist + sub bc x : Nat) : Int))).set 32 (.int c)).set 36 (.int ((min res c + 2 : Nat) : Int))).set 29 (.int ((min (min res c + 2) (dist + sub bc x) : Nat) : Int))).set 33 (.int ((min (min res c + 2) (dist + sub bc x) : Nat) : Int))
        else ((((env.set 34 (.int i)).set 35 (.int ((dist + sub bc x : Nat) : Int))).set 32 (.int c)).set 36 (.int ((min res c + 2 : Nat) : Int))).set 29 (.int ((min (min res c + 2) (dist + sub bc x) : Nat) : Int))),
        st.set r (.list (xs.set i (.int ((min (min res c + 2) (dist + sub bc x) : Nat) : Int))))) := by
  have hi := (List.getElem?_eq_some_iff.mp ha).1
  have hix := (List.getElem?_eq_some_iff.mp hc).1
  have i1 : pidx (.str a) (.int (i : Int)) = some (.str [x]) := idx_str a ha (by have : lim = 100000 := rfl; omega)
  have i2 : pidx (.list xs) (.int (i : Int)) = some (.int c) := by
    have e1 : ((i : Int) ≤ 100000) := by omega
    simp [pidx, e1, hc]
  have i3 : rd st (.ref r) = .list xs := rd_ref hst
  have i4 : (ev L1.P (n + 11)).C 0 [.str [bc], .str [x]] st = some (.int (sub bc x), st) := sub_c (n + 3) st bc x hb hx
  have e1 : (dist : Int) + (sub bc x : Int) = ((dist + sub bc x : Nat) : Int) := by omega
  have e2 : min (res : Int) (c : Int) + 2 = ((min res c + 2 : Nat) : Int) := by omega
  have e3 : min ((min res c + 2 : Nat) : Int) ((dist + sub bc x : Nat) : Int) = ((min (min res c + 2) (dist + sub bc x) : Nat) : Int) := by omega
  have i5 : ∀ v, setAt (.ref r) (.int (i : Int)) v st = some (st.set r (.list (xs.set i v))) := setAt_c hst hix (Nat.le_trans hxl (by decide))
  simp only [inBody, eS, stepS, stepS1, eE, stepE, get_set', h22, h28, h29, h31, h32, h33, evList, i1, i2, i3, i4, rd_str, rd_int, pbin, e1, e2, e3, min2_c, G21, evTest, pcmp, truthyV, i5, Nat.reduceEqDiff, ↓reduceIte]
  by_cases hm : ((min (min res c + 2) (dist + sub bc x) : Nat) : Int) < mn
  · simp only [hm, decide_true, get_set', Nat.reduceEqDiff, ↓reduceIte]
  · simp only [hm, decide_false, get_set', Nat.reduceEqDiff, ↓reduceIte]
structure Lv (a b : List Nat) (mx : Int) (r : Nat) (env : PEnv) : Prop where
  h22 : env.get 22 = some (.str a)
  h23 : env.get 23 = some (.str b)
  h24 : env.get 24 = some (.int mx)
  h28 : env.get 28 = some (.ref r)
theorem Lv.set {a b : List Nat} {mx : Int} {r : Nat} {env : PEnv} (h : Lv a b mx r env) (k : Nat) (v : PV) (hk : 28 < k) : Lv a b mx r (env.set k v) := by
  refine ⟨?_, ?_, ?_, ?_⟩ <;> rw [get_set', if_neg (by omega)]
  · exact h.h22
  · exact h.h23
  · exact h.h24
  · exact h.h28
theorem in_loop (n : Nat) (a b : List Nat) (mx : Int) (r : Nat) (bc j : Nat) (hl : a.length ≤ 40) (hasc : ∀ c ∈ a, c < 128) (hb : bc < 128) : ∀ (as p done row : List Nat) (res dist : Nat) (mn : Int) (env : PEnv) (st : Store),
    a = p ++ as → Lv a b mx r env → env.get 29 = some (.int res) → env.get 31 = some (.str [bc]) → env.get 32 = some (.int dist) → env.get 33 = some (.int mn) → st[r]? = some (.list (natV done ++ natV row)) → done.length = p.length → row.length = as.length →
    ∃ env', forN ((ev L1.P (n + 14)).S inBody) (.one 34) (rngItems p.length as.length 1) env st = some (.next, env', st.set r (.list (natV done ++ natV (rowGo bc res dist as row)))) ∧ Lv a b mx r env' ∧ env'.get 29 = some (.int (lastD res (rowGo bc res dist as row))) ∧ env'.get 33 = some (.int (minI mn (rowGo bc res dist as row)))
  | [], p, done, row, res, dist, mn, env, st, ha, L, h29, h31, h32, h33, hst, hd, hr => by
    have hrow : row = [] := List.length_eq_zero_iff.mp hr
    subst hrow
    refine ⟨env, ?_, L, h29, h33⟩
    show some (PFlow.next, env, st) = _
    rw [show rowGo bc res dist [] [] = [] from rfl, set_same hst]
  | x :: as, p, done, [], res, dist, mn, env, st, ha, L, h29, h31, h32, h33, hst, hd, hr => by simp at hr
  | x :: as, p, done, c :: row, res, dist, mn, env, st, ha, L, h29, h31, h32, h33, hst, hd, hr => by
    have hax : a[p.length]? = some x := by rw [ha]; simp
    have hxm : x ∈ a := by rw [ha]; simp
    have hcx : (natV done ++ natV (c :: row))[p.length]? = some (.int (c : Int)) := by
      rw [← hd, List.getElem?_append_right (by simp [natV])]; simp [natV]
    have hlen : (natV done ++ natV (c :: row)).length ≤ 50 := by
      have := congrArg List.length ha
      simp [natV] at this hr ⊢; omega
    have step := in_step n a b mx r bc x c res dist mn p.length env st _ hax (by omega) (hasc x hxm) hb L.h22 L.h28 h29 h31 h32 h33 hst hcx hlen
    have hset : (natV done ++ natV (c :: row)).set p.length (.int ((min (min res c + 2) (dist + sub bc x) : Nat) : Int)) = natV (done ++ [min (min res c + 2) (dist + sub bc x)]) ++ natV row := by
      rw [← hd, List.set_append_right _ _ (by simp [natV])]
      simp [natV]
    rw [hset] at step
    generalize hy : min (min res c + 2) (dist + sub bc x) = y at *
    have hr' : rowGo bc res dist (x :: as) (c :: row) = y :: rowGo bc y c as row := by simp only [rowGo, hy]
    have rest : ∀ env1, Lv a b mx r env1 → env1.get 29 = some (.int (y : Int)) → env1.get 31 = some (.str [bc]) → env1.get 32 = some (.int (c : Int)) → env1.get 33 = some (.int (if (y : Int) < mn then (y : Int) else mn)) →
        ∃ env', forN ((ev L1.P (n + 14)).S inBody) (.one 34) (rngItems ((p.length : Int) + 1) as.length 1) env1 (st.set r (.list (natV (done ++ [y]) ++ natV row))) = some (.next, env', st.set r (.list (natV done ++ natV (rowGo bc res dist (x :: as) (c :: row))))) ∧ Lv a b mx r env' ∧
          env'.get 29 = some (.int (lastD res (rowGo bc res dist (x :: as) (c :: row)))) ∧ env'.get 33 = some (.int (minI mn (rowGo bc res dist (x :: as) (c :: row)))) := fun env1 Lw g29 g31 g32 g33 => by
      obtain ⟨env', e1, e2, e3, e4⟩ := in_loop n a b mx r bc j hl hasc hb as (p ++ [x]) (done ++ [y]) row y c (if (y : Int) < mn then (y : Int) else mn) env1 (st.set r (.list (natV (done ++ [y]) ++ natV row))) (by rw [ha]; simp) Lw g29 g31 g32 g33
        (by rw [List.getElem?_set]; simp; exact (List.getElem?_eq_some_iff.mp hst).1) (by simp [hd]) (by simpa using hr)
      refine ⟨env', ?_, e2, ?_, ?_⟩
      · have : ((p ++ [x]).length : Int) = (p.length : Int) + 1 := by simp
        rw [this] at e1
        rw [e1, hr', List.set_set]
        simp [natV]
      · rw [hr']; exact e3
      · rw [hr']; exact e4
    by_cases hm : (y : Int) < mn
    · rw [if_pos hm] at step rest
      obtain ⟨env', e1, e2⟩ := rest ((((((env.set 34 (.int (p.length : Int))).set 35 (.int ((dist + sub bc x : Nat) : Int))).set 32 (.int (c : Int))).set 36 (.int ((min res c + 2 : Nat) : Int))).set 29 (.int (y : Int))).set 33 (.int (y : Int))) (((((((L.set 34 _ (by omega)).set 35 _ (by omega)).set 32 _ (by omega)).set 36 _ (by omega)).set 29 _ (by omega)).set 33 _ (by omega))) (by simp [get_set']) (by simp [get_set', h31]) (by simp [get_set']) (by simp [get_set'])
      refine ⟨env', ?_, e2⟩
      show (match (ev L1.P (n + 14)).S inBody (env.set 34 (.int (p.length : Int))) st with | some (.next, env, st) => forN ((ev L1.P (n + 14)).S inBody) (.one 34) (rngItems ((p.length : Int) + 1) as.length 1) env st | x => x) = _
      rw [step]; exact e1
    · rw [if_neg hm] at step rest
      obtain ⟨env', e1, e2⟩ := rest (((((env.set 34 (.int (p.length : Int))).set 35 (.int ((dist + sub bc x : Nat) : Int))).set 32 (.int (c : Int))).set 36 (.int ((min res c + 2 : Nat) : Int))).set 29 (.int (y : Int))) ((((((L.set 34 _ (by omega)).set 35 _ (by omega)).set 32 _ (by omega)).set 36 _ (by omega)).set 29 _ (by omega))) (by simp [get_set']) (by simp [get_set', h31]) (by simp [get_set']) (by simp [get_set', h33])
      refine ⟨env', ?_, e2⟩
      show (match (ev L1.P (n + 14)).S inBody (env.set 34 (.int (p.length : Int))) st with | some (.next, env, st) => forN ((ev L1.P (n + 14)).S inBody) (.one 34) (rngItems ((p.length : Int) + 1) as.length 1) env st | x => x) = _
      rw [step]; exact e1
end Mine
end
section
set_option backward.eqns.nonrecursive false
set_option maxRecDepth 20000
namespace Mine
open PySem
noncomputable def rowOf (bt : List Nat) : List Nat → List Nat → List Nat
  | _, [] => []
  | p, x :: as => ed bt (p ++ [x]) :: rowOf bt (p ++ [x]) as
theorem rowOf_len (bt : List Nat) : ∀ (as p : List Nat), (rowOf bt p as).length = as.length
  | [], _ => rfl
  | x :: as, p => by simp [rowOf, rowOf_len bt as]
theorem rowGo_of (bt : List Nat) (bj : Nat) : ∀ (as p : List Nat), rowGo bj (ed (bt ++ [bj]) p) (ed bt p) as (rowOf bt p as) = rowOf (bt ++ [bj]) p as
  | [], _ => rfl
  | x :: as, p => by
    have h := ed_snoc bt p bj x
    have e : min (min (ed (bt ++ [bj]) p) (ed bt (p ++ [x])) + 2) (ed bt p + sub bj x) = ed (bt ++ [bj]) (p ++ [x]) := by rw [h]; omega
    simp only [rowOf, rowGo, e]
    rw [rowGo_of bt bj as (p ++ [x])]
theorem rowGo_start (bt : List Nat) (bj : Nat) (a : List Nat) : rowGo bj (2 * bt.length) (2 * bt.length) a (rowOf bt [] a) = rowOf (bt ++ [bj]) [] a := by
  cases a with
  | nil => rfl
  | cons x as =>
    have h := ed_snoc bt [] bj x
    have h1 : ed (bt ++ [bj]) [] = 2 * bt.length + 2 := by rw [ed_nil']; simp; omega
    have h2 : ed bt [] = 2 * bt.length := ed_nil' bt
    have h3 := sub_le bj x
    simp only [List.nil_append] at h
    have e : min (min (2 * bt.length) (ed bt [x]) + 2) (2 * bt.length + sub bj x) = ed (bt ++ [bj]) [x] := by rw [h, h1, h2]; omega
    simp only [rowOf, rowGo, List.nil_append, e]
    rw [rowGo_of bt bj as [x]]
theorem rowOf_last (bt : List Nat) : ∀ (as p : List Nat) (d : Nat), d = ed bt p → lastD d (rowOf bt p as) = ed bt (p ++ as)
  | [], p, d, h => by simp [rowOf, lastD, h]
  | x :: as, p, d, h => by
    simp only [rowOf, lastD]
    rw [rowOf_last bt as (p ++ [x]) _ rfl]; simp
theorem rowOf_last' (bt a : List Nat) (d : Nat) (h : a ≠ []) : lastD d (rowOf bt [] a) = ed bt a := by
  cases a with
  | nil => exact absurd rfl h
  | cons x as => simp only [rowOf, lastD, List.nil_append]; rw [rowOf_last bt as [x] _ rfl]; rfl
theorem minI_gt : ∀ (row : List Nat) (m mx : Int), mx < minI m row → mx < m ∧ ∀ x ∈ row, mx < (x : Int)
  | [], m, mx, h => ⟨h, fun x hx => by cases hx⟩
  | y :: r, m, mx, h => by
    obtain ⟨h1, h2⟩ := minI_gt r _ mx h
    by_cases hy : (y : Int) < m
    · rw [if_pos hy] at h1
      exact ⟨by omega, fun x hx => by rcases List.mem_cons.mp hx with rfl | hx; exact h1; exact h2 x hx⟩
    · rw [if_neg hy] at h1
      exact ⟨h1, fun x hx => by rcases List.mem_cons.mp hx with rfl | hx; omega; exact h2 x hx⟩
theorem rowOf_mem (bt : List Nat) : ∀ (as p : List Nat) (k : Nat), 0 < k → k ≤ as.length → ed bt (p ++ as.take k) ∈ rowOf bt p as
  | [], p, k, h0, hk => by simp at hk; omega
  | x :: as, p, 1, h0, hk => by simp [rowOf]
  | x :: as, p, k + 2, h0, hk => by
    have := rowOf_mem bt as (p ++ [x]) (k + 1) (by omega) (by simpa using hk)
    simp only [rowOf, List.take_succ_cons, List.mem_cons]
    refine .inr ?_
    simpa using this
theorem row_far {bt bs a : List Nat} (hbt : bt ≠ []) (ha : a ≠ []) {mx : Int} (h : ∀ x ∈ rowOf bt [] a, mx < (x : Int)) : mx < (ed a (bt ++ bs) : Nat) := by
  obtain ⟨k, hk, he⟩ := ed_app_ex a bt bs
  by_cases h0 : k = 0
  · subst h0
    have h1 := h _ (rowOf_mem bt a [] 1 (by omega) (by cases a with | nil => exact absurd rfl ha | cons _ _ => simp))
    have h2 : ed bt (a.take 1) ≤ ed (a.take 0) bt := by
      cases a with
      | nil => exact absurd rfl ha
      | cons x as =>
        cases bt with
        | nil => exact absurd rfl hbt
        | cons y bt =>
          show ed (y :: bt) [x] ≤ ed [] (y :: bt)
          rw [ed_cons, ed_nil, ed_nil']
          have := sub_le y x
          simp only [List.length_cons]; omega
    simp only [List.nil_append] at h1
    omega
  · have h1 := h _ (rowOf_mem bt a [] k (by omega) hk)
    simp only [List.nil_append] at h1
    rw [ed_comm] at h1
    omega
theorem rng0 (m : Nat) (st : Store) (h : m ≤ 60) : mkRng 0 (m : Int) 1 st = some (.rng 0 m 1, st) := by
  have key : ∀ m : Nat, m < 61 → (Builtin.Range.small 0 (m : Int) 1 && decide (0 < (1 : Int)) && small 1 && decide (0 ≤ Builtin.Range.rangeSize 0 (m : Int) 1)) = true ∧ (Builtin.Range.rangeSize 0 (m : Int) 1).toNat = m := by decide +kernel
  obtain ⟨h1, h2⟩ := key m (by omega)
  unfold mkRng
  rw [h1, h2]; rfl
theorem rng2 (m : Nat) (st : Store) (h : m ≤ 60) : mkRng 2 (2 * ((m : Int) + 1)) 2 st = some (.rng 2 m 2, st) := by
  have key : ∀ m : Nat, m < 61 → (Builtin.Range.small 2 (2 * ((m : Int) + 1)) 2 && decide (0 < (2 : Int)) && small 2 && decide (0 ≤ Builtin.Range.rangeSize 2 (2 * ((m : Int) + 1)) 2)) = true ∧ (Builtin.Range.rangeSize 2 (2 * ((m : Int) + 1)) 2).toNat = m := by decide +kernel
  obtain ⟨h1, h2⟩ := key m (by omega)
  unfold mkRng
  rw [h1, h2]; rfl
theorem rng2_row (a p : List Nat) : rngItems (2 * (p.length : Int) + 2) a.length 2 = natV (rowOf [] p a) := by
  induction a generalizing p with
  | nil => rfl
  | cons x as ih =>
    have := ih (p ++ [x])
    simp only [rowOf, List.length_cons, rngItems, natV, List.map_cons] at this ⊢
    rw [show (2 * (p.length : Int) + 2 + 2) = 2 * ((p ++ [x]).length : Int) + 2 by simp; omega, this]
    congr 2
    rw [ed_nil]; simp; omega
noncomputable def outBody : List PS := [
          .assign 31 (.idx (.var 23) (.var 30)),
          .assign2 32 29 (.bin .Mult (.var 30) (.glob 21)),
          .assign 33 (.cint 9223372036854775807),
          .forS (.one 34) (.bi .range [(.bi .len [(.var 22)])]) inBody,
          .ifS (.cmp .Gt (.var 33) (.var 24))
            [
              .ret (.bin .Add (.var 24) (.cint 1))]
            []]
noncomputable def outLoop : List PS := [
          .forS (.one 34) (.bi .range [(.bi .len [(.var 22)])]) inBody,
          .ifS (.cmp .Gt (.var 33) (.var 24))
            [
              .ret (.bin .Add (.var 24) (.cint 1))]
            []]
theorem small_nat {i : Nat} (h : i ≤ 100) : small (i : Int) = true := by
  exact Nat.ble_eq_true_of_le (by omega)
theorem bif_le {α : Type} {m : Nat} (h : m ≤ lim) (x y : α) : (bif decide (m ≤ lim) then x else y) = x := by rw [decide_eq_true h]; rfl
theorem len_c {a : List Nat} (st : Store) (h : a.length ≤ lim) : pbi .len [.str a] st = some (.int a.length, st) := by
  show (bif decide (a.length ≤ lim) then _ else _) = _
  rw [bif_le h]
theorem mult_c {i j : Int} (h1 : small i = true) (h2 : small j = true) : pbin .Mult (.int i) (.int j) = some (.int (i * j)) := by
  show (bif small i && small j then _ else _) = _
  rw [h1, h2]; rfl
theorem add_c {i j : Int} : pbin .Add (.int i) (.int j) = some (.int (i + j)) := id rfl
theorem range1_c (m : Int) (st : Store) : pbi .range [.int m] st = mkRng 0 m 1 st := id rfl
theorem out_step (n : Nat) (a b : List Nat) (mx : Int) (r : Nat) (bc : Nat) (bt : List Nat) (hl : a.length ≤ 40) (hbl : b.length ≤ 40) (ha : ∀ c ∈ a, c < 128) (hb : bc < 128) (env : PEnv) (st : Store) (L : Lv a b mx r env) (hbc : b[bt.length]? = some bc)
    (hst : st[r]? = some (.list (natV (rowOf bt [] a)))) :
    ∃ env', Lv a b mx r env' ∧ env'.get 29 = some (.int (lastD (2 * bt.length) (rowOf (bt ++ [bc]) [] a))) ∧
      (ev L1.P (n + 20)).S outBody (env.set 30 (.int (bt.length : Int))) st = some (if mx < minI 9223372036854775807 (rowOf (bt ++ [bc]) [] a) then .ret (.int (mx + 1)) else .next, env', st.set r (.list (natV (rowOf (bt ++ [bc]) [] a)))) := by
  have hbt := (List.getElem?_eq_some_iff.mp hbc).1
  have i1 : pidx (.str b) (.int (bt.length : Int)) = some (.str [bc]) := idx_str b hbc (by have : lim = 100000 := rfl; omega)
  have e1 : (bt.length : Int) * 2 = ((2 * bt.length : Nat) : Int) := by omega
  have s1 : small (bt.length : Int) = true := small_nat (by omega)
  have s2 : small 2 = true := by decide
  obtain ⟨env', f1, f2, f3, f4⟩ := in_loop (n + 5) a b mx r bc bt.length hl ha hb a [] [] (rowOf bt [] a) (2 * bt.length) (2 * bt.length) 9223372036854775807
    (((((env.set 30 (.int (bt.length : Int))).set 31 (.str [bc])).set 32 (.int ((2 * bt.length : Nat) : Int))).set 29 (.int ((2 * bt.length : Nat) : Int))).set 33 (.int 9223372036854775807)) st (by simp)
    (((((L.set 30 _ (by omega)).set 31 _ (by omega)).set 32 _ (by omega)).set 29 _ (by omega)).set 33 _ (by omega)) (by simp [get_set']) (by simp [get_set']) (by simp [get_set']) (by simp [get_set']) (by simpa [natV] using hst) rfl (rowOf_len ..)
  rw [rowGo_start] at f1 f3 f4
  refine ⟨env', f2, f3, ?_⟩
  have rl : mkRng 0 (a.length : Int) 1 st = some (.rng 0 a.length 1, st) := rng0 a.length st (by omega)
  have ll : a.length ≤ lim := by have : lim = 100000 := rfl; omega
  have f1' : forN ((ev L1.P (n + 19)).S inBody) (.one 34) (rngItems 0 a.length 1) (((((env.set 30 (.int (bt.length : Int))).set 31 (.str [bc])).set 32 (.int ((2 * bt.length : Nat) : Int))).set 29 (.int ((2 * bt.length : Nat) : Int))).set 33 (.int 9223372036854775807)) st =
      some (.next, env', st.set r (.list (natV (rowOf (bt ++ [bc]) [] a)))) := by simpa [natV] using f1
  have h22 : (((((env.set 30 (.int (bt.length : Int))).set 31 (.str [bc])).set 32 (.int ((2 * bt.length : Nat) : Int))).set 29 (.int ((2 * bt.length : Nat) : Int))).set 33 (.int 9223372036854775807)).get 22 = some (.str a) := by simp [get_set', L.h22]
  simp only [outBody, eS, stepS, stepS1, eE, stepE, get_set', L.h22, L.h23, evList, i1, rd_str, rd_int, mult_c s1 s2, add_c, e1, len_c st ll, range1_c, G21, Nat.reduceEqDiff, ↓reduceIte, rl, itemsOf, f1', evTest, pcmp, f2.h24, f4, truthyV]
  by_cases hm : mx < minI 9223372036854775807 (rowOf (bt ++ [bc]) [] a)
  · simp only [hm, decide_true, ↓reduceIte]
  · simp only [hm, decide_false, ↓reduceIte]
end Mine
end
section
set_option backward.eqns.nonrecursive false
namespace Mine
open PySem
theorem out_loop (n : Nat) (a b : List Nat) (mx : Int) (r : Nat) (hl : a.length ≤ 40) (hbl : b.length ≤ 40) (ha : ∀ c ∈ a, c < 128) (hb : ∀ c ∈ b, c < 128) (hne : a ≠ []) : ∀ (bs bt : List Nat) (env : PEnv) (st : Store), b = bt ++ bs → Lv a b mx r env →
    st[r]? = some (.list (natV (rowOf bt [] a))) → (bt ≠ [] → env.get 29 = some (.int (ed bt a))) →
    ∃ fl env' row, forN ((ev L1.P (n + 20)).S outBody) (.one 30) (rngItems bt.length bs.length 1) env st = some (fl, env', st.set r row) ∧ ((fl = .next ∧ (b ≠ [] → env'.get 29 = some (.int (ed b a)))) ∨ (fl = .ret (.int (mx + 1)) ∧ mx < (ed a b : Nat)))
  | [], bt, env, st, hbt, L, hst, h29 => by
    have : bt = b := by rw [hbt]; simp
    subst this
    exact ⟨.next, env, _, by rw [set_same hst]; rfl, .inl ⟨rfl, h29⟩⟩
  | bc :: bs, bt, env, st, hbt, L, hst, h29 => by
    have hbc : b[bt.length]? = some bc := by rw [hbt]; simp
    have hbm : bc < 128 := hb bc (by rw [hbt]; simp)
    obtain ⟨env1, Lw, g29, step⟩ := out_step n a b mx r bc bt hl hbl ha hbm env st L hbc hst
    have unf : forN ((ev L1.P (n + 20)).S outBody) (.one 30) (rngItems bt.length (bc :: bs).length 1) env st =
      (match (ev L1.P (n + 20)).S outBody (env.set 30 (.int (bt.length : Int))) st with | some (.next, env, st) => forN ((ev L1.P (n + 20)).S outBody) (.one 30) (rngItems ((bt.length : Int) + 1) bs.length 1) env st | x => x) := rfl
    rw [unf, step]
    by_cases hm : mx < minI 9223372036854775807 (rowOf (bt ++ [bc]) [] a)
    · rw [if_pos hm]
      refine ⟨_, env1, _, rfl, .inr ⟨rfl, ?_⟩⟩
      have h2 := (minI_gt _ _ _ hm).2
      have := row_far (bt := bt ++ [bc]) (bs := bs) (by simp) hne h2
      rw [hbt]
      simpa using this
    · rw [if_neg hm]
      rw [rowOf_last' _ _ _ hne] at g29
      obtain ⟨fl, env', row, e1, e2⟩ := out_loop n a b mx r hl hbl ha hb hne bs (bt ++ [bc]) env1 (st.set r (.list (natV (rowOf (bt ++ [bc]) [] a)))) (by rw [hbt]; simp) Lw (by rw [List.getElem?_set]; simp; exact (List.getElem?_eq_some_iff.mp hst).1) (fun _ => g29)
      refine ⟨fl, env', row, ?_, e2⟩
      have h1 : ((bt ++ [bc]).length : Int) = (bt.length : Int) + 1 := by simp
      rw [h1, List.set_set] at e1
      exact e1
noncomputable def dpTail : List PS := [
      .assign 28 (.bi .list [(.bi .range [(.glob 21), (.bin .Mult (.glob 21) (.bin .Add (.bi .len [(.var 22)]) (.cint 1))), (.glob 21)])]),
      .assign 29 (.cint 0),
      .forS (.one 30) (.bi .range [(.bi .len [(.var 23)])]) outBody,
      .ret (.var 29)]
noncomputable def dpBody : List PS :=
      .ifS (.boolop false [(.not (.var 22)), (.not (.var 23))])
        [
          .ret (.bin .Mult (.glob 21) (.bin .Add (.bi .len [(.var 22)]) (.bi .len [(.var 23)])))]
        [] ::
      .ifS (.boolop false [(.cmp .Gt (.bi .len [(.var 22)]) (.glob 27)), (.cmp .Gt (.bi .len [(.var 23)]) (.glob 27))])
        [
          .ret (.bin .Add (.var 24) (.cint 1))]
        [] ::
      .ifS (.cmp .Lt (.bi .len [(.var 23)]) (.bi .len [(.var 22)]))
        [
          .assignTup [22, 23] (.tuple [(.var 23), (.var 22)])]
        [] ::
      .ifS (.cmp .Gt (.bin .Mult (.bin .Sub (.bi .len [(.var 23)]) (.bi .len [(.var 22)])) (.glob 21)) (.var 24))
        [
          .ret (.bin .Add (.var 24) (.cint 1))]
        [] :: dpTail
theorem sub_c' {i j : Int} : pbin .Sub (.int i) (.int j) = some (.int (i - j)) := id rfl
theorem true_str {l : List Nat} (h : l.length ≤ lim) : truthyV (.str l) = some (!l.isEmpty) := by
  show (bif decide (l.length ≤ lim) then _ else _) = _
  rw [bif_le h]
theorem range3_c (a b c : Int) (st : Store) : pbi .range [.int a, .int b, .int c] st = mkRng a b c st := id rfl
theorem list_c (a c : Int) (m : Nat) (st : Store) (h : m ≤ lim) : pbi .list [.rng a m c] st = some (.ref st.length, st ++ [.list (rngItems a m c)]) := by
  show (bif decide (m ≤ lim) then _ else _) = _
  rw [bif_le h]
theorem gt_c (i j : Int) : pcmp .Gt (.int i) (.int j) = some (decide (j < i)) := id rfl
theorem lt_c (i j : Int) : pcmp .Lt (.int i) (.int j) = some (decide (i < j)) := id rfl
theorem tb_c (b : Bool) : truthyV (.bool b) = some b := id rfl
theorem get_last {α : Type} (l : List α) (x : α) : (l ++ [x])[l.length]? = some x := by simp
theorem dp_tail (n : Nat) (a b : List Nat) (mx : Int) (hl : a.length ≤ 40) (hbl : b.length ≤ 40) (ha : ∀ c ∈ a, c < 128) (hb : ∀ c ∈ b, c < 128) (hne : a ≠ []) (hnb : b ≠ []) (env : PEnv) (st : Store)
    (h22 : env.get 22 = some (.str a)) (h23 : env.get 23 = some (.str b)) (h24 : env.get 24 = some (.int mx)) :
    ∃ r env' row, stepS (ev L1.P (n + 21)).E (ev L1.P (n + 21)).S dpTail env st = some (.ret (.int r), env', st ++ [row]) ∧ (r = (ed a b : Nat) ∨ (r = mx + 1 ∧ mx < (ed a b : Nat))) := by
  have la : a.length ≤ lim := by have : lim = 100000 := rfl; omega
  have lb : b.length ≤ lim := by have : lim = 100000 := rfl; omega
  have s2 : small 2 = true := by decide
  have sa : small ((a.length : Int) + 1) = true := Nat.ble_eq_true_of_le (by omega)
  have r2 : mkRng 2 (2 * ((a.length : Int) + 1)) 2 st = some (.rng 2 a.length 2, st) := rng2 a.length st (by omega)
  have row0 : rngItems 2 a.length 2 = natV (rowOf [] [] a) := by simpa using rng2_row a []
  have rb : ∀ st, mkRng 0 (b.length : Int) 1 st = some (.rng 0 b.length 1, st) := fun st => rng0 b.length st (by omega)
  obtain ⟨fl, env', row, e1, e2⟩ := out_loop (n + 1) a b mx st.length hl hbl ha hb hne b [] ((env.set 28 (.ref st.length)).set 29 (.int 0)) (st ++ [.list (natV (rowOf [] [] a))]) (by simp)
    ⟨by simp [get_set', h22], by simp [get_set', h23], by simp [get_set', h24], by simp [get_set']⟩ (get_last ..) (fun h => absurd rfl h)
  have e1' : forN ((ev L1.P (n + 21)).S outBody) (.one 30) (rngItems 0 b.length 1) ((env.set 28 (.ref st.length)).set 29 (.int 0)) (st ++ [.list (natV (rowOf [] [] a))]) = some (fl, env', st ++ [row]) := by
    have := e1
    rw [show (([] : List Nat).length : Int) = 0 from rfl, List.set_append_right _ _ (Nat.le_refl _)] at this
    simpa using this
  rcases e2 with ⟨rfl, h29⟩ | ⟨rfl, hfar⟩
  · have h29' := h29 hnb
    rw [ed_comm] at h29'
    refine ⟨_, env', row, ?_, .inl rfl⟩
    simp only [dpTail, stepS, stepS1, eE, stepE, get_set', h22, h23, h24, evList, G21, add_c, mult_c s2 sa, rd_int, range3_c, r2, list_c _ _ _ _ la, row0, len_c _ la, len_c _ lb, range1_c, rb, itemsOf, e1', h29', Nat.reduceEqDiff, ↓reduceIte]
  · refine ⟨_, env', row, ?_, .inr ⟨rfl, hfar⟩⟩
    simp only [dpTail, stepS, stepS1, eE, stepE, get_set', h22, h23, h24, evList, G21, add_c, mult_c s2 sa, rd_int, range3_c, r2, list_c _ _ _ _ la, row0, len_c _ la, len_c _ lb, range1_c, rb, itemsOf, e1', Nat.reduceEqDiff, ↓reduceIte]
theorem neq_le {m : Nat} (h : m ≤ 40) : decide ((40 : Int) < (m : Int)) = false := decide_eq_false (by omega)
theorem small_int {i : Int} (h : i.natAbs ≤ 1000) : small i = true := Nat.ble_eq_true_of_le (by omega)
theorem is_e (c : Nat) (l : List Nat) : (c :: l).isEmpty = false := id rfl
theorem b1 : (false == false) = true := id rfl
theorem b2 : (true == false) = false := id rfl
theorem b3 : (true == true) = true := id rfl
theorem b4 : (false == true) = false := id rfl
theorem two_le (x y : PV) : [x, y].length ≤ lim := by show 2 ≤ 100000; decide
theorem dp_full (n : Nat) (a b : List Nat) (mx : Int) (hl : a.length ≤ 40) (hbl : b.length ≤ 40) (ha : ∀ c ∈ a, c < 128) (hb : ∀ c ∈ b, c < 128) (env : PEnv) (st : Store)
    (h22 : env.get 22 = some (.str a)) (h23 : env.get 23 = some (.str b)) (h24 : env.get 24 = some (.int mx)) :
    ∃ r env' rows, stepS (ev L1.P (n + 21)).E (ev L1.P (n + 21)).S dpBody env st = some (.ret (.int r), env', st ++ rows) ∧ (r = (ed a b : Nat) ∨ (r = mx + 1 ∧ mx < (ed a b : Nat))) := by
  have la : a.length ≤ lim := by have : lim = 100000 := rfl; omega
  have lb : b.length ≤ lim := by have : lim = 100000 := rfl; omega
  have s2 : small 2 = true := by decide
  have sab : small ((a.length : Int) + (b.length : Int)) = true := small_int (by omega)
  cases a with
  | nil =>
    refine ⟨2 * ((([] : List Nat).length : Int) + (b.length : Int)), env, [], ?_, .inl ?_⟩
    · simp only [dpBody, stepS, stepS1, eE, eS, stepE, evTest, evBool, h22, h23, evList, G21, true_str la, List.isEmpty_nil, Bool.not_true, Bool.not_false, tb_c, b1, b2, b3, b4, cond_true, cond_false, len_c _ la, len_c _ lb, add_c, mult_c s2 sab, rd_int, List.append_nil]
    · rw [ed_nil]; simp
  | cons c a =>
    cases b with
    | nil =>
      refine ⟨2 * (((c :: a).length : Int) + (([] : List Nat).length : Int)), env, [], ?_, .inl ?_⟩
      · simp only [dpBody, stepS, stepS1, eE, eS, stepE, evTest, evBool, h22, h23, evList, G21, true_str la, true_str lb, is_e, List.isEmpty_nil, Bool.not_true, Bool.not_false, tb_c, b1, b2, b3, b4, cond_true, cond_false, len_c _ la, len_c _ lb, add_c, mult_c s2 sab, rd_int, List.append_nil]
      · rw [ed_nil']; simp
    | cons d b =>
      have n1 : decide ((40 : Int) < ((c :: a).length : Int)) = false := neq_le hl
      have n2 : decide ((40 : Int) < ((d :: b).length : Int)) = false := neq_le hbl
      have sd1 : small (((d :: b).length : Int) - ((c :: a).length : Int)) = true := small_int (by omega)
      have sd2 : small (((c :: a).length : Int) - ((d :: b).length : Int)) = true := small_int (by omega)
      have len1 := ed_len (c :: a) (d :: b)
      have len2 := ed_len (d :: b) (c :: a)
      rw [ed_comm (d :: b)] at len2
      by_cases hsw : ((d :: b).length : Int) < ((c :: a).length : Int)
      · have hs : decide (((d :: b).length : Int) < ((c :: a).length : Int)) = true := decide_eq_true hsw
        by_cases hfar : mx < (((c :: a).length : Int) - ((d :: b).length : Int)) * 2
        · have hf : decide (mx < (((c :: a).length : Int) - ((d :: b).length : Int)) * 2) = true := decide_eq_true hfar
          refine ⟨mx + 1, (env.set 22 (.str (d :: b))).set 23 (.str (c :: a)), [], ?_, .inr ⟨rfl, by omega⟩⟩
          simp only [dpBody, stepS, stepS1, eE, eS, stepE, evTest, evBool, get_set', h22, h23, h24, evList, G21, G27, true_str la, true_str lb, is_e, Bool.not_true, Bool.not_false, tb_c, b1, b2, b3, b4, cond_true, cond_false, len_c _ la, len_c _ lb, gt_c, lt_c, n1, n2, hs, unpackL, bindAll, sub_c', add_c, mult_c sd2 s2, hf, rd_int,
            two_le, decide_true, List.append_nil, Nat.reduceEqDiff, ↓reduceIte]
        · have hf : decide (mx < (((c :: a).length : Int) - ((d :: b).length : Int)) * 2) = false := decide_eq_false hfar
          obtain ⟨r, env', row, e1, e2⟩ := dp_tail n (d :: b) (c :: a) mx hbl hl hb ha (by simp) (by simp) ((env.set 22 (.str (d :: b))).set 23 (.str (c :: a))) st (by simp [get_set']) (by simp [get_set']) (by simp [get_set', h24])
          refine ⟨r, env', [row], ?_, by rw [ed_comm]; exact e2⟩
          rw [← e1]
          simp only [dpBody, stepS, stepS1, eE, eS, stepE, evTest, evBool, get_set', h22, h23, h24, evList, G21, G27, true_str la, true_str lb, is_e, Bool.not_true, Bool.not_false, tb_c, b1, b2, b3, b4, cond_true, cond_false, len_c _ la, len_c _ lb, gt_c, lt_c, n1, n2, hs, unpackL, bindAll, sub_c', add_c, mult_c sd2 s2, hf, rd_int,
            two_le, decide_true, List.append_nil, Nat.reduceEqDiff, ↓reduceIte]
      · have hs : decide (((d :: b).length : Int) < ((c :: a).length : Int)) = false := decide_eq_false hsw
        by_cases hfar : mx < (((d :: b).length : Int) - ((c :: a).length : Int)) * 2
        · have hf : decide (mx < (((d :: b).length : Int) - ((c :: a).length : Int)) * 2) = true := decide_eq_true hfar
          refine ⟨mx + 1, env, [], ?_, .inr ⟨rfl, by omega⟩⟩
          simp only [dpBody, stepS, stepS1, eE, eS, stepE, evTest, evBool, get_set', h22, h23, h24, evList, G21, G27, true_str la, true_str lb, is_e, Bool.not_true, Bool.not_false, tb_c, b1, b2, b3, b4, cond_true, cond_false, len_c _ la, len_c _ lb, gt_c, lt_c, n1, n2, hs, unpackL, bindAll, sub_c', add_c, mult_c sd1 s2, hf, rd_int,
            two_le, decide_true, List.append_nil, Nat.reduceEqDiff, ↓reduceIte]
        · have hf : decide (mx < (((d :: b).length : Int) - ((c :: a).length : Int)) * 2) = false := decide_eq_false hfar
          obtain ⟨r, env', row, e1, e2⟩ := dp_tail n (c :: a) (d :: b) mx hl hbl ha hb (by simp) (by simp) env st h22 h23 h24
          refine ⟨r, env', [row], ?_, e2⟩
          rw [← e1]
          simp only [dpBody, stepS, stepS1, eE, eS, stepE, evTest, evBool, get_set', h22, h23, h24, evList, G21, G27, true_str la, true_str lb, is_e, Bool.not_true, Bool.not_false, tb_c, b1, b2, b3, b4, cond_true, cond_false, len_c _ la, len_c _ lb, gt_c, lt_c, n1, n2, hs, unpackL, bindAll, sub_c', add_c, mult_c sd1 s2, hf, rd_int,
            two_le, decide_true, List.append_nil, Nat.reduceEqDiff, ↓reduceIte]
end Mine
end
section
set_option backward.eqns.nonrecursive false
namespace Mine
open PySem
theorem set_set (penv : PEnv) (i : Nat) (v w : PV) : (penv.set i v).set i w = penv.set i w := by
  induction penv with
  | nil => simp [PEnv.set]
  | cons p r ih =>
    obtain ⟨j, u⟩ := p
    cases h : Nat.beq j i with
    | true => simp [PEnv.set, h]
    | false => simp [PEnv.set, h, ih]
noncomputable def cpl : List Nat → List Nat → Nat
  | a :: u, b :: v => if a = b then cpl u v + 1 else 0
  | _, _ => 0
theorem cpl_le : ∀ a b : List Nat, cpl a b ≤ a.length ∧ cpl a b ≤ b.length
  | [], _ => by simp [cpl]
  | _ :: _, [] => by simp [cpl]
  | a :: u, b :: v => by
    have := cpl_le u v
    unfold cpl; split <;> simp <;> omega
theorem cpl_get : ∀ (a b : List Nat) (i : Nat), i < cpl a b → ∃ c, a[i]? = some c ∧ b[i]? = some c
  | [], _, i, h => by simp [cpl] at h
  | _ :: _, [], i, h => by simp [cpl] at h
  | a :: u, b :: v, i, h => by
    unfold cpl at h
    split at h
    · rename_i e; subst e
      cases i with
      | zero => exact ⟨a, rfl, rfl⟩
      | succ i => simpa using cpl_get u v i (by omega)
    · omega
theorem cpl_stop : ∀ a b : List Nat, a.drop (cpl a b) = [] ∨ b.drop (cpl a b) = [] ∨ ∃ c d, a[cpl a b]? = some c ∧ b[cpl a b]? = some d ∧ c ≠ d
  | [], _ => by simp [cpl]
  | _ :: _, [] => by simp [cpl]
  | a :: u, b :: v => by
    unfold cpl
    split
    · simpa using cpl_stop u v
    · rename_i h; exact .inr (.inr ⟨a, b, rfl, rfl, h⟩)
theorem cpl_take : ∀ a b : List Nat, a.take (cpl a b) = b.take (cpl a b)
  | [], _ => by simp [cpl]
  | _ :: _, [] => by simp [cpl]
  | a :: u, b :: v => by
    unfold cpl
    split
    · rename_i h; subst h; simpa using cpl_take u v
    · simp
theorem ed_cpl (a b : List Nat) : ed (a.drop (cpl a b)) (b.drop (cpl a b)) = ed a b := by
  have h := ed_pre (a.take (cpl a b)) (a.drop (cpl a b)) (b.drop (cpl a b))
  rw [← h, List.take_append_drop]
  conv => lhs; rw [cpl_take a b, List.take_append_drop]
noncomputable def preT : PE := .boolop true [(.slice (.var 22) (some (.var 25)) none none), (.slice (.var 23) (some (.var 25)) none none), (.cmp .Eq (.idx (.var 22) (.var 25)) (.idx (.var 23) (.var 25)))]
noncomputable def preB : List PS := [.aug 25 .Add (.cint 1)]
theorem eq_c (a b : List Nat) : pcmp .Eq (.str a) (.str b) = some (a == b) := id rfl
theorem aug_add (i j : Int) : paug .Add (.int i) (.int j) = some (.int (i + j)) := id rfl
theorem aug_sub (i j : Int) : paug .Sub (.int i) (.int j) = some (.int (i - j)) := id rfl
theorem ne_e {l : List Nat} (h : l ≠ []) : l.isEmpty = false := by cases l with | nil => exact absurd rfl h | cons _ _ => rfl
theorem drop_ne {l : List Nat} {k c : Nat} (h : l[k]? = some c) : l.drop k ≠ [] := by
  have := (List.getElem?_eq_some_iff.mp h).1
  intro e
  have := List.drop_eq_nil_iff.mp e
  omega
theorem pre_true (n : Nat) (a b : List Nat) (k c : Nat) (env : PEnv) (st : Store) (ha : a.length ≤ 40) (hb : b.length ≤ 40) (h22 : env.get 22 = some (.str a)) (h23 : env.get 23 = some (.str b)) (h25 : env.get 25 = some (.int k)) (hka : a[k]? = some c) (hkb : b[k]? = some c) :
    evTest (ev L1.P (n + 6)).E preT env st = some (true, st) := by
  have la : a.length ≤ lim := by have : lim = 100000 := rfl; omega
  have lb : b.length ≤ lim := by have : lim = 100000 := rfl; omega
  have k1 := (List.getElem?_eq_some_iff.mp hka).1
  have k2 := (List.getElem?_eq_some_iff.mp hkb).1
  have t1 := true_str (l := a.drop k) (by simp; omega)
  have t2 := true_str (l := b.drop k) (by simp; omega)
  simp only [preT, evTest, eE, stepE, evBool, h22, h23, h25, optE, rd_str, slice_from a (Nat.le_of_lt k1) la, slice_from b (Nat.le_of_lt k2) lb, t1, t2, ne_e (drop_ne hka), ne_e (drop_ne hkb), Bool.not_false, b3, cond_true, idx_str a hka la, idx_str b hkb lb, eq_c, BEq.rfl, tb_c]
theorem pre_false (n : Nat) (a b : List Nat) (env : PEnv) (st : Store) (ha : a.length ≤ 40) (hb : b.length ≤ 40) (h22 : env.get 22 = some (.str a)) (h23 : env.get 23 = some (.str b)) (h25 : env.get 25 = some (.int (cpl a b : Nat))) :
    evTest (ev L1.P (n + 6)).E preT env st = some (false, st) := by
  have la : a.length ≤ lim := by have : lim = 100000 := rfl; omega
  have lb : b.length ≤ lim := by have : lim = 100000 := rfl; omega
  obtain ⟨k1, k2⟩ := cpl_le a b
  have t1 := true_str (l := a.drop (cpl a b)) (by simp; omega)
  have t2 := true_str (l := b.drop (cpl a b)) (by simp; omega)
  by_cases h1 : a.drop (cpl a b) = []
  · have e1 : (a.drop (cpl a b)).isEmpty = true := by rw [h1]; rfl
    simp only [preT, evTest, eE, stepE, evBool, h22, h23, h25, optE, rd_str, slice_from a k1 la, t1, e1, Bool.not_true, b4, cond_false]
  · by_cases h2 : b.drop (cpl a b) = []
    · have e2 : (b.drop (cpl a b)).isEmpty = true := by rw [h2]; rfl
      simp only [preT, evTest, eE, stepE, evBool, h22, h23, h25, optE, rd_str, slice_from a k1 la, slice_from b k2 lb, t1, t2, ne_e h1, e2, Bool.not_true, Bool.not_false, b3, b4, cond_true, cond_false]
    · rcases cpl_stop a b with h | h | ⟨c, d, hc, hd, hcd⟩
      · exact absurd h h1
      · exact absurd h h2
      · have e3 : ([c] == [d]) = false := by simpa using hcd
        simp only [preT, evTest, eE, stepE, evBool, h22, h23, h25, optE, rd_str, slice_from a k1 la, slice_from b k2 lb, t1, t2, ne_e h1, ne_e h2, Bool.not_false, b3, cond_true, idx_str a hc la, idx_str b hd lb, eq_c, e3, tb_c]
theorem pre_loop (n : Nat) (a b : List Nat) (env : PEnv) (st : Store) (ha : a.length ≤ 40) (hb : b.length ≤ 40) (h22 : env.get 22 = some (.str a)) (h23 : env.get 23 = some (.str b)) :
    whileN (evTest (ev L1.P (n + 6)).E preT) ((ev L1.P (n + 6)).S preB) 64 (env.set 25 (.int 0)) st = some (.next, env.set 25 (.int (cpl a b : Nat)), st) := by
  have := while_run (test := evTest (ev L1.P (n + 6)).E preT) (body := (ev L1.P (n + 6)).S preB) (fun k => env.set 25 (.int (k : Int))) (fun _ => st) (cpl a b) (fun i hi => ?_) (fun i hi => ?_) ?_ (cpl a b) 64 0 (by omega) (by have := (cpl_le a b).1; omega)
  · simpa using this
  · obtain ⟨c, h1, h2⟩ := cpl_get a b i hi
    exact pre_true n a b i c _ st ha hb (by simp [get_set', h22]) (by simp [get_set', h23]) (by simp [get_set']) h1 h2
  · have e : ((i : Int) + 1) = ((i + 1 : Nat) : Int) := by omega
    simp only [preB, eS, stepS, stepS1, eE, stepE, get_set', ↓reduceIte, aug_add, set_set, e]
  · exact pre_false n a b _ st ha hb (by simp [get_set', h22]) (by simp [get_set', h23]) (by simp [get_set'])
end Mine
end
section
set_option backward.eqns.nonrecursive false
namespace Mine
open PySem
noncomputable def csl (a b : List Nat) : Nat := cpl a.reverse b.reverse
theorem csl_le (a b : List Nat) : csl a b ≤ a.length ∧ csl a b ≤ b.length := by
  have := cpl_le a.reverse b.reverse
  simpa [csl] using this
theorem csl_get (a b : List Nat) (i : Nat) (h : i < csl a b) : ∃ c, a[a.length - (i + 1)]? = some c ∧ b[b.length - (i + 1)]? = some c := by
  obtain ⟨c, h1, h2⟩ := cpl_get a.reverse b.reverse i h
  have hl := csl_le a b
  rw [List.getElem?_reverse (by omega)] at h1 h2
  exact ⟨c, by rw [show a.length - (i + 1) = a.length - 1 - i by omega]; exact h1, by rw [show b.length - (i + 1) = b.length - 1 - i by omega]; exact h2⟩
theorem csl_stop (a b : List Nat) : csl a b = a.length ∨ csl a b = b.length ∨ ∃ c d, a[a.length - (csl a b + 1)]? = some c ∧ b[b.length - (csl a b + 1)]? = some d ∧ c ≠ d := by
  have hl := csl_le a b
  rcases cpl_stop a.reverse b.reverse with h | h | ⟨c, d, h1, h2, h3⟩
  · have := List.drop_eq_nil_iff.mp h
    simp at this
    exact .inl (by unfold csl at *; omega)
  · have := List.drop_eq_nil_iff.mp h
    simp at this
    exact .inr (.inl (by unfold csl at *; omega))
  · have e1 := (List.getElem?_eq_some_iff.mp h1).1
    have e2 := (List.getElem?_eq_some_iff.mp h2).1
    simp at e1 e2
    rw [List.getElem?_reverse (by unfold csl at *; omega)] at h1 h2
    refine .inr (.inr ⟨c, d, ?_, ?_, h3⟩)
    · rw [show a.length - (csl a b + 1) = a.length - 1 - cpl a.reverse b.reverse by unfold csl; omega]; exact h1
    · rw [show b.length - (csl a b + 1) = b.length - 1 - cpl a.reverse b.reverse by unfold csl; omega]; exact h2
theorem ed_csl (a b : List Nat) : ed (a.take (a.length - csl a b)) (b.take (b.length - csl a b)) = ed a b := by
  have h := ed_cpl a.reverse b.reverse
  rw [ed_rev] at h
  rw [← h, ← ed_rev]
  simp [csl, List.drop_reverse]
noncomputable def orv (j : Nat) : PV := if j = 0 then .none else .int (-(j : Int))
theorem slice_post (l : List Nat) {j : Nat} (h : j ≤ l.length) (hl : l.length ≤ lim) : pslice (.str l) .none (orv j) .none = some (.str (l.take (l.length - j))) := by
  unfold orv
  by_cases h0 : j = 0
  · subst h0; rw [if_pos rfl, slice_all l hl]; simp
  · rw [if_neg h0, slice_toNeg l h (by omega) hl]
noncomputable def orE : PE := .boolop false [(.var 26), .cnone]
theorem int_t {i : Int} : truthyV (.int i) = some (i != 0) := id rfl
theorem or_eval (n : Nat) (j : Nat) (env : PEnv) (st : Store) (h26 : env.get 26 = some (.int (-(j : Int)))) : (ev L1.P (n + 4)).E orE env st = some (orv j, st) := by
  unfold orv
  by_cases h0 : j = 0
  · subst h0
    have : ((-((0 : Nat) : Int)) != 0) = false := by decide
    rw [if_pos rfl]
    simp only [orE, eE, stepE, evBool, h26, int_t, this, b1, cond_true]
  · have : ((-(j : Int)) != 0) = true := by simp; omega
    rw [if_neg h0]
    simp only [orE, eE, stepE, evBool, h26, int_t, this, b2, cond_false]
noncomputable def postT : PE := .boolop true [(.slice (.var 22) none (some orE) none), (.slice (.var 23) none (some orE) none), (.cmp .Eq (.idx (.var 22) (.bin .Sub (.var 26) (.cint 1))) (.idx (.var 23) (.bin .Sub (.var 26) (.cint 1))))]
noncomputable def postB : List PS := [.aug 26 .Sub (.cint 1)]
theorem post_true (n : Nat) (a b : List Nat) (j c : Nat) (env : PEnv) (st : Store) (ha : a.length ≤ 40) (hb : b.length ≤ 40) (h22 : env.get 22 = some (.str a)) (h23 : env.get 23 = some (.str b)) (h26 : env.get 26 = some (.int (-(j : Int)))) (hj : j < a.length) (hj' : j < b.length)
    (hka : a[a.length - (j + 1)]? = some c) (hkb : b[b.length - (j + 1)]? = some c) :
    evTest (ev L1.P (n + 8)).E postT env st = some (true, st) := by
  have la : a.length ≤ lim := by have : lim = 100000 := rfl; omega
  have lb : b.length ≤ lim := by have : lim = 100000 := rfl; omega
  have t1 := true_str (l := a.take (a.length - j)) (by simp; omega)
  have t2 := true_str (l := b.take (b.length - j)) (by simp; omega)
  have n1 : (a.take (a.length - j)).isEmpty = false := ne_e (fun e => by have := congrArg List.length e; simp at this; omega)
  have n2 : (b.take (b.length - j)).isEmpty = false := ne_e (fun e => by have := congrArg List.length e; simp at this; omega)
  have o1 : (ev L1.P (n + 6)).E orE env st = some (orv j, st) := or_eval (n + 2) j env st h26
  have e1 : (-(j : Int)) - 1 = -((j + 1 : Nat) : Int) := by omega
  have x1 : (ev L1.P (n + 7)).E (.slice (.var 22) none (some orE) none) env st = some (.str (a.take (a.length - j)), st) := by
    have v : (ev L1.P (n + 6)).E (.var 22) env st = some (.str a, st) := by simp only [eE, stepE, h22]
    rw [eE]; simp only [stepE, v, optE, o1, rd_str, slice_post a (Nat.le_of_lt hj) la]
  have x2 : (ev L1.P (n + 7)).E (.slice (.var 23) none (some orE) none) env st = some (.str (b.take (b.length - j)), st) := by
    have v : (ev L1.P (n + 6)).E (.var 23) env st = some (.str b, st) := by simp only [eE, stepE, h23]
    rw [eE]; simp only [stepE, v, optE, o1, rd_str, slice_post b (Nat.le_of_lt hj') lb]
  have x3 : (ev L1.P (n + 7)).E (.cmp .Eq (.idx (.var 22) (.bin .Sub (.var 26) (.cint 1))) (.idx (.var 23) (.bin .Sub (.var 26) (.cint 1)))) env st = some (.bool true, st) := by
    simp only [eE, stepE, h22, h23, h26, rd_str, rd_int, sub_c', e1, idx_strNeg a (by omega) (by omega) hka la, idx_strNeg b (by omega) (by omega) hkb lb, eq_c, BEq.rfl]
  show (match stepE L1.P (ev L1.P (n + 7)).E (ev L1.P (n + 7)).C postT env st with | some (v, st) => (match truthyV v with | some b => some (b, st) | none => none) | none => none) = _
  simp only [postT, stepE, evBool, x1, x2, x3, t1, t2, n1, n2, Bool.not_false, b3, cond_true, tb_c]
theorem post_false (n : Nat) (a b : List Nat) (env : PEnv) (st : Store) (ha : a.length ≤ 40) (hb : b.length ≤ 40) (h22 : env.get 22 = some (.str a)) (h23 : env.get 23 = some (.str b)) (h26 : env.get 26 = some (.int (-(csl a b : Int)))) :
    evTest (ev L1.P (n + 8)).E postT env st = some (false, st) := by
  have la : a.length ≤ lim := by have : lim = 100000 := rfl; omega
  have lb : b.length ≤ lim := by have : lim = 100000 := rfl; omega
  obtain ⟨k1, k2⟩ := csl_le a b
  have t1 := true_str (l := a.take (a.length - csl a b)) (by simp; omega)
  have t2 := true_str (l := b.take (b.length - csl a b)) (by simp; omega)
  have o1 : (ev L1.P (n + 6)).E orE env st = some (orv (csl a b), st) := or_eval (n + 2) _ env st h26
  have x1 : (ev L1.P (n + 7)).E (.slice (.var 22) none (some orE) none) env st = some (.str (a.take (a.length - csl a b)), st) := by
    have v : (ev L1.P (n + 6)).E (.var 22) env st = some (.str a, st) := by simp only [eE, stepE, h22]
    rw [eE]; simp only [stepE, v, optE, o1, rd_str, slice_post a k1 la]
  have x2 : (ev L1.P (n + 7)).E (.slice (.var 23) none (some orE) none) env st = some (.str (b.take (b.length - csl a b)), st) := by
    have v : (ev L1.P (n + 6)).E (.var 23) env st = some (.str b, st) := by simp only [eE, stepE, h23]
    rw [eE]; simp only [stepE, v, optE, o1, rd_str, slice_post b k2 lb]
  show (match stepE L1.P (ev L1.P (n + 7)).E (ev L1.P (n + 7)).C postT env st with | some (v, st) => (match truthyV v with | some b => some (b, st) | none => none) | none => none) = _
  by_cases h1 : csl a b = a.length
  · have e1 : (a.take (a.length - csl a b)).isEmpty = true := by rw [h1]; simp
    simp only [postT, stepE, evBool, x1, t1, e1, Bool.not_true, b4, cond_false]
  · have n1 : (a.take (a.length - csl a b)).isEmpty = false := ne_e (fun e => by have := congrArg List.length e; simp at this; omega)
    by_cases h2 : csl a b = b.length
    · have e2 : (b.take (b.length - csl a b)).isEmpty = true := by rw [h2]; simp
      simp only [postT, stepE, evBool, x1, x2, t1, t2, n1, e2, Bool.not_true, Bool.not_false, b3, b4, cond_true, cond_false]
    · have n2 : (b.take (b.length - csl a b)).isEmpty = false := ne_e (fun e => by have := congrArg List.length e; simp at this; omega)
      rcases csl_stop a b with h | h | ⟨c, d, hc, hd, hcd⟩
      · exact absurd h h1
      · exact absurd h h2
      · have e3 : ([c] == [d]) = false := by simpa using hcd
        have e1 : (-(csl a b : Int)) - 1 = -((csl a b + 1 : Nat) : Int) := by omega
        have x3 : (ev L1.P (n + 7)).E (.cmp .Eq (.idx (.var 22) (.bin .Sub (.var 26) (.cint 1))) (.idx (.var 23) (.bin .Sub (.var 26) (.cint 1)))) env st = some (.bool false, st) := by
          simp only [eE, stepE, h22, h23, h26, rd_str, rd_int, sub_c', e1, idx_strNeg a (by omega) (by omega) hc la, idx_strNeg b (by omega) (by omega) hd lb, eq_c, e3]
        simp only [postT, stepE, evBool, x1, x2, x3, t1, t2, n1, n2, Bool.not_false, b3, cond_true, tb_c]
theorem post_loop (n : Nat) (a b : List Nat) (env : PEnv) (st : Store) (ha : a.length ≤ 40) (hb : b.length ≤ 40) (h22 : env.get 22 = some (.str a)) (h23 : env.get 23 = some (.str b)) :
    whileN (evTest (ev L1.P (n + 8)).E postT) ((ev L1.P (n + 8)).S postB) 64 (env.set 26 (.int 0)) st = some (.next, env.set 26 (.int (-(csl a b : Int))), st) := by
  have hl := csl_le a b
  have := while_run (test := evTest (ev L1.P (n + 8)).E postT) (body := (ev L1.P (n + 8)).S postB) (fun k => env.set 26 (.int (-(k : Int)))) (fun _ => st) (csl a b) (fun i hi => ?_) (fun i hi => ?_) ?_ (csl a b) 64 0 (by omega) (by omega)
  · simpa using this
  · obtain ⟨c, h1, h2⟩ := csl_get a b i hi
    exact post_true n a b i c _ st ha hb (by simp [get_set', h22]) (by simp [get_set', h23]) (by simp [get_set']) (by omega) (by omega) h1 h2
  · have e : ((-(i : Int)) - 1) = -((i + 1 : Nat) : Int) := by omega
    simp only [postB, eS, stepS, stepS1, eE, stepE, get_set', ↓reduceIte, aug_sub, set_set, e]
  · exact post_false n a b _ st ha hb (by simp [get_set', h22]) (by simp [get_set', h23]) (by simp [get_set'])
theorem seqS {rec : EvE} {recS : EvS} {x : PS} {r : List PS} {env env1 : PEnv} {st st1 : Store} (h : stepS1 rec recS x env st = some (.next, env1, st1)) : stepS rec recS (x :: r) env st = stepS rec recS r env1 st1 := by
  simp only [stepS, h]
theorem assign_c {rec : EvE} {recS : EvS} {t : Nat} {e : PE} {env : PEnv} {st st1 : Store} {v : PV} (h : rec e env st = some (v, st1)) : stepS1 rec recS (.assign t e) env st = some (.next, env.set t v, st1) := by
  simp only [stepS1, h]
noncomputable def levBody : List PS :=
      .ifS (.cmp .Eq (.var 22) (.var 23))
        [
          .ret (.cint 0)]
        [] ::
      .assign 25 (.cint 0) ::
      .whileS preT preB ::
      .assign 22 (.slice (.var 22) (some (.var 25)) none none) ::
      .assign 23 (.slice (.var 23) (some (.var 25)) none none) ::
      .assign 26 (.cint 0) ::
      .whileS postT postB ::
      .assign 22 (.slice (.var 22) none (some orE) none) ::
      .assign 23 (.slice (.var 23) none (some orE) none) :: dpBody
theorem lev_def : L1.P.F 1 = some ([22, 23, 24], levBody) := by rfl
theorem lev_c (n : Nat) (a b : List Nat) (mx : Int) (st : Store) (hl : a.length ≤ 40) (hbl : b.length ≤ 40) (ha : ∀ c ∈ a, c < 128) (hb : ∀ c ∈ b, c < 128) :
    ∃ r rows, (ev L1.P (n + 24)).C 1 [.str a, .str b, .int mx] st = some (.int r, st ++ rows) ∧ (r = (ed a b : Nat) ∨ (r = mx + 1 ∧ mx < (ed a b : Nat))) := by
  have la : a.length ≤ lim := by have : lim = 100000 := rfl; omega
  have lb : b.length ≤ lim := by have : lim = 100000 := rfl; omega
  have env0 : bindAll [22, 23, 24] [.str a, .str b, .int mx] [] = some (PEnv.set (PEnv.set (PEnv.set [] 22 (.str a)) 23 (.str b)) 24 (.int mx)) := rfl
  rw [eC]
  unfold stepC
  rw [lev_def]
  simp only [env0]
  generalize he : (PEnv.set (PEnv.set (PEnv.set [] 22 (.str a)) 23 (.str b)) 24 (.int mx)) = env
  have h22 : env.get 22 = some (.str a) := by subst he; simp [get_set']
  have h23 : env.get 23 = some (.str b) := by subst he; simp [get_set']
  have h24 : env.get 24 = some (.int mx) := by subst he; simp [get_set']
  clear he env0
  by_cases hab : a = b
  · subst hab
    refine ⟨0, [], ?_, .inl (by rw [ed_self]; rfl)⟩
    simp only [levBody, eS, stepS, stepS1, evTest, eE, stepE, h22, h23, rd_str, eq_c, BEq.rfl, tb_c, freeze, List.append_nil]
  · have hne : (a == b) = false := by simpa using hab
    obtain ⟨k1, k2⟩ := cpl_le a b
    have pl := pre_loop (n + 16) a b env st hl hbl h22 h23
    generalize hA : a.drop (cpl a b) = A
    generalize hB : b.drop (cpl a b) = B
    have lA : A.length ≤ 40 := by rw [← hA]; simp; omega
    have lB : B.length ≤ 40 := by rw [← hB]; simp; omega
    have lA' : A.length ≤ lim := by have : lim = 100000 := rfl; omega
    have lB' : B.length ≤ lim := by have : lim = 100000 := rfl; omega
    have sA := slice_from a k1 la
    have sB := slice_from b k2 lb
    rw [hA] at sA
    rw [hB] at sB
    obtain ⟨j1, j2⟩ := csl_le A B
    have ql := post_loop (n + 14) A B (((env.set 25 (.int (cpl a b : Nat))).set 22 (.str A)).set 23 (.str B)) st lA lB (by simp [get_set']) (by simp [get_set'])
    have o1 := or_eval (n + 18) (csl A B) ((((env.set 25 (.int (cpl a b : Nat))).set 22 (.str A)).set 23 (.str B)).set 26 (.int (-(csl A B : Int)))) st (by simp [get_set'])
    have o2 := or_eval (n + 18) (csl A B) (((((env.set 25 (.int (cpl a b : Nat))).set 22 (.str A)).set 23 (.str B)).set 26 (.int (-(csl A B : Int)))).set 22 (.str (A.take (A.length - csl A B)))) st (by simp [get_set'])
    obtain ⟨r, env', rows, d1, d2⟩ := dp_full (n + 1) (A.take (A.length - csl A B)) (B.take (B.length - csl A B)) mx (by simp; omega) (by simp; omega) (fun c hc => ha c (by rw [← hA] at hc; exact List.mem_of_mem_drop (List.mem_of_mem_take hc)))
      (fun c hc => hb c (by rw [← hB] at hc; exact List.mem_of_mem_drop (List.mem_of_mem_take hc)))
      ((((((env.set 25 (.int (cpl a b : Nat))).set 22 (.str A)).set 23 (.str B)).set 26 (.int (-(csl A B : Int)))).set 22 (.str (A.take (A.length - csl A B)))).set 23 (.str (B.take (B.length - csl A B)))) st (by simp [get_set']) (by simp [get_set']) (by simp [get_set', h24])
    have ee : ed (A.take (A.length - csl A B)) (B.take (B.length - csl A B)) = ed a b := by rw [ed_csl, ← hA, ← hB, ed_cpl]
    rw [ee] at d2
    refine ⟨r, rows, ?_, d2⟩
    have c1 : stepS1 (ev L1.P (n + 22)).E (ev L1.P (n + 22)).S (.ifS (.cmp .Eq (.var 22) (.var 23)) [.ret (.cint 0)] []) env st = some (.next, env, st) := by
      simp only [stepS1, evTest, eE, eS, stepE, stepS, h22, h23, rd_str, eq_c, hne, tb_c]
    have c2 : stepS1 (ev L1.P (n + 22)).E (ev L1.P (n + 22)).S (.assign 25 (.cint 0)) env st = some (.next, env.set 25 (.int 0), st) := assign_c (by simp only [eE, stepE])
    have c3 : stepS1 (ev L1.P (n + 22)).E (ev L1.P (n + 22)).S (.whileS preT preB) (env.set 25 (.int 0)) st = some (.next, env.set 25 (.int (cpl a b : Nat)), st) := by
      simp only [stepS1]; exact pl
    have c4 : stepS1 (ev L1.P (n + 22)).E (ev L1.P (n + 22)).S (.assign 22 (.slice (.var 22) (some (.var 25)) none none)) (env.set 25 (.int (cpl a b : Nat))) st = some (.next, (env.set 25 (.int (cpl a b : Nat))).set 22 (.str A), st) := assign_c (by
      simp only [eE, stepE, get_set', h22, optE, rd_str, sA, Nat.reduceEqDiff, ↓reduceIte])
    have c5 : stepS1 (ev L1.P (n + 22)).E (ev L1.P (n + 22)).S (.assign 23 (.slice (.var 23) (some (.var 25)) none none)) ((env.set 25 (.int (cpl a b : Nat))).set 22 (.str A)) st = some (.next, ((env.set 25 (.int (cpl a b : Nat))).set 22 (.str A)).set 23 (.str B), st) := assign_c (by
      simp only [eE, stepE, get_set', h23, optE, rd_str, sB, Nat.reduceEqDiff, ↓reduceIte])
    have c6 : stepS1 (ev L1.P (n + 22)).E (ev L1.P (n + 22)).S (.assign 26 (.cint 0)) (((env.set 25 (.int (cpl a b : Nat))).set 22 (.str A)).set 23 (.str B)) st = some (.next, (((env.set 25 (.int (cpl a b : Nat))).set 22 (.str A)).set 23 (.str B)).set 26 (.int 0), st) := assign_c (by simp only [eE, stepE])
    have c7 : stepS1 (ev L1.P (n + 22)).E (ev L1.P (n + 22)).S (.whileS postT postB) ((((env.set 25 (.int (cpl a b : Nat))).set 22 (.str A)).set 23 (.str B)).set 26 (.int 0)) st = some (.next, (((env.set 25 (.int (cpl a b : Nat))).set 22 (.str A)).set 23 (.str B)).set 26 (.int (-(csl A B : Int))), st) := by
      simp only [stepS1]; exact ql
    generalize hE : (((env.set 25 (.int (cpl a b : Nat))).set 22 (.str A)).set 23 (.str B)).set 26 (.int (-(csl A B : Int))) = env2 at *
    have g22 : env2.get 22 = some (.str A) := by rw [← hE]; simp [get_set']
    have g23 : env2.get 23 = some (.str B) := by rw [← hE]; simp [get_set']
    have c8 : stepS1 (ev L1.P (n + 22)).E (ev L1.P (n + 22)).S (.assign 22 (.slice (.var 22) none (some orE) none)) env2 st = some (.next, env2.set 22 (.str (A.take (A.length - csl A B))), st) := assign_c (by
      have v : (ev L1.P (n + 21)).E (.var 22) env2 st = some (.str A, st) := by simp only [eE, stepE, g22]
      have o1' : (ev L1.P (n + 21)).E orE env2 st = some (orv (csl A B), st) := or_eval (n + 17) _ env2 st (by rw [← hE]; simp [get_set'])
      rw [eE]; simp only [stepE, v, optE, o1', rd_str, slice_post A j1 lA'])
    have c9 : stepS1 (ev L1.P (n + 22)).E (ev L1.P (n + 22)).S (.assign 23 (.slice (.var 23) none (some orE) none)) (env2.set 22 (.str (A.take (A.length - csl A B)))) st = some (.next, (env2.set 22 (.str (A.take (A.length - csl A B)))).set 23 (.str (B.take (B.length - csl A B))), st) := assign_c (by
      have v : (ev L1.P (n + 21)).E (.var 23) (env2.set 22 (.str (A.take (A.length - csl A B)))) st = some (.str B, st) := by simp [eE, stepE, get_set', g23]
      have o1' : (ev L1.P (n + 21)).E orE (env2.set 22 (.str (A.take (A.length - csl A B)))) st = some (orv (csl A B), st) := or_eval (n + 17) _ _ st (by rw [← hE]; simp [get_set'])
      rw [eE]; simp only [stepE, v, optE, o1', rd_str, slice_post B j2 lB'])
    have all : (ev L1.P (n + 23)).S levBody env st = some (.ret (.int r), env', st ++ rows) := by
      rw [eS]
      unfold levBody
      rw [seqS c1, seqS c2, seqS c3, seqS c4, seqS c5, seqS c6, seqS c7, seqS c8, seqS c9]
      exact d1
    rw [all]; rfl
end Mine
end
section
set_option backward.eqns.nonrecursive false
set_option maxRecDepth 4000
namespace Mine
open PySem
theorem set_last {α : Type} (l : List α) (x y : α) : (l ++ [x]).set l.length y = l ++ [y] := by simp
theorem floor_c {i j : Int} (h1 : small i = true) (h0 : 0 < j) (h2 : small j = true) : pbin .FloorDiv (.int i) (.int j) = some (.int (i / j)) := by
  show (bif small i && decide (0 < j) && small j then _ else _) = _
  rw [h1, h2, decide_eq_true h0]; rfl
theorem mod_c {i j : Int} (h0 : 0 < j) : pbin .Mod (.int i) (.int j) = some (.int (i % j)) := by
  show (bif decide (0 < j) then _ else _) = _
  rw [decide_eq_true h0]; rfl
theorem aug_floor {i j : Int} (h1 : small i = true) (h0 : 0 < j) (h2 : small j = true) : paug .FloorDiv (.int i) (.int j) = some (.int (i / j)) := floor_c h1 h0 h2
theorem sL_c {α : Type} {st : Store} {r : Nat} {xs : List PV} {f : List PV → Option α} (h : st[r]? = some (.list xs)) : sL st r f = f xs := by unfold sL; rw [h]
theorem insert_c {st : Store} {r : Nat} {xs : List PV} (h : st[r]? = some (.list xs)) (v : PV) (hl : xs.length ≤ lim) : pmeth .insert (.ref r) [.int 0, v] st = some (.none, st.set r (.list (v :: xs))) := (sL_c h).trans (bif_le hl ..)
theorem append_c {st : Store} {r : Nat} {xs : List PV} (h : st[r]? = some (.list xs)) (v : PV) (hl : xs.length ≤ lim) : pmeth .append (.ref r) [v] st = some (.none, st.set r (.list (xs ++ [v]))) := (sL_c h).trans (bif_le hl ..)
theorem extend_c {st : Store} {r : Nat} {xs ys : List PV} (h : st[r]? = some (.list xs)) (hl : xs.length + ys.length ≤ lim) : pmeth .extend (.ref r) [.list ys] st = some (.none, st.set r (.list (xs ++ ys))) := (sL_c h).trans (bif_le hl ..)
theorem ok_list {st : Store} {r : Nat} {xs : List PV} (h : st[r]? = some (.list xs)) : meOk .insert (.ref r) st = true ∧ meOk .append (.ref r) st = true ∧ meOk .append (.ref r) st = true ∧ meOk .extend (.ref r) st = true :=
  have k : isL (rd st (.ref r)) = true := by rw [rd_ref h]; rfl
  ⟨k, k, k, k⟩
noncomputable def octT : PE := .cmp .Gt (.var 65) (.cint 63)
noncomputable def octB : List PS := [
          .aug 65 .FloorDiv (.cint 64),
          .expr (.meth .insert (.var 28) [(.cint 0), (.bin .Add (.bin .Mod (.var 65) (.cint 64)) (.cint 64))])]
theorem small_int' {i : Int} (h : i.natAbs ≤ 4000000000) : small i = true := Nat.ble_eq_true_of_le (by omega)
theorem small64 : small 64 = true := by decide
theorem while_done {test : PEnv → Store → Option (Bool × Store)} {body : PEnv → Store → Option (PFlow × PEnv × Store)} {env : PEnv} {st : Store} (f : Nat) (h : test env st = some (false, st)) : whileN test body (f + 1) env st = some (.next, env, st) := by
  simp only [whileN, h]
theorem while_next {test : PEnv → Store → Option (Bool × Store)} {body : PEnv → Store → Option (PFlow × PEnv × Store)} {env env1 : PEnv} {st st1 : Store} (f : Nat) (h : test env st = some (true, st)) (hb : body env st = some (.next, env1, st1)) : whileN test body (f + 1) env st = whileN test body f env1 st1 := by
  simp only [whileN, h, hb]
theorem idx0_c (x : PV) (xs : List PV) : pidx (.list (x :: xs)) (.int 0) = some x := by simp [pidx]
theorem set0_c {st : Store} {r : Nat} {x : PV} {xs : List PV} (h : st[r]? = some (.list (x :: xs))) (v : PV) (hl : xs.length ≤ 50) : setAt (.ref r) (.int 0) v st = some (st.set r (.list (v :: xs))) := setAt_c h (i := 0) (Nat.succ_pos _) (Nat.le_trans (Nat.succ_le_succ hl) (by decide)) v
theorem and0 (v q : Nat) (h : q < 64) : (v * 64) &&& q = 0 := by
  have e1 : q = 63 &&& q := by
    rw [Nat.and_comm]
    have := Nat.and_two_pow_sub_one_eq_mod q 6
    simp at this
    rw [this, Nat.mod_eq_of_lt h]
  have e2 : (v * 64) &&& 63 = 0 := by
    have := Nat.and_two_pow_sub_one_eq_mod (v * 64) 6
    simp at this
    exact this
  rw [e1, ← Nat.and_assoc, e2, Nat.zero_and]
theorem or_c (v q : Nat) (h : q < 64) : Builtin.bitOr ((v * 64 : Nat) : Int) (q : Int) = ((v * 64 + q : Nat) : Int) := by
  rw [PyProof.Rows.bitOr_and, PyProof.Rows.bitAnd_pp (by omega) (by omega)]
  simp only [Int.toNat_natCast, and0 v q h]
  omega
theorem and_first : ∀ q : Nat, q < 64 → Builtin.bitAnd ((q + 192 : Nat) : Int) 63 = (q : Int) ∧ Builtin.bitAnd ((q + 192 : Nat) : Int) 64 = 64 ∧ Builtin.bitAnd ((q + 128 : Nat) : Int) 63 = (q : Int) ∧ Builtin.bitAnd ((q + 128 : Nat) : Int) 64 = 0 ∧
    Builtin.bitAnd ((q + 64 : Nat) : Int) 63 = (q : Int) ∧ Builtin.bitAnd ((q + 64 : Nat) : Int) 64 = 64 ∧ Builtin.bitAnd (q : Int) 63 = (q : Int) ∧ Builtin.bitAnd (q : Int) 64 = 0 := by decide +kernel
noncomputable def varT : PE := .bin .BitAnd (.var 23) (.cint 64)
noncomputable def varB : List PS := [
          .aug 38 .LShift (.cint 6),
          .assign 23 (.bi .next [(.var 37)]),
          .aug 38 .BitOr (.bin .BitAnd (.var 23) (.cint 63))]
noncomputable def varBody : List PS :=
      .assign 23 (.bi .next [(.var 37)]) ::
      .assign 38 (.bin .BitAnd (.var 23) (.cint 63)) ::
      .whileS varT varB ::
      .ret (.var 38) :: []
theorem var_def : L1.P.F 2 = some ([37], varBody) := by rfl
theorem and_c (i j : Int) : pbin .BitAnd (.int i) (.int j) = some (.int (Builtin.bitAnd i j)) := id rfl
theorem aug_or (i j : Int) : paug .BitOr (.int i) (.int j) = some (.int (Builtin.bitOr i j)) := id rfl
theorem aug_shl {i : Int} (h : small i = true) : paug .LShift (.int i) (.int 6) = some (.int (i * 64)) := by
  show (bif small i && decide ((0 : Int) ≤ 6) && decide ((6 : Int) ≤ 1000) then some (PV.int (i * 2 ^ (6 : Int).toNat)) else none) = _
  rw [h]; rfl
theorem next_c {st : Store} {r : Nat} {x : PV} {xs : List PV} (h : st[r]? = some (.iter (x :: xs))) : pbi .next [.ref r] st = some (x, st.set r (.iter xs)) := by
  show sT st r _ = _
  unfold sT
  rw [h]; rfl
theorem get_setS {st : Store} {r : Nat} {x : PObj} {y : PObj} (h : st[r]? = some x) : (st.set r y)[r]? = some y := by
  rw [List.getElem?_set]; simp; exact (List.getElem?_eq_some_iff.mp h).1
theorem eqI_c (i j : Int) : pcmp .Eq (.int i) (.int j) = some (i == j) := id rfl
theorem G44 : L1.P.G 44 = some (.int 0) := id rfl
theorem G43 : L1.P.G 43 = some (.int 256) := id rfl
theorem eof_def : L1.P.F 5 = some ([42], [.ret (.cmp .Eq (.var 42) (.glob 44))]) := by rfl
theorem non_def : L1.P.F 4 = some ([42], [.ret (.cmp .GtE (.var 42) (.glob 43))]) := by rfl
theorem eof_c (n : Nat) (m : Nat) (st : Store) : (ev L1.P (n + 4)).C 5 [.int m] st = some (.bool (decide (m = 0)), st) := by
  have e : ((m : Int) == 0) = decide (m = 0) := by
    by_cases h : m = 0
    · subst h; rfl
    · rw [decide_eq_false h, beq_eq_false_iff_ne]; omega
  have b0 : bindAll [42] [.int (m : Int)] [] = some (PEnv.set [] 42 (.int m)) := rfl
  rw [eC]; unfold stepC; rw [eof_def]
  simp only [b0, eS, stepS, stepS1, eE, stepE, get_set', rd_int, G44, eqI_c, e, freeze, ↓reduceIte]
theorem ge_c (i j : Int) : pcmp .GtE (.int i) (.int j) = some (decide (j ≤ i)) := id rfl
theorem non_c (n : Nat) (m : Nat) (st : Store) : (ev L1.P (n + 4)).C 4 [.int m] st = some (.bool (decide (256 ≤ m)), st) := by
  have e : decide ((256 : Int) ≤ (m : Int)) = decide (256 ≤ m) := by
    by_cases h : 256 ≤ m
    · rw [decide_eq_true h, decide_eq_true (by omega)]
    · rw [decide_eq_false h, decide_eq_false (by omega)]
  have b0 : bindAll [42] [.int (m : Int)] [] = some (PEnv.set [] 42 (.int m)) := rfl
  rw [eC]; unfold stepC; rw [non_def]
  simp only [b0, eS, stepS, stepS1, eE, stepE, get_set', rd_int, G43, ge_c, e, freeze, ↓reduceIte]
theorem is_c (a b : Bool) : pcmp .Is (.bool a) (.bool b) = some (a == b) := id rfl
theorem set_app_lt {α : Type} {l : List α} {x : α} {r : Nat} (y : α) (h : r < l.length) : (l ++ [x]).set r y = l.set r y ++ [x] := by
  rw [List.set_append_left _ _ h]
theorem get_app_lt {α : Type} {l : List α} {x : α} {r : Nat} (h : r < l.length) : (l ++ [x])[r]? = l[r]? := List.getElem?_append_left h
theorem keepGet (fv : List Nat) (i : Nat) (hi : i ∈ fv) : ∀ env : PEnv, (keep fv env).get i = env.get i
  | [] => rfl
  | (j, v) :: r => by
    have ih := keepGet fv i hi r
    unfold keep
    by_cases h : j = i
    · subst h
      have : fv.any (Nat.beq j) = true := by rw [List.any_eq_true]; exact ⟨j, hi, Nat.beq_refl j⟩
      rw [this]; simp [PEnv.get]
    · have nb' : Nat.beq j i = false := by rw [nb, decide_eq_false h]
      cases fv.any (Nat.beq j) with
      | true => simp only [cond_true, PEnv.get, nb', cond_false]; exact ih
      | false => simp only [cond_false, PEnv.get, nb']; exact ih
inductive F2 {α β : Type} (R : α → β → Prop) : List α → List β → Prop
  | nil : F2 R [] []
  | cons {a : α} {b : β} {l : List α} {m : List β} : R a b → F2 R l m → F2 R (a :: l) (b :: m)
theorem F2.map {α β : Type} {f : α → β} : ∀ {l : List α} {m : List β}, F2 (fun a b => b = f a) l m → m = l.map f
  | _, _, .nil => rfl
  | _, _, .cons h r => by rw [h, r.map]; rfl
theorem gen_rel {rec : EvE} {elt : PE} {t : Nat} (R : PV → PV → Prop) (Q : PEnv → Prop) (W : Store → Prop) : ∀ (items : List PV) (env : PEnv) (st : Store) (acc : List PV), Q env → W st → acc.length + items.length ≤ lim →
    (∀ x ∈ items, ∀ (e : PEnv) (s : Store), Q e → W s → ∃ v s', rec elt (e.set t x) s = some (v, s') ∧ R x v ∧ Q (e.set t x) ∧ W s') →
    ∃ vs env' st', evGen (evGens rec (emitL rec elt) []) (.one t) (evTests rec []) items env st acc = some (acc ++ vs, env', st') ∧ F2 R items vs ∧ W st'
  | [], env, st, acc, hQ, hW, hl, h => ⟨[], env, st, by simp [evGen], .nil, hW⟩
  | x :: items, env, st, acc, hQ, hW, hl, h => by
    obtain ⟨v, s', h1, h2, h3, h4⟩ := h x List.mem_cons_self env st hQ hW
    have hl' : acc.length + 1 + items.length ≤ lim := by simp only [List.length_cons] at hl; omega
    obtain ⟨vs, env', st', g1, g2, g3⟩ := gen_rel R Q W items (env.set t x) s' (acc ++ [v]) h3 h4 (by simpa using hl') (fun y hy => h y (List.mem_cons_of_mem _ hy))
    refine ⟨v :: vs, env', st', ?_, .cons h2 g2, g3⟩
    have : acc.length ≤ lim := by omega
    have te : evTests rec [] (env.set t x) st = some (true, st) := rfl
    have em : evGens rec (emitL rec elt) [] (env.set t x) st acc = some (acc ++ [v], env.set t x, s') := by simp only [evGens, emitL, h1, bif_le this]
    rw [evGen]
    simp only [bindTgt, te, em]
    rw [g1, List.append_assoc]; rfl
theorem comp_rel {P : PProg} {n : Nat} {src elt : PE} {env : PEnv} {st st1 st2 : Store} {v : PV} {items : List PV} {t : Nat} {fv : List Nat} (R : PV → PV → Prop) (W : Store → Prop)
    (h1 : (ev P n).E src env st = some (v, st1)) (h2 : itemsOf st1 v = some (items, st2)) (hl : items.length ≤ lim) (hW : W st2)
    (h : ∀ x ∈ items, ∀ (e : PEnv) (s : Store), (∀ i ∈ fv, i ≠ t → e.get i = env.get i) → W s → ∃ v s', (ev P n).E elt (e.set t x) s = some (v, s') ∧ R x v ∧ W s') :
    ∃ vs s', (ev P (n + 1)).E (.comp elt [(.one t, src, [])] fv) env st = some (.list vs, s') ∧ F2 R items vs ∧ W s' := by
  obtain ⟨vs, env', st', g1, g2, g3⟩ := gen_rel (rec := (ev P n).E) (elt := elt) (t := t) R (fun e => ∀ i ∈ fv, i ≠ t → e.get i = env.get i) W items (keep fv env) st2 [] (fun i hi _ => keepGet fv i hi env) hW (by simpa using hl) (fun x hx e s hQ hs => by
    obtain ⟨v, s', k1, k2, k3⟩ := h x hx e s hQ hs
    exact ⟨v, s', k1, k2, fun i hi hne => by rw [get_set', if_neg hne]; exact hQ i hi hne, k3⟩)
  refine ⟨vs, st', ?_, g2, g3⟩
  rw [eE]
  simp only [stepE, evComp, h1, h2, g1]
  simp
theorem comp_pure {P : PProg} {n : Nat} {src elt : PE} {env : PEnv} {st st1 st2 : Store} {v : PV} {items : List PV} {t : Nat} {fv : List Nat} (f : PV → PV)
    (h1 : (ev P n).E src env st = some (v, st1)) (h2 : itemsOf st1 v = some (items, st2)) (hl : items.length ≤ lim)
    (h : ∀ x ∈ items, ∀ (e : PEnv), (∀ i ∈ fv, i ≠ t → e.get i = env.get i) → (ev P n).E elt (e.set t x) st2 = some (f x, st2)) :
    (ev P (n + 1)).E (.comp elt [(.one t, src, [])] fv) env st = some (.list (items.map f), st2) := by
  obtain ⟨vs, s', g1, g2, g3⟩ := comp_rel (fun a b => b = f a) (fun s => s = st2) h1 h2 hl rfl (fun x hx e s he hs => ⟨f x, st2, by rw [hs]; exact h x hx e he, rfl, rfl⟩)
  rw [g1, g2.map, g3]
theorem intsOf_map : ∀ l : List Int, intsOf (l.map .int) = some l
  | [] => rfl
  | a :: l => by simp [intsOf, intsOf_map l]
theorem items_str {l : List Nat} (st : Store) (h : l.length ≤ lim) : itemsOf st (.str l) = some (l.map fun c => .str [c], st) := by
  show (bif decide (l.length ≤ lim) then _ else _) = _
  rw [bif_le h]
theorem ne_c (a b : List Nat) : pcmp .NotEq (.str a) (.str b) = some (!(a == b)) := id rfl
theorem lower_c {x : Nat} (hx : x < 128) (st : Store) : pmeth .lower (.str [x]) [] st = some (.str [lowC x], st) := by
  show Option.map _ (plower [x]) = _
  rw [low_one hx]; rfl
theorem lower_ok (l : List Nat) (st : Store) : meOk .lower (.str l) st = true := id rfl
theorem assignTup_c {rec : EvE} {recS : EvS} {ts : List Nat} {e : PE} {env env' : PEnv} {st st' : Store} {v : PV} {vs : List PV} (h : rec e env st = some (v, st')) (hu : unpackL v = some vs) (hb : bindAll ts vs env = some env') : stepS1 rec recS (.assignTup ts e) env st = some (.next, env', st') := by
  simp only [stepS1, h, hu, hb]
theorem ifT {n : Nat} {t : PE} {b o : List PS} {env : PEnv} {st : Store} (h : evTest (ev L1.P n).E t env st = some (true, st)) : stepS1 (ev L1.P n).E (ev L1.P n).S (.ifS t b o) env st = (ev L1.P n).S b env st := by
  simp only [stepS1, h]
theorem ifF {n : Nat} {t : PE} {b o : List PS} {env : PEnv} {st : Store} (h : evTest (ev L1.P n).E t env st = some (false, st)) : stepS1 (ev L1.P n).E (ev L1.P n).S (.ifS t b o) env st = (ev L1.P n).S o env st := by
  simp only [stepS1, h]
theorem oneS {n : Nat} {x : PS} {env env' : PEnv} {st st' : Store} (h : stepS1 (ev L1.P n).E (ev L1.P n).S x env st = some (.next, env', st')) : (ev L1.P (n + 1)).S [x] env st = some (.next, env', st') := by
  rw [eS]; simp only [stepS, h]
theorem expr_c {rec : EvE} {recS : EvS} {e : PE} {env : PEnv} {st st' : Store} (h : rec e env st = some (.none, st')) : stepS1 rec recS (.expr e) env st = some (.next, env, st') := by
  simp only [stepS1, h]
theorem chr_c {m : Nat} (h : m ≤ 1114111) (st : Store) : pbi .chr [.int m] st = some (.str [m], st) := by
  have h1 : decide (0 ≤ (m : Int)) = true := decide_eq_true (by omega)
  have h2 : decide ((m : Int) ≤ 1114111) = true := decide_eq_true (by omega)
  show (bif decide (0 ≤ (m : Int)) && decide ((m : Int) ≤ 0x10FFFF) then _ else _) = _
  rw [h1, h2]; rfl
theorem lim' {m : Nat} (h : m ≤ 100) : m ≤ lim := by have : lim = 100000 := rfl; omega
theorem addL_c {u v : List PV} (hu : u.length ≤ 1000) (hv : v.length ≤ 1000) : pbin .Add (.list u) (.list v) = some (.list (u ++ v)) := by
  have h : decide (u.length + v.length ≤ 100000) = true := decide_eq_true (by omega)
  show (bif decide (u.length + v.length ≤ 100000) then _ else _) = _
  rw [h]; rfl
theorem pick_map {α β : Type} (g : α → β) (l : List α) (a b : Option Int) (c : Int) : Mine.pick (l.map g) a b c = (Mine.pick l a b c).map g := by
  unfold Mine.pick
  rw [List.length_map, List.map_filterMap]
  congr 1
  funext i
  simp
theorem cut_big {k n d : Nat} (h : n ≤ k) : cutAt n d (some (k : Int)) = (n : Int) := by
  show max 0 (min (if (k : Int) < 0 then _ else _) (n : Int)) = _
  rw [if_neg (Int.not_lt.mpr (Int.natCast_nonneg k)), Int.min_eq_right (Int.ofNat_le.mpr h), Int.max_eq_right (Int.natCast_nonneg n)]
theorem slice63 (ns : List Int) (h : ns.length ≤ 63) : pslice (.list (ns.map .int)) .none (.int 63) .none = some (.list (ns.map .int)) := by
  have hl : (ns.map PV.int).length ≤ 63 := (List.length_map ..).symm ▸ h
  have p : Mine.pick (ns.map PV.int) none (some 63) 1 = ns.map .int := (pick_at _ (a := 0) rfl (cut_big (k := 63) hl) (Nat.le_refl _)).trans List.take_length
  show (bif true && decide ((ns.map PV.int).length ≤ lim) then some (PV.list (Mine.pick (ns.map PV.int) none (some 63) 1)) else none) = _
  rw [p, decide_eq_true (Nat.le_trans hl (by decide))]; rfl
theorem sum_c {l : List Int} (st : Store) (h : l.length ≤ 1000) : pbi .sum [.list (l.map .int)] st = some (.int (sumL l), st) := by
  have h' : (l.map PV.int).length ≤ lim := by have : lim = 100000 := rfl; simp; omega
  show oO (intsOf (l.map PV.int)) _ = _
  rw [intsOf_map]
  exact bif_le h' ..
end Mine
end
section
set_option backward.eqns.nonrecursive false
set_option maxRecDepth 4000
namespace Mine
open PySem
noncomputable def tl (l : List Nat) : List Nat := match l with
  | [] => []
  | d :: r => (bif r.isEmpty then d else d + 64) :: tl r
noncomputable def ocD (l : List Nat) : List Nat := match l with
  | [] => []
  | d :: r => (bif r.isEmpty then d + 128 else d + 192) :: tl r
noncomputable def dgGo (f m : Nat) (acc : List Nat) : List Nat := match f with
  | 0 => m % 64 :: acc
  | f + 1 => bif Nat.blt 63 m then dgGo f (m / 64) (m % 64 :: acc) else m % 64 :: acc
noncomputable def octs (m : Nat) : List Nat := ocD (dgGo 8 m [])
noncomputable def valD (v : Nat) (l : List Nat) : Nat := match l with
  | [] => v
  | d :: r => valD (v * 64 + d) r
theorem small24 {v : Nat} (h : v < 16777216) : small (v : Int) = true := Nat.ble_eq_true_of_le (show (v : Int).natAbs ≤ _ from Nat.le_trans (Nat.le_of_lt h) (by decide))
theorem natV_cons (x : Nat) (l : List Nat) : natV (x :: l) = .int x :: natV l := rfl
theorem dg_ne : ∀ (f m : Nat) (acc : List Nat), ∃ d r, dgGo f m acc = d :: r := by
  intro f
  induction f with
  | zero => exact fun m acc => ⟨_, _, rfl⟩
  | succ f ih =>
    intro m acc
    show ∃ d r, (bif Nat.blt 63 m then dgGo f (m / 64) (m % 64 :: acc) else m % 64 :: acc) = d :: r
    cases Nat.blt 63 m with
    | true => exact ih _ _
    | false => exact ⟨_, _, rfl⟩
theorem tl_len : ∀ l : List Nat, (tl l).length = l.length := by
  intro l
  induction l with
  | nil => rfl
  | cons d r ih => exact congrArg (· + 1) ih
theorem dg_len : ∀ (f m : Nat) (acc : List Nat), (dgGo f m acc).length ≤ acc.length + f + 1 := by
  intro f
  induction f with
  | zero => exact fun m acc => Nat.le_refl _
  | succ f ih =>
    intro m acc
    show (bif Nat.blt 63 m then dgGo f (m / 64) (m % 64 :: acc) else m % 64 :: acc).length ≤ _
    cases Nat.blt 63 m with
    | true => exact Nat.le_trans (ih _ _) (Nat.le_of_eq (by simp only [List.length_cons]; omega))
    | false => exact Nat.succ_le_succ (Nat.le_add_right ..)
theorem octs_len (m : Nat) : (octs m).length ≤ 9 := by
  obtain ⟨d, r, h⟩ := dg_ne 8 m []
  have := dg_len 8 m []
  unfold octs
  rw [h] at this ⊢
  show (tl r).length + 1 ≤ 9
  rw [tl_len]; exact this
theorem oct_step (n : Nat) (m r : Nat) (xs : List PV) (env : PEnv) (st : Store) (h65 : env.get 65 = some (.int m)) (h28 : env.get 28 = some (.ref r)) (hst : st[r]? = some (.list xs)) (hm : m < 16777216) (hl : xs.length ≤ 50) :
    (ev L1.P (n + 8)).S octB env st = some (.next, env.set 65 (.int ((m / 64 : Nat) : Int)), st.set r (.list (.int ((m / 64 % 64 + 64 : Nat) : Int) :: xs))) := by
  have e1 : (m : Int) / 64 = ((m / 64 : Nat) : Int) := rfl
  have e2 : ((m / 64 : Nat) : Int) % 64 + 64 = ((m / 64 % 64 + 64 : Nat) : Int) := rfl
  have la : xs.length ≤ lim := Nat.le_trans hl (by decide)
  simp only [octB, eS, stepS, stepS1, eE, stepE, get_set', h65, h28, aug_floor (small24 hm) (show (0 : Int) < 64 by decide) small64, e1, (ok_list hst).1, cond_true, evList, rd_int, mod_c (show (0 : Int) < 64 by decide), add_c, e2, insert_c hst _ la, Nat.reduceEqDiff, ↓reduceIte]
theorem lt_blt (m : Nat) : decide ((63 : Int) < (m : Int)) = Nat.blt 63 m := by
  cases h : Nat.blt 63 m with
  | true => exact decide_eq_true (Int.ofNat_lt.mpr (Nat.le_of_ble_eq_true h))
  | false => exact decide_eq_false fun e => by have := Nat.ble_eq_true_of_le (Int.ofNat_lt.mp e); rw [show Nat.ble (63 + 1) m = Nat.blt 63 m from rfl, h] at this; cases this
theorem oct_test (n m : Nat) (env : PEnv) (st : Store) (h65 : env.get 65 = some (.int m)) : evTest (ev L1.P (n + 3)).E octT env st = some (Nat.blt 63 m, st) := by
  simp only [octT, evTest, eE, stepE, h65, rd_int, gt_c, tb_c, lt_blt]
theorem oct_go (n g : Nat) : ∀ (f m : Nat) (acc : List Nat) (env : PEnv) (st : Store), env.get 65 = some (.int m) → env.get 28 = some (.ref st.length) → m < 64 ^ (f + 1) → m < 16777216 → acc.length + f ≤ 40 →
    ∃ env', whileN (evTest (ev L1.P (n + 8)).E octT) ((ev L1.P (n + 8)).S octB) (g + f + 1) env (st ++ [.list (natV (tl (m % 64 :: acc)))]) = some (.next, env', st ++ [.list (natV (tl (dgGo f m acc)))]) ∧ env'.get 28 = some (.ref st.length) := by
  intro f
  induction f with
  | zero =>
    intro m acc env st h65 h28 hm hs hl
    refine ⟨env, ?_, h28⟩
    have : Nat.blt 63 m = false := by rw [Bool.eq_false_iff]; exact fun e => absurd (Nat.le_of_ble_eq_true e) (Nat.not_le.mpr hm)
    exact while_done _ ((oct_test (n + 5) m env _ h65).trans (by rw [this]))
  | succ f ih =>
    intro m acc env st h65 h28 hm hs hl
    show ∃ env', _ = some (PFlow.next, env', st ++ [PObj.list (natV (tl (bif Nat.blt 63 m then dgGo f (m / 64) (m % 64 :: acc) else m % 64 :: acc)))]) ∧ _
    cases h : Nat.blt 63 m with
    | false =>
      exact ⟨env, while_done _ ((oct_test (n + 5) m env _ h65).trans (by rw [h])), h28⟩
    | true =>
      have s1 := oct_step n m st.length (natV (tl (m % 64 :: acc))) env (st ++ [.list (natV (tl (m % 64 :: acc)))]) h65 h28 (get_last _ _) hs (by rw [natV, List.length_map, tl_len]; exact Nat.le_trans (show acc.length + 1 ≤ 41 by omega) (by decide))
      rw [set_last] at s1
      obtain ⟨env', w, g28⟩ := ih (m / 64) (m % 64 :: acc) (env.set 65 (.int ((m / 64 : Nat) : Int))) st (by rw [get_set', if_pos rfl]) (by rw [get_set', if_neg (by decide)]; exact h28) (Nat.div_lt_of_lt_mul (Nat.pow_succ' ▸ hm)) (Nat.lt_of_le_of_lt (Nat.div_le_self ..) hs) (by simp only [List.length_cons]; omega)
      refine ⟨env', (while_next (g + f + 1) ((oct_test (n + 5) m env _ h65).trans (by rw [h])) s1).trans ?_, g28⟩
      exact w
theorem octets_c (n m : Nat) (st : Store) (hm : m < 16777216) : (ev L1.P (n + 12)).C 8 [.int m] st = some (.list (natV (octs m)), st ++ [.dead]) := by
  obtain ⟨env', w1, w2⟩ := oct_go (n + 2) 55 8 m [] (PEnv.set (PEnv.set [] 65 (.int m)) 28 (.ref st.length)) st (by simp [get_set']) (by simp [get_set']) (Nat.lt_of_lt_of_le hm (by decide)) hm (by decide)
  obtain ⟨d, r, hd⟩ := dg_ne 8 m []
  have hr : r.length ≤ 50 := by have := dg_len 8 m []; rw [hd] at this; exact Nat.le_trans (Nat.le_of_succ_le this) (by decide)
  have ho : octs m = (bif r.isEmpty then d + 128 else d + 192) :: tl r := by unfold octs; rw [hd]; rfl
  have e1 : natV (tl (dgGo 8 m [])) = .int ((bif r.isEmpty then d else d + 64 : Nat) : Int) :: natV (tl r) := by rw [hd]; rfl
  have e2 : ((bif r.isEmpty then d else d + 64 : Nat) : Int) + 128 = ((bif r.isEmpty then d + 128 else d + 192 : Nat) : Int) := by cases r.isEmpty <;> rfl
  rw [e1] at w1
  have g := get_last st (PObj.list (.int ((bif r.isEmpty then d else d + 64 : Nat) : Int) :: natV (tl r)))
  have c1 : stepS1 (ev L1.P (n + 10)).E (ev L1.P (n + 10)).S (.assign 28 (.newlist [(.bin .Mod (.var 65) (.cint 64))])) (PEnv.set [] 65 (.int m)) st = some (.next, (PEnv.set [] 65 (.int m)).set 28 (.ref st.length), st ++ [.list (natV (tl [m % 64]))]) := assign_c (by
    have h65 : (PEnv.set [] 65 (PV.int m)).get 65 = some (.int m) := rfl
    have l1 : ([PV.int ((m : Int) % 64)] : List PV).length ≤ lim := by show 1 ≤ 100000; decide
    simp only [eE, stepE, evList, h65, rd_int, mod_c (show (0 : Int) < 64 by decide), bif_le l1]; rfl)
  have c2 : stepS1 (ev L1.P (n + 10)).E (ev L1.P (n + 10)).S (.whileS octT octB) ((PEnv.set [] 65 (.int m)).set 28 (.ref st.length)) (st ++ [.list (natV (tl [m % 64]))]) = some (.next, env', st ++ [.list (.int ((bif r.isEmpty then d else d + 64 : Nat) : Int) :: natV (tl r))]) := by
    simp only [stepS1]; exact w1
  have c3 : stepS1 (ev L1.P (n + 10)).E (ev L1.P (n + 10)).S (.augItem (.var 28) (.cint 0) .Add (.cint 128)) env' (st ++ [.list (.int ((bif r.isEmpty then d else d + 64 : Nat) : Int) :: natV (tl r))]) = some (.next, env', st ++ [.list (natV (octs m))]) := by
    simp only [stepS1, eE, stepE, w2, rd_ref g, idx0_c, aug_add, e2, set0_c g _ (show (natV (tl r)).length ≤ 50 by rw [natV, List.length_map, tl_len]; exact hr), set_last]
    rw [ho]; rfl
  have all : (ev L1.P (n + 11)).S [.assign 28 (.newlist [(.bin .Mod (.var 65) (.cint 64))]), .whileS octT octB, .augItem (.var 28) (.cint 0) .Add (.cint 128), .ret (.var 28)] (PEnv.set [] 65 (.int m)) st = some (.ret (.ref st.length), env', st ++ [.list (natV (octs m))]) := by
    rw [eS, seqS c1, seqS c2, seqS c3]
    simp only [stepS, stepS1, eE, stepE, w2]
  have dF : L1.P.F 8 = some ([65], [.assign 28 (.newlist [(.bin .Mod (.var 65) (.cint 64))]), .whileS octT octB, .augItem (.var 28) (.cint 0) .Add (.cint 128), .ret (.var 28)]) := by rfl
  rw [eC]
  unfold stepC
  rw [dF]
  have b0 : bindAll [65] [.int (m : Int)] [] = some (PEnv.set [] 65 (.int m)) := rfl
  simp only [b0, all]
  simp only [freeze, get_last, set_last]
theorem valD_le : ∀ (l : List Nat) (v : Nat), v ≤ valD v l := by
  intro l
  induction l with
  | nil => exact fun v => Nat.le_refl v
  | cons d r ih => exact fun v => Nat.le_trans (Nat.le_trans (Nat.le_mul_of_pos_right v (by decide)) (Nat.le_add_right ..)) (ih _)
theorem var_step (n v q b : Nat) (r : Nat) (xs : List PV) (env : PEnv) (st : Store) (h37 : env.get 37 = some (.ref r)) (h38 : env.get 38 = some (.int v)) (hst : st[r]? = some (.iter (.int b :: xs))) (hv : v < 16777216) (hq : q < 64) (hb : Builtin.bitAnd (b : Int) 63 = (q : Int)) :
    (ev L1.P (n + 8)).S varB env st = some (.next, ((env.set 38 (.int ((v : Int) * 64))).set 23 (.int b)).set 38 (.int ((v * 64 + q : Nat) : Int)), st.set r (.iter xs)) := by
  have e1 : (v : Int) * 64 = ((v * 64 : Nat) : Int) := rfl
  simp only [varB, eS, stepS, stepS1, eE, stepE, get_set', h37, h38, aug_shl (small24 hv), e1, evList, next_c hst, and_c, hb, rd_int, aug_or, or_c v q hq, Nat.reduceEqDiff, ↓reduceIte]
theorem var_test (n : Nat) (b : Nat) (t : Int) (env : PEnv) (st : Store) (h23 : env.get 23 = some (.int b)) (hb : Builtin.bitAnd (b : Int) 64 = t) : evTest (ev L1.P (n + 3)).E varT env st = some (t != 0, st) := by
  simp only [varT, evTest, eE, stepE, h23, rd_int, and_c, hb, int_t]
noncomputable def more (l : List Nat) : Int := bif l.isEmpty then 0 else 64
theorem more_t (l : List Nat) : (more l != 0) = !l.isEmpty := by cases l <;> rfl
theorem tl_bits {d : Nat} (h : d < 64) (r : List Nat) : Builtin.bitAnd ((bif r.isEmpty then d else d + 64 : Nat) : Int) 63 = (d : Int) ∧ Builtin.bitAnd ((bif r.isEmpty then d else d + 64 : Nat) : Int) 64 = more r := by
  obtain ⟨_, _, _, _, a5, a6, a7, a8⟩ := and_first d h
  cases r with
  | nil => exact ⟨a7, a8⟩
  | cons => exact ⟨a5, a6⟩
theorem oc_bits {d : Nat} (h : d < 64) (r : List Nat) : Builtin.bitAnd ((bif r.isEmpty then d + 128 else d + 192 : Nat) : Int) 63 = (d : Int) ∧ Builtin.bitAnd ((bif r.isEmpty then d + 128 else d + 192 : Nat) : Int) 64 = more r := by
  obtain ⟨a1, a2, a3, a4, _⟩ := and_first d h
  cases r with
  | nil => exact ⟨a3, a4⟩
  | cons => exact ⟨a1, a2⟩
theorem var_go (n r g : Nat) (xs : List PV) : ∀ (ds : List Nat) (v b : Nat) (env : PEnv) (st : Store), (∀ d ∈ ds, d < 64) → valD v ds < 16777216 → env.get 37 = some (.ref r) → env.get 38 = some (.int v) → env.get 23 = some (.int b) → Builtin.bitAnd (b : Int) 64 = more ds →
    st[r]? = some (.iter (natV (tl ds) ++ xs)) → ∃ env', whileN (evTest (ev L1.P (n + 8)).E varT) ((ev L1.P (n + 8)).S varB) (g + ds.length + 1) env st = some (.next, env', st.set r (.iter xs)) ∧ env'.get 38 = some (.int (valD v ds)) := by
  intro ds
  induction ds with
  | nil =>
    intro v b env st _ _ h37 h38 h23 hb hst
    have hst : st[r]? = some (.iter xs) := hst
    exact ⟨env, (while_done _ (var_test (n + 5) b 0 env st h23 hb)).trans (by rw [set_same hst]), h38⟩
  | cons d ds ih =>
    intro v b env st hd hv h37 h38 h23 hb hst
    have hd0 := hd d (List.mem_cons_self ..)
    obtain ⟨b1, b2⟩ := tl_bits hd0 ds
    have s1 := var_step n v d _ r (natV (tl ds) ++ xs) env st h37 h38 hst (Nat.lt_of_le_of_lt (valD_le (d :: ds) v) hv) hd0 b1
    obtain ⟨env', w, w38⟩ := ih (v * 64 + d) _ (((env.set 38 (.int ((v : Int) * 64))).set 23 (.int ((bif ds.isEmpty then d else d + 64 : Nat) : Int))).set 38 (.int ((v * 64 + d : Nat) : Int))) (st.set r (.iter (natV (tl ds) ++ xs))) (fun e h => hd e (List.mem_cons_of_mem _ h)) hv (by simp [get_set', h37]) (by simp [get_set']) (by simp [get_set']) b2 (get_setS hst)
    rw [List.set_set] at w
    exact ⟨env', (while_next (g + ds.length + 1) (var_test (n + 5) b 64 env st h23 hb) s1).trans w, w38⟩
structure OkN (m : Nat) : Prop where
  lt : m < 16777216
  dg : ∀ d ∈ dgGo 8 m [], d < 64
  val : valD 0 (dgGo 8 m []) = m
theorem parse_c (n m r : Nat) (xs : List PV) (hm : OkN m) (st : Store) (hst : st[r]? = some (.iter (natV (octs m) ++ xs))) : (ev L1.P (n + 12)).C 2 [.ref r] st = some (.int m, st.set r (.iter xs)) := by
  obtain ⟨d, ds, hd⟩ := dg_ne 8 m []
  have hl : ds.length ≤ 8 := by have := dg_len 8 m []; rw [hd] at this; exact Nat.le_of_succ_le_succ this
  have hdg := hm.dg
  have hval := hm.val
  rw [hd] at hdg hval
  have hval : valD d ds = m := by have : valD (0 * 64 + d) ds = m := hval; rwa [Nat.zero_mul, Nat.zero_add] at this
  have ho : natV (octs m) ++ xs = .int ((bif ds.isEmpty then d + 128 else d + 192 : Nat) : Int) :: (natV (tl ds) ++ xs) := by unfold octs; rw [hd]; rfl
  rw [ho] at hst
  obtain ⟨b1, b2⟩ := oc_bits (hdg d (List.mem_cons_self ..)) ds
  obtain ⟨env', w, w38⟩ := var_go (n + 2) r (64 - ds.length - 1) xs ds d _ (((PEnv.set [] 37 (.ref r)).set 23 (.int ((bif ds.isEmpty then d + 128 else d + 192 : Nat) : Int))).set 38 (.int d)) (st.set r (.iter (natV (tl ds) ++ xs))) (fun e h => hdg e (List.mem_cons_of_mem _ h)) (by rw [hval]; exact hm.lt) rfl rfl rfl b2 (get_setS hst)
  rw [List.set_set, show 64 - ds.length - 1 + ds.length + 1 = 64 by omega] at w
  rw [hval] at w38
  have c1 : stepS1 (ev L1.P (n + 10)).E (ev L1.P (n + 10)).S (.assign 23 (.bi .next [(.var 37)])) (PEnv.set [] 37 (.ref r)) st = some (.next, (PEnv.set [] 37 (.ref r)).set 23 (.int ((bif ds.isEmpty then d + 128 else d + 192 : Nat) : Int)), st.set r (.iter (natV (tl ds) ++ xs))) := assign_c (by
    have h37 : (PEnv.set [] 37 (PV.ref r)).get 37 = some (.ref r) := rfl
    simp only [eE, stepE, evList, h37, next_c hst])
  have c2 : stepS1 (ev L1.P (n + 10)).E (ev L1.P (n + 10)).S (.assign 38 (.bin .BitAnd (.var 23) (.cint 63))) ((PEnv.set [] 37 (.ref r)).set 23 (.int ((bif ds.isEmpty then d + 128 else d + 192 : Nat) : Int))) (st.set r (.iter (natV (tl ds) ++ xs))) = some (.next, ((PEnv.set [] 37 (.ref r)).set 23 (.int ((bif ds.isEmpty then d + 128 else d + 192 : Nat) : Int))).set 38 (.int d), st.set r (.iter (natV (tl ds) ++ xs))) := assign_c (by
    simp only [eE, stepE, get_set', rd_int, and_c, b1, Nat.reduceEqDiff, ↓reduceIte])
  have c3 : stepS1 (ev L1.P (n + 10)).E (ev L1.P (n + 10)).S (.whileS varT varB) (((PEnv.set [] 37 (.ref r)).set 23 (.int ((bif ds.isEmpty then d + 128 else d + 192 : Nat) : Int))).set 38 (.int d)) (st.set r (.iter (natV (tl ds) ++ xs))) = some (.next, env', st.set r (.iter xs)) := by simp only [stepS1]; exact w
  have all : (ev L1.P (n + 11)).S varBody (PEnv.set [] 37 (.ref r)) st = some (.ret (.int m), env', st.set r (.iter xs)) := by
    rw [eS]
    unfold varBody
    rw [seqS c1, seqS c2, seqS c3]
    simp only [stepS, stepS1, eE, stepE, w38]
  rw [eC]
  unfold stepC
  rw [var_def]
  have b0 : bindAll [37] [.ref r] [] = some (PEnv.set [] 37 (.ref r)) := rfl
  simp only [b0, all, freeze]
noncomputable def tapeOf (l : List Nat) : List PV := match l with
  | [] => []
  | m :: r => natV (octs m) ++ tapeOf r
theorem tapeOf_app : ∀ a b : List Nat, tapeOf (a ++ b) = tapeOf a ++ tapeOf b := by
  intro a b
  induction a with
  | nil => rfl
  | cons m r ih => exact (congrArg (natV (octs m) ++ ·) ih).trans (List.append_assoc ..).symm
end Mine
end
section
set_option backward.eqns.nonrecursive false
set_option maxRecDepth 10000
namespace Mine
open PySem
noncomputable def KD : List (Nat × Nat × Nat) := [(13184, 112, 97), (13185, 110, 97), (13187, 109, 97), (13188, 107, 97), (13236, 112, 118), (13237, 110, 118), (13239, 109, 118), (13240, 107, 118), (13242, 112, 119), (13243, 110, 119), (13245, 109, 119), (13246, 107, 119), (13225, 112, 97), (13241, 109, 118), (13247, 109, 119), (5242945, 112, 97), (5111894, 110, 118), (4915287, 107, 119), (5046337, 109, 97), (27, 61, 61), (28, 33, 61), (29, 60, 61), (30, 62, 61), (33, 60, 60), (34, 62, 62), (35, 42, 42), (36, 43, 61), (37, 45, 61), (38, 42, 61), (39, 47, 61), (40, 37, 61), (41, 38, 61), (42, 124, 61), (43, 94, 61), (47, 47, 47), (50, 64, 61), (51, 45, 62)]
noncomputable def kV (x : Nat × Nat × Nat) : PV := .tuple [.int x.1, .str [x.2.1, x.2.2]]
theorem kinds_c (n : Nat) (st : Store) : (ev L1.P (n + 12)).C 7 [] st = some (.list (KD.map kV), st) := by kernel_rfl
inductive AllL {α : Type} (p : α → Prop) : List α → Prop
  | nil : AllL p []
  | cons {x : α} {l : List α} : p x → AllL p l → AllL p (x :: l)
theorem AllL.mem {α : Type} {p : α → Prop} {l : List α} (h : AllL p l) : ∀ x ∈ l, p x := by
  induction h with
  | nil => exact fun x hx => by cases hx
  | cons h _ ih => exact fun y hy => (List.mem_cons.mp hy).elim (fun e => e ▸ h) (ih y)
noncomputable def TX : PV := .dict (L1.g67e.map fun p => (p.2, p.1))
noncomputable def txE : PE := .dcomp (.idx (.glob 67) (.var 83)) (.var 83) [((.one 83), (.glob 67), [])] []
theorem tx_c (n : Nat) (v : PV) (st : Store) : (ev L1.P (n + 8)).E txE [(66, v)] st = some (TX, st) := by kernel_rfl
noncomputable def e1 : PE := .comp (.bi .chr [(.var 97)]) [((.one 97), (.list [(.bin .FloorDiv (.var 65) (.cint 65536)), (.bin .Mod (.var 65) (.cint 65536))]), [(.cmp .Gt (.var 97) (.cint 0))])] []
noncomputable def e2 : PE := .tuple [(.var 65), (.meth .join (.cstr []) [(.comp (.call 3 [(.var 63)]) [((.one 63), (.var 93), [])] [])])]
noncomputable def e3 : PE := .tuple [(.var 65), (.idx (.var 95) (.var 65))]
noncomputable def rdT : PE := .cmp .Is (.call 4 [(.var 65)]) (.cbool true)
noncomputable def rdI : PS := .ifS rdT [.assign 93 e1, .expr (.meth .append (.var 96) [e2])] [.expr (.meth .append (.var 96) [e3])]
noncomputable def envR (r p m : Nat) : PEnv := [(66, .ref r), (95, TX), (96, .ref p), (65, .int m)]
noncomputable def envS (r p m : Nat) (v : PV) : PEnv := [(66, .ref r), (95, TX), (96, .ref p), (65, .int m), (93, v)]
noncomputable def sgn (m : Nat) : PV := .list (([m / 65536, m % 65536].filter (Nat.blt 0)).map fun h => .str [h])
inductive Rd (x : Nat × Nat × Nat) : Prop
  | big (h : Nat.ble 256 x.1 = true) (a : ∀ n r p st, (ev L1.P (n + 8)).E e1 (envR r p x.1) st = some (sgn x.1, st)) (a' : ∀ n r p v st, (ev L1.P (n + 8)).E e1 (envS r p x.1 v) st = some (sgn x.1, st))
    (b : ∀ n r p st, (ev L1.P (n + 16)).E e2 (envS r p x.1 (sgn x.1)) st = some (kV x, st))
  | op (h : Nat.ble 256 x.1 = false) (a : ∀ n r p st, (ev L1.P (n + 8)).E e3 (envR r p x.1) st = some (kV x, st)) (a' : ∀ n r p v st, (ev L1.P (n + 8)).E e3 (envS r p x.1 v) st = some (kV x, st))
theorem rd_all : AllL Rd KD := by
  unfold KD
  repeat' (first
    | exact AllL.nil
    | refine AllL.cons (.big rfl (fun _ _ _ _ => by kernel_rfl) (fun _ _ _ _ _ => by kernel_rfl) (fun _ _ _ _ => by kernel_rfl)) ?_
    | refine AllL.cons (.op rfl (fun _ _ _ _ => by kernel_rfl) (fun _ _ _ _ _ => by kernel_rfl)) ?_)
noncomputable def okB (m : Nat) : Bool := Nat.blt m 16777216 && (dgGo 8 m []).all (fun d => Nat.blt d 64) && Nat.beq (valD 0 (dgGo 8 m [])) m
theorem okB_ok {m : Nat} (h : okB m = true) : OkN m := by
  obtain ⟨h, h3⟩ := Bool.and_eq_true_iff.mp h
  obtain ⟨h1, h2⟩ := Bool.and_eq_true_iff.mp h
  exact ⟨Nat.le_of_ble_eq_true h1, fun d hd => Nat.le_of_ble_eq_true (List.all_eq_true.mp h2 d hd), Nat.eq_of_beq_eq_true h3⟩
theorem ok_all : (0 :: KD.map (·.1)).all okB = true := by kernel_rfl
theorem ok_kd {x : Nat × Nat × Nat} (h : x ∈ KD) : OkN x.1 := okB_ok (List.all_eq_true.mp ok_all _ (List.mem_cons_of_mem _ (List.mem_map_of_mem h)))
theorem ok_0 : OkN 0 := okB_ok (List.all_eq_true.mp ok_all _ (List.mem_cons_self ..))
theorem pos_kd {x : Nat × Nat × Nat} (h : x ∈ KD) : x.1 ≠ 0 := fun e => by
  have h1 : KD.all (fun x => !Nat.beq x.1 0) = true := by kernel_rfl
  have := List.all_eq_true.mp h1 x h
  rw [e] at this; cases this
theorem non_cB (n : Nat) (m : Nat) (st : Store) : (ev L1.P (n + 4)).C 4 [.int m] st = some (.bool (Nat.ble 256 m), st) := by
  rw [non_c]
  congr 3
  cases h : Nat.ble 256 m with
  | true => exact decide_eq_true (Nat.le_of_ble_eq_true h)
  | false => exact decide_eq_false fun e => by rw [Nat.ble_eq_true_of_le e] at h; cases h
theorem rdT_c (n m : Nat) {env : PEnv} (st : Store) (h65 : env.get 65 = some (.int m)) : evTest (ev L1.P (n + 8)).E rdT env st = some (Nat.ble 256 m, st) := by
  simp only [rdT, evTest, eE, stepE, evList, h65, non_cB, rd_bool, is_c, tb_c]
  cases Nat.ble 256 m <;> rfl
theorem app_c {n p : Nat} {a : PE} {v : PV} {env : PEnv} {st : Store} {xs : List PV} (h96 : env.get 96 = some (.ref p)) (ha : (ev L1.P n).E a env st = some (v, st)) (hst : st[p]? = some (.list xs)) (hl : xs.length ≤ lim) :
    (ev L1.P (n + 1)).E (.meth .append (.var 96) [a]) env st = some (.none, st.set p (.list (xs ++ [v]))) := by
  have v96 : (ev L1.P n).E (.var 96) env st = some (.ref p, st) := by
    cases n with
    | zero => exact absurd ha nofun
    | succ n => rw [eE]; simp only [stepE, h96]
  rw [eE]
  simp only [stepE, v96, (ok_list hst).2.1, cond_true, evList, ha, append_c hst v hl]
theorem rdI_c (n r p : Nat) {x : Nat × Nat × Nat} (hx : Rd x) (env : PEnv) (he : env = envR r p x.1 ∨ ∃ v, env = envS r p x.1 v) (st : Store) (xs : List PV) (hst : st[p]? = some (.list xs)) (hl : xs.length ≤ lim) :
    ∃ env', stepS1 (ev L1.P (n + 20)).E (ev L1.P (n + 20)).S rdI env st = some (.next, env', st.set p (.list (xs ++ [kV x]))) ∧ (env' = envR r p x.1 ∨ ∃ v, env' = envS r p x.1 v) := by
  have h65 : env.get 65 = some (.int x.1) := by rcases he with rfl | ⟨v, rfl⟩ <;> rfl
  have h96 : env.get 96 = some (.ref p) := by rcases he with rfl | ⟨v, rfl⟩ <;> rfl
  have t := rdT_c (n + 12) x.1 st h65
  cases hx with
  | big h a a' b =>
    rw [h] at t
    have a1 : (ev L1.P (n + 19)).E e1 env st = some (sgn x.1, st) := by
      rcases he with rfl | ⟨v, rfl⟩
      · exact a (n + 11) r p st
      · exact a' (n + 11) r p v st
    have s1 : env.set 93 (sgn x.1) = envS r p x.1 (sgn x.1) := by rcases he with rfl | ⟨v, rfl⟩ <;> rfl
    refine ⟨envS r p x.1 (sgn x.1), ?_, .inr ⟨_, rfl⟩⟩
    unfold rdI
    rw [ifT t, eS, seqS (assign_c a1), s1]
    have ap := app_c (n := n + 18) (p := p) (env := envS r p x.1 (sgn x.1)) rfl (b (n + 2) r p st) hst hl
    simp only [stepS, expr_c ap]
  | op h a a' =>
    rw [h] at t
    have a1 : (ev L1.P (n + 18)).E e3 env st = some (kV x, st) := by
      rcases he with rfl | ⟨v, rfl⟩
      · exact a (n + 10) r p st
      · exact a' (n + 10) r p v st
    refine ⟨env, ?_, he⟩
    unfold rdI
    rw [ifF t, eS]
    have ap := app_c (n := n + 18) (p := p) (env := env) h96 a1 hst hl
    simp only [stepS, expr_c ap]
noncomputable def rlT : PE := .cmp .Is (.call 5 [(.var 65)]) (.cbool false)
noncomputable def rlB : List PS := [rdI, .assign 65 (.call 2 [(.var 66)])]
theorem rlT_c (n m : Nat) {env : PEnv} (st : Store) (h65 : env.get 65 = some (.int m)) : evTest (ev L1.P (n + 8)).E rlT env st = some (!decide (m = 0), st) := by
  simp only [rlT, evTest, eE, stepE, evList, h65, eof_c, rd_bool, is_c, tb_c]
  cases decide (m = 0) <;> rfl
theorem rd_go (n r g : Nat) (rest : List PV) : ∀ (l : List (Nat × Nat × Nat)) (m : Nat) (done : List PV) (env : PEnv) (st : Store), (∀ x ∈ l, x ∈ KD) → done.length + l.length ≤ 1000 → r < st.length → (env = envR r st.length m ∨ ∃ v, env = envS r st.length m v) →
    ∀ ms : List Nat, m :: ms = l.map (·.1) ++ [0] → st[r]? = some (.iter (tapeOf ms ++ rest)) →
    ∃ env', whileN (evTest (ev L1.P (n + 21)).E rlT) ((ev L1.P (n + 21)).S rlB) (g + l.length + 1) env (st ++ [.list done]) = some (.next, env', st.set r (.iter rest) ++ [.list (done ++ l.map kV)]) ∧ env'.get 96 = some (.ref st.length) := by
  intro l
  induction l with
  | nil =>
    intro m done env st _ _ hr he ms hms hst
    obtain ⟨rfl, rfl⟩ := List.cons.inj hms
    have h65 : env.get 65 = some (.int (0 : Nat)) := by rcases he with rfl | ⟨v, rfl⟩ <;> rfl
    have h96 : env.get 96 = some (.ref st.length) := by rcases he with rfl | ⟨v, rfl⟩ <;> rfl
    have hst : st[r]? = some (.iter rest) := hst
    refine ⟨env, (while_done _ (rlT_c (n + 13) 0 _ h65)).trans ?_, h96⟩
    rw [set_same hst, List.map_nil, List.append_nil]
  | cons x l ih =>
    intro m done env st hk hl hr he ms hms hst
    have hm1 : m = x.1 := (List.cons.inj hms).1
    replace hms : ms = l.map (·.1) ++ [0] := (List.cons.inj hms).2
    subst hm1
    have hx := hk x (List.mem_cons_self ..)
    have h65 : env.get 65 = some (.int x.1) := by rcases he with rfl | ⟨v, rfl⟩ <;> rfl
    have t := rlT_c (n + 13) x.1 (st ++ [.list done]) h65
    rw [decide_eq_false (pos_kd hx)] at t
    obtain ⟨env1, i1, he1⟩ := rdI_c n r st.length (rd_all.mem x hx) env he (st ++ [.list done]) done (get_last ..) (by simp only [List.length_cons] at hl; exact Nat.le_trans (show done.length ≤ 1000 by omega) (by decide))
    rw [set_last] at i1
    have h66 : env1.get 66 = some (.ref r) := by rcases he1 with rfl | ⟨v, rfl⟩ <;> rfl
    obtain ⟨m', ms', hm', hok⟩ : ∃ m' ms', ms = m' :: ms' ∧ OkN m' := by
      cases l with
      | nil => exact ⟨0, [], hms, ok_0⟩
      | cons y l => exact ⟨y.1, l.map (·.1) ++ [0], hms.trans rfl, ok_kd (hk y (List.mem_cons_of_mem _ (List.mem_cons_self ..)))⟩
    subst hm'
    have pr : (ev L1.P (n + 19)).C 2 [.ref r] (st ++ [.list (done ++ [kV x])]) = some (.int m', st.set r (.iter (tapeOf ms' ++ rest)) ++ [.list (done ++ [kV x])]) := by
      have := parse_c (n + 7) m' r (tapeOf ms' ++ rest) hok (st ++ [.list (done ++ [kV x])]) (by rw [get_app_lt hr, hst]; exact congrArg (fun q => some (PObj.iter q)) (List.append_assoc ..))
      rw [set_app_lt _ hr] at this
      exact this
    have a2 : stepS1 (ev L1.P (n + 20)).E (ev L1.P (n + 20)).S (.assign 65 (.call 2 [(.var 66)])) env1 (st ++ [.list (done ++ [kV x])]) = some (.next, env1.set 65 (.int m'), st.set r (.iter (tapeOf ms' ++ rest)) ++ [.list (done ++ [kV x])]) := assign_c (by
      simp only [eE, stepE, evList, h66, pr])
    have b : (ev L1.P (n + 21)).S rlB env (st ++ [.list done]) = some (.next, env1.set 65 (.int m'), st.set r (.iter (tapeOf ms' ++ rest)) ++ [.list (done ++ [kV x])]) := by
      rw [eS]; unfold rlB
      rw [seqS i1]
      simp only [stepS, a2]
    have he2 : env1.set 65 (.int m') = envR r (st.set r (.iter (tapeOf ms' ++ rest))).length m' ∨ ∃ v, env1.set 65 (.int m') = envS r (st.set r (.iter (tapeOf ms' ++ rest))).length m' v := by
      rw [List.length_set]
      rcases he1 with rfl | ⟨v, rfl⟩
      · exact .inl rfl
      · exact .inr ⟨v, rfl⟩
    obtain ⟨env', w, g96⟩ := ih m' (done ++ [kV x]) (env1.set 65 (.int m')) (st.set r (.iter (tapeOf ms' ++ rest))) (fun y hy => hk y (List.mem_cons_of_mem _ hy)) (by simp only [List.length_cons, List.length_append, List.length_nil] at hl ⊢; omega) (by rw [List.length_set]; exact hr) he2 ms' hms (get_setS hst)
    rw [List.set_set, List.append_assoc] at w
    rw [List.length_set] at g96
    exact ⟨env', (while_next (g + l.length + 1) t b).trans w, g96⟩
noncomputable def rdBody : List PS := [.assign 95 txE, .assign 96 (.newlist []), .assign 65 (.call 2 [(.var 66)]), .whileS rlT rlB, .ret (.var 96)]
theorem rd_def : L1.P.F 9 = some ([66], rdBody) := by rfl
theorem read_c (n r : Nat) (rest : List PV) (l : List (Nat × Nat × Nat)) (hk : ∀ x ∈ l, x ∈ KD) (hl : l.length ≤ 60) (st : Store) (hst : st[r]? = some (.iter (tapeOf (l.map (·.1) ++ [0]) ++ rest))) :
    (ev L1.P (n + 24)).C 9 [.ref r] st = some (.list (l.map kV), st.set r (.iter rest) ++ [.dead]) := by
  have hr := (List.getElem?_eq_some_iff.mp hst).1
  obtain ⟨m, ms, hm, hok⟩ : ∃ m ms, l.map (·.1) ++ [0] = m :: ms ∧ OkN m := by
    cases l with
    | nil => exact ⟨0, [], rfl, ok_0⟩
    | cons y l => exact ⟨y.1, l.map (·.1) ++ [0], rfl, ok_kd (hk y (List.mem_cons_self ..))⟩
  rw [hm] at hst
  have pr : (ev L1.P (n + 21)).C 2 [.ref r] (st ++ [.list []]) = some (.int m, st.set r (.iter (tapeOf ms ++ rest)) ++ [.list []]) := by
    have := parse_c (n + 9) m r (tapeOf ms ++ rest) hok (st ++ [.list []]) (by rw [get_app_lt hr, hst]; exact congrArg (fun q => some (PObj.iter q)) (List.append_assoc ..))
    rw [set_app_lt _ hr] at this
    exact this
  obtain ⟨env', w, g96⟩ := rd_go (n + 1) r (64 - l.length - 1) rest l m [] (envR r st.length m) (st.set r (.iter (tapeOf ms ++ rest))) hk (by simp only [List.length_nil]; omega) (by rw [List.length_set]; exact hr) (.inl (by rw [List.length_set])) ms hm.symm (get_setS hst)
  rw [List.set_set, show 64 - l.length - 1 + l.length + 1 = 64 by omega, List.nil_append] at w
  rw [List.length_set] at g96
  have c1 : stepS1 (ev L1.P (n + 22)).E (ev L1.P (n + 22)).S (.assign 95 txE) [(66, .ref r)] st = some (.next, [(66, .ref r), (95, TX)], st) := assign_c (tx_c (n + 14) (.ref r) st)
  have c2 : stepS1 (ev L1.P (n + 22)).E (ev L1.P (n + 22)).S (.assign 96 (.newlist [])) [(66, .ref r), (95, TX)] st = some (.next, [(66, .ref r), (95, TX), (96, .ref st.length)], st ++ [.list []]) := assign_c rfl
  have c3 : stepS1 (ev L1.P (n + 22)).E (ev L1.P (n + 22)).S (.assign 65 (.call 2 [(.var 66)])) [(66, .ref r), (95, TX), (96, .ref st.length)] (st ++ [.list []]) = some (.next, envR r st.length m, st.set r (.iter (tapeOf ms ++ rest)) ++ [.list []]) := assign_c (by
    have h66 : PEnv.get [(66, PV.ref r), (95, TX), (96, .ref st.length)] 66 = some (.ref r) := rfl
    simp only [eE, stepE, evList, h66, pr])
  have c4 : stepS1 (ev L1.P (n + 22)).E (ev L1.P (n + 22)).S (.whileS rlT rlB) (envR r st.length m) (st.set r (.iter (tapeOf ms ++ rest)) ++ [.list []]) = some (.next, env', st.set r (.iter rest) ++ [.list (l.map kV)]) := by
    simp only [stepS1]; exact w
  have all : (ev L1.P (n + 23)).S rdBody [(66, .ref r)] st = some (.ret (.ref st.length), env', st.set r (.iter rest) ++ [.list (l.map kV)]) := by
    rw [eS]
    unfold rdBody
    rw [seqS c1, seqS c2, seqS c3, seqS c4]
    simp only [stepS, stepS1, eE, stepE, g96]
  rw [eC]
  unfold stepC
  rw [rd_def]
  have b0 : bindAll [66] [.ref r] [] = some [(66, .ref r)] := rfl
  have ls : (st.set r (.iter rest)).length = st.length := List.length_set ..
  have gl : (st.set r (.iter rest) ++ [PObj.list (l.map kV)])[st.length]? = some (.list (l.map kV)) := by rw [← ls]; exact get_last ..
  have sl : (st.set r (.iter rest) ++ [PObj.list (l.map kV)]).set st.length .dead = st.set r (.iter rest) ++ [.dead] := by rw [← ls, set_last]
  simp only [b0, all, freeze, gl, sl]
end Mine
end
section
set_option backward.eqns.nonrecursive false
set_option maxRecDepth 10000
namespace Mine
open PySem
theorem idxL_c {xs : List PV} {k : Nat} {v : PV} (h : xs[k]? = some v) (hk : k ≤ lim) : pidx (.list xs) (.int k) = some v := by
  show (bif decide ((0 : Int) ≤ (k : Int)) && decide ((k : Int) ≤ (lim : Int)) then xs[(k : Int).toNat]? else none) = _
  rw [decide_eq_true (Int.natCast_nonneg k), decide_eq_true (Int.ofNat_le.mpr hk)]
  exact h
theorem step_len : ∀ n, n ≤ 63 → ∀ k, k < 10 → (Builtin.Str.strSliceIndices (some ((k : Nat) : Int)) none 10 n).length ≤ 1000 := by decide +kernel
theorem pick_len (ns : List Int) (h : ns.length ≤ 63) (k : Nat) (hk : k < 10) : (Mine.pick ns (some (k : Int)) none 10).length ≤ 1000 :=
  Nat.le_trans (List.length_filterMap_le _ _) (step_len _ h k hk)
theorem slice10 (ns : List Int) (h : ns.length ≤ 63) (k : Nat) : pslice (.list (ns.map .int)) (.int k) .none (.int 10) = some (.list ((Mine.pick ns (some (k : Int)) none 10).map .int)) := by
  show (bif true && decide ((ns.map PV.int).length ≤ lim) then some (PV.list (Mine.pick (ns.map PV.int) (some (k : Int)) none 10)) else none) = _
  rw [pick_map, decide_eq_true (Nat.le_trans ((List.length_map ..).symm ▸ h : (ns.map PV.int).length ≤ 63) (by decide))]; rfl
noncomputable def stL : List Nat := [4, 16, 21, 23, 0, 1, 2, 3, 0, 2]
noncomputable def numZ (ns : List Int) (k : Nat) : Int := ((stL.getD k 0 : Nat) + sumL (Mine.pick ns (some (k : Int)) none 10)) % 1000000
noncomputable def numN (ns : List Int) (k : Nat) : Nat := (numZ ns k).toNat
theorem numN_z (ns : List Int) (k : Nat) : numZ ns k = (numN ns k : Int) := (Int.toNat_of_nonneg (Int.emod_nonneg _ (by decide))).symm
theorem numN_lt (ns : List Int) (k : Nat) : numN ns k < 1000000 := by
  have : numZ ns k < 1000000 := Int.emod_lt_of_pos _ (by decide)
  rw [numN_z] at this; exact Int.ofNat_lt.mp this
noncomputable def drE : PE := .bin .Mod (.bin .Add (.idx (.var 88) (.var 50)) (.bi .sum [(.slice (.slice (.var 45) none (some (.cint 63)) none) (some (.var 50)) none (some (.cint 10)))])) (.bin .Pow (.cint 10) (.cint 6))
theorem st_get {k : Nat} (hk : k < 10) : (natV stL)[k]? = some (.int ((stL.getD k 0 : Nat) : Int)) := by
  have : stL[k]? = some (stL.getD k 0) := by rw [List.getD_eq_getElem?_getD, List.getElem?_eq_getElem (show k < stL.length from hk)]; rfl
  rw [natV, List.getElem?_map, this]; rfl
theorem drE_c (n : Nat) (ns : List Int) (h : ns.length ≤ 63) (k : Nat) (hk : k < 10) (e : PEnv) (st : Store) (h45 : e.get 45 = some (.list (ns.map .int))) (h88 : e.get 88 = some (.list (natV stL))) (h50 : e.get 50 = some (.int k)) : (ev L1.P (n + 6)).E drE e st = some (.int (numN ns k), st) := by
  have b : pidx (.list (natV stL)) (.int (k : Int)) = some (.int ((stL.getD k 0 : Nat) : Int)) := idxL_c (st_get hk) (Nat.le_trans (Nat.le_of_lt hk) (by decide))
  have p : (ev L1.P (n + 5)).E (.bin .Pow (.cint 10) (.cint 6)) e st = some (.int 1000000, st) := rfl
  have a : (ev L1.P (n + 5)).E (.bin .Add (.idx (.var 88) (.var 50)) (.bi .sum [(.slice (.slice (.var 45) none (some (.cint 63)) none) (some (.var 50)) none (some (.cint 10)))])) e st = some (.int ((stL.getD k 0 : Nat) + sumL (Mine.pick ns (some (k : Int)) none 10)), st) := by
    simp only [eE, stepE, evList, optE, h45, h50, h88, rd_list, b, slice63 ns h, slice10 ns h, sum_c st (pick_len ns h k hk), rd_int, add_c]
  unfold drE
  rw [eE]; simp only [stepE, a, p, rd_int, mod_c (show (0 : Int) < 1000000 by decide)]
  rw [← numN_z]; rfl
noncomputable def nx (p : Nat) : Nat := (p + 1) % 37
noncomputable def itP (j p : Nat) : Nat := match j with
  | 0 => p
  | j + 1 => itP j (nx p)
theorem pig : ∀ (cs done : List Nat), cs.Nodup → (∀ c ∈ cs, c ∈ done) → cs.length ≤ done.length := by
  intro cs
  induction cs with
  | nil => exact fun _ _ _ => Nat.zero_le _
  | cons c r ih =>
    intro done hn h
    obtain ⟨h1, h2⟩ := List.nodup_cons.mp hn
    have hc := h c (List.mem_cons_self ..)
    have := ih (done.erase c) h2 fun d hd => (List.mem_erase_of_ne (fun e => h1 (by rw [← e]; exact hd))).mpr (h d (List.mem_cons_of_mem _ hd))
    rw [List.length_erase_of_mem hc] at this
    exact Nat.le_trans (Nat.succ_le_succ this) (Nat.le_of_eq (Nat.succ_pred_eq_of_pos (List.length_pos_of_mem hc)))
theorem it_nodup : ∀ p, p < 37 → [itP 0 p, itP 1 p, itP 2 p, itP 3 p].Nodup := by decide +kernel
theorem free_ex (done : List Nat) (hl : done.length ≤ 3) (p : Nat) (hp : p < 37) : ∃ j, j < 4 ∧ itP j p ∉ done := by
  refine Decidable.byContradiction fun hc => ?_
  have h : ∀ j, j < 4 → itP j p ∈ done := fun j hj => Decidable.byContradiction fun hd => hc ⟨j, hj, hd⟩
  have := pig _ done (it_nodup p hp) fun c hm => by
    simp only [List.mem_cons, List.not_mem_nil, or_false] at hm
    rcases hm with rfl | rfl | rfl | rfl
    · exact h 0 (by decide)
    · exact h 1 (by decide)
    · exact h 2 (by decide)
    · exact h 3 (by decide)
  exact absurd (Nat.le_trans this hl) (show ¬ 4 ≤ 3 from by decide)
theorem has_c : ∀ (l : List Nat) (x : Nat), hasInt (x : Int) (natV l) = some (decide (x ∈ l)) := by
  intro l x
  induction l with
  | nil => rfl
  | cons y l ih =>
    show (hasInt (x : Int) (natV l)).map (fun b => (x : Int) == (y : Int) || b) = _
    rw [ih]
    by_cases e : x = y
    · subst e; simp
    · have h1 : ((x : Int) == (y : Int)) = false := beq_eq_false_iff_ne.mpr fun h => e (Int.ofNat_inj.mp h)
      simp [h1, e]
noncomputable def plT : PE := .cmp .In (.var 90) (.var 89)
noncomputable def plB : List PS := [.assign 90 (.bin .Mod (.bin .Add (.var 90) (.cint 1)) (.cint 37))]
theorem plT_c (n p : Nat) (done : List Nat) (env : PEnv) (h89 : env.get 89 = some (.ref 0)) (h90 : env.get 90 = some (.int p)) : evTest (ev L1.P (n + 3)).E plT env [.list (natV done)] = some (decide (p ∈ done), [.list (natV done)]) := by
  have c : pcmp .In (.int (p : Int)) (.list (natV done)) = some (decide (p ∈ done)) := has_c done p
  have r : rd [.list (natV done)] (.ref 0) = .list (natV done) := rfl
  simp only [plT, evTest, eE, stepE, h89, h90, rd_int, r, c, tb_c]
theorem pl_go (n g : Nat) (done : List Nat) : ∀ (k p : Nat) (env : PEnv), p < 37 → env.get 89 = some (.ref 0) → (∃ j, j < k ∧ itP j p ∉ done) →
    ∃ q : Nat, whileN (evTest (ev L1.P (n + 5)).E plT) ((ev L1.P (n + 5)).S plB) (g + k) (env.set 90 (.int p)) [.list (natV done)] = some (.next, env.set 90 (.int q), [.list (natV done)]) ∧ q < 37 ∧ q ∉ done := by
  intro k
  induction k with
  | zero => exact fun p env _ _ h => h.elim fun j h => absurd h.1 (Nat.not_lt_zero j)
  | succ k ih =>
    intro p env hp h89 h
    have t := plT_c (n + 2) p done (env.set 90 (.int p)) (by rw [get_set', if_neg (by decide)]; exact h89) (by rw [get_set', if_pos rfl])
    by_cases hm : p ∈ done
    · rw [decide_eq_true hm] at t
      have b : (ev L1.P (n + 5)).S plB (env.set 90 (.int p)) [.list (natV done)] = some (.next, env.set 90 (.int (nx p)), [.list (natV done)]) := by
        have e : ((p : Int) + 1) % 37 = ((nx p : Nat) : Int) := rfl
        simp only [plB, eS, stepS, stepS1, eE, stepE, get_set', ↓reduceIte, rd_int, add_c, mod_c (show (0 : Int) < 37 by decide), e, set_set]
      obtain ⟨j, hj, hd⟩ := h
      cases j with
      | zero => exact absurd hm hd
      | succ j =>
        obtain ⟨q, w, r⟩ := ih (nx p) env (Nat.mod_lt _ (by decide)) h89 ⟨j, Nat.lt_of_succ_lt_succ hj, hd⟩
        exact ⟨q, (while_next (g + k) t b).trans w, r⟩
    · rw [decide_eq_false hm] at t
      exact ⟨p, while_done (g + k) t, hp, hm⟩
noncomputable def plA : List PS := [.assign 90 (.bin .Mod (.var 42) (.cint 37)), .whileS plT plB, .expr (.meth .append (.var 89) [(.var 90)])]
theorem plA_c (n x : Nat) (done : List Nat) (hl : done.length ≤ 3) (env : PEnv) (h89 : env.get 89 = some (.ref 0)) :
    ∃ q : Nat, (ev L1.P (n + 7)).S plA (env.set 42 (.int x)) [.list (natV done)] = some (.next, (env.set 42 (.int x)).set 90 (.int q), [.list (natV (done ++ [q]))]) ∧ q < 37 ∧ q ∉ done := by
  have g89 : (env.set 42 (.int x)).get 89 = some (.ref 0) := by rw [get_set', if_neg (by decide)]; exact h89
  obtain ⟨q, w, hq, hd⟩ := pl_go (n + 1) 60 done 4 (x % 37) (env.set 42 (.int x)) (Nat.mod_lt _ (by decide)) g89 (free_ex done hl _ (Nat.mod_lt _ (by decide)))
  refine ⟨q, ?_, hq, hd⟩
  have c1 : stepS1 (ev L1.P (n + 6)).E (ev L1.P (n + 6)).S (.assign 90 (.bin .Mod (.var 42) (.cint 37))) (env.set 42 (.int x)) [.list (natV done)] = some (.next, (env.set 42 (.int x)).set 90 (.int (x % 37 : Nat)), [.list (natV done)]) := assign_c (by
    simp only [eE, stepE, get_set', ↓reduceIte, rd_int, mod_c (show (0 : Int) < 37 by decide)]; rfl)
  have c2 : stepS1 (ev L1.P (n + 6)).E (ev L1.P (n + 6)).S (.whileS plT plB) ((env.set 42 (.int x)).set 90 (.int (x % 37 : Nat))) [.list (natV done)] = some (.next, (env.set 42 (.int x)).set 90 (.int q), [.list (natV done)]) := by
    simp only [stepS1]; exact w
  have h0 : ([PObj.list (natV done)] : Store)[0]? = some (.list (natV done)) := rfl
  have ap := append_c h0 (.int q) (show (natV done).length ≤ lim by rw [natV, List.length_map]; exact Nat.le_trans hl (by decide))
  rw [eS]; unfold plA
  rw [seqS c1, seqS c2]
  simp only [stepS, stepS1, eE, stepE, get_set', g89, (ok_list h0).2.1, cond_true, evList, ap, Nat.reduceEqDiff, ↓reduceIte]
  simp [natV]
noncomputable def ones (a b : Nat) (ns : List Int) : List Nat := (List.range' a b).map (numN ns)
noncomputable def drBody : List PS := [.assign 88 (.list [(.cint 4), (.cint 16), (.cint 21), (.cint 23), (.cint 0), (.cint 1), (.cint 2), (.cint 3), (.cint 0), (.cint 2)]), .assign 60 (.comp drE [((.one 50), (.bi .range [(.cint 10)]), [])] [45, 88]), .assign 89 (.newlist []), .forS (.one 42) (.slice (.var 60) none (some (.cint 4)) none) plA, .assign 91 (.call 7 []),
  .ret (.tuple [(.comp (.idx (.var 91) (.var 90)) [((.one 90), (.var 89), [])] [91]), (.comp (.bin .Mod (.var 42) (.cint 4)) [((.one 42), (.slice (.var 60) (some (.cint 4)) none none), [])] []), (.bin .Add (.cint 3) (.bin .Mod (.bin .FloorDiv (.idx (.var 60) (.cint 0)) (.cint 37)) (.cint 3)))])]
theorem dr_def : L1.P.F 6 = some ([45], drBody) := by rfl
noncomputable def kd (q : Nat) : Nat × Nat × Nat := KD.getD q (0, 0, 0)
theorem kd_get {q : Nat} (h : q < 37) : (KD.map kV)[q]? = some (kV (kd q)) := by
  have : KD[q]? = some (kd q) := by unfold kd; rw [List.getD_eq_getElem?_getD, List.getElem?_eq_getElem (show q < KD.length from h)]; rfl
  rw [List.getElem?_map, this]; rfl
theorem kd_mem {q : Nat} (h : q < 37) : kd q ∈ KD := by
  have : KD[q]? = some (kd q) := by unfold kd; rw [List.getD_eq_getElem?_getD, List.getElem?_eq_getElem (show q < KD.length from h)]; rfl
  exact List.mem_of_getElem? this
noncomputable def nsL (ns : List Int) : List PV := [.int (numN ns 0), .int (numN ns 1), .int (numN ns 2), .int (numN ns 3), .int (numN ns 4), .int (numN ns 5), .int (numN ns 6), .int (numN ns 7), .int (numN ns 8), .int (numN ns 9)]
theorem draw_c (n : Nat) (ns : List Int) (h : ns.length ≤ 63) : ∃ q0 q1 q2 q3 : Nat, [q0, q1, q2, q3].Nodup ∧ (∀ q ∈ [q0, q1, q2, q3], q < 37) ∧ (ev L1.P (n + 16)).C 6 [.list (ns.map .int)] [] =
    some (.tuple [.list ([q0, q1, q2, q3].map fun q => kV (kd q)), .list (natV ([numN ns 4, numN ns 5, numN ns 6, numN ns 7, numN ns 8, numN ns 9].map (· % 4))), .int (3 + numN ns 0 / 37 % 3 : Nat)], [.dead]) := by
  have b0 : bindAll [45] [.list (ns.map .int)] [] = some [(45, .list (ns.map .int))] := rfl
  rw [eC]; unfold stepC; rw [dr_def]
  simp only [b0]
  have c1 : stepS1 (ev L1.P (n + 14)).E (ev L1.P (n + 14)).S (.assign 88 (.list [(.cint 4), (.cint 16), (.cint 21), (.cint 23), (.cint 0), (.cint 1), (.cint 2), (.cint 3), (.cint 0), (.cint 2)])) [(45, .list (ns.map .int))] [] = some (.next, [(45, .list (ns.map .int)), (88, .list (natV stL))], []) := assign_c rfl
  have e2 := comp_pure (P := L1.P) (n := n + 13) (src := .bi .range [.cint 10]) (elt := drE) (env := [(45, .list (ns.map .int)), (88, .list (natV stL))]) (st := []) (st1 := []) (st2 := []) (v := .rng 0 10 1) (items := natV (List.range 10)) (t := 50) (fv := [45, 88]) (fun x => match x with | .int k => .int (numN ns k.toNat) | _ => .none)
    (by rw [eE]; simp only [stepE, eE, evList, range1_c]; exact rng0 10 [] (by decide)) rfl (by decide) (by
      intro x hx e he
      obtain ⟨k, hk, rfl⟩ := List.mem_map.mp hx
      exact drE_c (n + 7) ns h k (List.mem_range.mp hk) _ [] (by rw [get_set', if_neg (by decide), he 45 (by simp) (by decide)]; rfl) (by rw [get_set', if_neg (by decide), he 88 (by simp) (by decide)]; rfl) (by rw [get_set', if_pos rfl]))
  have c2 : stepS1 (ev L1.P (n + 14)).E (ev L1.P (n + 14)).S (.assign 60 (.comp drE [((.one 50), (.bi .range [(.cint 10)]), [])] [45, 88])) [(45, .list (ns.map .int)), (88, .list (natV stL))] [] = some (.next, [(45, .list (ns.map .int)), (88, .list (natV stL)), (60, .list (nsL ns))], []) := assign_c e2
  have c3 : stepS1 (ev L1.P (n + 14)).E (ev L1.P (n + 14)).S (.assign 89 (.newlist [])) [(45, .list (ns.map .int)), (88, .list (natV stL)), (60, .list (nsL ns))] [] = some (.next, [(45, .list (ns.map .int)), (88, .list (natV stL)), (60, .list (nsL ns)), (89, .ref 0)], [.list []]) := assign_c rfl
  obtain ⟨q0, p0, l0, d0⟩ := plA_c (n + 7) (numN ns 0) [] (Nat.zero_le _) [(45, .list (ns.map .int)), (88, .list (natV stL)), (60, .list (nsL ns)), (89, .ref 0)] rfl
  obtain ⟨q1, p1, l1, d1⟩ := plA_c (n + 7) (numN ns 1) [q0] (show 1 ≤ 3 from by decide) [(45, .list (ns.map .int)), (88, .list (natV stL)), (60, .list (nsL ns)), (89, .ref 0), (42, .int (numN ns 0)), (90, .int q0)] rfl
  obtain ⟨q2, p2, l2, d2⟩ := plA_c (n + 7) (numN ns 2) [q0, q1] (show 2 ≤ 3 from by decide) [(45, .list (ns.map .int)), (88, .list (natV stL)), (60, .list (nsL ns)), (89, .ref 0), (42, .int (numN ns 1)), (90, .int q1)] rfl
  obtain ⟨q3, p3, l3, d3⟩ := plA_c (n + 7) (numN ns 3) [q0, q1, q2] (show 3 ≤ 3 from by decide) [(45, .list (ns.map .int)), (88, .list (natV stL)), (60, .list (nsL ns)), (89, .ref 0), (42, .int (numN ns 2)), (90, .int q2)] rfl
  have sl : (ev L1.P (n + 14)).E (.slice (.var 60) none (some (.cint 4)) none) [(45, .list (ns.map .int)), (88, .list (natV stL)), (60, .list (nsL ns)), (89, .ref 0)] [.list []] = some (.list [.int (numN ns 0), .int (numN ns 1), .int (numN ns 2), .int (numN ns 3)], [.list []]) := by kernel_rfl
  have c4 : stepS1 (ev L1.P (n + 14)).E (ev L1.P (n + 14)).S (.forS (.one 42) (.slice (.var 60) none (some (.cint 4)) none) plA) [(45, .list (ns.map .int)), (88, .list (natV stL)), (60, .list (nsL ns)), (89, .ref 0)] [.list []] =
      some (.next, [(45, .list (ns.map .int)), (88, .list (natV stL)), (60, .list (nsL ns)), (89, .ref 0), (42, .int (numN ns 3)), (90, .int q3)], [.list (natV [q0, q1, q2, q3])]) := by
    have it : itemsOf [.list []] (.list [.int (numN ns 0), .int (numN ns 1), .int (numN ns 2), .int (numN ns 3)]) = some ([.int (numN ns 0), .int (numN ns 1), .int (numN ns 2), .int (numN ns 3)], [.list []]) := rfl
    simp only [stepS1, sl, it]
    have f : ∀ {x : Nat} {l : List PV} {e e1 : PEnv} {s s1 : Store}, (ev L1.P (n + 14)).S plA (e.set 42 (.int x)) s = some (.next, e1, s1) → forN ((ev L1.P (n + 14)).S plA) (.one 42) (.int x :: l) e s = forN ((ev L1.P (n + 14)).S plA) (.one 42) l e1 s1 := fun h => by
      simp only [forN, bindTgt, h]
    exact (f p0).trans ((f p1).trans ((f p2).trans ((f p3).trans rfl)))
  have c5 : stepS1 (ev L1.P (n + 14)).E (ev L1.P (n + 14)).S (.assign 91 (.call 7 [])) [(45, .list (ns.map .int)), (88, .list (natV stL)), (60, .list (nsL ns)), (89, .ref 0), (42, .int (numN ns 3)), (90, .int q3)] [.list (natV [q0, q1, q2, q3])] =
      some (.next, [(45, .list (ns.map .int)), (88, .list (natV stL)), (60, .list (nsL ns)), (89, .ref 0), (42, .int (numN ns 3)), (90, .int q3), (91, .list (KD.map kV))], [.list (natV [q0, q1, q2, q3])]) := assign_c (by
    rw [eE]
    exact kinds_c (n + 1) _)
  have lt : ∀ q ∈ [q0, q1, q2, q3], q < 37 := fun q hm => by
    simp only [List.mem_cons, List.not_mem_nil, or_false] at hm
    rcases hm with rfl | rfl | rfl | rfl
    · exact l0
    · exact l1
    · exact l2
    · exact l3
  refine ⟨q0, q1, q2, q3, ?_, lt, ?_⟩
  · simp only [List.nodup_cons, List.mem_cons, List.not_mem_nil, or_false, not_or] at d1 d2 d3 ⊢
    exact ⟨⟨Ne.symm d1, Ne.symm d2.1, Ne.symm d3.1⟩, ⟨Ne.symm d2.2, Ne.symm d3.2.1⟩, Ne.symm d3.2.2, not_false, List.nodup_nil⟩
  · generalize hE : [(45, PV.list (ns.map .int)), (88, .list (natV stL)), (60, .list (nsL ns)), (89, .ref 0), (42, .int (numN ns 3)), (90, .int q3), (91, .list (KD.map kV))] = E at c5 ⊢
    have g60 : PEnv.get E 60 = some (.list (nsL ns)) := by rw [← hE]; rfl
    have g91 : PEnv.get E 91 = some (.list (KD.map kV)) := by rw [← hE]; rfl
    have g89 : PEnv.get E 89 = some (.ref 0) := by rw [← hE]; rfl
    have t1 := comp_pure (P := L1.P) (n := n + 12) (src := .var 89) (elt := .idx (.var 91) (.var 90)) (env := E) (st := [.list (natV [q0, q1, q2, q3])]) (st1 := [.list (natV [q0, q1, q2, q3])]) (st2 := [.dead]) (v := .ref 0) (items := natV [q0, q1, q2, q3]) (t := 90) (fv := [91]) (fun x => match x with | .int k => kV (kd k.toNat) | _ => .none)
      (by rw [eE]; simp only [stepE, g89]) rfl (show 4 ≤ lim from by decide) (by
        intro x hx e he
        obtain ⟨q, hq, rfl⟩ := List.mem_map.mp hx
        have h91 : (e.set 90 (.int q)).get 91 = some (.list (KD.map kV)) := by rw [get_set', if_neg (by decide), he 91 (by simp) (by decide), g91]
        have r : rd [PObj.dead] (.list (KD.map kV)) = .list (KD.map kV) := rfl
        simp only [eE, stepE, h91, get_set', ↓reduceIte, r, rd_int, idxL_c (kd_get (lt q hq)) (Nat.le_trans (Nat.le_of_lt (lt q hq)) (by decide))]
        rfl)
    have t2 : (ev L1.P (n + 13)).E (.comp (.bin .Mod (.var 42) (.cint 4)) [((.one 42), (.slice (.var 60) (some (.cint 4)) none none), [])] []) E [.dead] = some (.list (natV ([numN ns 4, numN ns 5, numN ns 6, numN ns 7, numN ns 8, numN ns 9].map (· % 4))), [.dead]) := by rw [← hE]; kernel_rfl
    have i0 : pidx (.list (nsL ns)) (.int 0) = some (.int (numN ns 0)) := rfl
    have r : rd [PObj.dead] (.list (nsL ns)) = .list (nsL ns) := rfl
    have t3 : (ev L1.P (n + 13)).E (.bin .Add (.cint 3) (.bin .Mod (.bin .FloorDiv (.idx (.var 60) (.cint 0)) (.cint 37)) (.cint 3))) E [.dead] = some (.int (3 + numN ns 0 / 37 % 3 : Nat), [.dead]) := by
      simp only [eE, stepE, g60, r, i0, rd_int, floor_c (small24 (Nat.lt_trans (numN_lt ns 0) (by decide))) (show (0 : Int) < 37 by decide) (show small 37 = true by decide), mod_c (show (0 : Int) < 3 by decide), add_c]
      rfl
    rw [eS]; unfold drBody
    rw [seqS c1, seqS c2, seqS c3, seqS c4, seqS c5]
    simp only [stepS, stepS1]
    rw [eE]
    simp only [stepE, evList, t1, t2, t3]
    rfl
end Mine
end
section
set_option backward.eqns.nonrecursive false
set_option maxRecDepth 10000
namespace Mine
open PySem
theorem gen_filt {rec : EvE} {elt : PE} {ts : List PE} {t : Nat} (p : PV → Bool) (f : PV → PV) (Q : PEnv → Prop) (st : Store) : ∀ (items : List PV) (env : PEnv) (acc : List PV), Q env → acc.length + items.length ≤ lim →
    (∀ x ∈ items, ∀ e : PEnv, Q e → evTests rec ts (e.set t x) st = some (p x, st) ∧ (p x = true → rec elt (e.set t x) st = some (f x, st)) ∧ Q (e.set t x)) →
    ∃ env', evGen (evGens rec (emitL rec elt) []) (.one t) (evTests rec ts) items env st acc = some (acc ++ (items.filter p).map f, env', st) := by
  intro items
  induction items with
  | nil => exact fun env acc _ _ _ => ⟨env, by simp [evGen]⟩
  | cons x items ih =>
    intro env acc hQ hl h
    obtain ⟨h1, h2, h3⟩ := h x (List.mem_cons_self ..) env hQ
    have hr : ∀ y ∈ items, ∀ e : PEnv, Q e → _ := fun y hy => h y (List.mem_cons_of_mem _ hy)
    have hl1 : acc.length ≤ lim := Nat.le_trans (Nat.le_add_right ..) hl
    rw [evGen]
    simp only [bindTgt, h1]
    cases hp : p x with
    | false =>
      obtain ⟨env', g⟩ := ih (env.set t x) acc h3 (Nat.le_trans (by simp only [List.length_cons]; omega) hl) hr
      exact ⟨env', by simp only [g]; rw [List.filter_cons_of_neg (by rw [hp]; exact Bool.false_ne_true)]⟩
    | true =>
      have em : evGens rec (emitL rec elt) [] (env.set t x) st acc = some (acc ++ [f x], env.set t x, st) := by simp only [evGens, emitL, h2 hp, bif_le hl1]
      obtain ⟨env', g⟩ := ih (env.set t x) (acc ++ [f x]) h3 (by simp only [List.length_cons, List.length_append, List.length_nil] at hl ⊢; omega) hr
      refine ⟨env', ?_⟩
      simp only [em, g]
      rw [List.filter_cons_of_pos hp, List.map_cons, List.append_assoc]; rfl
theorem comp_filt {P : PProg} {n : Nat} {src elt : PE} {ts : List PE} {env : PEnv} {st st1 st2 : Store} {v : PV} {items : List PV} {t : Nat} {fv : List Nat} (p : PV → Bool) (f : PV → PV)
    (h1 : (ev P n).E src env st = some (v, st1)) (h2 : itemsOf st1 v = some (items, st2)) (hl : items.length ≤ lim)
    (h : ∀ x ∈ items, ∀ (e : PEnv), (∀ i ∈ fv, i ≠ t → e.get i = env.get i) → evTests (ev P n).E ts (e.set t x) st2 = some (p x, st2) ∧ (p x = true → (ev P n).E elt (e.set t x) st2 = some (f x, st2))) :
    (ev P (n + 1)).E (.comp elt [(.one t, src, ts)] fv) env st = some (.list ((items.filter p).map f), st2) := by
  obtain ⟨env', g⟩ := gen_filt (rec := (ev P n).E) (elt := elt) (ts := ts) (t := t) p f (fun e => ∀ i ∈ fv, i ≠ t → e.get i = env.get i) st2 items (keep fv env) [] (fun i hi _ => keepGet fv i hi env) (by rw [List.length_nil, Nat.zero_add]; exact hl) (fun x hx e hQ =>
    have q := h x hx e hQ
    ⟨q.1, q.2, fun i hi hne => by rw [get_set', if_neg hne]; exact hQ i hi hne⟩)
  rw [eE]
  simp only [stepE, evComp, h1, h2, g]
  rfl
theorem test1 {rec : EvE} {e : PE} {env : PEnv} {st : Store} {b : Bool} (h : evTest rec e env st = some (b, st)) : evTests rec [e] env st = some (b, st) := by
  simp only [evTests, h]; cases b <;> rfl
theorem rng_nat (a m : Nat) : rngItems (a : Int) m 1 = natV (List.range' a m) := by
  induction m generalizing a with
  | zero => rfl
  | succ m ih => exact congrArg (PV.int (a : Int) :: ·) (ih (a + 1))
theorem rng_nat0 (m : Nat) : rngItems 0 m 1 = natV (List.range m) := by rw [List.range_eq_range']; exact rng_nat 0 m
theorem range_fm {α β : Type} (d : List α) (z : α) (P : α → Bool) (F : α → β) : ((List.range d.length).filter (fun j => P (d.getD j z))).map (fun j => F (d.getD j z)) = (d.filter P).map F := by
  have e : (List.range d.length).map (fun j => d.getD j z) = d := by
    apply List.ext_getElem?
    intro i
    rw [List.getElem?_map]
    by_cases h : i < d.length
    · rw [List.getElem?_range h, List.getElem?_eq_getElem h]; simp [h]
    · rw [List.getElem?_eq_none (by rw [List.length_range]; exact Nat.not_lt.mp h), List.getElem?_eq_none (Nat.not_lt.mp h)]; rfl
  conv => rhs; rw [← e, List.filter_map, List.map_map]
  rfl
noncomputable def mxN (l : List Nat) : Nat := l.foldr max 0
noncomputable def lvl (D : Nat → Nat → Nat) (done : List (Nat × Nat)) (x : Nat) : Nat := 1 + mxN ((done.filter fun y => Nat.blt (D y.1 x) 4).map (·.2))
noncomputable def lvGo (D : Nat → Nat → Nat) (done : List (Nat × Nat)) (l : List Nat) : List (Nat × Nat) := match l with
  | [] => done
  | x :: r => lvGo D (done ++ [(x, lvl D done x)]) r
noncomputable def rowN (D : Nat → Nat → Nat) (i : Nat) : PV := .list (natV [D i 0, D i 1, D i 2, D i 3])
noncomputable def matN (D : Nat → Nat → Nat) : PV := .list [rowN D 0, rowN D 1, rowN D 2, rowN D 3]
theorem four_el {C : Nat → Prop} (h0 : C 0) (h1 : C 1) (h2 : C 2) (h3 : C 3) {i : Nat} (h : i < 4) : C i := by
  match i, h with
  | 0, _ => exact h0
  | 1, _ => exact h1
  | 2, _ => exact h2
  | 3, _ => exact h3
theorem mat_idx (D : Nat → Nat → Nat) {i : Nat} (h : i < 4) : pidx (matN D) (.int i) = some (rowN D i) := four_el (C := fun i => pidx (matN D) (.int i) = some (rowN D i)) rfl rfl rfl rfl h
theorem row_idx (D : Nat → Nat → Nat) (i : Nat) {j : Nat} (h : j < 4) : pidx (rowN D i) (.int j) = some (.int (D i j)) := four_el (C := fun j => pidx (rowN D i) (.int j) = some (.int (D i j))) rfl rfl rfl rfl h
theorem nat_get {l : List Nat} {k x : Nat} (h : l[k]? = some x) : (natV l)[k]? = some (.int x) := by rw [natV, List.getElem?_map, h]; rfl
theorem ints_nat (l : List Nat) : intsOf (natV l) = some (l.map fun (x : Nat) => (x : Int)) := by
  have : natV l = (l.map fun (x : Nat) => (x : Int)).map PV.int := by rw [List.map_map]; rfl
  rw [this, intsOf_map]
theorem max_go : ∀ (l : List Nat) (a : Nat), maxL ((a : Int) :: l.map fun (x : Nat) => (x : Int)) = ((max a (mxN l) : Nat) : Int) := by
  have cast : ∀ a b : Nat, max (a : Int) (b : Int) = ((max a b : Nat) : Int) := fun a b => by
    rcases Nat.le_total a b with h | h
    · rw [Nat.max_eq_right h, Int.max_eq_right (Int.ofNat_le.mpr h)]
    · rw [Nat.max_eq_left h, Int.max_eq_left (Int.ofNat_le.mpr h)]
  intro l
  induction l with
  | nil => exact fun a => congrArg (fun (x : Nat) => (x : Int)) (Nat.max_zero a).symm
  | cons x r ih =>
    intro a
    show max (a : Int) (maxL ((x : Int) :: r.map fun (x : Nat) => (x : Int))) = _
    rw [ih, cast]; rfl
theorem max_c (l : List Nat) (st : Store) : pbi .max [.list (natV (0 :: l))] st = some (.int (mxN l), st) := by
  show oO (intsOf (natV (0 :: l))) _ = _
  rw [ints_nat]
  show some (PV.int (maxL (((0 : Nat) : Int) :: l.map fun (x : Nat) => (x : Int))), st) = _
  rw [max_go, Nat.zero_max]
noncomputable def lvC : PE := .comp (.idx (.var 99) (.var 77)) [((.one 77), (.bi .range [(.var 50)]), [(.cmp .Lt (.idx (.idx (.var 98) (.idx (.var 28) (.var 77))) (.idx (.var 28) (.var 50))) (.cint 4))])] [28, 50, 98, 99]
noncomputable def lvB : List PS := [.expr (.meth .append (.var 99) [(.bin .Add (.cint 1) (.bi .max [(.bin .Add (.list [(.cint 0)]) lvC)]))])]
theorem lvC_c (n : Nat) (D : Nat → Nat → Nat) (row : List Nat) (done : List (Nat × Nat)) (x : Nat) (post : List Nat) (hrow : row = done.map (·.1) ++ x :: post) (h4 : ∀ y ∈ row, y < 4) (hl : row.length ≤ 40) (env : PEnv) (st : Store) (r : Nat)
    (h28 : env.get 28 = some (.list (natV row))) (h98 : env.get 98 = some (matN D)) (h99 : env.get 99 = some (.ref r)) (h50 : env.get 50 = some (.int done.length)) (hst : st[r]? = some (.list (natV (done.map (·.2))))) :
    (ev L1.P (n + 6)).E lvC env st = some (.list (natV ((done.filter fun y => Nat.blt (D y.1 x) 4).map (·.2))), st) := by
  have hd : done.length ≤ 40 := by rw [hrow, List.length_append, List.length_map] at hl; exact Nat.le_trans (Nat.le_add_right ..) hl
  have gx : row[done.length]? = some x := by rw [hrow, List.getElem?_append_right (by rw [List.length_map]; exact Nat.le_refl _), List.length_map, Nat.sub_self]; rfl
  have hx : x < 4 := h4 x (List.mem_of_getElem? gx)
  have k := comp_filt (P := L1.P) (n := n + 5) (src := .bi .range [.var 50]) (elt := .idx (.var 99) (.var 77)) (ts := [(.cmp .Lt (.idx (.idx (.var 98) (.idx (.var 28) (.var 77))) (.idx (.var 28) (.var 50))) (.cint 4))]) (env := env) (st := st) (st1 := st) (st2 := st) (v := .rng 0 done.length 1) (items := natV (List.range done.length)) (t := 77) (fv := [28, 50, 98, 99])
    (fun v => match v with | .int j => Nat.blt (D (done.getD j.toNat (0, 0)).1 x) 4 | _ => false) (fun v => match v with | .int j => .int ((done.getD j.toNat (0, 0)).2 : Nat) | _ => .none)
    (by rw [eE]; simp only [stepE, eE, evList, h50, range1_c]; exact rng0 done.length st (Nat.le_trans hd (by decide))) (by rw [← rng_nat0]; rfl) (by rw [natV, List.length_map, List.length_range]; exact Nat.le_trans hd (by decide)) (by
      intro v hv e he
      obtain ⟨j, hj, rfl⟩ := List.mem_map.mp hv
      have hj := List.mem_range.mp hj
      have hjl : j ≤ lim := Nat.le_trans (Nat.le_of_lt hj) (Nat.le_trans hd (by decide))
      have gd : done[j]? = some (done.getD j (0, 0)) := by rw [List.getD_eq_getElem?_getD, List.getElem?_eq_getElem hj]; rfl
      have gy : row[j]? = some (done.getD j (0, 0)).1 := by rw [hrow, List.getElem?_append_left (by rw [List.length_map]; exact hj), List.getElem?_map, gd]; rfl
      have hy := h4 _ (List.mem_of_getElem? gy)
      have gl : (natV (done.map (·.2)))[j]? = some (.int ((done.getD j (0, 0)).2 : Nat)) := nat_get (by rw [List.getElem?_map, gd]; rfl)
      have q28 : (e.set 77 (.int j)).get 28 = some (.list (natV row)) := by rw [get_set', if_neg (by decide), he 28 (by simp) (by decide), h28]
      have q50 : (e.set 77 (.int j)).get 50 = some (.int done.length) := by rw [get_set', if_neg (by decide), he 50 (by simp) (by decide), h50]
      have q98 : (e.set 77 (.int j)).get 98 = some (matN D) := by rw [get_set', if_neg (by decide), he 98 (by simp) (by decide), h98]
      have q99 : (e.set 77 (.int j)).get 99 = some (.ref r) := by rw [get_set', if_neg (by decide), he 99 (by simp) (by decide), h99]
      have r1 : rd st (matN D) = matN D := rfl
      have r2 : ∀ i, rd st (rowN D i) = rowN D i := fun _ => rfl
      have dl : decide (((D (done.getD j (0, 0)).1 x : Nat) : Int) < 4) = Nat.blt (D (done.getD j (0, 0)).1 x) 4 := by
        cases h : Nat.blt (D (done.getD j (0, 0)).1 x) 4 with
        | true => exact decide_eq_true (Int.ofNat_lt.mpr (Nat.le_of_ble_eq_true h))
        | false => exact decide_eq_false fun e => by have := Nat.ble_eq_true_of_le (Int.ofNat_lt.mp e); rw [show Nat.ble ((D (done.getD j (0, 0)).1 x) + 1) 4 = Nat.blt (D (done.getD j (0, 0)).1 x) 4 from rfl, h] at this; cases this
      refine ⟨test1 ?_, fun _ => ?_⟩
      · simp only [evTest, eE, stepE, q28, q50, q98, get_set', ↓reduceIte, rd_list, rd_int, r1, r2, idxL_c (nat_get gy) hjl, idxL_c (nat_get gx) (Nat.le_trans hd (by decide)), mat_idx D hy, row_idx D _ hx, lt_c, tb_c, dl]
        rfl
      · simp only [eE, stepE, q99, get_set', ↓reduceIte, rd_int, rd_ref hst, idxL_c gl hjl]
        rfl)
  unfold lvC
  rw [k]
  have := range_fm done (0, 0) (fun y => Nat.blt (D y.1 x) 4) (fun y => PV.int (y.2 : Nat))
  rw [natV, List.filter_map, List.map_map, natV, List.map_map]
  exact congrArg (fun q => some (PV.list q, st)) this
theorem lv_step (n : Nat) (D : Nat → Nat → Nat) (row : List Nat) (done : List (Nat × Nat)) (x : Nat) (post : List Nat) (hrow : row = done.map (·.1) ++ x :: post) (h4 : ∀ y ∈ row, y < 4) (hl : row.length ≤ 40) (env : PEnv) (st : Store)
    (h28 : env.get 28 = some (.list (natV row))) (h98 : env.get 98 = some (matN D)) (h99 : env.get 99 = some (.ref st.length)) :
    (ev L1.P (n + 11)).S lvB (env.set 50 (.int done.length)) (st ++ [.list (natV (done.map (·.2)))]) = some (.next, env.set 50 (.int done.length), st ++ [.list (natV ((done ++ [(x, lvl D done x)]).map (·.2)))]) := by
  have hd : done.length ≤ 40 := by rw [hrow, List.length_append, List.length_map] at hl; exact Nat.le_trans (Nat.le_add_right ..) hl
  have g := get_last st (PObj.list (natV (done.map (·.2))))
  have g99 : (env.set 50 (.int done.length)).get 99 = some (.ref st.length) := by rw [get_set', if_neg (by decide)]; exact h99
  have c := lvC_c n D row done x post hrow h4 hl (env.set 50 (.int done.length)) (st ++ [.list (natV (done.map (·.2)))]) st.length (by rw [get_set', if_neg (by decide)]; exact h28) (by rw [get_set', if_neg (by decide)]; exact h98) g99 (by rw [get_set', if_pos rfl]) g
  have fl : ((done.filter fun y => Nat.blt (D y.1 x) 4).map (·.2)).length ≤ 40 := by rw [List.length_map]; exact Nat.le_trans (List.length_filter_le ..) hd
  have z : (ev L1.P (n + 6)).E (.list [(.cint 0)]) (env.set 50 (.int done.length)) (st ++ [.list (natV (done.map (·.2)))]) = some (.list (natV [0]), st ++ [.list (natV (done.map (·.2)))]) := rfl
  have ad := addL_c (u := natV [0]) (v := natV ((done.filter fun y => Nat.blt (D y.1 x) 4).map (·.2))) (show 1 ≤ 1000 by decide) (by rw [natV, List.length_map]; exact Nat.le_trans fl (by decide))
  have mx := max_c ((done.filter fun y => Nat.blt (D y.1 x) 4).map (·.2)) (st ++ [.list (natV (done.map (·.2)))])
  have e1 : natV [0] ++ natV ((done.filter fun y => Nat.blt (D y.1 x) 4).map (·.2)) = natV (0 :: (done.filter fun y => Nat.blt (D y.1 x) 4).map (·.2)) := rfl
  rw [e1] at ad
  have a1 : (ev L1.P (n + 7)).E (.bin .Add (.list [(.cint 0)]) lvC) (env.set 50 (.int done.length)) (st ++ [.list (natV (done.map (·.2)))]) = some (.list (natV (0 :: (done.filter fun y => Nat.blt (D y.1 x) 4).map (·.2))), st ++ [.list (natV (done.map (·.2)))]) := by
    rw [eE]; simp only [stepE, z, c, rd_list, ad]
  have a2 : (ev L1.P (n + 8)).E (.bi .max [(.bin .Add (.list [(.cint 0)]) lvC)]) (env.set 50 (.int done.length)) (st ++ [.list (natV (done.map (·.2)))]) = some (.int (mxN ((done.filter fun y => Nat.blt (D y.1 x) 4).map (·.2))), st ++ [.list (natV (done.map (·.2)))]) := by
    rw [eE]; simp only [stepE, evList, a1, mx]
  have o : (ev L1.P (n + 8)).E (.cint 1) (env.set 50 (.int done.length)) (st ++ [.list (natV (done.map (·.2)))]) = some (.int 1, st ++ [.list (natV (done.map (·.2)))]) := rfl
  have a3 : (ev L1.P (n + 9)).E (.bin .Add (.cint 1) (.bi .max [(.bin .Add (.list [(.cint 0)]) lvC)])) (env.set 50 (.int done.length)) (st ++ [.list (natV (done.map (·.2)))]) = some (.int (lvl D done x), st ++ [.list (natV (done.map (·.2)))]) := by
    rw [eE]; simp only [stepE, o, a2, rd_int, add_c]; rfl
  have ap := append_c g (.int (lvl D done x)) (by rw [natV, List.length_map, List.length_map]; exact Nat.le_trans hd (by decide))
  have v99 : (ev L1.P (n + 9)).E (.var 99) (env.set 50 (.int done.length)) (st ++ [.list (natV (done.map (·.2)))]) = some (.ref st.length, st ++ [.list (natV (done.map (·.2)))]) := by rw [eE]; simp only [stepE, g99]
  refine oneS (n := n + 10) (expr_c ?_)
  rw [eE]
  simp only [stepE, v99, (ok_list g).2.1, cond_true, evList, a3, ap, set_last]
  simp [natV]
theorem lv_go (n : Nat) (D : Nat → Nat → Nat) (row : List Nat) (h4 : ∀ y ∈ row, y < 4) (hl : row.length ≤ 40) (st : Store) : ∀ (post : List Nat) (done : List (Nat × Nat)) (env : PEnv), row = done.map (·.1) ++ post →
    env.get 28 = some (.list (natV row)) → env.get 98 = some (matN D) → env.get 99 = some (.ref st.length) →
    ∃ env', forN ((ev L1.P (n + 11)).S lvB) (.one 50) (natV (List.range' done.length post.length)) env (st ++ [.list (natV (done.map (·.2)))]) = some (.next, env', st ++ [.list (natV ((lvGo D done post).map (·.2)))]) ∧ env'.get 99 = some (.ref st.length) := by
  intro post
  induction post with
  | nil => exact fun done env _ _ _ h99 => ⟨env, rfl, h99⟩
  | cons x post ih =>
    intro done env hrow h28 h98 h99
    have s := lv_step n D row done x post hrow h4 hl env st h28 h98 h99
    obtain ⟨env', w, g⟩ := ih (done ++ [(x, lvl D done x)]) (env.set 50 (.int done.length)) (by rw [hrow, List.map_append, List.append_assoc]; rfl) (by rw [get_set', if_neg (by decide)]; exact h28) (by rw [get_set', if_neg (by decide)]; exact h98) (by rw [get_set', if_neg (by decide)]; exact h99)
    rw [List.length_append] at w
    refine ⟨env', ?_, g⟩
    show forN _ _ (.int done.length :: natV (List.range' (done.length + 1) post.length)) env _ = _
    simp only [forN, bindTgt, s]
    exact w
noncomputable def lvs (D : Nat → Nat → Nat) (row : List Nat) : List Nat := (lvGo D [] row).map (·.2)
noncomputable def lvBody : List PS := [.assign 99 (.newlist []), .forS (.one 50) (.bi .range [(.bi .len [(.var 28)])]) lvB, .ret (.var 99)]
theorem lv_def : L1.P.F 10 = some ([28, 98], lvBody) := by rfl
theorem len_list {xs : List PV} (st : Store) (h : xs.length ≤ lim) : pbi .len [.list xs] st = some (.int xs.length, st) := by
  show (bif decide (xs.length ≤ lim) then _ else _) = _
  rw [bif_le h]
theorem lv_c (n : Nat) (D : Nat → Nat → Nat) (row : List Nat) (h4 : ∀ y ∈ row, y < 4) (hl : row.length ≤ 40) (st : Store) : (ev L1.P (n + 14)).C 10 [.list (natV row), matN D] st = some (.list (natV (lvs D row)), st ++ [.dead]) := by
  obtain ⟨env', w, g99⟩ := lv_go (n + 1) D row h4 hl st row [] [(28, .list (natV row)), (98, matN D), (99, .ref st.length)] rfl rfl rfl rfl
  have ln : (natV row).length = row.length := List.length_map ..
  have rg : (ev L1.P (n + 12)).E (.bi .range [(.bi .len [(.var 28)])]) [(28, .list (natV row)), (98, matN D), (99, .ref st.length)] (st ++ [.list []]) = some (.rng 0 row.length 1, st ++ [.list []]) := by
    have h28 : PEnv.get [(28, PV.list (natV row)), (98, matN D), (99, .ref st.length)] 28 = some (.list (natV row)) := rfl
    simp only [eE, stepE, evList, h28, rd_list, len_list _ (ln ▸ Nat.le_trans hl (by decide) : (natV row).length ≤ lim), range1_c, ln]
    exact rng0 row.length _ (Nat.le_trans hl (by decide))
  have c1 : stepS1 (ev L1.P (n + 12)).E (ev L1.P (n + 12)).S (.assign 99 (.newlist [])) [(28, .list (natV row)), (98, matN D)] st = some (.next, [(28, .list (natV row)), (98, matN D), (99, .ref st.length)], st ++ [.list []]) := assign_c rfl
  have c2 : stepS1 (ev L1.P (n + 12)).E (ev L1.P (n + 12)).S (.forS (.one 50) (.bi .range [(.bi .len [(.var 28)])]) lvB) [(28, .list (natV row)), (98, matN D), (99, .ref st.length)] (st ++ [.list []]) = some (.next, env', st ++ [.list (natV (lvs D row))]) := by
    have it : itemsOf (st ++ [.list []]) (.rng 0 row.length 1) = some (natV (List.range' 0 row.length), st ++ [.list []]) := by rw [← rng_nat]; rfl
    simp only [stepS1, rg, it]
    exact w
  have all : (ev L1.P (n + 13)).S lvBody [(28, .list (natV row)), (98, matN D)] st = some (.ret (.ref st.length), env', st ++ [.list (natV (lvs D row))]) := by
    rw [eS]; unfold lvBody
    rw [seqS c1, seqS c2]
    simp only [stepS, stepS1, eE, stepE, g99]
  rw [eC]; unfold stepC; rw [lv_def]
  have b0 : bindAll [28, 98] [.list (natV row), matN D] [] = some [(28, .list (natV row)), (98, matN D)] := rfl
  simp only [b0, all, freeze, get_last, set_last]
end Mine
end
section
set_option backward.eqns.nonrecursive false
set_option maxRecDepth 10000
namespace Mine
open PySem
noncomputable def dV (d : List (Nat × Nat)) : List (PV × PV) := d.map fun p => (.str [p.1], .int p.2)
noncomputable def lkp (c : Nat) (d : List (Nat × Nat)) : Option Nat := match d with
  | [] => none
  | p :: r => bif Nat.beq c p.1 then some p.2 else lkp c r
noncomputable def pt (c l : Nat) (d : List (Nat × Nat)) : List (Nat × Nat) := match d with
  | [] => [(c, l)]
  | p :: r => bif Nat.beq c p.1 then (p.1, l) :: r else p :: pt c l r
noncomputable def getN (c : Nat) (d : List (Nat × Nat)) : Nat := (lkp c d).getD 0
theorem beq1 (a b : Nat) : (([a] : List Nat) == [b]) = Nat.beq a b := by
  rw [nb]
  by_cases h : a = b
  · subst h; simp
  · simp [h]
theorem assoc_c (c : Nat) (d : List (Nat × Nat)) : assoc (.str [c]) (dV d) = some ((lkp c d).map fun (x : Nat) => PV.int x) := by
  show assocS [c] (dV d) = _
  induction d with
  | nil => rfl
  | cons p r ih =>
    show (bif ([c] : List Nat) == [p.1] then some (some (PV.int p.2)) else assocS [c] (dV r)) = some ((bif Nat.beq c p.1 then some p.2 else lkp c r).map fun (x : Nat) => PV.int x)
    rw [beq1]
    cases Nat.beq c p.1 with
    | true => rfl
    | false => exact ih
theorem put_c (c l : Nat) (d : List (Nat × Nat)) : putS [c] (.int l) (dV d) = dV (pt c l d) := by
  induction d with
  | nil => rfl
  | cons p r ih =>
    show (bif ([c] : List Nat) == [p.1] then (PV.str [p.1], PV.int l) :: dV r else (PV.str [p.1], PV.int p.2) :: putS [c] (.int l) (dV r)) = dV (bif Nat.beq c p.1 then (p.1, l) :: r else p :: pt c l r)
    rw [beq1, ih]
    cases Nat.beq c p.1 <;> rfl
theorem pt_len (c l : Nat) (d : List (Nat × Nat)) : (pt c l d).length ≤ d.length + 1 := by
  induction d with
  | nil => exact Nat.le_refl _
  | cons p r ih =>
    show (bif Nat.beq c p.1 then (p.1, l) :: r else p :: pt c l r).length ≤ _
    cases Nat.beq c p.1 with
    | true => exact Nat.le_succ _
    | false => exact Nat.succ_le_succ ih
section
variable {st : Store} {a b c x : PObj}
theorem s3_0 : (st ++ [a, b, c])[st.length]? = some a := by simp
theorem s3_1 : (st ++ [a, b, c])[st.length + 1]? = some b := by simp
theorem s3_2 : (st ++ [a, b, c])[st.length + 2]? = some c := by simp
theorem s3_s0 : (st ++ [a, b, c]).set st.length x = st ++ [x, b, c] := by simp
theorem s3_s1 : (st ++ [a, b, c]).set (st.length + 1) x = st ++ [a, x, c] := by simp
theorem s3_s2 : (st ++ [a, b, c]).set (st.length + 2) x = st ++ [a, b, x] := by simp
end
theorem get_c {st : Store} {r : Nat} {d : List (Nat × Nat)} (h : st[r]? = some (.dict (dV d))) (c : Nat) : pmeth .get (.ref r) [.str [c], .int 0] st = some (.int (getN c d), st) := by
  show oD (rd st (.ref r)) _ = _
  rw [rd_refd h]
  show oO (assoc (.str [c]) (dV d)) _ = _
  rw [assoc_c]
  unfold getN
  cases lkp c d <;> rfl
theorem getOk {st : Store} {r : Nat} {d : List (PV × PV)} (h : st[r]? = some (.dict d)) : meOk .get (.ref r) st = true := by
  show isD (rd st (.ref r)) = true
  rw [rd_refd h]; rfl
theorem setD_c {st : Store} {r : Nat} {d : List (Nat × Nat)} (h : st[r]? = some (.dict (dV d))) (c l : Nat) (hl : d.length ≤ 1000) : setAt (.ref r) (.str [c]) (.int l) st = some (st.set r (.dict (dV (pt c l d)))) := by
  show oO st[r]? _ = _
  rw [h]
  have a : assocS [c] (dV d) = some ((lkp c d).map fun (x : Nat) => PV.int x) := assoc_c c d
  have p : put (.str [c]) (.int l) (dV d) = some (dV (pt c l d)) := by
    show (assocS [c] (dV d)).map (fun _ => putS [c] (.int l) (dV d)) = _
    rw [a, put_c]; rfl
  show oO (put (.str [c]) (.int l) (dV d)) _ = _
  rw [p]
  show (bif decide ((dV d).length ≤ 1000) then some (st.set r (.dict (dV (pt c l d)))) else none) = _
  rw [decide_eq_true (show (dV d).length ≤ 1000 by rw [dV, List.length_map]; exact hl)]; rfl
noncomputable def thGo (T : Nat → Nat × Nat) (f s : List (Nat × Nat)) (row : List Nat) : List (Nat × Nat) := match row with
  | [] => []
  | x :: r => (x, 1 + max (getN (T x).1 f) (getN (T x).2 s)) :: thGo T (pt (T x).1 (1 + max (getN (T x).1 f) (getN (T x).2 s)) f) (pt (T x).2 (1 + max (getN (T x).1 f) (getN (T x).2 s)) s) r
noncomputable def tV (T : Nat → Nat × Nat) (p : Nat × Nat) : PV := .tuple [.int p.2, .str [(T p.1).1, (T p.1).2]]
noncomputable def thB : List PS := [.assign 83 (.idx (.idx (.var 91) (.var 50)) (.cint 1)), .assign 101 (.bin .Add (.cint 1) (.bi .max [(.meth .get (.var 46) [(.idx (.var 83) (.cint 0)), (.cint 0)]), (.meth .get (.var 47) [(.idx (.var 83) (.cint 1)), (.cint 0)])])), .setItem (.var 46) (.idx (.var 83) (.cint 0)) (.var 101), .setItem (.var 47) (.idx (.var 83) (.cint 1)) (.var 101), .expr (.meth .append (.var 100) [(.tuple [(.var 101), (.var 83)])])]
structure TE (r : Nat) (KV : PV) (env : PEnv) : Prop where
  a : env.get 46 = some (.ref r)
  b : env.get 47 = some (.ref (r + 1))
  c : env.get 100 = some (.ref (r + 2))
  k : env.get 91 = some KV
theorem TE.set {r : Nat} {KV : PV} {env : PEnv} (h : TE r KV env) (i : Nat) (v : PV) (hi : i ≠ 46 ∧ i ≠ 47 ∧ i ≠ 100 ∧ i ≠ 91) : TE r KV (env.set i v) where
  a := by rw [get_set', if_neg (Ne.symm hi.1)]; exact h.a
  b := by rw [get_set', if_neg (Ne.symm hi.2.1)]; exact h.b
  c := by rw [get_set', if_neg (Ne.symm hi.2.2.1)]; exact h.c
  k := by rw [get_set', if_neg (Ne.symm hi.2.2.2)]; exact h.k
theorem max2_c (a b : Nat) (st : Store) : pbi .max [.int a, .int b] st = some (.int (max a b : Nat), st) := by
  show some (PV.int (max (a : Int) (b : Int)), st) = _
  rcases Nat.le_total a b with h | h
  · rw [Nat.max_eq_right h, Int.max_eq_right (Int.ofNat_le.mpr h)]
  · rw [Nat.max_eq_left h, Int.max_eq_left (Int.ofNat_le.mpr h)]
theorem th_step (n : Nat) (T : Nat → Nat × Nat) (N : Nat) (x : Nat) (KV : PV) (hK : pidx KV (.int x) = some (kV (N, T x))) (hr : ∀ st, rd st KV = KV) (f s : List (Nat × Nat)) (hf : f.length ≤ 1000) (hs : s.length ≤ 1000) (acc : List PV) (hl : acc.length ≤ 1000) (env : PEnv) (st : Store) (h : TE st.length KV env) :
    ∃ env', (ev L1.P (n + 12)).S thB (env.set 50 (.int x)) (st ++ [.dict (dV f), .dict (dV s), .list acc]) = some (.next, env', st ++ [.dict (dV (pt (T x).1 (1 + max (getN (T x).1 f) (getN (T x).2 s)) f)), .dict (dV (pt (T x).2 (1 + max (getN (T x).1 f) (getN (T x).2 s)) s)), .list (acc ++ [tV T (x, 1 + max (getN (T x).1 f) (getN (T x).2 s))])]) ∧ TE st.length KV env' := by
  have h0 := h.set 50 (.int x) (by decide)
  have h1 := h0.set 83 (.str [(T x).1, (T x).2]) (by decide)
  have h2 := h1.set 101 (.int (1 + max (getN (T x).1 f) (getN (T x).2 s) : Nat)) (by decide)
  refine ⟨_, ?_, h2⟩
  have k1 : pidx (kV (N, T x)) (.int 1) = some (.str [(T x).1, (T x).2]) := rfl
  have r1 : ∀ st, rd st (kV (N, T x)) = kV (N, T x) := fun _ => rfl
  have c1 : stepS1 (ev L1.P (n + 11)).E (ev L1.P (n + 11)).S (.assign 83 (.idx (.idx (.var 91) (.var 50)) (.cint 1))) (env.set 50 (.int x)) (st ++ [.dict (dV f), .dict (dV s), .list acc]) = some (.next, (env.set 50 (.int x)).set 83 (.str [(T x).1, (T x).2]), st ++ [.dict (dV f), .dict (dV s), .list acc]) := assign_c (by
    simp only [eE, stepE, h0.k, get_set', ↓reduceIte, hr, hK, r1, k1])
  generalize hE1 : (env.set 50 (.int x)).set 83 (.str [(T x).1, (T x).2]) = E1 at *
  have t83 : PEnv.get E1 83 = some (.str [(T x).1, (T x).2]) := by rw [← hE1, get_set', if_pos rfl]
  have i0 : pidx (.str [(T x).1, (T x).2]) (.int 0) = some (.str [(T x).1]) := rfl
  have i1 : pidx (.str [(T x).1, (T x).2]) (.int 1) = some (.str [(T x).2]) := rfl
  have c2 : stepS1 (ev L1.P (n + 11)).E (ev L1.P (n + 11)).S (.assign 101 (.bin .Add (.cint 1) (.bi .max [(.meth .get (.var 46) [(.idx (.var 83) (.cint 0)), (.cint 0)]), (.meth .get (.var 47) [(.idx (.var 83) (.cint 1)), (.cint 0)])]))) E1 (st ++ [.dict (dV f), .dict (dV s), .list acc]) =
      some (.next, E1.set 101 (.int (1 + max (getN (T x).1 f) (getN (T x).2 s) : Nat)), st ++ [.dict (dV f), .dict (dV s), .list acc]) := assign_c (by
    simp only [eE, stepE, evList, h1.a, h1.b, t83, rd_str, i0, i1, getOk s3_0, getOk s3_1, cond_true, get_c s3_0, get_c s3_1, max2_c, rd_int, add_c]
    rfl)
  generalize hE2 : PEnv.set E1 101 (.int (1 + max (getN (T x).1 f) (getN (T x).2 s) : Nat)) = E2 at *
  have t101 : PEnv.get E2 101 = some (.int (1 + max (getN (T x).1 f) (getN (T x).2 s) : Nat)) := by rw [← hE2, get_set', if_pos rfl]
  have u83 : PEnv.get E2 83 = some (.str [(T x).1, (T x).2]) := by rw [← hE2, get_set', if_neg (by decide)]; exact t83
  generalize 1 + max (getN (T x).1 f) (getN (T x).2 s) = L at *
  have w1 := setD_c (s3_0 (st := st) (a := .dict (dV f)) (b := .dict (dV s)) (c := .list acc)) (T x).1 L hf
  rw [s3_s0] at w1
  have c3 : stepS1 (ev L1.P (n + 11)).E (ev L1.P (n + 11)).S (.setItem (.var 46) (.idx (.var 83) (.cint 0)) (.var 101)) E2 (st ++ [.dict (dV f), .dict (dV s), .list acc]) = some (.next, E2, st ++ [.dict (dV (pt (T x).1 L f)), .dict (dV s), .list acc]) := by
    simp only [stepS1, eE, stepE, h2.a, t101, u83, rd_str, i0, w1]
  have w2 := setD_c (s3_1 (st := st) (a := .dict (dV (pt (T x).1 L f))) (b := .dict (dV s)) (c := .list acc)) (T x).2 L hs
  rw [s3_s1] at w2
  have c4 : stepS1 (ev L1.P (n + 11)).E (ev L1.P (n + 11)).S (.setItem (.var 47) (.idx (.var 83) (.cint 1)) (.var 101)) E2 (st ++ [.dict (dV (pt (T x).1 L f)), .dict (dV s), .list acc]) = some (.next, E2, st ++ [.dict (dV (pt (T x).1 L f)), .dict (dV (pt (T x).2 L s)), .list acc]) := by
    simp only [stepS1, eE, stepE, h2.b, t101, u83, rd_str, i1, w2]
  have g2 := s3_2 (st := st) (a := .dict (dV (pt (T x).1 L f))) (b := .dict (dV (pt (T x).2 L s))) (c := .list acc)
  have ap := append_c g2 (tV T (x, L)) (Nat.le_trans hl (by decide))
  rw [s3_s2] at ap
  have tu : (ev L1.P (n + 10)).E (.tuple [(.var 101), (.var 83)]) E2 (st ++ [.dict (dV (pt (T x).1 L f)), .dict (dV (pt (T x).2 L s)), .list acc]) = some (tV T (x, L), st ++ [.dict (dV (pt (T x).1 L f)), .dict (dV (pt (T x).2 L s)), .list acc]) := by
    simp only [eE, stepE, evList, t101, u83, bif_le (two_le _ _)]; rfl
  have v100 : (ev L1.P (n + 10)).E (.var 100) E2 (st ++ [.dict (dV (pt (T x).1 L f)), .dict (dV (pt (T x).2 L s)), .list acc]) = some (.ref (st.length + 2), st ++ [.dict (dV (pt (T x).1 L f)), .dict (dV (pt (T x).2 L s)), .list acc]) := by rw [eE]; simp only [stepE, h2.c]
  rw [eS]; unfold thB
  rw [seqS c1, seqS c2, seqS c3, seqS c4]
  have c5 : (ev L1.P (n + 11)).E (.meth .append (.var 100) [(.tuple [(.var 101), (.var 83)])]) E2 (st ++ [.dict (dV (pt (T x).1 L f)), .dict (dV (pt (T x).2 L s)), .list acc]) = some (.none, st ++ [.dict (dV (pt (T x).1 L f)), .dict (dV (pt (T x).2 L s)), .list (acc ++ [tV T (x, L)])]) := by
    rw [eE]; simp only [stepE, v100, (ok_list g2).2.1, cond_true, evList, tu, ap]
  simp only [stepS, expr_c c5]
theorem th_go (n : Nat) (T N : Nat → Nat × Nat) (KV : PV) (M : Nat → Nat) (hK : ∀ x : Nat, x < 4 → pidx KV (.int x) = some (kV (M x, T x))) (hr : ∀ st, rd st KV = KV) (st : Store) : ∀ (row : List Nat) (f s : List (Nat × Nat)) (acc : List PV) (env : PEnv), (∀ x ∈ row, x < 4) → f.length + row.length ≤ 100 → s.length + row.length ≤ 100 → acc.length + row.length ≤ 100 → TE st.length KV env →
    ∃ env' f' s', forN ((ev L1.P (n + 12)).S thB) (.one 50) (natV row) env (st ++ [.dict (dV f), .dict (dV s), .list acc]) = some (.next, env', st ++ [.dict f', .dict s', .list (acc ++ (thGo T f s row).map (tV T))]) ∧ TE st.length KV env' := by
  intro row
  induction row with
  | nil => exact fun f s acc env _ _ _ _ h => ⟨env, _, _, by rw [thGo, List.map_nil, List.append_nil]; rfl, h⟩
  | cons x row ih =>
    intro f s acc env hx hf hs ha h
    simp only [List.length_cons] at hf hs ha
    obtain ⟨env1, e, h1⟩ := th_step n T (M x) x KV (hK x (hx x (List.mem_cons_self ..))) hr f s (by omega) (by omega) acc (by omega) env st h
    have p1 := pt_len (T x).1 (1 + max (getN (T x).1 f) (getN (T x).2 s)) f
    have p2 := pt_len (T x).2 (1 + max (getN (T x).1 f) (getN (T x).2 s)) s
    obtain ⟨env', f', s', w, h2⟩ := ih (pt (T x).1 (1 + max (getN (T x).1 f) (getN (T x).2 s)) f) (pt (T x).2 (1 + max (getN (T x).1 f) (getN (T x).2 s)) s) (acc ++ [tV T (x, 1 + max (getN (T x).1 f) (getN (T x).2 s))]) env1 (fun y hy => hx y (List.mem_cons_of_mem _ hy)) (by omega) (by omega) (by simp only [List.length_append, List.length_cons, List.length_nil]; omega) h1
    refine ⟨env', f', s', ?_, h2⟩
    show forN _ _ (.int x :: natV row) env _ = _
    simp only [forN, bindTgt, e]
    rw [List.append_assoc] at w
    exact w
noncomputable def thBody : List PS := [.assign 46 (.newdict [] []), .assign 47 (.newdict [] []), .assign 100 (.newlist []), .forS (.one 50) (.var 28) thB, .ret (.var 100)]
theorem th_def : L1.P.F 11 = some ([28, 91], thBody) := by rfl
theorem th_c (n : Nat) (T : Nat → Nat × Nat) (KV : PV) (M : Nat → Nat) (hK : ∀ x : Nat, x < 4 → pidx KV (.int x) = some (kV (M x, T x))) (hr : ∀ st, rd st KV = KV) (row : List Nat) (hx : ∀ x ∈ row, x < 4) (hl : row.length ≤ 100) (st : Store) :
    ∃ d1 d2, (ev L1.P (n + 14)).C 11 [.list (natV row), KV] st = some (.list ((thGo T [] [] row).map (tV T)), st ++ [d1, d2, .dead]) := by
  obtain ⟨env', f', s', w, h⟩ := th_go n T (fun _ => (0, 0)) KV M hK hr st row [] [] [] [(28, .list (natV row)), (91, KV), (46, .ref st.length), (47, .ref (st.length + 1)), (100, .ref (st.length + 2))] hx (by simpa using hl) (by simpa using hl) (by simpa using hl) ⟨rfl, rfl, rfl, rfl⟩
  have l1 : (st ++ [PObj.dict []]).length = st.length + 1 := List.length_append
  have l2 : (st ++ [PObj.dict [], PObj.dict []]).length = st.length + 2 := List.length_append
  have c1 : stepS1 (ev L1.P (n + 12)).E (ev L1.P (n + 12)).S (.assign 46 (.newdict [] [])) [(28, .list (natV row)), (91, KV)] st = some (.next, [(28, .list (natV row)), (91, KV), (46, .ref st.length)], st ++ [.dict []]) := assign_c rfl
  have c2 : stepS1 (ev L1.P (n + 12)).E (ev L1.P (n + 12)).S (.assign 47 (.newdict [] [])) [(28, .list (natV row)), (91, KV), (46, .ref st.length)] (st ++ [.dict []]) = some (.next, [(28, .list (natV row)), (91, KV), (46, .ref st.length), (47, .ref (st.length + 1))], st ++ [.dict [], .dict []]) :=
    assign_c (v := .ref (st.length + 1)) (by rw [← l1, show st ++ [PObj.dict [], PObj.dict []] = (st ++ [PObj.dict []]) ++ [PObj.dict []] from (List.append_assoc st [PObj.dict []] [PObj.dict []]).symm]; rfl)
  have c3 : stepS1 (ev L1.P (n + 12)).E (ev L1.P (n + 12)).S (.assign 100 (.newlist [])) [(28, .list (natV row)), (91, KV), (46, .ref st.length), (47, .ref (st.length + 1))] (st ++ [.dict [], .dict []]) = some (.next, [(28, .list (natV row)), (91, KV), (46, .ref st.length), (47, .ref (st.length + 1)), (100, .ref (st.length + 2))], st ++ [.dict [], .dict [], .list []]) :=
    assign_c (v := .ref (st.length + 2)) (by rw [← l2, show st ++ [PObj.dict [], PObj.dict [], PObj.list []] = (st ++ [PObj.dict [], PObj.dict []]) ++ [PObj.list []] from (List.append_assoc st [PObj.dict [], PObj.dict []] [PObj.list []]).symm]; rfl)
  have c4 : stepS1 (ev L1.P (n + 12)).E (ev L1.P (n + 12)).S (.forS (.one 50) (.var 28) thB) [(28, .list (natV row)), (91, KV), (46, .ref st.length), (47, .ref (st.length + 1)), (100, .ref (st.length + 2))] (st ++ [.dict [], .dict [], .list []]) = some (.next, env', st ++ [.dict f', .dict s', .list ((thGo T [] [] row).map (tV T))]) := by
    have v28 : (ev L1.P (n + 12)).E (.var 28) [(28, .list (natV row)), (91, KV), (46, .ref st.length), (47, .ref (st.length + 1)), (100, .ref (st.length + 2))] (st ++ [.dict [], .dict [], .list []]) = some (.list (natV row), st ++ [.dict [], .dict [], .list []]) := rfl
    have it : itemsOf (st ++ [.dict [], .dict [], .list []]) (.list (natV row)) = some (natV row, st ++ [.dict [], .dict [], .list []]) := by
      show (bif decide ((natV row).length ≤ lim) then _ else _) = _
      rw [bif_le (show (natV row).length ≤ lim by rw [natV, List.length_map]; exact Nat.le_trans hl (by decide))]
    simp only [stepS1, v28, it]
    exact w
  refine ⟨.dict f', .dict s', ?_⟩
  have all : (ev L1.P (n + 13)).S thBody [(28, .list (natV row)), (91, KV)] st = some (.ret (.ref (st.length + 2)), env', st ++ [.dict f', .dict s', .list ((thGo T [] [] row).map (tV T))]) := by
    rw [eS]; unfold thBody
    rw [seqS c1, seqS c2, seqS c3, seqS c4]
    simp only [stepS, stepS1, eE, stepE, h.c]
  rw [eC]; unfold stepC; rw [th_def]
  have b0 : bindAll [28, 91] [.list (natV row), KV] [] = some [(28, .list (natV row)), (91, KV)] := rfl
  simp only [b0, all, freeze, s3_2, s3_s2]
end Mine
end
section
set_option backward.eqns.nonrecursive false
set_option maxRecDepth 10000
namespace Mine
open PySem
noncomputable def chs (v : PV) : Nat × Nat := match v with
  | .tuple l => match l with
    | [_, .str [a, b]] => (a, b)
    | _ => (0, 0)
  | _ => (0, 0)
noncomputable def fb (p q : Nat × Nat) : Bool := !(Nat.beq p.1 q.1) && !(Nat.beq p.2 q.2)
noncomputable def frE : PE := .boolop true [(.cmp .NotEq (.idx (.idx (.var 72) (.cint 1)) (.cint 0)) (.idx (.idx (.var 73) (.cint 1)) (.cint 0))), (.cmp .NotEq (.idx (.idx (.var 72) (.cint 1)) (.cint 1)) (.idx (.idx (.var 73) (.cint 1)) (.cint 1)))]
theorem ne1_c (a b : Nat) : pcmp .NotEq (.str [a]) (.str [b]) = some (!Nat.beq a b) := by rw [ne_c, beq1]
theorem frE_c (n : Nat) (x y : Nat × Nat × Nat) (env : PEnv) (st : Store) (h72 : env.get 72 = some (kV x)) (h73 : env.get 73 = some (kV y)) : (ev L1.P (n + 5)).E frE env st = some (.bool (fb x.2 y.2), st) := by
  have k1 : ∀ x, pidx (kV x) (.int 1) = some (.str [x.2.1, x.2.2]) := fun _ => rfl
  have r1 : ∀ x, rd st (kV x) = kV x := fun _ => rfl
  have i0 : ∀ a b : Nat, pidx (.str [a, b]) (.int 0) = some (.str [a]) := fun _ _ => rfl
  have i1 : ∀ a b : Nat, pidx (.str [a, b]) (.int 1) = some (.str [b]) := fun _ _ => rfl
  simp only [frE, eE, stepE, evBool, h72, h73, r1, k1, rd_str, i0, i1, ne1_c, tb_c]
  unfold fb
  cases Nat.beq x.2.1 y.2.1 <;> rfl
noncomputable def KS (x0 x1 x2 x3 : Nat × Nat × Nat) : List PV := [kV x0, kV x1, kV x2, kV x3]
noncomputable def frM (x0 x1 x2 x3 : Nat × Nat × Nat) : PV := .list ((KS x0 x1 x2 x3).map fun u => .list ((KS x0 x1 x2 x3).map fun v => .bool (fb (chs u) (chs v))))
theorem ks_el {C : PV → Prop} {x0 x1 x2 x3 : Nat × Nat × Nat} (h : ∀ x, C (kV x)) : ∀ v ∈ KS x0 x1 x2 x3, C v := fun v hv => by
  simp only [KS, List.mem_cons, List.not_mem_nil, or_false] at hv
  rcases hv with rfl | rfl | rfl | rfl <;> exact h _
noncomputable def frC : PE := .comp (.comp frE [((.one 73), (.var 91), [])] [72]) [((.one 72), (.var 91), [])] [91]
theorem it_list {xs : List PV} (st : Store) (h : xs.length ≤ lim) : itemsOf st (.list xs) = some (xs, st) := by
  show (bif decide (xs.length ≤ lim) then _ else _) = _
  rw [bif_le h]
theorem four_le : 4 ≤ lim := by decide
theorem frC_c (n : Nat) (x0 x1 x2 x3 : Nat × Nat × Nat) (env : PEnv) (st : Store) (h91 : env.get 91 = some (.list (KS x0 x1 x2 x3))) : (ev L1.P (n + 7)).E frC env st = some (frM x0 x1 x2 x3, st) := by
  refine comp_pure (P := L1.P) (n := n + 6) (src := .var 91) (elt := .comp frE [((.one 73), (.var 91), [])] [72]) (env := env) (st := st) (st1 := st) (st2 := st) (v := .list (KS x0 x1 x2 x3)) (items := KS x0 x1 x2 x3) (t := 72) (fv := [91]) _
    (by rw [eE]; simp only [stepE, h91]) (it_list st four_le) four_le (ks_el fun x e he => ?_)
  have g91 : (e.set 72 (kV x)).get 91 = some (.list (KS x0 x1 x2 x3)) := by rw [get_set', if_neg (by decide), he 91 (by simp) (by decide), h91]
  refine comp_pure (P := L1.P) (n := n + 5) (src := .var 91) (elt := frE) (env := e.set 72 (kV x)) (st := st) (st1 := st) (st2 := st) (v := .list (KS x0 x1 x2 x3)) (items := KS x0 x1 x2 x3) (t := 73) (fv := [72]) (fun v => .bool (fb (chs (kV x)) (chs v)))
    (by rw [eE]; simp only [stepE, g91]) (it_list st four_le) four_le (ks_el fun y e' he' => ?_)
  exact frE_c n x y _ st (by rw [get_set', if_neg (by decide), he' 72 (by simp) (by decide), get_set', if_pos rfl]) (by rw [get_set', if_pos rfl])
noncomputable def cntN (a b c d e f : Bool) : Nat := 64 - 8 * (a.toNat + b.toNat + c.toNat + d.toNat + e.toNat + f.toNat) + ((a && b && c).toNat + (a && d && e).toNat + (b && d && f).toNat + (c && e && f).toNat)
noncomputable def cntB : List PS := [.assign 103 (.comp (.tuple [(.var 76), (.var 77)]) [((.one 76), (.bi .range [(.cint 4)]), []), ((.one 77), (.bi .range [(.var 76)]), [(.idx (.idx (.var 102) (.var 76)) (.var 77))])] [102]), .assign 104 (.comp (.tuple [(.var 76), (.var 77), (.var 50)]) [((.tup [76, 77]), (.var 103), []), ((.one 50), (.bi .range [(.var 77)]), [(.boolop true [(.idx (.idx (.var 102) (.var 76)) (.var 50)), (.idx (.idx (.var 102) (.var 77)) (.var 50))])])] [102]), .ret (.bin .Add (.bin .Sub (.cint 64) (.bin .Mult (.cint 8) (.bi .len [(.var 103)]))) (.bi .len [(.var 104)]))]
theorem cntB_c (n : Nat) (KV : PV) (st : Store) (u1 u2 u3 u4 u5 u6 u7 u8 u9 u10 : PV) (a b c d e f : Bool) :
    (stepS (ev L1.P (n + 14)).E (ev L1.P (n + 14)).S cntB [(91, KV), (102, .list [.list [u1, u2, u3, u4], .list [.bool a, u5, u6, u7], .list [.bool b, .bool c, u8, u9], .list [.bool d, .bool e, .bool f, u10]])] st).map (fun r => (r.1, r.2.2)) = some (.ret (.int (cntN a b c d e f)), st) := by
  cases a <;> cases b <;> cases c <;> cases d <;> cases e <;> cases f <;> kernel_rfl
theorem cnt_def : L1.P.F 12 = some ([91], .assign 102 frC :: cntB) := by rfl
theorem cnt_c (n : Nat) (x0 x1 x2 x3 : Nat × Nat × Nat) (st : Store) : (ev L1.P (n + 16)).C 12 [.list (KS x0 x1 x2 x3)] st = some (.int (cntN (fb x1.2 x0.2) (fb x2.2 x0.2) (fb x2.2 x1.2) (fb x3.2 x0.2) (fb x3.2 x1.2) (fb x3.2 x2.2)), st) := by
  have c1 : stepS1 (ev L1.P (n + 14)).E (ev L1.P (n + 14)).S (.assign 102 frC) [(91, .list (KS x0 x1 x2 x3))] st = some (.next, [(91, .list (KS x0 x1 x2 x3)), (102, frM x0 x1 x2 x3)], st) := assign_c (frC_c (n + 7) x0 x1 x2 x3 _ st rfl)
  have c2 := cntB_c n (.list (KS x0 x1 x2 x3)) st (.bool (fb x0.2 x0.2)) (.bool (fb x0.2 x1.2)) (.bool (fb x0.2 x2.2)) (.bool (fb x0.2 x3.2)) (.bool (fb x1.2 x1.2)) (.bool (fb x1.2 x2.2)) (.bool (fb x1.2 x3.2)) (.bool (fb x2.2 x2.2)) (.bool (fb x2.2 x3.2)) (.bool (fb x3.2 x3.2))
    (fb x1.2 x0.2) (fb x2.2 x0.2) (fb x2.2 x1.2) (fb x3.2 x0.2) (fb x3.2 x1.2) (fb x3.2 x2.2)
  obtain ⟨⟨fl, env', st'⟩, e, h⟩ := Option.map_eq_some_iff.mp c2
  have h1 : fl = _ := congrArg Prod.fst h
  have h2 : st' = st := congrArg Prod.snd h
  rw [h1, h2] at e
  have e' : stepS (ev L1.P (n + 14)).E (ev L1.P (n + 14)).S cntB [(91, .list (KS x0 x1 x2 x3)), (102, frM x0 x1 x2 x3)] st = some (.ret (.int (cntN (fb x1.2 x0.2) (fb x2.2 x0.2) (fb x2.2 x1.2) (fb x3.2 x0.2) (fb x3.2 x1.2) (fb x3.2 x2.2))), env', st) := e
  rw [eC]; unfold stepC; rw [cnt_def]
  have b0 : bindAll [91] [.list (KS x0 x1 x2 x3)] [] = some [(91, .list (KS x0 x1 x2 x3))] := rfl
  have s : (ev L1.P (n + 15)).S (.assign 102 frC :: cntB) [(91, .list (KS x0 x1 x2 x3))] st = some (.ret (.int (cntN (fb x1.2 x0.2) (fb x2.2 x0.2) (fb x2.2 x1.2) (fb x3.2 x0.2) (fb x3.2 x1.2) (fb x3.2 x2.2))), env', st) := by
    rw [eS, seqS c1]; exact e'
  simp only [b0, s, freeze]
end Mine
end
section
set_option backward.eqns.nonrecursive false
set_option maxRecDepth 10000
namespace Mine
open PySem
noncomputable def dd (p q : Nat × Nat) : Nat := (bif Nat.beq p.1 q.1 then 0 else 2) + (bif Nat.beq p.2 q.2 then 0 else 2)
theorem ed_tab : KD.all (fun x => KD.all fun y => Nat.beq (ed [x.2.1, x.2.2] [y.2.1, y.2.2]) (dd x.2 y.2)) = true := by kernel_rfl
theorem ed_kd {x y : Nat × Nat × Nat} (hx : x ∈ KD) (hy : y ∈ KD) : ed [x.2.1, x.2.2] [y.2.1, y.2.2] = dd x.2 y.2 :=
  Nat.eq_of_beq_eq_true (List.all_eq_true.mp (List.all_eq_true.mp ed_tab x hx) y hy)
theorem asc_tab : KD.all (fun x => Nat.blt x.2.1 128 && Nat.blt x.2.2 128) = true := by kernel_rfl
theorem asc_kd {x : Nat × Nat × Nat} (hx : x ∈ KD) : ∀ c ∈ [x.2.1, x.2.2], c < 128 := fun c hc => by
  obtain ⟨h1, h2⟩ := Bool.and_eq_true_iff.mp (List.all_eq_true.mp asc_tab x hx)
  simp only [List.mem_cons, List.not_mem_nil, or_false] at hc
  rcases hc with rfl | rfl
  · exact Nat.le_of_ble_eq_true h1
  · exact Nat.le_of_ble_eq_true h2
theorem dd_le (p q : Nat × Nat) : dd p q ≤ 4 := by
  unfold dd; cases Nat.beq p.1 q.1 <;> cases Nat.beq p.2 q.2 <;> decide
theorem beq_comm (a b : Nat) : Nat.beq a b = Nat.beq b a := by
  rw [nb, nb]; by_cases h : a = b
  · rw [decide_eq_true h, decide_eq_true h.symm]
  · rw [decide_eq_false h, decide_eq_false (Ne.symm h)]
theorem dd_lt (p q : Nat × Nat) : Nat.blt (dd p q) 4 = (Nat.beq q.1 p.1 || Nat.beq q.2 p.2) := by
  unfold dd; rw [beq_comm q.1, beq_comm q.2]; cases Nat.beq p.1 q.1 <;> cases Nat.beq p.2 q.2 <;> rfl
theorem dd_fb (p q : Nat × Nat) : Nat.blt (dd p q) 4 = !fb p q := by
  unfold dd fb; cases Nat.beq p.1 q.1 <;> cases Nat.beq p.2 q.2 <;> rfl
theorem mx_app : ∀ a b : List Nat, mxN (a ++ b) = max (mxN a) (mxN b) := by
  intro a b
  induction a with
  | nil => exact (Nat.zero_max _).symm
  | cons x a ih => exact (congrArg (max x) ih).trans (Nat.max_assoc ..).symm
theorem mx_or {α : Type} (P Q : α → Bool) (F : α → Nat) : ∀ l : List α, mxN ((l.filter fun y => P y || Q y).map F) = max (mxN ((l.filter P).map F)) (mxN ((l.filter Q).map F)) := by
  intro l
  induction l with
  | nil => rfl
  | cons y l ih =>
    rw [List.filter_cons, List.filter_cons, List.filter_cons]
    cases P y <;> cases Q y
    · exact ih
    · exact (congrArg (max (F y)) ih).trans (Nat.max_left_comm ..)
    · exact (congrArg (max (F y)) ih).trans (Nat.max_assoc ..).symm
    · refine (congrArg (max (F y)) ih).trans ?_
      show max (F y) (max _ _) = max (max (F y) _) (max (F y) _)
      rw [Nat.max_assoc (F y), Nat.max_left_comm _ (F y), ← Nat.max_assoc (F y) (F y), Nat.max_self]; rfl
theorem getN_pt (c c0 L : Nat) (d : List (Nat × Nat)) : getN c (pt c0 L d) = bif Nat.beq c c0 then L else getN c d := by
  unfold getN
  induction d with
  | nil =>
    show (bif Nat.beq c c0 then some L else none).getD 0 = _
    cases Nat.beq c c0 <;> rfl
  | cons p r ih =>
    show (lkp c (bif Nat.beq c0 p.1 then (p.1, L) :: r else p :: pt c0 L r)).getD 0 = bif Nat.beq c c0 then L else (bif Nat.beq c p.1 then some p.2 else lkp c r).getD 0
    cases h : Nat.beq c0 p.1 with
    | true =>
      have e := Nat.eq_of_beq_eq_true h
      show (bif Nat.beq c p.1 then some L else lkp c r).getD 0 = _
      rw [← e]
      cases Nat.beq c c0 <;> rfl
    | false =>
      show (bif Nat.beq c p.1 then some p.2 else lkp c (pt c0 L r)).getD 0 = _
      cases h2 : Nat.beq c p.1 with
      | true =>
        have e := Nat.eq_of_beq_eq_true h2
        rw [e, beq_comm, h]; rfl
      | false => exact ih
structure HInv (T : Nat → Nat × Nat) (done f s : List (Nat × Nat)) : Prop where
  f : ∀ c, getN c f = mxN ((done.filter fun y => Nat.beq c (T y.1).1).map (·.2))
  s : ∀ c, getN c s = mxN ((done.filter fun y => Nat.beq c (T y.1).2).map (·.2))
theorem one_inv (S : Nat → Nat) (done f : List (Nat × Nat)) (x L : Nat) (h : ∀ c, getN c f = mxN ((done.filter fun y => Nat.beq c (S y.1)).map (·.2))) (hL : getN (S x) f ≤ L) (c : Nat) :
    getN c (pt (S x) L f) = mxN (((done ++ [(x, L)]).filter fun y => Nat.beq c (S y.1)).map (·.2)) := by
  rw [getN_pt, List.filter_append, List.map_append, mx_app, ← h]
  cases e : Nat.beq c (S x) with
  | true =>
    have e1 : [(x, L)].filter (fun y => Nat.beq c (S y.1)) = [(x, L)] := by simp only [List.filter, e]
    rw [e1, Nat.eq_of_beq_eq_true e]
    show L = max _ (max L 0)
    rw [Nat.max_zero, Nat.max_eq_right hL]
  | false =>
    have e1 : [(x, L)].filter (fun y => Nat.beq c (S y.1)) = [] := by simp only [List.filter, e]
    rw [e1]
    exact (Nat.max_zero _).symm
theorem lv_th (T : Nat → Nat × Nat) : ∀ (row : List Nat) (done f s : List (Nat × Nat)), HInv T done f s → lvGo (fun i j => dd (T i) (T j)) done row = done ++ thGo T f s row := by
  intro row
  induction row with
  | nil => exact fun done f s _ => (List.append_nil done).symm
  | cons x row ih =>
    intro done f s h
    have e : lvl (fun i j => dd (T i) (T j)) done x = 1 + max (getN (T x).1 f) (getN (T x).2 s) := by
      unfold lvl
      have q : (fun y : Nat × Nat => Nat.blt (dd (T y.1) (T x)) 4) = fun y => Nat.beq (T x).1 (T y.1).1 || Nat.beq (T x).2 (T y.1).2 := funext fun y => dd_lt _ _
      rw [q, mx_or, h.f, h.s]
    show lvGo _ (done ++ [(x, lvl _ done x)]) row = done ++ (x, _) :: thGo T _ _ row
    rw [e]
    refine (ih _ _ _ ⟨one_inv (fun i => (T i).1) done f x _ h.f ?_, one_inv (fun i => (T i).2) done s x _ h.s ?_⟩).trans (List.append_assoc ..)
    · exact Nat.le_trans (Nat.le_max_left ..) (Nat.le_add_left ..)
    · exact Nat.le_trans (Nat.le_max_right ..) (Nat.le_add_left ..)
theorem lv_told (T : Nat → Nat × Nat) (row : List Nat) : lvGo (fun i j => dd (T i) (T j)) [] row = thGo T [] [] row := lv_th T row [] [] [] ⟨fun _ => rfl, fun _ => rfl⟩
theorem lvGo_fst (D : Nat → Nat → Nat) : ∀ (row : List Nat) (done : List (Nat × Nat)), (lvGo D done row).map (·.1) = done.map (·.1) ++ row := by
  intro row
  induction row with
  | nil => exact fun done => (List.append_nil _).symm
  | cons x row ih => exact fun done => (ih _).trans (by rw [List.map_append, List.append_assoc]; rfl)
noncomputable def lvlR (R : Nat → Nat → Bool) (done : List (Nat × Nat)) (x : Nat) : Nat := 1 + mxN ((done.filter fun y => R y.1 x).map (·.2))
noncomputable def key3 (R : Nat → Nat → Bool) (a b c : Nat) : Nat :=
  2 ^ (4 * lvlR R [] a + a) + (2 ^ (4 * lvlR R [(a, lvlR R [] a)] b + b) + (2 ^ (4 * lvlR R [(a, lvlR R [] a), (b, lvlR R [(a, lvlR R [] a)] b)] c + c) + 0))
noncomputable def keyM (R : Nat → Nat → Bool) (m : Nat) : Nat := key3 R (m % 4) (m / 4 % 4) (m / 16)
noncomputable def memN (k : Nat) (l : List Nat) : Bool := match l with
  | [] => false
  | x :: r => bif Nat.beq k x then true else memN k r
noncomputable def addN (l : List Nat) (k : Nat) : List Nat := bif memN k l then l else l ++ [k]
noncomputable def heapsR (R : Nat → Nat → Bool) : List Nat := ((List.range 64).map (keyM R)).foldl addN []
noncomputable def rel6 (a b c d e f : Bool) (i j : Nat) : Bool :=
  bif Nat.beq i j then true else !(bif Nat.beq (i + j) 1 then a else bif Nat.beq (i * j) 2 then c else bif Nat.beq (i + j) 2 then b else bif Nat.beq (i * j) 0 then d else bif Nat.beq (i * j) 3 then e else f)
noncomputable def boo : List Bool := [false, true]
theorem cnt_tab : (boo.all fun a => boo.all fun b => boo.all fun c => boo.all fun d => boo.all fun e => boo.all fun f => Nat.beq (heapsR (rel6 a b c d e f)).length (cntN a b c d e f)) = true := by kernel_rfl
end Mine
end
section
set_option backward.eqns.nonrecursive false
set_option maxRecDepth 10000
namespace Mine
open PySem
noncomputable def tpB : List PS := [.expr (.meth .extend (.var 82) [(.call 8 [(.var 65)])])]
theorem tape_len (ms : List Nat) : (tapeOf ms).length ≤ 9 * ms.length := by
  induction ms with
  | nil => exact Nat.le_refl _
  | cons m r ih =>
    have := octs_len m
    show (natV (octs m) ++ tapeOf r).length ≤ 9 * (r.length + 1)
    rw [List.length_append, natV, List.length_map]; omega
theorem tp_go (n p : Nat) : ∀ (ms : List Nat) (X : List PV) (env : PEnv) (st : Store), env.get 82 = some (.ref p) → (∀ m ∈ ms, m < 16777216) → X.length + 9 * ms.length ≤ 1000 → st[p]? = some (.list X) →
    ∃ st', ms = [] ∨ forN ((ev L1.P (n + 16)).S tpB) (.one 65) (natV ms) env st = some (.next, env.set 65 (.int (ms.getLastD 0)), st') ∧ st'[p]? = some (.list (X ++ tapeOf ms)) := by
  intro ms
  induction ms with
  | nil => exact fun _ _ st _ _ _ _ => ⟨st, .inl rfl⟩
  | cons m ms ih =>
    intro X env st h82 hm hl hst
    have hp := (List.getElem?_eq_some_iff.mp hst).1
    have oc := octets_c (n + 1) m st (hm m (List.mem_cons_self ..))
    have ol := octs_len m
    have g0 : (st ++ [PObj.dead])[p]? = some (.list X) := (get_app_lt hp).trans hst
    have ex := extend_c (ys := natV (octs m)) g0 (by simp only [List.length_cons] at hl; rw [natV, List.length_map]; exact Nat.le_trans (show X.length + (octs m).length ≤ 1000 by omega) (by decide))
    have q82 : (env.set 65 (.int m)).get 82 = some (.ref p) := by rw [get_set', if_neg (by decide)]; exact h82
    have v : (ev L1.P (n + 14)).E (.var 82) (env.set 65 (.int m)) st = some (.ref p, st) := by rw [eE]; simp only [stepE, q82]
    have a : (ev L1.P (n + 14)).E (.call 8 [(.var 65)]) (env.set 65 (.int m)) st = some (.list (natV (octs m)), st ++ [.dead]) := by
      simp only [eE, stepE, evList, get_set', ↓reduceIte, oc]
    have s : (ev L1.P (n + 16)).S tpB (env.set 65 (.int m)) st = some (.next, env.set 65 (.int m), (st ++ [PObj.dead]).set p (.list (X ++ natV (octs m)))) := by
      refine oneS (n := n + 15) (expr_c ?_)
      rw [eE]
      simp only [stepE, v, (ok_list hst).2.2.2, cond_true, evList, a, ex]
    have g1 : ((st ++ [PObj.dead]).set p (.list (X ++ natV (octs m))))[p]? = some (.list (X ++ natV (octs m))) := get_setS g0
    have un : forN ((ev L1.P (n + 16)).S tpB) (.one 65) (natV (m :: ms)) env st = forN ((ev L1.P (n + 16)).S tpB) (.one 65) (natV ms) (env.set 65 (.int m)) ((st ++ [PObj.dead]).set p (.list (X ++ natV (octs m)))) := by
      show forN _ _ (.int m :: natV ms) env st = _
      simp only [forN, bindTgt, s]
    cases ms with
    | nil => exact ⟨_, .inr ⟨un.trans rfl, by rw [g1]; exact congrArg (fun q => some (PObj.list (X ++ q))) (List.append_nil _).symm⟩⟩
    | cons m2 ms =>
      obtain ⟨st', h⟩ := ih (X ++ natV (octs m)) (env.set 65 (.int m)) _ q82 (fun k hk => hm k (List.mem_cons_of_mem _ hk)) (by simp only [List.length_cons, List.length_append, natV, List.length_map] at hl ⊢; omega) g1
      rcases h with h | ⟨h1, h2⟩
      · cases h
      · rw [set_set] at h1
        exact ⟨st', .inr ⟨un.trans h1, h2.trans (congrArg (fun q => some (PObj.list q)) (List.append_assoc X (natV (octs m)) (tapeOf (m2 :: ms))))⟩⟩
section
variable (ks : List (Nat × Nat × Nat)) (h4 : ks.length = 4)
noncomputable def kx (ks : List (Nat × Nat × Nat)) (i : Nat) : Nat × Nat × Nat := ks.getD i (0, 0, 0)
include h4
theorem kx_idx {i : Nat} (h : i < 4) : pidx (.list (ks.map kV)) (.int i) = some (kV (kx ks i)) := by
  refine idxL_c ?_ (Nat.le_trans (Nat.le_of_lt h) four_le)
  rw [List.getElem?_map, List.getElem?_eq_getElem (h4 ▸ h), kx, List.getD_eq_getElem?_getD, List.getElem?_eq_getElem (h4 ▸ h)]; rfl
end
theorem kv0 (x : Nat × Nat × Nat) : pidx (kV x) (.int 0) = some (.int x.1) := rfl
theorem kv1 (x : Nat × Nat × Nat) : pidx (kV x) (.int 1) = some (.str [x.2.1, x.2.2]) := rfl
theorem rdk (x : Nat × Nat × Nat) (st : Store) : rd st (kV x) = kV x := rfl
theorem ch0 (a b : Nat) : pidx (.str [a, b]) (.int 0) = some (.str [a]) := rfl
theorem ch1 (a b : Nat) : pidx (.str [a, b]) (.int 1) = some (.str [b]) := rfl
noncomputable def fst1 (v : PV) : PV := match v with
  | .tuple l => l.headD .none
  | _ => .none
theorem fst_map (l : List (Nat × Nat × Nat)) : (l.map kV).map fst1 = natV (l.map (·.1)) := by rw [List.map_map, natV, List.map_map]; rfl
theorem firsts_c (n v : Nat) (l : List (Nat × Nat × Nat)) (hl : l.length ≤ 60) (env : PEnv) (st : Store) (hv : env.get v = some (.list (l.map kV))) (t : Nat) : (ev L1.P (n + 4)).E (.comp (.idx (.var t) (.cint 0)) [((.one t), (.var v), [])] []) env st = some (.list (natV (l.map (·.1))), st) := by
  have ll : (l.map kV).length ≤ lim := by rw [List.length_map]; exact Nat.le_trans hl (by decide)
  have := comp_pure (P := L1.P) (n := n + 3) (src := .var v) (elt := .idx (.var t) (.cint 0)) (env := env) (st := st) (st1 := st) (st2 := st) (v := .list (l.map kV)) (items := l.map kV) (t := t) (fv := []) fst1
    (by rw [eE]; simp only [stepE, hv]) (it_list st ll) ll (fun x hx e he => by
      obtain ⟨y, hy, rfl⟩ := List.mem_map.mp hx
      simp only [eE, stepE, get_set', ↓reduceIte, rdk, kv0]
      rfl)
  rw [this, fst_map]
noncomputable def nmE : PE := .bin .Add (.bin .Add (.bin .Add (.comp (.idx (.var 106) (.cint 0)) [((.one 106), (.var 91), [])] []) (.list [(.cint 0)])) (.comp (.idx (.idx (.var 91) (.var 50)) (.cint 0)) [((.one 50), (.var 28), [])] [91])) (.list [(.cint 0)])
theorem nat_app (a b : List Nat) : natV a ++ natV b = natV (a ++ b) := List.map_append.symm
theorem addN_c {a b : List Nat} (ha : a.length ≤ 1000) (hb : b.length ≤ 1000) : pbin .Add (.list (natV a)) (.list (natV b)) = some (.list (natV (a ++ b))) := by
  rw [addL_c (by rw [natV, List.length_map]; exact ha) (by rw [natV, List.length_map]; exact hb), nat_app]
theorem row_c (n : Nat) (ks : List (Nat × Nat × Nat)) (h4 : ks.length = 4) (row : List Nat) (hr : ∀ x ∈ row, x < 4) (hl : row.length ≤ 60) (j : Int) (g : Nat × Nat × Nat → PV) (hg : ∀ x, pidx (kV x) (.int j) = some (g x)) (env : PEnv) (st : Store) (h91 : env.get 91 = some (.list (ks.map kV))) (h28 : env.get 28 = some (.list (natV row))) :
    (ev L1.P (n + 5)).E (.comp (.idx (.idx (.var 91) (.var 50)) (.cint j)) [((.one 50), (.var 28), [])] [91]) env st = some (.list (row.map fun i => g (kx ks i)), st) := by
  have ll : (natV row).length ≤ lim := by rw [natV, List.length_map]; exact Nat.le_trans hl (by decide)
  have := comp_pure (P := L1.P) (n := n + 4) (src := .var 28) (elt := .idx (.idx (.var 91) (.var 50)) (.cint j)) (env := env) (st := st) (st1 := st) (st2 := st) (v := .list (natV row)) (items := natV row) (t := 50) (fv := [91]) (fun v => match v with | .int k => g (kx ks k.toNat) | _ => .none)
    (by rw [eE]; simp only [stepE, h28]) (it_list st ll) ll (fun x hx e he => by
      obtain ⟨y, hy, rfl⟩ := List.mem_map.mp hx
      have q : (e.set 50 (.int y)).get 91 = some (.list (ks.map kV)) := by rw [get_set', if_neg (by decide), he 91 (by simp) (by decide), h91]
      simp only [eE, stepE, q, get_set', ↓reduceIte, rd_list, rd_int, kx_idx ks h4 (hr y hy), rdk, hg]
      rfl)
  rw [this, natV, List.map_map]; rfl
theorem nmE_c (n : Nat) (ks : List (Nat × Nat × Nat)) (h4 : ks.length = 4) (row : List Nat) (hr : ∀ x ∈ row, x < 4) (hl : row.length ≤ 60) (env : PEnv) (st : Store) (h91 : env.get 91 = some (.list (ks.map kV))) (h28 : env.get 28 = some (.list (natV row))) :
    (ev L1.P (n + 9)).E nmE env st = some (.list (natV (((ks.map (·.1) ++ [0]) ++ row.map fun i => (kx ks i).1) ++ [0])), st) := by
  have a := firsts_c (n + 2) 91 ks (by rw [h4]; decide) env st h91 106
  have b := row_c (n + 2) ks h4 row hr hl 0 (fun x => .int x.1) kv0 env st h91 h28
  have b' : (row.map fun i => PV.int (kx ks i).1) = natV (row.map fun i => (kx ks i).1) := by rw [natV, List.map_map]; rfl
  rw [b'] at b
  have z : ∀ k, (ev L1.P (k + 2)).E (.list [(.cint 0)]) env st = some (.list (natV [0]), st) := fun _ => rfl
  have l1 : (ks.map (·.1)).length = 4 := by rw [List.length_map, h4]
  have l2 : (row.map fun i => (kx ks i).1).length ≤ 60 := by rw [List.length_map]; exact hl
  have s1 := addN_c (a := ks.map (·.1)) (b := [0]) (by rw [l1]; decide) (by decide)
  have s2 := addN_c (a := ks.map (·.1) ++ [0]) (b := row.map fun i => (kx ks i).1) (by rw [List.length_append, l1]; decide) (Nat.le_trans l2 (by decide))
  have s3 := addN_c (a := (ks.map (·.1) ++ [0]) ++ row.map fun i => (kx ks i).1) (b := [0]) (by rw [List.length_append, List.length_append, l1]; exact Nat.le_trans (Nat.add_le_add_left l2 _) (by decide)) (by decide)
  have e1 : (ev L1.P (n + 7)).E (.bin .Add (.comp (.idx (.var 106) (.cint 0)) [((.one 106), (.var 91), [])] []) (.list [(.cint 0)])) env st = some (.list (natV (ks.map (·.1) ++ [0])), st) := by
    rw [eE]; simp only [stepE, a, z (n + 4), rd_list, s1]
  have e2 : (ev L1.P (n + 8)).E (.bin .Add (.bin .Add (.comp (.idx (.var 106) (.cint 0)) [((.one 106), (.var 91), [])] []) (.list [(.cint 0)])) (.comp (.idx (.idx (.var 91) (.var 50)) (.cint 0)) [((.one 50), (.var 28), [])] [91])) env st = some (.list (natV ((ks.map (·.1) ++ [0]) ++ row.map fun i => (kx ks i).1)), st) := by
    rw [eE]; simp only [stepE, e1, b, rd_list, s2]
  unfold nmE
  rw [eE]; simp only [stepE, e2, z (n + 6), rd_list, s3]
noncomputable def apE : PE := .comp (.comp (.call 1 [(.idx (.var 72) (.cint 1)), (.idx (.var 73) (.cint 1)), (.var 105)]) [((.one 73), (.var 107), [])] [72, 105]) [((.one 72), (.var 107), [])] [105, 107]
theorem lev_kd (n : Nat) {x y : Nat × Nat × Nat} (hx : x ∈ KD) (hy : y ∈ KD) (mx : Nat) (hm : 3 ≤ mx) (st : Store) : ∃ st', (ev L1.P (n + 24)).C 1 [.str [x.2.1, x.2.2], .str [y.2.1, y.2.2], .int mx] st = some (.int (dd x.2 y.2), st') := by
  obtain ⟨r, rows, h, hr⟩ := lev_c n [x.2.1, x.2.2] [y.2.1, y.2.2] mx st (show 2 ≤ 40 by decide) (show 2 ≤ 40 by decide) (asc_kd hx) (asc_kd hy)
  rw [ed_kd hx hy] at hr
  have e : r = (dd x.2 y.2 : Nat) := by
    rcases hr with h | ⟨h1, h2⟩
    · exact h
    · have h3 := dd_le x.2 y.2
      have h4 := Int.ofNat_lt.mp h2
      have h5 : mx + 1 = dd x.2 y.2 := Nat.le_antisymm h4 (Nat.le_trans h3 (Nat.succ_le_succ hm))
      rw [h1, ← h5]; rfl
  exact ⟨_, e ▸ h⟩
theorem apE_c (n : Nat) (ks : List (Nat × Nat × Nat)) (hk : ∀ x ∈ ks, x ∈ KD) (hl : ks.length ≤ 60) (mx : Nat) (hm : 3 ≤ mx) (env : PEnv) (st : Store) (h107 : env.get 107 = some (.list (ks.map kV))) (h105 : env.get 105 = some (.int mx)) :
    ∃ st', (ev L1.P (n + 28)).E apE env st = some (.list ((ks.map kV).map fun u => .list ((ks.map kV).map fun v => .int (dd (chs u) (chs v)))), st') := by
  have ll : (ks.map kV).length ≤ lim := by rw [List.length_map]; exact Nat.le_trans hl (by decide)
  obtain ⟨vs, s', h, hv, _⟩ := comp_rel (P := L1.P) (n := n + 27) (src := .var 107) (elt := .comp (.call 1 [(.idx (.var 72) (.cint 1)), (.idx (.var 73) (.cint 1)), (.var 105)]) [((.one 73), (.var 107), [])] [72, 105]) (env := env) (st := st) (st1 := st) (st2 := st) (v := .list (ks.map kV)) (items := ks.map kV) (t := 72) (fv := [105, 107])
    (fun u w => w = .list ((ks.map kV).map fun v => .int (dd (chs u) (chs v)))) (fun _ => True) (by rw [eE]; simp only [stepE, h107]) (it_list st ll) ll trivial (fun u hu e s he _ => by
      obtain ⟨x, hx, rfl⟩ := List.mem_map.mp hu
      have q107 : (e.set 72 (kV x)).get 107 = some (.list (ks.map kV)) := by rw [get_set', if_neg (by decide), he 107 (by simp) (by decide), h107]
      have q105 : (e.set 72 (kV x)).get 105 = some (.int mx) := by rw [get_set', if_neg (by decide), he 105 (by simp) (by decide), h105]
      obtain ⟨vs, s', h, hv, _⟩ := comp_rel (P := L1.P) (n := n + 26) (src := .var 107) (elt := .call 1 [(.idx (.var 72) (.cint 1)), (.idx (.var 73) (.cint 1)), (.var 105)]) (env := e.set 72 (kV x)) (st := s) (st1 := s) (st2 := s) (v := .list (ks.map kV)) (items := ks.map kV) (t := 73) (fv := [72, 105])
        (fun v w => w = .int (dd (chs (kV x)) (chs v))) (fun _ => True) (by rw [eE]; simp only [stepE, q107]) (it_list s ll) ll trivial (fun v hv e' s he' _ => by
          obtain ⟨y, hy, rfl⟩ := List.mem_map.mp hv
          obtain ⟨st', lv⟩ := lev_kd (n + 1) (hk x hx) (hk y hy) mx hm s
          have q72 : (e'.set 73 (kV y)).get 72 = some (kV x) := by rw [get_set', if_neg (by decide), he' 72 (by simp) (by decide), get_set', if_pos rfl]
          have p105 : (e'.set 73 (kV y)).get 105 = some (.int mx) := by rw [get_set', if_neg (by decide), he' 105 (by simp) (by decide), q105]
          refine ⟨.int (dd x.2 y.2), st', ?_, rfl, trivial⟩
          simp only [eE, stepE, evList, q72, p105, get_set', ↓reduceIte, rdk, kv1, lv])
      exact ⟨_, s', h.trans (by rw [hv.map]), rfl, trivial⟩)
  exact ⟨s', h.trans (by rw [hv.map])⟩
theorem idxI_c : ∀ (l : List Nat) (i x : Nat), l.Nodup → l[i]? = some x → idxI (x : Int) (l.map fun (x : Nat) => (x : Int)) = some i := by
  intro l
  induction l with
  | nil => exact fun i x _ h => by cases h
  | cons y l ih =>
    intro i x hn h
    obtain ⟨h1, h2⟩ := List.nodup_cons.mp hn
    show (bif (x : Int) == (y : Int) then some 0 else (idxI (x : Int) (l.map fun (x : Nat) => (x : Int))).map (· + 1)) = _
    cases i with
    | zero =>
      cases Option.some.inj h
      rw [beq_self_eq_true]; rfl
    | succ i =>
      have h : l[i]? = some x := h
      have hne : ((x : Int) == (y : Int)) = false := beq_eq_false_iff_ne.mpr fun e => h1 (Int.ofNat_inj.mp e ▸ List.mem_of_getElem? h)
      rw [hne, ih i x h2 h]; rfl
noncomputable def plE : PE := .comp (.meth .index (.var 60) [(.idx (.var 108) (.cint 0))]) [((.one 108), (.var 96), [])] [60]
theorem plE_c (n : Nat) (ks : List (Nat × Nat × Nat)) (h4 : ks.length = 4) (hn : (ks.map (·.1)).Nodup) (row : List Nat) (hr : ∀ x ∈ row, x < 4) (hl : row.length ≤ 60) (env : PEnv) (st : Store) (h60 : env.get 60 = some (.list (natV (ks.map (·.1))))) (h96 : env.get 96 = some (.list ((row.map (kx ks)).map kV))) :
    (ev L1.P (n + 6)).E plE env st = some (.list (natV row), st) := by
  have ll : ((row.map (kx ks)).map kV).length ≤ lim := by rw [List.length_map, List.length_map]; exact Nat.le_trans hl (by decide)
  have l4 : (natV (ks.map (·.1))).length ≤ lim := by rw [natV, List.length_map, List.length_map, h4]; exact four_le
  obtain ⟨vs, s', h, hv, rfl⟩ := comp_rel (P := L1.P) (n := n + 5) (src := .var 96) (elt := .meth .index (.var 60) [(.idx (.var 108) (.cint 0))]) (env := env) (st := st) (st1 := st) (st2 := st) (v := .list ((row.map (kx ks)).map kV)) (items := (row.map (kx ks)).map kV) (t := 108) (fv := [60])
    (fun u w => ∀ i, i < 4 → u = kV (kx ks i) → w = .int i) (fun s => s = st) (by rw [eE]; simp only [stepE, h96]) (it_list st ll) ll rfl (fun u hu e s he hs => by
      obtain ⟨x, hx, rfl⟩ := List.mem_map.mp hu
      obtain ⟨i, hi, rfl⟩ := List.mem_map.mp hx
      have q60 : (e.set 108 (kV (kx ks i))).get 60 = some (.list (natV (ks.map (·.1)))) := by rw [get_set', if_neg (by decide), he 60 (by simp) (by decide), h60]
      have gx : ∀ i, i < 4 → (ks.map (·.1))[i]? = some (kx ks i).1 := fun i hi => by rw [List.getElem?_map, List.getElem?_eq_getElem (h4 ▸ hi), kx, List.getD_eq_getElem?_getD, List.getElem?_eq_getElem (h4 ▸ hi)]; rfl
      have ix : pmeth .index (.list (natV (ks.map (·.1)))) [.int (kx ks i).1] s = some (.int i, s) := by
        show oO (intsOf (natV (ks.map (·.1)))) _ = _
        rw [ints_nat]
        show oO (idxI ((kx ks i).1 : Int) _) _ = _
        rw [idxI_c _ i _ hn (gx i (hr i hi))]
        exact bif_le l4 ..
      refine ⟨.int i, s, ?_, fun j hj e => ?_, hs⟩
      · have ok : meOk .index (.list (natV (ks.map (·.1)))) s = true := rfl
        simp only [eE, stepE, evList, q60, get_set', ↓reduceIte, rdk, kv0, ok, cond_true, ix]
      · have e1 : (kx ks i).1 = (kx ks j).1 := Int.ofNat_inj.mp (PV.int.inj (List.cons.inj (PV.tuple.inj e)).1)
        have i1 := idxI_c _ i _ hn (gx i (hr i hi))
        have i2 := idxI_c _ j _ hn (gx j hj)
        rw [e1] at i1
        rw [Option.some.inj (i1.symm.trans i2)])
  have key : ∀ (l : List Nat) (vs : List PV), (∀ x ∈ l, x < 4) → F2 (fun u w => ∀ i, i < 4 → u = kV (kx ks i) → w = .int i) ((l.map (kx ks)).map kV) vs → vs = natV l := by
    intro l
    induction l with
    | nil => exact fun vs _ h => by cases h; rfl
    | cons i l ih =>
      intro vs hx h
      cases h with
      | cons h1 h2 => rw [h1 i (hx i (List.mem_cons_self ..)) rfl, ih _ (fun y hy => hx y (List.mem_cons_of_mem _ hy)) h2]; rfl
  rw [key row vs hr hv] at h
  exact h
end Mine
end
section
set_option backward.eqns.nonrecursive false
set_option maxRecDepth 10000
namespace Mine
open PySem
theorem range_get {α : Type} (d : List α) (z : α) : (List.range d.length).map (fun j => d.getD j z) = d := by
  apply List.ext_getElem?
  intro i
  rw [List.getElem?_map]
  by_cases h : i < d.length
  · rw [List.getElem?_range h, List.getElem?_eq_getElem h]; simp [h]
  · rw [List.getElem?_eq_none (by rw [List.length_range]; exact Nat.not_lt.mp h), List.getElem?_eq_none (Nat.not_lt.mp h)]; rfl
theorem getD_get {α : Type} {d : List α} {j : Nat} (h : j < d.length) (z : α) : d[j]? = some (d.getD j z) := by rw [List.getD_eq_getElem?_getD, List.getElem?_eq_getElem h]; rfl
theorem map_get {α β : Type} (F : α → β) {d : List α} {j : Nat} (h : j < d.length) (z : α) : (d.map F)[j]? = some (F (d.getD j z)) := by rw [List.getElem?_map, getD_get h z]; rfl
theorem eqs_refl : ∀ l : List PV, (∀ v ∈ l, eq1 v v = some true) → eqs eq1 l l = some true := by
  intro l
  induction l with
  | nil => exact fun _ => rfl
  | cons v l ih =>
    intro h
    simp only [eqs, h v (List.mem_cons_self ..), ih fun u hu => h u (List.mem_cons_of_mem _ hu)]; rfl
theorem ne_same {l : List PV} (h : ∀ v ∈ l, eq1 v v = some true) : pcmp .NotEq (.list l) (.list l) = some false := by
  show (bif l.length == l.length then eqs eq1 l l else some false).map (!·) = _
  rw [beq_self_eq_true, eqs_refl l h]; rfl
theorem eqF_int (i : Int) : eqF (.int i) (.int i) = some true := congrArg some (beq_self_eq_true i)
theorem eqF_str (l : List Nat) : eqF (.str l) (.str l) = some true := congrArg some (beq_self_eq_true l)
theorem eq1_tV (T : Nat → Nat × Nat) (p : Nat × Nat) : eq1 (tV T p) (tV T p) = some true := by
  show eqs eqF [.int p.2, .str [(T p.1).1, (T p.1).2]] [.int p.2, .str [(T p.1).1, (T p.1).2]] = _
  simp only [eqs, eqF_int, eqF_str]; rfl
noncomputable def c1E : PE := .comp (.tuple [(.idx (.var 99) (.var 50)), (.idx (.idx (.var 96) (.var 50)) (.cint 1))]) [((.one 50), (.bi .range [(.bi .len [(.var 96)])]), [])] [96, 99]
theorem c1E_c (n : Nat) (ks : List (Nat × Nat × Nat)) (th : List (Nat × Nat)) (hl : th.length ≤ 60) (env : PEnv) (st : Store) (h96 : env.get 96 = some (.list (((th.map (·.1)).map (kx ks)).map kV))) (h99 : env.get 99 = some (.list (natV (th.map (·.2))))) :
    (ev L1.P (n + 6)).E c1E env st = some (.list (th.map (tV fun i => (kx ks i).2)), st) := by
  have ll : (((th.map (·.1)).map (kx ks)).map kV).length = th.length := by rw [List.length_map, List.length_map, List.length_map]
  have hl' : th.length ≤ lim := Nat.le_trans hl (by decide)
  have rg : (ev L1.P (n + 5)).E (.bi .range [(.bi .len [(.var 96)])]) env st = some (.rng 0 th.length 1, st) := by
    simp only [eE, stepE, evList, h96, rd_list, len_list st (ll ▸ hl' : (((th.map (·.1)).map (kx ks)).map kV).length ≤ lim), range1_c, ll]
    exact rng0 th.length _ hl
  have := comp_pure (P := L1.P) (n := n + 5) (src := .bi .range [(.bi .len [(.var 96)])]) (elt := .tuple [(.idx (.var 99) (.var 50)), (.idx (.idx (.var 96) (.var 50)) (.cint 1))]) (env := env) (st := st) (st1 := st) (st2 := st) (v := .rng 0 th.length 1) (items := natV (List.range th.length)) (t := 50) (fv := [96, 99]) (fun v => match v with | .int k => tV (fun i => (kx ks i).2) (th.getD k.toNat (0, 0)) | _ => .none)
    rg (by rw [← rng_nat0]; rfl) (by rw [natV, List.length_map, List.length_range]; exact hl') (fun v hv e he => by
      obtain ⟨j, hj, rfl⟩ := List.mem_map.mp hv
      have hj := List.mem_range.mp hj
      have hjl : j ≤ lim := Nat.le_trans (Nat.le_of_lt hj) hl'
      have q96 : (e.set 50 (.int j)).get 96 = some (.list (((th.map (·.1)).map (kx ks)).map kV)) := by rw [get_set', if_neg (by decide), he 96 (by simp) (by decide), h96]
      have q99 : (e.set 50 (.int j)).get 99 = some (.list (natV (th.map (·.2)))) := by rw [get_set', if_neg (by decide), he 99 (by simp) (by decide), h99]
      have g1 : (natV (th.map (·.2)))[j]? = some (.int ((th.getD j (0, 0)).2 : Nat)) := nat_get (map_get (·.2) hj (0, 0))
      have g2 : (((th.map (·.1)).map (kx ks)).map kV)[j]? = some (kV (kx ks (th.getD j (0, 0)).1)) := by rw [List.map_map, List.map_map]; exact map_get _ hj (0, 0)
      simp only [eE, stepE, evList, q96, q99, get_set', ↓reduceIte, rd_list, rd_int, idxL_c g1 hjl, idxL_c g2 hjl, rdk, kv1, bif_le (two_le _ _)]
      rfl)
  unfold c1E
  rw [this, natV, List.map_map]
  have e := congrArg (List.map (tV fun i => (kx ks i).2)) (range_get th (0, 0))
  rw [List.map_map] at e
  exact congrArg (fun q => some (PV.list q, st)) e
noncomputable def toE (c : Int) : PE := .bin .Mult (.cint 2) (.cmp .NotEq (.idx (.idx (.var 95) (.var 50)) (.cint c)) (.idx (.idx (.var 95) (.bin .Add (.var 50) (.cint 1))) (.cint c)))
noncomputable def c2E : PE := .comp (.bin .Add (toE 0) (toE 1)) [((.one 50), (.bi .range [(.cint 5)]), [])] [95]
noncomputable def c3E : PE := .comp (.idx (.idx (.var 98) (.idx (.var 89) (.var 50))) (.idx (.var 89) (.bin .Add (.var 50) (.cint 1)))) [((.one 50), (.bi .range [(.cint 5)]), [])] [89, 98]
noncomputable def steps (T : Nat → Nat × Nat) (row : List Nat) : List PV := (List.range 5).map fun k => .int (dd (T (row.getD k 0)) (T (row.getD (k + 1) 0)))
theorem comp5 {P : PProg} {n : Nat} {elt : PE} {env : PEnv} {st : Store} {t : Nat} {fv : List Nat} (f : Nat → PV)
    (h : ∀ k : Nat, k < 5 → ∀ (e : PEnv), (∀ i ∈ fv, i ≠ t → e.get i = env.get i) → (ev P (n + 8)).E elt (e.set t (.int k)) st = some (f k, st)) :
    (ev P (n + 9)).E (.comp elt [(.one t, .bi .range [.cint 5], [])] fv) env st = some (.list ((List.range 5).map f), st) :=
  comp_pure (P := P) (n := n + 8) (src := .bi .range [.cint 5]) (elt := elt) (env := env) (st := st) (st1 := st) (st2 := st) (v := .rng 0 5 1) (items := natV (List.range 5)) (t := t) (fv := fv) (fun x => match x with | .int k => f k.toNat | _ => .none)
    (by rw [eE]; simp only [stepE, eE, evList, range1_c]; exact rng0 5 st (by decide)) rfl (by decide) (fun x hx e he => by
      obtain ⟨k, hk, rfl⟩ := List.mem_map.mp hx
      exact h k (List.mem_range.mp hk) e he)
theorem mulB_c (b : Bool) : pbin .Mult (.int 2) (.bool b) = some (.int (bif b then 2 else 0)) := rfl
theorem c2E_c (n : Nat) (T : Nat → Nat × Nat) (row : List Nat) (hl : row.length = 6) (env : PEnv) (st : Store) (h95 : env.get 95 = some (.list (row.map fun i => .str [(T i).1, (T i).2]))) :
    (ev L1.P (n + 9)).E c2E env st = some (.list (steps T row), st) := by
  refine comp5 (n := n) _ fun k hk e he => ?_
  obtain ⟨j, hj⟩ : ∃ j, j = k + 1 := ⟨_, rfl⟩
  have q95 : (e.set 50 (.int k)).get 95 = some (.list (row.map fun i => .str [(T i).1, (T i).2])) := by rw [get_set', if_neg (by decide), he 95 (by simp) (by decide), h95]
  have g1 : (row.map fun i => PV.str [(T i).1, (T i).2])[k]? = some (.str [(T (row.getD k 0)).1, (T (row.getD k 0)).2]) := map_get _ (by rw [hl]; exact Nat.lt_succ_of_lt hk) 0
  have g2 : (row.map fun i => PV.str [(T i).1, (T i).2])[j]? = some (.str [(T (row.getD (k + 1) 0)).1, (T (row.getD (k + 1) 0)).2]) := by rw [hj]; exact map_get _ (by rw [hl]; exact Nat.succ_lt_succ hk) 0
  have e1 : (k : Int) + 1 = (j : Int) := by rw [hj]; rfl
  have kl : k ≤ lim := Nat.le_trans (Nat.le_of_lt hk) (by decide)
  have kl' : j ≤ lim := by rw [hj]; exact Nat.le_trans hk (by decide)
  simp only [toE, eE, stepE, q95, get_set', ↓reduceIte, rd_list, rd_int, rd_str, add_c, e1, idxL_c g1 kl, idxL_c g2 kl', ch0, ch1, ne1_c, rd_bool, mulB_c]
  unfold dd
  cases Nat.beq (T (row.getD k 0)).1 (T (row.getD (k + 1) 0)).1 <;> cases Nat.beq (T (row.getD k 0)).2 (T (row.getD (k + 1) 0)).2 <;> rfl
theorem c3E_c (n : Nat) (T : Nat → Nat × Nat) (row : List Nat) (hl : row.length = 6) (hr : ∀ x ∈ row, x < 4) (env : PEnv) (st : Store) (h98 : env.get 98 = some (matN fun i j => dd (T i) (T j))) (h89 : env.get 89 = some (.list (natV row))) :
    (ev L1.P (n + 9)).E c3E env st = some (.list (steps T row), st) := by
  refine comp5 (n := n) _ fun k hk e he => ?_
  obtain ⟨j, hj⟩ : ∃ j, j = k + 1 := ⟨_, rfl⟩
  have q98 : (e.set 50 (.int k)).get 98 = some (matN fun i j => dd (T i) (T j)) := by rw [get_set', if_neg (by decide), he 98 (by simp) (by decide), h98]
  have q89 : (e.set 50 (.int k)).get 89 = some (.list (natV row)) := by rw [get_set', if_neg (by decide), he 89 (by simp) (by decide), h89]
  have k6 : k < row.length := by rw [hl]; exact Nat.lt_succ_of_lt hk
  have k6' : k + 1 < row.length := by rw [hl]; exact Nat.succ_lt_succ hk
  have g1 := nat_get (getD_get k6 0)
  have g2 : (natV row)[j]? = some (.int (row.getD (k + 1) 0 : Nat)) := by rw [hj]; exact nat_get (getD_get k6' 0)
  have e1 : (k : Int) + 1 = (j : Int) := by rw [hj]; rfl
  have kl : k ≤ lim := Nat.le_trans (Nat.le_of_lt hk) (by decide)
  have kl' : j ≤ lim := by rw [hj]; exact Nat.le_trans hk (by decide)
  have m1 := mat_idx (fun i j => dd (T i) (T j)) (hr _ (List.mem_of_getElem? (getD_get k6 0)))
  have m2 := row_idx (fun i j => dd (T i) (T j)) (row.getD k 0) (hr _ (List.mem_of_getElem? (getD_get k6' 0)))
  have r1 : ∀ D, rd st (matN D) = matN D := fun _ => rfl
  have r2 : ∀ D i, rd st (rowN D i) = rowN D i := fun _ _ => rfl
  simp only [eE, stepE, q98, q89, get_set', ↓reduceIte, rd_list, rd_int, r1, r2, add_c, e1, idxL_c g1 kl, idxL_c g2 kl', m1, m2]
theorem mx_le {l : List Nat} {B : Nat} (h : ∀ x ∈ l, x ≤ B) : mxN l ≤ B := by
  induction l with
  | nil => exact Nat.zero_le _
  | cons x l ih => exact Nat.max_le.mpr ⟨h x (List.mem_cons_self ..), ih fun y hy => h y (List.mem_cons_of_mem _ hy)⟩
theorem lvlR_le (R : Nat → Nat → Bool) {done : List (Nat × Nat)} {B : Nat} (h : ∀ y ∈ done, y.2 ≤ B) (x : Nat) : lvlR R done x ≤ 1 + B :=
  Nat.add_le_add_left (mx_le fun z hz => by
    obtain ⟨y, hy, rfl⟩ := List.mem_map.mp hz
    exact h y (List.mem_filter.mp hy).1) 1
noncomputable def rD (D : Nat → Nat → Nat) (i j : Nat) : Bool := Nat.blt (D i j) 4
theorem lvs3 (D : Nat → Nat → Nat) (a b c : Nat) : lvs D [a, b, c] = [lvlR (rD D) [] a, lvlR (rD D) [(a, lvlR (rD D) [] a)] b, lvlR (rD D) [(a, lvlR (rD D) [] a), (b, lvlR (rD D) [(a, lvlR (rD D) [] a)] b)] c] := rfl
theorem lv3_le (R : Nat → Nat → Bool) (a b c : Nat) : lvlR R [] a ≤ 3 ∧ lvlR R [(a, lvlR R [] a)] b ≤ 3 ∧ lvlR R [(a, lvlR R [] a), (b, lvlR R [(a, lvlR R [] a)] b)] c ≤ 3 := by
  have h0 : lvlR R [] a ≤ 1 := lvlR_le R (B := 0) (fun y hy => by cases hy) a
  have h1 : lvlR R [(a, lvlR R [] a)] b ≤ 2 := lvlR_le R (B := 1) (fun y hy => by cases List.mem_singleton.mp hy; exact h0) b
  have h2 : lvlR R [(a, lvlR R [] a), (b, lvlR R [(a, lvlR R [] a)] b)] c ≤ 3 := lvlR_le R (B := 2) (fun y hy => by
    simp only [List.mem_cons, List.not_mem_nil, or_false] at hy
    rcases hy with rfl | rfl
    · exact Nat.le_succ_of_le h0
    · exact h1) c
  exact ⟨Nat.le_trans h0 (by decide), Nat.le_succ_of_le h1, h2⟩
noncomputable def kyE : PE := .bi .sum [(.comp (.bin .Pow (.cint 2) (.bin .Add (.bin .Mult (.cint 4) (.idx (.var 110) (.var 77))) (.idx (.var 61) (.var 77)))) [((.one 77), (.bi .range [(.cint 3)]), [])] [61, 110])]
theorem pow_c {k : Nat} (h : k ≤ 100) : pbin .Pow (.int 2) (.int k) = some (.int (2 ^ k : Nat)) := by
  show (bif decide ((0 : Int) ≤ 2) && decide ((2 : Int) ≤ 16) && decide ((0 : Int) ≤ (k : Int)) && decide ((k : Int) ≤ 100) then some (PV.int ((2 : Int) ^ (k : Int).toNat)) else none) = _
  rw [decide_eq_true (Int.natCast_nonneg k), decide_eq_true (show (k : Int) ≤ 100 from Int.ofNat_le.mpr h)]
  exact congrArg (fun q => some (PV.int q)) (Int.natCast_pow 2 k).symm
theorem three_el {C : Nat → Prop} (h0 : C 0) (h1 : C 1) (h2 : C 2) {i : Nat} (h : i < 3) : C i := by
  match i, h with
  | 0, _ => exact h0
  | 1, _ => exact h1
  | 2, _ => exact h2
theorem kyE_c (n : Nat) (h w : Nat → Nat) (hh : ∀ j, j < 3 → h j ≤ 3) (hw : ∀ j, j < 3 → w j < 4) (env : PEnv) (st : Store) (h110 : env.get 110 = some (.list (natV [h 0, h 1, h 2]))) (h61 : env.get 61 = some (.list (natV [w 0, w 1, w 2]))) :
    (ev L1.P (n + 9)).E kyE env st = some (.int (2 ^ (4 * h 0 + w 0) + (2 ^ (4 * h 1 + w 1) + (2 ^ (4 * h 2 + w 2) + 0)) : Nat), st) := by
  have c := comp_pure (P := L1.P) (n := n + 7) (src := .bi .range [.cint 3]) (elt := .bin .Pow (.cint 2) (.bin .Add (.bin .Mult (.cint 4) (.idx (.var 110) (.var 77))) (.idx (.var 61) (.var 77)))) (env := env) (st := st) (st1 := st) (st2 := st) (v := .rng 0 3 1) (items := natV (List.range 3)) (t := 77) (fv := [61, 110]) (fun x => match x with | .int k => .int (2 ^ (4 * h k.toNat + w k.toNat) : Nat) | _ => .none)
    (by rw [eE]; simp only [stepE, eE, evList, range1_c]; exact rng0 3 st (by decide)) rfl (by decide) (fun x hx e he => by
      obtain ⟨k, hk, rfl⟩ := List.mem_map.mp hx
      have hk := List.mem_range.mp hk
      have q110 : (e.set 77 (.int k)).get 110 = some (.list (natV [h 0, h 1, h 2])) := by rw [get_set', if_neg (by decide), he 110 (by simp) (by decide), h110]
      have q61 : (e.set 77 (.int k)).get 61 = some (.list (natV [w 0, w 1, w 2])) := by rw [get_set', if_neg (by decide), he 61 (by simp) (by decide), h61]
      have i1 : pidx (.list (natV [h 0, h 1, h 2])) (.int k) = some (.int (h k)) := three_el (C := fun k => pidx (.list (natV [h 0, h 1, h 2])) (.int k) = some (.int (h k))) rfl rfl rfl hk
      have i2 : pidx (.list (natV [w 0, w 1, w 2])) (.int k) = some (.int (w k)) := three_el (C := fun k => pidx (.list (natV [w 0, w 1, w 2])) (.int k) = some (.int (w k))) rfl rfl rfl hk
      have e1 : (4 : Int) * (h k : Int) + (w k : Int) = ((4 * h k + w k : Nat) : Int) := rfl
      have sm : small (h k : Int) = true := small24 (Nat.lt_of_le_of_lt (hh k hk) (by decide))
      simp only [eE, stepE, q110, q61, get_set', ↓reduceIte, rd_list, rd_int, i1, i2, mult_c (show small 4 = true by decide) sm, add_c, e1, pow_c (Nat.le_trans (Nat.add_le_add (Nat.mul_le_mul_left 4 (hh k hk)) (Nat.le_of_lt (hw k hk))) (by decide))]
      rfl)
  have e2 : (natV (List.range 3)).map (fun x => match x with | .int k => PV.int (2 ^ (4 * h k.toNat + w k.toNat) : Nat) | _ => .none) = ([2 ^ (4 * h 0 + w 0), 2 ^ (4 * h 1 + w 1), 2 ^ (4 * h 2 + w 2)].map fun (x : Nat) => (x : Int)).map PV.int := rfl
  rw [e2] at c
  have s := sum_c (l := [2 ^ (4 * h 0 + w 0), 2 ^ (4 * h 1 + w 1), 2 ^ (4 * h 2 + w 2)].map fun (x : Nat) => (x : Int)) st (show 3 ≤ 1000 by decide)
  unfold kyE
  rw [eE]
  simp only [stepE, evList, c, s]
  rfl
end Mine
end
section
set_option backward.eqns.nonrecursive false
set_option maxRecDepth 10000
namespace Mine
open PySem
noncomputable def iV (l : List Nat) : List Int := l.map fun (x : Nat) => (x : Int)
theorem has_mem (k : Nat) (l : List Nat) : (iV l).contains (k : Int) = memN k l := by
  induction l with
  | nil => rfl
  | cons x l ih =>
    show ((k : Int) == (x : Int) || (iV l).contains (k : Int)) = (bif Nat.beq k x then true else memN k l)
    rw [ih, nb]
    by_cases h : k = x
    · subst h; rw [beq_self_eq_true, decide_eq_true rfl]; rfl
    · rw [decide_eq_false h, beq_eq_false_iff_ne.mpr fun e => h (Int.ofNat_inj.mp e)]; rfl
theorem add_set {st : Store} {p : Nat} {S : List Nat} (h : st[p]? = some (.set (iV S))) {k : Nat} (hl : S.length ≤ 4000) (hk : k < 16777216) : pmeth .add (.ref p) [.int k] st = some (.none, st.set p (.set (iV (addN S k)))) := by
  show sS st p _ = _
  unfold sS
  rw [h]
  show (bif decide ((iV S).length ≤ 4000) && small (k : Int) then some (PV.none, st.set p (.set (bif (iV S).contains (k : Int) then iV S else iV S ++ [(k : Int)]))) else none) = _
  rw [decide_eq_true (show (iV S).length ≤ 4000 by rw [iV, List.length_map]; exact hl), small24 hk, has_mem]
  show some (PV.none, st.set p (.set (bif memN k S then iV S else iV S ++ [(k : Int)]))) = _
  unfold addN
  cases memN k S with
  | true => rfl
  | false => exact congrArg (fun q => some (PV.none, st.set p (PObj.set q))) (List.map_append (f := fun (x : Nat) => (x : Int)) (l₁ := S) (l₂ := [k])).symm
theorem addOk {st : Store} {p : Nat} {S : List Int} (h : st[p]? = some (.set S)) : meOk .add (.ref p) st = true := by
  show (match st[p]? with | some p => (match p with | PObj.set _ => true | _ => false) | Option.none => false) = true
  rw [h]
theorem addN_len (S : List Nat) (k : Nat) : (addN S k).length ≤ S.length + 1 := by
  unfold addN
  cases memN k S with
  | true => exact Nat.le_succ _
  | false => exact Nat.le_of_eq List.length_append
theorem key_lt (R : Nat → Nat → Bool) {a b c : Nat} (ha : a < 4) (hb : b < 4) (hc : c < 4) : key3 R a b c < 16777216 := by
  obtain ⟨h0, h1, h2⟩ := lv3_le R a b c
  have p : ∀ h w : Nat, h ≤ 3 → w < 4 → 2 ^ (4 * h + w) ≤ 32768 := fun h w hh hw => Nat.le_trans (Nat.pow_le_pow_right (by decide) (show 4 * h + w ≤ 15 by omega)) (by decide)
  have q0 := p _ _ h0 ha
  have q1 := p _ _ h1 hb
  have q2 := p _ _ h2 hc
  unfold key3
  exact Nat.lt_of_le_of_lt (Nat.add_le_add q0 (Nat.add_le_add q1 (Nat.add_le_add q2 (Nat.le_refl 0)))) (by decide)
noncomputable def hpB : List PS := [.assign 61 (.list [(.bin .Mod (.var 65) (.cint 4)), (.bin .Mod (.bin .FloorDiv (.var 65) (.cint 4)) (.cint 4)), (.bin .FloorDiv (.var 65) (.cint 16))]), .assign 110 (.call 10 [(.var 61), (.var 98)]), .expr (.meth .add (.var 109) [kyE])]
structure HE (p : Nat) (AV KV : PV) (env : PEnv) : Prop where
  a : env.get 98 = some AV
  p : env.get 109 = some (.ref p)
  k : env.get 91 = some KV
theorem HE.set {p : Nat} {AV KV : PV} {env : PEnv} (h : HE p AV KV env) (i : Nat) (v : PV) (hi : i ≠ 98 ∧ i ≠ 109 ∧ i ≠ 91) : HE p AV KV (env.set i v) where
  a := by rw [get_set', if_neg (Ne.symm hi.1)]; exact h.a
  p := by rw [get_set', if_neg (Ne.symm hi.2.1)]; exact h.p
  k := by rw [get_set', if_neg (Ne.symm hi.2.2)]; exact h.k
theorem hp_step (n : Nat) (D : Nat → Nat → Nat) (KV : PV) (p m : Nat) (hm : m < 64) (S : List Nat) (hS : S.length ≤ 4000) (env : PEnv) (h : HE p (matN D) KV env) (st : Store) (hst : st[p]? = some (.set (iV S))) :
    ∃ env' st', (ev L1.P (n + 18)).S hpB (env.set 65 (.int m)) st = some (.next, env', st') ∧ st'[p]? = some (.set (iV (addN S (keyM (rD D) m)))) ∧ HE p (matN D) KV env' := by
  have hp := (List.getElem?_eq_some_iff.mp hst).1
  have w0 : m % 4 < 4 := Nat.mod_lt _ (by decide)
  have w1 : m / 4 % 4 < 4 := Nat.mod_lt _ (by decide)
  have w2 : m / 16 < 4 := Nat.div_lt_of_lt_mul hm
  have h1 := h.set 65 (.int m) (by decide)
  have h2 := h1.set 61 (.list (natV [m % 4, m / 4 % 4, m / 16])) (by decide)
  have sm : small (m : Int) = true := small24 (Nat.lt_trans hm (by decide))
  have c1 : stepS1 (ev L1.P (n + 17)).E (ev L1.P (n + 17)).S (.assign 61 (.list [(.bin .Mod (.var 65) (.cint 4)), (.bin .Mod (.bin .FloorDiv (.var 65) (.cint 4)) (.cint 4)), (.bin .FloorDiv (.var 65) (.cint 16))])) (env.set 65 (.int m)) st = some (.next, (env.set 65 (.int m)).set 61 (.list (natV [m % 4, m / 4 % 4, m / 16])), st) := assign_c (by
    have l3 : ∀ x y z : PV, [x, y, z].length ≤ lim := fun _ _ _ => show 3 ≤ 100000 by decide
    simp only [eE, stepE, evList, get_set', ↓reduceIte, rd_int, mod_c (show (0 : Int) < 4 by decide), floor_c sm (show (0 : Int) < 4 by decide) (show small 4 = true by decide), floor_c sm (show (0 : Int) < 16 by decide) (show small 16 = true by decide), bif_le (l3 _ _ _)]
    rfl)
  generalize hE1 : (env.set 65 (.int m)).set 61 (.list (natV [m % 4, m / 4 % 4, m / 16])) = E1 at *
  have g61 : PEnv.get E1 61 = some (.list (natV [m % 4, m / 4 % 4, m / 16])) := by rw [← hE1, get_set', if_pos rfl]
  have lv := lv_c (n + 2) D [m % 4, m / 4 % 4, m / 16] (fun y hy => by
    simp only [List.mem_cons, List.not_mem_nil, or_false] at hy
    rcases hy with rfl | rfl | rfl
    · exact w0
    · exact w1
    · exact w2) (show 3 ≤ 40 by decide) st
  rw [lvs3] at lv
  obtain ⟨b0, b1, b2⟩ := lv3_le (rD D) (m % 4) (m / 4 % 4) (m / 16)
  have hky : keyM (rD D) m < 16777216 := key_lt (rD D) w0 w1 w2
  have kk : keyM (rD D) m = 2 ^ (4 * lvlR (rD D) [] (m % 4) + m % 4) + (2 ^ (4 * lvlR (rD D) [(m % 4, lvlR (rD D) [] (m % 4))] (m / 4 % 4) + m / 4 % 4) + (2 ^ (4 * lvlR (rD D) [(m % 4, lvlR (rD D) [] (m % 4)), (m / 4 % 4, lvlR (rD D) [(m % 4, lvlR (rD D) [] (m % 4))] (m / 4 % 4))] (m / 16) + m / 16) + 0)) := rfl
  generalize lvlR (rD D) [(m % 4, lvlR (rD D) [] (m % 4)), (m / 4 % 4, lvlR (rD D) [(m % 4, lvlR (rD D) [] (m % 4))] (m / 4 % 4))] (m / 16) = L2 at *
  generalize lvlR (rD D) [(m % 4, lvlR (rD D) [] (m % 4))] (m / 4 % 4) = L1' at *
  generalize lvlR (rD D) [] (m % 4) = L0 at *
  have c2 : stepS1 (ev L1.P (n + 17)).E (ev L1.P (n + 17)).S (.assign 110 (.call 10 [(.var 61), (.var 98)])) E1 st = some (.next, E1.set 110 (.list (natV [L0, L1', L2])), st ++ [.dead]) := assign_c (by
    simp only [eE, stepE, evList, g61, h2.a, lv])
  have h3 := h2.set 110 (.list (natV [L0, L1', L2])) (by decide)
  generalize hE2 : PEnv.set E1 110 (.list (natV [L0, L1', L2])) = E2 at *
  have g110 : PEnv.get E2 110 = some (.list (natV [L0, L1', L2])) := by rw [← hE2, get_set', if_pos rfl]
  have q61 : PEnv.get E2 61 = some (.list (natV [m % 4, m / 4 % 4, m / 16])) := by rw [← hE2, get_set', if_neg (by decide)]; exact g61
  have ky := kyE_c (n + 7) (fun j => [L0, L1', L2].getD j 0) (fun j => [m % 4, m / 4 % 4, m / 16].getD j 0) (fun j hj => three_el (C := fun j => [L0, L1', L2].getD j 0 ≤ 3) b0 b1 b2 hj) (fun j hj => three_el (C := fun j => [m % 4, m / 4 % 4, m / 16].getD j 0 < 4) w0 w1 w2 hj) E2 (st ++ [.dead]) g110 q61
  have ky : (ev L1.P (n + 16)).E kyE E2 (st ++ [.dead]) = some (.int (keyM (rD D) m), st ++ [.dead]) := by rw [kk]; exact ky
  have g1 : (st ++ [PObj.dead])[p]? = some (.set (iV S)) := (get_app_lt hp).trans hst
  have v109 : (ev L1.P (n + 16)).E (.var 109) E2 (st ++ [.dead]) = some (.ref p, st ++ [.dead]) := by rw [eE]; simp only [stepE, h3.p]
  have c3 : (ev L1.P (n + 17)).E (.meth .add (.var 109) [kyE]) E2 (st ++ [.dead]) = some (.none, (st ++ [PObj.dead]).set p (.set (iV (addN S (keyM (rD D) m))))) := by
    rw [eE]
    simp only [stepE, v109, addOk g1, cond_true, evList, ky, add_set g1 hS hky]
  refine ⟨E2, _, ?_, get_setS g1, h3⟩
  rw [eS]; unfold hpB
  rw [seqS c1, seqS c2]
  simp only [stepS, expr_c c3]
theorem hp_go (n : Nat) (D : Nat → Nat → Nat) (KV : PV) (p : Nat) : ∀ (ms S : List Nat) (env : PEnv) (st : Store), (∀ m ∈ ms, m < 64) → S.length + ms.length ≤ 4000 → HE p (matN D) KV env → st[p]? = some (.set (iV S)) →
    ∃ env' st', forN ((ev L1.P (n + 18)).S hpB) (.one 65) (natV ms) env st = some (.next, env', st') ∧ st'[p]? = some (.set (iV ((ms.map (keyM (rD D))).foldl addN S))) ∧ HE p (matN D) KV env' := by
  intro ms
  induction ms with
  | nil => exact fun S env st _ _ h hst => ⟨env, st, rfl, hst, h⟩
  | cons m ms ih =>
    intro S env st hm hl h hst
    simp only [List.length_cons] at hl
    obtain ⟨env1, st1, s, g1, h1⟩ := hp_step n D KV p m (hm m (List.mem_cons_self ..)) S (by omega) env h st hst
    have al := addN_len S (keyM (rD D) m)
    obtain ⟨env', st', w, g2, h2⟩ := ih (addN S (keyM (rD D) m)) env1 st1 (fun k hk => hm k (List.mem_cons_of_mem _ hk)) (by omega) h1 g1
    refine ⟨env', st', ?_, g2, h2⟩
    show forN _ _ (.int m :: natV ms) env st = _
    simp only [forN, bindTgt, s]
    exact w
theorem key_congr {R R' : Nat → Nat → Bool} {a b c : Nat} (h1 : R a b = R' a b) (h2 : R a c = R' a c) (h3 : R b c = R' b c) : key3 R a b c = key3 R' a b c := by
  have e0 : lvlR R [] a = lvlR R' [] a := rfl
  have e1 : ∀ l, lvlR R [(a, l)] b = lvlR R' [(a, l)] b := fun l => by unfold lvlR; simp only [List.filter, h1]
  have e2 : ∀ l k, lvlR R [(a, l), (b, k)] c = lvlR R' [(a, l), (b, k)] c := fun l k => by unfold lvlR; simp only [List.filter, h2, h3]
  unfold key3
  rw [e0, e1, e2]
theorem heaps_congr {R R' : Nat → Nat → Bool} (h : ∀ i, i < 4 → ∀ j, j < 4 → R i j = R' i j) : heapsR R = heapsR R' := by
  have : (List.range 64).map (keyM R) = (List.range 64).map (keyM R') := List.map_congr_left fun m hm => by
    have hm := List.mem_range.mp hm
    have w0 : m % 4 < 4 := Nat.mod_lt _ (by decide)
    have w1 : m / 4 % 4 < 4 := Nat.mod_lt _ (by decide)
    have w2 : m / 16 < 4 := Nat.div_lt_of_lt_mul hm
    exact key_congr (h _ w0 _ w1) (h _ w0 _ w2) (h _ w1 _ w2)
  unfold heapsR; rw [this]
theorem fb_comm (p q : Nat × Nat) : fb p q = fb q p := by unfold fb; rw [beq_comm p.1, beq_comm p.2]
theorem fb_self (p : Nat × Nat) : fb p p = false := by unfold fb; rw [Nat.beq_refl]; rfl
theorem rel_fb (T : Nat → Nat × Nat) : ∀ i, i < 4 → ∀ j, j < 4 → rD (fun i j => dd (T i) (T j)) i j = rel6 (fb (T 1) (T 0)) (fb (T 2) (T 0)) (fb (T 2) (T 1)) (fb (T 3) (T 0)) (fb (T 3) (T 1)) (fb (T 3) (T 2)) i j := by
  have s : ∀ i j, rD (fun i j => dd (T i) (T j)) i j = !fb (T i) (T j) := fun i j => dd_fb _ _
  intro i hi j hj
  rw [s]
  revert j hj
  have z := fun i => congrArg (!·) (fb_self (T i))
  have c := fun i j => congrArg (!·) (fb_comm (T i) (T j))
  refine four_el (C := fun i => ∀ j, j < 4 → (!fb (T i) (T j)) = rel6 (fb (T 1) (T 0)) (fb (T 2) (T 0)) (fb (T 2) (T 1)) (fb (T 3) (T 0)) (fb (T 3) (T 1)) (fb (T 3) (T 2)) i j) ?_ ?_ ?_ ?_ hi
  · exact fun j hj => four_el (C := fun j => (!fb (T 0) (T j)) = rel6 _ _ _ _ _ _ 0 j) (z 0) (c 0 1) (c 0 2) (c 0 3) hj
  · exact fun j hj => four_el (C := fun j => (!fb (T 1) (T j)) = rel6 _ _ _ _ _ _ 1 j) rfl (z 1) (c 1 2) (c 1 3) hj
  · exact fun j hj => four_el (C := fun j => (!fb (T 2) (T j)) = rel6 _ _ _ _ _ _ 2 j) rfl rfl (z 2) (c 2 3) hj
  · exact fun j hj => four_el (C := fun j => (!fb (T 3) (T j)) = rel6 _ _ _ _ _ _ 3 j) rfl rfl rfl (z 3) hj
theorem boo_mem (b : Bool) : b ∈ boo := by cases b <;> decide
theorem heaps_cnt (T : Nat → Nat × Nat) : (heapsR (rD fun i j => dd (T i) (T j))).length = cntN (fb (T 1) (T 0)) (fb (T 2) (T 0)) (fb (T 2) (T 1)) (fb (T 3) (T 0)) (fb (T 3) (T 1)) (fb (T 3) (T 2)) := by
  rw [heaps_congr (rel_fb T)]
  exact Nat.eq_of_beq_eq_true (List.all_eq_true.mp (List.all_eq_true.mp (List.all_eq_true.mp (List.all_eq_true.mp (List.all_eq_true.mp (List.all_eq_true.mp cnt_tab _ (boo_mem _)) _ (boo_mem _)) _ (boo_mem _)) _ (boo_mem _)) _ (boo_mem _)) _ (boo_mem _))
end Mine
end
section
set_option backward.eqns.nonrecursive false
set_option maxRecDepth 10000
namespace Mine
open PySem
noncomputable def i1P : PS := .ifS (.cmp .NotEq c1E (.call 11 [(.var 28), (.var 91)])) [.ret (.cbool false)] []
noncomputable def i2P : PS := .ifS (.cmp .NotEq c3E (.var 100)) [.ret (.cbool false)] []
noncomputable def rtE : PE := .cmp .Eq (.bi .len [(.var 109)]) (.call 12 [(.var 91)])
noncomputable def lwB2 : List PS := [.assign 99 (.call 10 [(.var 89), (.var 98)]), i1P, .assign 95 (.comp (.idx (.idx (.var 91) (.var 50)) (.cint 1)) [((.one 50), (.var 28), [])] [91]), .assign 100 c2E, i2P, .assign 109 (.bi .set []), .forS (.one 65) (.bi .range [(.cint 64)]) hpB, .ret rtE]
noncomputable def lwB1 : List PS := .assign 66 (.bi .iter [(.var 82)]) :: .assign 107 (.call 9 [(.var 66)]) :: .assign 96 (.call 9 [(.var 66)]) :: .assign 98 apE :: .assign 60 (.comp (.idx (.var 108) (.cint 0)) [((.one 108), (.var 107), [])] []) :: .assign 89 plE :: lwB2
noncomputable def lwB : List PS := .assignTup [91, 28, 105] (.call 6 [(.var 45)]) :: .assign 82 (.newlist []) :: .forS (.one 65) nmE tpB :: lwB1
theorem lw_def : L1.P.F 13 = some ([45], lwB) := by rfl
theorem ifN {n : Nat} {t : PE} {b : List PS} {env : PEnv} {st st' : Store} (h : evTest (ev L1.P (n + 1)).E t env st = some (false, st')) : stepS1 (ev L1.P (n + 1)).E (ev L1.P (n + 1)).S (.ifS t b []) env st = some (.next, env, st') := by
  simp only [stepS1, h]; rfl
structure WE (x0 x1 x2 x3 : Nat × Nat × Nat) (row : List Nat) (env : PEnv) : Prop where
  k : env.get 91 = some (.list ([x0, x1, x2, x3].map kV))
  r : env.get 28 = some (.list (natV row))
  s : env.get 96 = some (.list ((row.map (kx [x0, x1, x2, x3])).map kV))
  d : env.get 98 = some (matN fun i j => dd (kx [x0, x1, x2, x3] i).2 (kx [x0, x1, x2, x3] j).2)
  p : env.get 89 = some (.list (natV row))
theorem WE.set {x0 x1 x2 x3 : Nat × Nat × Nat} {row : List Nat} {env : PEnv} (h : WE x0 x1 x2 x3 row env) (i : Nat) (v : PV) (hi : 98 < i) : WE x0 x1 x2 x3 row (env.set i v) := by
  have q : ∀ {j : Nat} {w : PV}, j ≤ 98 → env.get j = some w → (env.set i v).get j = some w := fun hj g => by rw [get_set', if_neg (Nat.ne_of_lt (Nat.lt_of_le_of_lt hj hi))]; exact g
  exact ⟨q (by decide) h.k, q (by decide) h.r, q (by decide) h.s, q (by decide) h.d, q (by decide) h.p⟩
theorem WE.set95 {x0 x1 x2 x3 : Nat × Nat × Nat} {row : List Nat} {env : PEnv} (h : WE x0 x1 x2 x3 row env) (v : PV) : WE x0 x1 x2 x3 row (env.set 95 v) := by
  have q : ∀ {j : Nat} {w : PV}, j ≠ 95 → env.get j = some w → (env.set 95 v).get j = some w := fun hj g => by rw [get_set', if_neg hj]; exact g
  exact ⟨q (by decide) h.k, q (by decide) h.r, q (by decide) h.s, q (by decide) h.d, q (by decide) h.p⟩
theorem law_2 (n : Nat) (x0 x1 x2 x3 : Nat × Nat × Nat) (row : List Nat) (hl : row.length = 6) (hr : ∀ x ∈ row, x < 4) (env : PEnv) (st : Store) (h : WE x0 x1 x2 x3 row env) :
    ∃ env' st', stepS (ev L1.P (n + 38)).E (ev L1.P (n + 38)).S lwB2 env st = some (.ret (.bool true), env', st') := by
  have hl60 : row.length ≤ 60 := by rw [hl]; decide
  have lv := lv_c (n + 23) (fun i j => dd (kx [x0, x1, x2, x3] i).2 (kx [x0, x1, x2, x3] j).2) row hr (by rw [hl]; decide) st
  have s1 : stepS1 (ev L1.P (n + 38)).E (ev L1.P (n + 38)).S (.assign 99 (.call 10 [(.var 89), (.var 98)])) env st = some (.next, env.set 99 (.list (natV (lvs (fun i j => dd (kx [x0, x1, x2, x3] i).2 (kx [x0, x1, x2, x3] j).2) row))), st ++ [.dead]) := assign_c (by
    simp only [eE, stepE, evList, h.p, h.d, lv])
  have h1 := h.set 99 (.list (natV (lvs (fun i j => dd (kx [x0, x1, x2, x3] i).2 (kx [x0, x1, x2, x3] j).2) row))) (by decide)
  have g99 : (env.set 99 (.list (natV (lvs (fun i j => dd (kx [x0, x1, x2, x3] i).2 (kx [x0, x1, x2, x3] j).2) row)))).get 99 = some (.list (natV (lvs (fun i j => dd (kx [x0, x1, x2, x3] i).2 (kx [x0, x1, x2, x3] j).2) row))) := by rw [get_set', if_pos rfl]
  unfold lwB2
  rw [seqS s1]
  clear s1 lv h
  generalize env.set 99 (.list (natV (lvs (fun i j => dd (kx [x0, x1, x2, x3] i).2 (kx [x0, x1, x2, x3] j).2) row))) = E1 at *
  generalize st ++ [PObj.dead] = S1 at *
  have told := lv_told (fun i => (kx [x0, x1, x2, x3] i).2) row
  have fs := lvGo_fst (fun i j => dd (kx [x0, x1, x2, x3] i).2 (kx [x0, x1, x2, x3] j).2) row []
  unfold lvs at g99
  rw [told] at g99 fs
  obtain ⟨d1, d2, th⟩ := th_c (n + 22) (fun i => (kx [x0, x1, x2, x3] i).2) (.list ([x0, x1, x2, x3].map kV)) (fun i => (kx [x0, x1, x2, x3] i).1) (fun x hx => kx_idx [x0, x1, x2, x3] rfl hx) (fun _ => rfl) row hr (by rw [hl]; decide) S1
  generalize thGo (fun i => (kx [x0, x1, x2, x3] i).2) [] [] row = H at *
  have fs : H.map (·.1) = row := fs
  have hH : H.length = 6 := by rw [← hl, ← fs, List.length_map]
  have c1 := c1E_c (n + 31) [x0, x1, x2, x3] H (by rw [hH]; decide) E1 S1 (by rw [fs]; exact h1.s) g99
  have ne1 := ne_same (l := H.map (tV fun i => (kx [x0, x1, x2, x3] i).2)) (fun v hv => by obtain ⟨p, _, rfl⟩ := List.mem_map.mp hv; exact eq1_tV _ p)
  have ca : (ev L1.P (n + 37)).E (.call 11 [(.var 28), (.var 91)]) E1 S1 = some (.list (H.map (tV fun i => (kx [x0, x1, x2, x3] i).2)), S1 ++ [d1, d2, .dead]) := by
    simp only [eE, stepE, evList, h1.r, h1.k, th]
  have t1 : evTest (ev L1.P (n + 38)).E (.cmp .NotEq c1E (.call 11 [(.var 28), (.var 91)])) E1 S1 = some (false, S1 ++ [d1, d2, .dead]) := by
    simp only [evTest]
    rw [eE]
    simp only [stepE, c1, ca, rd_list, ne1, tb_c]
  unfold i1P
  rw [seqS (ifN (n := n + 37) t1)]
  clear t1 ca ne1 c1 th told fs g99 hH
  generalize S1 ++ [d1, d2, PObj.dead] = S2
  have tx := row_c (n + 33) [x0, x1, x2, x3] rfl row hr hl60 1 (fun x => .str [x.2.1, x.2.2]) kv1 E1 S2 h1.k h1.r
  rw [seqS (assign_c tx)]
  have h2 := h1.set95 (.list (row.map fun i => .str [(kx [x0, x1, x2, x3] i).2.1, (kx [x0, x1, x2, x3] i).2.2]))
  have g95 : (E1.set 95 (.list (row.map fun i => .str [(kx [x0, x1, x2, x3] i).2.1, (kx [x0, x1, x2, x3] i).2.2]))).get 95 = some (.list (row.map fun i => .str [(kx [x0, x1, x2, x3] i).2.1, (kx [x0, x1, x2, x3] i).2.2])) := by rw [get_set', if_pos rfl]
  generalize E1.set 95 (.list (row.map fun i => .str [(kx [x0, x1, x2, x3] i).2.1, (kx [x0, x1, x2, x3] i).2.2])) = E2 at *
  have c2 := c2E_c (n + 29) (fun i => (kx [x0, x1, x2, x3] i).2) row hl E2 S2 g95
  rw [seqS (assign_c c2)]
  have h3 := h2.set 100 (.list (steps (fun i => (kx [x0, x1, x2, x3] i).2) row)) (by decide)
  have g100 : (E2.set 100 (.list (steps (fun i => (kx [x0, x1, x2, x3] i).2) row))).get 100 = some (.list (steps (fun i => (kx [x0, x1, x2, x3] i).2) row)) := by rw [get_set', if_pos rfl]
  generalize E2.set 100 (.list (steps (fun i => (kx [x0, x1, x2, x3] i).2) row)) = E3 at *
  have c3 := c3E_c (n + 28) (fun i => (kx [x0, x1, x2, x3] i).2) row hl hr E3 S2 h3.d h3.p
  have ne2 := ne_same (l := steps (fun i => (kx [x0, x1, x2, x3] i).2) row) (fun v hv => by obtain ⟨p, _, rfl⟩ := List.mem_map.mp hv; exact eqF_int _)
  have v100 : (ev L1.P (n + 37)).E (.var 100) E3 S2 = some (.list (steps (fun i => (kx [x0, x1, x2, x3] i).2) row), S2) := by rw [eE]; simp only [stepE, g100]
  have t2 : evTest (ev L1.P (n + 38)).E (.cmp .NotEq c3E (.var 100)) E3 S2 = some (false, S2) := by
    simp only [evTest]
    rw [eE]
    simp only [stepE, c3, v100, rd_list, ne2, tb_c]
  unfold i2P
  rw [seqS (ifN (n := n + 37) t2)]
  clear t2 v100 ne2 c3 g100 c2 g95 tx
  have s4 : stepS1 (ev L1.P (n + 38)).E (ev L1.P (n + 38)).S (.assign 109 (.bi .set [])) E3 S2 = some (.next, E3.set 109 (.ref S2.length), S2 ++ [.set []]) := assign_c rfl
  have h4 := h3.set 109 (.ref S2.length) (by decide)
  have g109 : (E3.set 109 (.ref S2.length)).get 109 = some (.ref S2.length) := by rw [get_set', if_pos rfl]
  rw [seqS s4]
  generalize E3.set 109 (.ref S2.length) = E4 at *
  obtain ⟨E5, S5, w, g5, h5⟩ := hp_go (n + 20) (fun i j => dd (kx [x0, x1, x2, x3] i).2 (kx [x0, x1, x2, x3] j).2) (.list ([x0, x1, x2, x3].map kV)) S2.length (List.range 64) [] E4 (S2 ++ [.set []]) (fun m hm => List.mem_range.mp hm) (by decide) ⟨h4.d, g109, h4.k⟩ (get_last ..)
  have rg : (ev L1.P (n + 38)).E (.bi .range [(.cint 64)]) E4 (S2 ++ [.set []]) = some (.rng 0 64 1, S2 ++ [.set []]) := rfl
  have s5 : stepS1 (ev L1.P (n + 38)).E (ev L1.P (n + 38)).S (.forS (.one 65) (.bi .range [(.cint 64)]) hpB) E4 (S2 ++ [.set []]) = some (.next, E5, S5) := by
    have it : itemsOf (S2 ++ [.set []]) (.rng 0 64 1) = some (natV (List.range 64), S2 ++ [.set []]) := rfl
    simp only [stepS1, rg, it]
    exact w
  rw [seqS s5]
  have hc := heaps_cnt fun i => (kx [x0, x1, x2, x3] i).2
  have g5 : S5[S2.length]? = some (.set (iV (heapsR (rD fun i j => dd (kx [x0, x1, x2, x3] i).2 (kx [x0, x1, x2, x3] j).2)))) := g5
  have cn := cnt_c (n + 20) x0 x1 x2 x3 S5
  have cl : cntN (fb x1.2 x0.2) (fb x2.2 x0.2) (fb x2.2 x1.2) (fb x3.2 x0.2) (fb x3.2 x1.2) (fb x3.2 x2.2) ≤ 100 := by
    generalize fb x1.2 x0.2 = a
    generalize fb x2.2 x0.2 = b
    generalize fb x2.2 x1.2 = c
    generalize fb x3.2 x0.2 = d
    generalize fb x3.2 x1.2 = e
    generalize fb x3.2 x2.2 = f
    revert a b c d e f; decide
  have hc : (heapsR (rD fun i j => dd (kx [x0, x1, x2, x3] i).2 (kx [x0, x1, x2, x3] j).2)).length = cntN (fb x1.2 x0.2) (fb x2.2 x0.2) (fb x2.2 x1.2) (fb x3.2 x0.2) (fb x3.2 x1.2) (fb x3.2 x2.2) := hc
  have ln : pbi .len [.ref S2.length] S5 = some (.int (cntN (fb x1.2 x0.2) (fb x2.2 x0.2) (fb x2.2 x1.2) (fb x3.2 x0.2) (fb x3.2 x1.2) (fb x3.2 x2.2)), S5) := by
    have r : rd S5 (.ref S2.length) = .ref S2.length := by simp only [rd, g5]
    show plen S5 (rd S5 (.ref S2.length)) = _
    rw [r]
    show sS S5 S2.length _ = _
    unfold sS
    rw [g5]
    show (bif decide ((iV (heapsR (rD fun i j => dd (kx [x0, x1, x2, x3] i).2 (kx [x0, x1, x2, x3] j).2))).length ≤ lim) then some (PV.int ((iV (heapsR (rD fun i j => dd (kx [x0, x1, x2, x3] i).2 (kx [x0, x1, x2, x3] j).2))).length : Nat), S5) else none) = _
    rw [iV, List.length_map, hc, bif_le (Nat.le_trans cl (by decide))]
  refine ⟨E5, S5, ?_⟩
  have v1 : (ev L1.P (n + 37)).E (.bi .len [(.var 109)]) E5 S5 = some (.int (cntN (fb x1.2 x0.2) (fb x2.2 x0.2) (fb x2.2 x1.2) (fb x3.2 x0.2) (fb x3.2 x1.2) (fb x3.2 x2.2)), S5) := by
    simp only [eE, stepE, evList, h5.p, ln]
  have v2 : (ev L1.P (n + 37)).E (.call 12 [(.var 91)]) E5 S5 = some (.int (cntN (fb x1.2 x0.2) (fb x2.2 x0.2) (fb x2.2 x1.2) (fb x3.2 x0.2) (fb x3.2 x1.2) (fb x3.2 x2.2)), S5) := by
    have k : PEnv.get E5 91 = some (.list (KS x0 x1 x2 x3)) := h5.k
    simp only [eE, stepE, evList, k, cn]
  have eq : ∀ i : Int, pcmp .Eq (.int i) (.int i) = some true := fun i => congrArg some (beq_self_eq_true i)
  unfold rtE
  simp only [stepS, stepS1]
  rw [eE]
  simp only [stepE, v1, v2, rd_int, eq]
theorem law_run (n : Nat) (script : PV) (x0 x1 x2 x3 : Nat × Nat × Nat) (hk : ∀ x ∈ [x0, x1, x2, x3], x ∈ KD) (hn : ([x0, x1, x2, x3].map (fun x : Nat × Nat × Nat => x.1)).Nodup) (row : List Nat) (hl : row.length = 6) (hr : ∀ x ∈ row, x < 4) (b : Nat) (hb : 3 ≤ b)
    (hd : (ev L1.P (n + 37)).C 6 [script] [] = some (.tuple [.list ([x0, x1, x2, x3].map kV), .list (natV row), .int b], [.dead])) : ∃ st', (ev L1.P (n + 40)).C 13 [script] [] = some (.bool true, st') := by
  have hl60 : row.length ≤ 60 := by rw [hl]; decide
  have kxm : ∀ x ∈ row.map (kx [x0, x1, x2, x3]), x ∈ KD := fun x hx => by
    obtain ⟨i, hi, rfl⟩ := List.mem_map.mp hx
    exact hk _ (four_el (C := fun i => kx [x0, x1, x2, x3] i ∈ [x0, x1, x2, x3]) (by simp [kx]) (by simp [kx]) (by simp [kx]) (by simp [kx]) (hr i hi))
  have b0 : bindAll [45] [script] [] = some [(45, script)] := rfl
  have d : (ev L1.P (n + 38)).E (.call 6 [(.var 45)]) [(45, script)] [] = some (.tuple [.list ([x0, x1, x2, x3].map kV), .list (natV row), .int b], [.dead]) := by
    have h45 : PEnv.get [(45, script)] 45 = some script := rfl
    simp only [eE, stepE, evList, h45, hd]
  have s1 : stepS1 (ev L1.P (n + 38)).E (ev L1.P (n + 38)).S (.assignTup [91, 28, 105] (.call 6 [(.var 45)])) [(45, script)] [] = some (.next, [(45, script), (91, .list ([x0, x1, x2, x3].map kV)), (28, .list (natV row)), (105, .int b)], [.dead]) := assignTup_c d (vs := [.list ([x0, x1, x2, x3].map kV), .list (natV row), .int b]) rfl rfl
  have s2 : stepS1 (ev L1.P (n + 38)).E (ev L1.P (n + 38)).S (.assign 82 (.newlist [])) [(45, script), (91, .list ([x0, x1, x2, x3].map kV)), (28, .list (natV row)), (105, .int b)] [.dead] = some (.next, [(45, script), (91, .list ([x0, x1, x2, x3].map kV)), (28, .list (natV row)), (105, .int b), (82, .ref 1)], [.dead, .list []]) := assign_c rfl
  rw [eC]; unfold stepC; rw [lw_def]
  simp only [b0]
  have nm := nmE_c (n + 29) [x0, x1, x2, x3] rfl row hr hl60 [(45, script), (91, .list ([x0, x1, x2, x3].map kV)), (28, .list (natV row)), (105, .int b), (82, .ref 1)] [.dead, .list []] rfl rfl
  have lt : ∀ x, x ∈ KD → x.1 < 16777216 := fun x hx => (ok_kd hx).lt
  obtain ⟨S3, t⟩ := tp_go (n + 22) 1 ((([x0, x1, x2, x3].map (fun x : Nat × Nat × Nat => x.1) ++ [0]) ++ row.map fun i => (kx [x0, x1, x2, x3] i).1) ++ [0]) [] [(45, script), (91, .list ([x0, x1, x2, x3].map kV)), (28, .list (natV row)), (105, .int b), (82, .ref 1)] [.dead, .list []] rfl (fun m hm => by
    rcases List.mem_append.mp hm with hm | hm
    · rcases List.mem_append.mp hm with hm | hm
      · rcases List.mem_append.mp hm with hm | hm
        · obtain ⟨x, hx, rfl⟩ := List.mem_map.mp hm
          exact lt x (hk x hx)
        · cases List.mem_singleton.mp hm; decide
      · obtain ⟨i, hi, rfl⟩ := List.mem_map.mp hm
        exact lt _ (kxm _ (List.mem_map_of_mem hi))
    · cases List.mem_singleton.mp hm; decide) (by simp [hl]) rfl
  obtain ⟨t1, t2⟩ := t.resolve_left (fun e => by simp at e)
  have nl : (natV ((([x0, x1, x2, x3].map (fun x : Nat × Nat × Nat => x.1) ++ [0]) ++ row.map fun i => (kx [x0, x1, x2, x3] i).1) ++ [0])).length ≤ lim := by
    rw [natV, List.length_map, List.length_append, List.length_append, List.length_append, List.length_map, List.length_map, hl]; exact show 12 ≤ lim by decide
  have s3 : stepS1 (ev L1.P (n + 38)).E (ev L1.P (n + 38)).S (.forS (.one 65) nmE tpB) [(45, script), (91, .list ([x0, x1, x2, x3].map kV)), (28, .list (natV row)), (105, .int b), (82, .ref 1)] [.dead, .list []] =
      some (.next, [(45, script), (91, .list ([x0, x1, x2, x3].map kV)), (28, .list (natV row)), (105, .int b), (82, .ref 1), (65, .int ((((([x0, x1, x2, x3].map (fun x : Nat × Nat × Nat => x.1) ++ [0]) ++ row.map fun i => (kx [x0, x1, x2, x3] i).1) ++ [0]).getLastD 0 : Nat) : Int))], S3) := by
    simp only [stepS1, nm, it_list _ nl]
    exact t1
  have tp : tapeOf ((([x0, x1, x2, x3].map (fun x : Nat × Nat × Nat => x.1) ++ [0]) ++ row.map fun i => (kx [x0, x1, x2, x3] i).1) ++ [0]) = tapeOf ([x0, x1, x2, x3].map (fun x : Nat × Nat × Nat => x.1) ++ [0]) ++ tapeOf ((row.map (kx [x0, x1, x2, x3])).map (fun x : Nat × Nat × Nat => x.1) ++ [0]) := by
    rw [List.append_assoc, tapeOf_app, List.map_map]; rfl
  have t2 : S3[1]? = some (.list (tapeOf ([x0, x1, x2, x3].map (fun x : Nat × Nat × Nat => x.1) ++ [0]) ++ tapeOf ((row.map (kx [x0, x1, x2, x3])).map (fun x : Nat × Nat × Nat => x.1) ++ [0]))) := by rw [← tp]; exact t2
  generalize ((([x0, x1, x2, x3].map (fun x : Nat × Nat × Nat => x.1) ++ [0]) ++ row.map fun i => (kx [x0, x1, x2, x3] i).1) ++ [0]).getLastD 0 = lst at s3
  clear t1 nm tp nl t
  have s4 : stepS1 (ev L1.P (n + 38)).E (ev L1.P (n + 38)).S (.assign 66 (.bi .iter [(.var 82)])) [(45, script), (91, .list ([x0, x1, x2, x3].map kV)), (28, .list (natV row)), (105, .int b), (82, .ref 1), (65, .int lst)] S3 =
      some (.next, [(45, script), (91, .list ([x0, x1, x2, x3].map kV)), (28, .list (natV row)), (105, .int b), (82, .ref 1), (65, .int lst), (66, .ref S3.length)], S3.set 1 .dead ++ [.iter (tapeOf ([x0, x1, x2, x3].map (fun x : Nat × Nat × Nat => x.1) ++ [0]) ++ tapeOf ((row.map (kx [x0, x1, x2, x3])).map (fun x : Nat × Nat × Nat => x.1) ++ [0]))]) := assign_c (v := .ref S3.length) (by
    have h82 : PEnv.get [(45, script), (91, PV.list ([x0, x1, x2, x3].map kV)), (28, .list (natV row)), (105, .int b), (82, .ref 1), (65, .int lst)] 82 = some (.ref 1) := rfl
    have it : pbi .iter [.ref 1] S3 = some (.ref S3.length, S3.set 1 .dead ++ [.iter (tapeOf ([x0, x1, x2, x3].map (fun x : Nat × Nat × Nat => x.1) ++ [0]) ++ tapeOf ((row.map (kx [x0, x1, x2, x3])).map (fun x : Nat × Nat × Nat => x.1) ++ [0]))]) := by
      show sL S3 1 _ = _
      unfold sL
      rw [t2]
    simp only [eE, stepE, evList, h82, it])
  have ls : (S3.set 1 PObj.dead).length = S3.length := List.length_set ..
  rw [← ls] at s4
  generalize S3.set 1 PObj.dead = S4 at s4
  have r1 := read_c (n + 13) S4.length (tapeOf ((row.map (kx [x0, x1, x2, x3])).map (fun x : Nat × Nat × Nat => x.1) ++ [0])) [x0, x1, x2, x3] hk (show 4 ≤ 60 from by decide) (S4 ++ [.iter (tapeOf ([x0, x1, x2, x3].map (fun x : Nat × Nat × Nat => x.1) ++ [0]) ++ tapeOf ((row.map (kx [x0, x1, x2, x3])).map (fun x : Nat × Nat × Nat => x.1) ++ [0]))]) (get_last ..)
  rw [set_last] at r1
  have s5 : stepS1 (ev L1.P (n + 38)).E (ev L1.P (n + 38)).S (.assign 107 (.call 9 [(.var 66)])) [(45, script), (91, .list ([x0, x1, x2, x3].map kV)), (28, .list (natV row)), (105, .int b), (82, .ref 1), (65, .int lst), (66, .ref S4.length)] (S4 ++ [.iter (tapeOf ([x0, x1, x2, x3].map (fun x : Nat × Nat × Nat => x.1) ++ [0]) ++ tapeOf ((row.map (kx [x0, x1, x2, x3])).map (fun x : Nat × Nat × Nat => x.1) ++ [0]))]) =
      some (.next, [(45, script), (91, .list ([x0, x1, x2, x3].map kV)), (28, .list (natV row)), (105, .int b), (82, .ref 1), (65, .int lst), (66, .ref S4.length), (107, .list ([x0, x1, x2, x3].map kV))], S4 ++ [.iter (tapeOf ((row.map (kx [x0, x1, x2, x3])).map (fun x : Nat × Nat × Nat => x.1) ++ [0]))] ++ [.dead]) := assign_c (by
    have h66 : PEnv.get [(45, script), (91, PV.list ([x0, x1, x2, x3].map kV)), (28, .list (natV row)), (105, .int b), (82, .ref 1), (65, .int lst), (66, .ref S4.length)] 66 = some (.ref S4.length) := rfl
    simp only [eE, stepE, evList, h66, r1])
  have r2 := read_c (n + 13) S4.length [] (row.map (kx [x0, x1, x2, x3])) kxm (by rw [List.length_map]; exact hl60) (S4 ++ [.iter (tapeOf ((row.map (kx [x0, x1, x2, x3])).map (fun x : Nat × Nat × Nat => x.1) ++ [0]))] ++ [.dead]) (by rw [List.append_nil]; exact (get_app_lt (by rw [List.length_append]; exact Nat.lt_succ_self _)).trans (get_last ..))
  generalize (S4 ++ [PObj.iter (tapeOf ((row.map (kx [x0, x1, x2, x3])).map (fun x : Nat × Nat × Nat => x.1) ++ [0]))] ++ [PObj.dead]).set S4.length (PObj.iter []) ++ [PObj.dead] = S6 at r2
  have s6 : stepS1 (ev L1.P (n + 38)).E (ev L1.P (n + 38)).S (.assign 96 (.call 9 [(.var 66)])) [(45, script), (91, .list ([x0, x1, x2, x3].map kV)), (28, .list (natV row)), (105, .int b), (82, .ref 1), (65, .int lst), (66, .ref S4.length), (107, .list ([x0, x1, x2, x3].map kV))] (S4 ++ [.iter (tapeOf ((row.map (kx [x0, x1, x2, x3])).map (fun x : Nat × Nat × Nat => x.1) ++ [0]))] ++ [.dead]) =
      some (.next, [(45, script), (91, .list ([x0, x1, x2, x3].map kV)), (28, .list (natV row)), (105, .int b), (82, .ref 1), (65, .int lst), (66, .ref S4.length), (107, .list ([x0, x1, x2, x3].map kV)), (96, .list ((row.map (kx [x0, x1, x2, x3])).map kV))], S6) := assign_c (by
    have h66 : PEnv.get [(45, script), (91, PV.list ([x0, x1, x2, x3].map kV)), (28, .list (natV row)), (105, .int b), (82, .ref 1), (65, .int lst), (66, .ref S4.length), (107, .list ([x0, x1, x2, x3].map kV))] 66 = some (.ref S4.length) := rfl
    simp only [eE, stepE, evList, h66, r2])
  obtain ⟨S7, ap⟩ := apE_c (n + 10) [x0, x1, x2, x3] hk (show 4 ≤ 60 from by decide) b hb [(45, script), (91, .list ([x0, x1, x2, x3].map kV)), (28, .list (natV row)), (105, .int b), (82, .ref 1), (65, .int lst), (66, .ref S4.length), (107, .list ([x0, x1, x2, x3].map kV)), (96, .list ((row.map (kx [x0, x1, x2, x3])).map kV))] S6 rfl rfl
  have s7 : stepS1 (ev L1.P (n + 38)).E (ev L1.P (n + 38)).S (.assign 98 apE) [(45, script), (91, .list ([x0, x1, x2, x3].map kV)), (28, .list (natV row)), (105, .int b), (82, .ref 1), (65, .int lst), (66, .ref S4.length), (107, .list ([x0, x1, x2, x3].map kV)), (96, .list ((row.map (kx [x0, x1, x2, x3])).map kV))] S6 =
      some (.next, [(45, script), (91, .list ([x0, x1, x2, x3].map kV)), (28, .list (natV row)), (105, .int b), (82, .ref 1), (65, .int lst), (66, .ref S4.length), (107, .list ([x0, x1, x2, x3].map kV)), (96, .list ((row.map (kx [x0, x1, x2, x3])).map kV)), (98, matN fun i j => dd (kx [x0, x1, x2, x3] i).2 (kx [x0, x1, x2, x3] j).2)], S7) := assign_c ap
  generalize hE : [(45, script), (91, PV.list ([x0, x1, x2, x3].map kV)), (28, .list (natV row)), (105, .int b), (82, .ref 1), (65, .int lst), (66, .ref S4.length), (107, .list ([x0, x1, x2, x3].map kV)), (96, .list ((row.map (kx [x0, x1, x2, x3])).map kV)), (98, matN fun i j => dd (kx [x0, x1, x2, x3] i).2 (kx [x0, x1, x2, x3] j).2)] = E at s7
  have g91 : PEnv.get E 91 = some (.list ([x0, x1, x2, x3].map kV)) := by rw [← hE]; rfl
  have g28 : PEnv.get E 28 = some (.list (natV row)) := by rw [← hE]; rfl
  have g107 : PEnv.get E 107 = some (.list ([x0, x1, x2, x3].map kV)) := by rw [← hE]; rfl
  have g96 : PEnv.get E 96 = some (.list ((row.map (kx [x0, x1, x2, x3])).map kV)) := by rw [← hE]; rfl
  have g98 : PEnv.get E 98 = some (matN fun i j => dd (kx [x0, x1, x2, x3] i).2 (kx [x0, x1, x2, x3] j).2) := by rw [← hE]; rfl
  have s8 := assign_c (recS := (ev L1.P (n + 38)).S) (t := 60) (firsts_c (n + 34) 107 [x0, x1, x2, x3] (show 4 ≤ 60 from by decide) E S7 g107 108)
  have q60 : (PEnv.set E 60 (.list (natV ([x0, x1, x2, x3].map (fun x : Nat × Nat × Nat => x.1))))).get 60 = some (.list (natV ([x0, x1, x2, x3].map (fun x : Nat × Nat × Nat => x.1)))) := by rw [get_set', if_pos rfl]
  have q96 : (PEnv.set E 60 (.list (natV ([x0, x1, x2, x3].map (fun x : Nat × Nat × Nat => x.1))))).get 96 = some (.list ((row.map (kx [x0, x1, x2, x3])).map kV)) := by rw [get_set', if_neg (by decide)]; exact g96
  have s9 := assign_c (recS := (ev L1.P (n + 38)).S) (t := 89) (plE_c (n + 32) [x0, x1, x2, x3] rfl hn row hr hl60 (PEnv.set E 60 (.list (natV ([x0, x1, x2, x3].map (fun x : Nat × Nat × Nat => x.1))))) S7 q60 q96)
  have W : WE x0 x1 x2 x3 row ((PEnv.set E 60 (.list (natV ([x0, x1, x2, x3].map (fun x : Nat × Nat × Nat => x.1))))).set 89 (.list (natV row))) := by
    have q : ∀ {j : Nat} {w : PV}, j ≠ 60 → j ≠ 89 → PEnv.get E j = some w → ((PEnv.set E 60 (.list (natV ([x0, x1, x2, x3].map (fun x : Nat × Nat × Nat => x.1))))).set 89 (.list (natV row))).get j = some w := fun h1 h2 g => by rw [get_set', if_neg h2, get_set', if_neg h1]; exact g
    exact ⟨q (by decide) (by decide) g91, q (by decide) (by decide) g28, q (by decide) (by decide) g96, q (by decide) (by decide) g98, by rw [get_set', if_pos rfl]⟩
  obtain ⟨env', st', fin⟩ := law_2 n x0 x1 x2 x3 row hl hr _ S7 W
  refine ⟨st', ?_⟩
  have all : (ev L1.P (n + 39)).S lwB [(45, script)] [] = some (.ret (.bool true), env', st') := by
    rw [eS]; unfold lwB lwB1
    rw [seqS s1, seqS s2, seqS s3, seqS s4, seqS s5, seqS s6, seqS s7, seqS s8, seqS s9]
    exact fin
  simp only [all, freeze]
theorem nums_nodup : (KD.map (·.1)).Nodup := by decide +kernel
theorem plain1 : ∀ ns : List Int, ns.length ≤ 63 → ∃ st', (ev L1.P 40).C 13 [.list (ns.map .int)] [] = some (.bool true, st') := fun ns h => by
  obtain ⟨q0, q1, q2, q3, hn, hq, hd⟩ := draw_c 21 ns h
  have inj : ∀ q, q < 37 → ∀ p, p < 37 → (kd q).1 = (kd p).1 → q = p := fun q hq p hp e => by
    have g : ∀ q, q < 37 → (KD.map (·.1))[q]? = some (kd q).1 := fun q hq => by unfold kd; rw [List.getElem?_map, List.getD_eq_getElem?_getD, List.getElem?_eq_getElem (show q < KD.length from hq)]; rfl
    exact (List.getElem?_inj (show q < (KD.map (·.1)).length from hq) nums_nodup).mp ((g q hq).trans ((congrArg some e).trans (g p hp).symm))
  have nd : ([kd q0, kd q1, kd q2, kd q3].map (·.1)).Nodup := by
    have : ([q0, q1, q2, q3].map fun q => (kd q).1).Nodup := List.pairwise_map.mpr (List.Pairwise.imp_of_mem (fun {a b} ha hb hne e => hne (inj a (hq a ha) b (hq b hb) e)) hn)
    exact this
  exact law_run 0 (.list (ns.map .int)) (kd q0) (kd q1) (kd q2) (kd q3) (fun x hx => by
      obtain ⟨q, hm, rfl⟩ := List.mem_map.mp (show x ∈ [q0, q1, q2, q3].map kd from hx)
      exact kd_mem (hq q hm)) nd ([numN ns 4, numN ns 5, numN ns 6, numN ns 7, numN ns 8, numN ns 9].map (· % 4)) rfl (fun x hx => by
      obtain ⟨y, _, rfl⟩ := List.mem_map.mp hx
      exact Nat.mod_lt _ (by decide)) (3 + numN ns 0 / 37 % 3) (Nat.le_add_right ..) hd
end Mine
end
section
set_option maxRecDepth 100000
set_option maxHeartbeats 0
namespace Mine.J1
open PySem PySem.W PyProof.Rows Mine.Hd Mine.H1
theorem and_t {a b : Bool} (h : a = true) (k : b = true) : (a && b) = true := Bool.and_eq_true_iff.mpr ⟨h, k⟩
theorem said1 : looksOpen PySem.Challenge.rw_sn0073_01.row.prog = true := by
  unfold looksOpen
  repeat' with_reducible refine and_t ?_ ?_
  all_goals as_aux_lemma => kernel_rfl
theorem said2 : PySem.Challenge.rw_sn0073_01.row.partSaid = true := by
  unfold OpenRow.partSaid
  rw [said1, Bool.true_and]
  kernel_rfl
theorem said3 : PySem.Challenge.rw_sn0073_01.row.wellSaid = true := by
  unfold OpenRow.wellSaid
  rw [said2, Bool.true_and]
  kernel_rfl
theorem said : PySem.Challenge.rw_sn0073_01.wellSaid = true := by
  unfold OpenLaw.wellSaid
  repeat' with_reducible first | exact said3 | refine and_t ?_ ?_
  all_goals as_aux_lemma => kernel_rfl
theorem main (hp : ∀ ns : List Int, ns.length ≤ 63 → ∃ st', (ev L1.P 40).C 13 [.list (ns.map .int)] [] = some (.bool true, st')) : PySem.Challenge.rw_sn0073_01.Holds := by
  w_on
  refine holds_law said fun said => ?_
  refine PySem.W.holds_open (r := row) (q := q) (loose := loose) (Xt := Xt) (XP := XL q []) (Yf := hook.obs) (Ya := hook.val) (YP := hook.says) (N := 40000) left hook.of hook.keeps (fun s e => xl_of s (Bool.and_eq_true_iff.mp e).1) XL.keeps (by rfl) (by rfl) (by rfl) (fun s e => recFacts_of (Bool.and_eq_true_iff.mp e).2) (by rfl) (by assumption) (by decide +kernel) ⟨rfl, rfl, rfl, rfl, rfl, by decide +kernel⟩ ?hw ?hc
  case hw => w_witness2
  intro w s₀ s₁ mg mb G Y a o pm cd doc dV kV ho hd hcd hD hmg hg args vals as hpre hlay hrd hwl hlo
  have KX : (K w.params).In s₁.heap := kIn_of Y
  have hma : mg "law" = some (.ref 142) := mg_of KX G.T.g (by kernel_rfl)
  have ha : a = 142 := by
    have h1 : mg "law" = some (.ref a) := hmg
    rw [hma] at h1; cases h1; rfl
  clear ho hd hcd hD hmg Y
  subst ha
  refine Ground.open G ?_
  intro T B D TE TW
  wrow_args hpre hlay hrd hwl hlo
  rename_i ns _ _ _ _ _ _ _ l vs _ hL _ hW _ hI _ hlen _
  have hobj : s₁.heap.get? l = some { cls := .type "list", data := .seq vs.toArray } := by
    obtain ⟨ol, hol, hcl, n, hdl⟩ := hL
    cases hW with
    | list h1 _ =>
      rw [hol] at h1; cases h1
      cases hdl
      exact hol
  have hG := glob KX T.g T.b T.builtins T.nolimit
  have hS : SndC (cx w s₁.heap) L1.P (ev L1.P 40).C 40 := (ev_sound hG (fun f ps body e => fns KX f (ps, body) e) 40).1.C
  have hlen' : ns.length ≤ 63 := by
    have := hlen
    omega
  obtain ⟨st', he⟩ := hp ns hlen'
  have ok : OkZ (cx w s₁.heap) ⟨[], s₁.heap.get?, [], s₁.heap⟩ := startOk (cx := cx w s₁.heap) ⟨boot_o_1 w.params, KX 1 _ (by kernel_rfl)⟩
  have hv : VRs (cx w s₁.heap) ⟨[], s₁.heap.get?, [], s₁.heap⟩ [.list (ns.map .int)] [.ref l] := .cons (.list (items := vs.toArray) hobj ⟨0, rfl⟩ (by rw [List.toList_toArray]; exact intsAre_vr (cx := cx w s₁.heap) (z := ⟨[], s₁.heap.get?, [], s₁.heap⟩) hI)) .nil
  refine hS (f := 13) (z := ⟨[], s₁.heap.get?, [], s₁.heap⟩) (A := callerA) ok rfl ⟨rfl, by decide, by decide⟩ hv he _ _ fun x z' tk k' e' _ v' => ?_
  cases v'
  refine GoodW.toG ⟨.inl ⟨.bool true, .bool true, [], rfl, fun _ => rfl, .bool true, ?_, fun _ => ?_⟩, fun b o hb => k'.sub _ _ (k'.base _ _ hb), rfl, hg⟩
  · first | rfl | kernel_rfl | (show _ = true; simp)
  · simp
end Mine.J1
end
theorem PySem.Challenge.cw_sn0073_01_holds : PySem.Challenge.rw_sn0073_01.Holds := by
  exact Mine.J1.main Mine.plain1
