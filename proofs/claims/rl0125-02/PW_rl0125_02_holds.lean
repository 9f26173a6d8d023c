import PyProof.Rows.All
import Wide.All
import OpenK.AllK
import Wide.FinOn
import PySem.Challenge.RW_rl0125_02
open PySem PySem.W PyProof.Rows
set_option Elab.async false
set_option compiler.extract_closed false
set_option maxRecDepth 100000
set_option maxHeartbeats 0
set_option linter.unusedVariables false
namespace Mine
/-! the top's run as one look of the kernel's: over a tree of objects, by the library's fast twins -/
noncomputable abbrev denH : Code → Sem Fin := PySem.W.Fast.tw11892475500146522536 PySem.W.Fast.tw14364793385576792824
theorem denH_eq : denote treeTable = denH := by rw [PySem.W.Fast.te14364793385576792824, PySem.W.Fast.te11892475500146522536]
noncomputable abbrev stepH : Program → World → SharedT → Thread → Option (SharedT × Thread) := PySem.W.Fast.tw10156331382660048174 denH
theorem stepH_eq (p : Program) (w : World) (s : SharedT) (t : Thread) : stepH p w s t = stepT (denote treeTable) p w s t := by rw [denH_eq, PySem.W.Fast.te10156331382660048174]
noncomputable abbrev okH : Nat → Option Value → Thread → Bool := PySem.W.Fast.tw6613529449190102663
theorem okH_eq : stepOk = okH := by rw [PySem.W.Fast.te6613529449190102663]
noncomputable def impH (p : Program) (w : World) : Nat → SharedT → Thread → Option SharedT
  | 0, _, _ => none
  | n + 1, s, t => match t.atExitBegin with
    | some [] => some s
    | some (_ :: _) => none
    | none => match stepH p w s t with
      | some (s', t') => impH p w n s' t'
      | none => none
theorem impH_of {p : Program} {w : World} : ∀ {n : Nat} {s s' : SharedT} {t : Thread}, impH p w n s t = some s' → importEnds treeTable p w n s.abs t = some s'.abs
  | 0, _, _, _, h => by cases h
  | n + 1, s, s', t, h => by
    unfold impH at h
    unfold importEnds
    cases ht : t.atExitBegin with
    | some l =>
      rw [ht] at h
      cases l with
      | nil => cases h; rfl
      | cons => cases h
    | none =>
      rw [ht] at h
      rw [stepH_eq] at h
      cases hs : stepT (denote treeTable) p w s t with
      | none => rw [hs] at h; cases h
      | some r =>
        obtain ⟨s₂, t₂⟩ := r
        rw [hs] at h
        rw [stepT_spec hs]
        exact impH_of h
/-- a step's check, its tree looked at once -/
noncomputable def okC (n₀ : Nat) (ann : Option Value) (t : Thread) : Bool := match t.cur with
  | .pure (.again (.builtin _ _)) => okH n₀ ann t
  | .update _ _ _ _ => okH n₀ ann t
  | .os _ _ _ => false
  | .yield _ _ _ _ => false
  | .fork _ _ => false
  | .await _ _ _ _ _ => false
  | .register _ _ => false
  | _ => true
theorem okC_of {n₀ : Nat} {ann : Option Value} {t : Thread} (h : okC n₀ ann t = true) : stepOk n₀ ann t = true := by
  obtain ⟨cur, code, pos, stack⟩ := t
  rw [okH_eq]
  unfold okC at h
  split at h
  · exact h
  · exact h
  · cases h
  · cases h
  · cases h
  · cases h
  · cases h
  · rename_i h1 h2 h3 h4 h5 h6 h7
    rw [← okH_eq]
    unfold stepOk
    rw [Thread.calm_eq]
    dsimp only at h1 h2 h3 h4 h5 h6 h7
    cases cur with
    | update a p f k => exact absurd rfl (h2 a p f k)
    | os a b c => exact absurd rfl (h3 a b c)
    | yield a b c d => exact absurd rfl (h4 a b c d)
    | fork a b => exact absurd rfl (h5 a b)
    | await a b c d e => exact absurd rfl (h6 a b c d e)
    | register a b => exact absurd rfl (h7 a b)
    | _ => simp_all [Thread.loud, Thread.refused, Thread.atCollectorCode, Thread.yieldsInsideHandler]
noncomputable def topH (p : Program) (w : World) (n₀ : Nat) (ann : Option Value) : Nat → SharedT → Thread → Option SharedT
  | 0, _, _ => none
  | n + 1, s, t => match through t with
    | true => some s
    | false => match okC n₀ ann t with
      | false => none
      | true => match stepH p w s t with
        | some (s', t') => topH p w n₀ ann n s' t'
        | none => none
theorem topH_of {p : Program} {w : World} {n₀ : Nat} {ann : Option Value} : ∀ {n : Nat} {s s' : SharedT} {t : Thread}, topH p w n₀ ann n s t = some s' → topRun treeTable p w n₀ ann n s.abs t = some s'.abs
  | 0, _, _, _, h => by cases h
  | n + 1, s, s', t, h => by
    unfold topH at h
    unfold topRun
    cases ht : through t with
    | true => rw [ht] at h; cases h; rfl
    | false =>
      rw [ht] at h
      cases hk : okC n₀ ann t with
      | false => rw [hk] at h; cases h
      | true =>
        rw [hk] at h
        rw [stepH_eq] at h
        cases hs : stepT (denote treeTable) p w s t with
        | none => rw [hs] at h; cases h
        | some r =>
          obtain ⟨s₂, t₂⟩ := r
          rw [hs] at h
          show (match stepOk n₀ ann t with | false => none | true => _) = _
          rw [okC_of hk]
          show (match step (denote treeTable) p w s.abs t with | .go s' t' => topRun treeTable p w n₀ ann n s' t' | .halt _ _ => none) = _
          rw [stepT_spec hs]
          exact topH_of h
/-- a heap as a tree -/
noncomputable def insAll : List Obj → Nat → BT → BT
  | [], _, T => T
  | o :: r, n, T => insAll r (n + 1) (T.ins n o)
noncomputable def okAll : List Obj → Nat → BT → Bool
  | [], _, _ => true
  | o :: r, n, T => ((T.ins n o).get n).isSome && okAll r (n + 1) (T.ins n o)
theorem insAll_abs (life : Life) : ∀ (l : List Obj) (n : Nat) (T : BT), okAll l n T = true → absHeap (insAll l n T) (n + l.length) life = ⟨(absHeap T n life).objs ++ l.toArray, life⟩
  | [], n, T, _ => by show absHeap T n life = _; simp; rfl
  | o :: r, n, T, h => by
    unfold okAll at h
    obtain ⟨h1, h2⟩ := Bool.and_eq_true_iff.mp h
    have ih := insAll_abs life r (n + 1) (T.ins n o) h2
    rw [show n + (o :: r).length = n + 1 + r.length by rw [List.length_cons]; omega]
    show absHeap (insAll r (n + 1) (T.ins n o)) _ life = _
    rw [ih, absHeap_ins h1]
    show Heap.mk (((absHeap T n life).push o).objs ++ r.toArray) life = _
    congr 1
    show ((absHeap T n life).objs.push o) ++ r.toArray = _
    apply Array.ext'
    simp
noncomputable def toTree (s : Shared) : SharedT := ⟨insAll s.heap.objs.toList 0 .nil, s.heap.objs.toList.length, s.heap.life, s.gens, s.drawn, s.toks, s.os⟩
theorem toTree_abs {s : Shared} (h : okAll s.heap.objs.toList 0 .nil = true) : (toTree s).abs = s := by
  obtain ⟨⟨objs, life⟩, gens, drawn, toks, os⟩ := s
  have := insAll_abs life objs.toList 0 .nil h
  rw [Nat.zero_add] at this
  show Shared.mk (absHeap (insAll objs.toList 0 BT.nil) objs.toList.length life) gens drawn toks os = _
  rw [this]
  have e : (absHeap BT.nil 0 life).objs = #[] := rfl
  rw [e]
  simp
/-- a fragment's objects, those between its addresses left open -/
noncomputable def fill (g : Nat → Obj) : Nat → Nat → Frag → List Obj
  | 0, _, _ => []
  | n + 1, i, [] => g i :: fill g n (i + 1) []
  | n + 1, i, (a, o) :: k => match Nat.beq a i with
    | true => o :: fill g n (i + 1) k
    | false => g i :: fill g n (i + 1) ((a, o) :: k)
theorem fill_is (L : List Obj) : ∀ (n i : Nat) (k : Frag), L.length = i + n → (∀ p ∈ k, L[p.1]? = some p.2) → fill (fun j => L[j]?.getD default) n i k = L.drop i
  | 0, i, _, h, _ => by unfold fill; rw [List.drop_eq_nil_of_le (by omega)]
  | n + 1, i, k, h, hk => by
    have hi : i < L.length := by omega
    have e : L.drop i = L[i] :: L.drop (i + 1) := List.drop_eq_getElem_cons hi
    have e1 : L[i]? = some L[i] := List.getElem?_eq_getElem hi
    rw [e]
    cases k with
    | nil =>
      unfold fill
      rw [fill_is L n (i + 1) [] (by omega) hk]
      show L[i]?.getD default :: _ = _
      rw [e1]; rfl
    | cons p k =>
      obtain ⟨a, o⟩ := p
      unfold fill
      cases hb : Nat.beq a i with
      | true =>
        have ha : a = i := Nat.eq_of_beq_eq_true hb
        have ho : L[a]? = some o := hk _ (.head _)
        rw [ha, e1] at ho
        show o :: fill _ n (i + 1) k = _
        rw [fill_is L n (i + 1) k (by omega) fun p h => hk p (.tail _ h), Option.some.inj ho]
      | false =>
        show L[i]?.getD default :: fill _ n (i + 1) ((a, o) :: k) = _
        rw [fill_is L n (i + 1) _ (by omega) hk, e1]; rfl
/-- the state behind the top, what lies between the fragment's addresses left open -/
noncomputable def fillS (K : Params → Frag) (n tk : Nat) (g : Nat → Obj) (P : Params) : Shared := { heap := ⟨(fill g n 0 (K P)).toArray, {}⟩, gens := #[], drawn := {}, toks := tk, os := {} }
/-- the way, each step of it checked, and the state behind it at the fragment's addresses -/
noncomputable def lookC (p : Program) (as : List Addr) (w : World) (N M : Nat) : Option (List (Option Obj) × Nat × Life × Array GenState × Drawn × Nat × OsState) :=
  match okAll (start (opening p)).1.heap.objs.toList 0 .nil with
  | false => none
  | true => match impH (opening p) w N (toTree (start (opening p)).1) (start (opening p)).2 with
    | none => none
    | some s => match fenceModules? p s.abs with
      | none => none
      | some s₀ => match okAll s₀.heap.objs.toList 0 .nil with
        | false => none
        | true => match s₀.heap.isNs mainGlobals && s₀.gens.size == 0 with
          | false => none
          | true => (topH p w s₀.heap.objs.size (s₀.heap.nsMap mainGlobals "__annotations__") M (toTree s₀) (topStub p)).map fun s => (as.map s.abs.heap.get?, s.n, s.life, s.gens, s.drawn, s.toks, s.os)
/-- what is seen of that state beside the opening's -/
noncomputable def lookD (p : Program) (S : Params → Shared) (w : World) (N : Nat) : Bool :=
  match impH (opening p) w N (toTree (start (opening p)).1) (start (opening p)).2 with
  | none => false
  | some s => match fenceModules? p s.abs with
    | none => false
    | some s₀ => staticsOk (importedModules p.main.body) s₀.heap (S w.params).heap && namesBound p (S w.params).heap && gensDone (S w.params) && laidKept s₀.heap (S w.params).heap
theorem left_of {p q : Program} {loose : List Str} {Xt : Shared → Bool} {Kf : Params → Frag} {as : List Addr} {e : ∀ P, as = (Kf P).map (·.1)} {g0 : Bool} {N M K n tk : Nat} (hN : Nat.ble N K = true) (hM : Nat.ble M K = true)
    (hC : ∀ w, lookC p as w N M = some ((Kf w.params).map (fun p => some p.2), n, {}, #[], {}, tk, {})) (hD : ∀ g w, lookD p (fillS Kf n tk g) w N = true)
    (hE : ∀ g w, (PySem.W.Fast.tw4187177175401517315 q loose (importedModules p.main.body) Xt g0 (fillS Kf n tk g w.params), (kHook Kf as e).obs (fillS Kf n tk g w.params)) = (openGood q loose, (kHook Kf as e).val w)) :
    LeftO p q loose Xt (kHook Kf as e).obs (kHook Kf as e).val K g0 := fun w => by
  have h := hC w
  unfold lookC at h
  split at h
  · cases h
  rename_i k1
  split at h
  · cases h
  rename_i s hs
  split at h
  · cases h
  rename_i s₀ h0
  split at h
  · cases h
  rename_i k2
  split at h
  · cases h
  rename_i k3
  obtain ⟨s₁, h1, e1s⟩ := Option.map_eq_some_iff.mp h
  -- the state told by the fragment
  have eS : s₁.abs = fillS Kf n tk (fun j => (s₁.tree.list s₁.n)[j]?.getD default) w.params := by
    obtain ⟨a1, a2⟩ := Prod.mk.inj e1s
    obtain ⟨a2, a3⟩ := Prod.mk.inj a2
    obtain ⟨a3, a4⟩ := Prod.mk.inj a3
    obtain ⟨a4, a5⟩ := Prod.mk.inj a4
    obtain ⟨a5, a6⟩ := Prod.mk.inj a5
    obtain ⟨a6, a7⟩ := Prod.mk.inj a6
    have hl : (s₁.tree.list s₁.n).length = 0 + n := by unfold BT.list; rw [List.length_map, List.length_range, a2, Nat.zero_add]
    rw [e w.params, List.map_map] at a1
    have hk : ∀ p ∈ Kf w.params, (s₁.tree.list s₁.n)[p.1]? = some p.2 := fun p hp => by
      have := List.map_inj_left.mp a1 p hp
      replace this : s₁.abs.heap.get? p.1 = some p.2 := this
      have hx : s₁.abs.heap.objs[p.1]? = some p.2 := by
        unfold Heap.get? at this
        split at this
        · cases this
        · exact this
      rw [← hx]
      show _ = (s₁.tree.list s₁.n).toArray[p.1]?
      rw [List.getElem?_toArray]
    have := fill_is (s₁.tree.list s₁.n) n 0 (Kf w.params) hl hk
    rw [List.drop_zero] at this
    show Shared.mk ⟨(s₁.tree.list s₁.n).toArray, s₁.life⟩ s₁.gens s₁.drawn s₁.toks s₁.os = Shared.mk ⟨(fill _ n 0 (Kf w.params)).toArray, {}⟩ #[] {} tk {}
    rw [this, a3, a4, a5, a6, a7]
  have hD := hD (fun j => (s₁.tree.list s₁.n)[j]?.getD default) w
  have hE := hE (fun j => (s₁.tree.list s₁.n)[j]?.getD default) w
  unfold lookD at hD
  simp only [hs, h0] at hD
  rw [← eS] at hD hE
  have e1 := impH_of hs
  rw [toTree_abs k1] at e1
  have e1' := importEnds_mono (K - N) _ _ _ _ e1
  rw [show N + (K - N) = K by have := Nat.le_of_ble_eq_true hN; omega] at e1'
  have e2 := topH_of h1
  rw [toTree_abs k2] at e2
  have e2' := topRun_mono (K - M) _ _ _ _ e2
  rw [show M + (K - M) = K by have := Nat.le_of_ble_eq_true hM; omega] at e2'
  have e3 : openEnds treeTable p w K = some s₁.abs := by
    unfold openEnds fencedOpening
    rw [e1']
    show ((fenceModules? p s.abs).bind (topFrom treeTable p w K)) = _
    rw [h0]
    show topFrom treeTable p w K s₀ = _
    unfold topFrom
    rw [k3, e2']
    show (match _ with | true => _ | false => _) = _
    rw [hD]
  rw [e3]
  show some (openSeen q loose (importedModules p.main.body) Xt g0 s₁.abs, (kHook Kf as e).obs s₁.abs) = _
  rw [PySem.W.Fast.te4187177175401517315]
  exact congrArg some hE
/-! the defs of the text, as they stand in the row -/
noncomputable def stA (p : Program) : List Nat → Option Stmt
  | [i] => p.main.body[i]?
  | [i, j] => match p.main.body[i]? with
    | some (.ClassDef _ _ _ b _ _ _ _ _ _ _) => b[j]?
    | _ => none
  | _ => none
noncomputable def fName : Option Stmt → Str
  | some (.FunctionDef n _ _ _ _ _ _ _ _ _) => n
  | _ => Str.ofString ""
noncomputable def fArgs : Option Stmt → Arguments
  | some (.FunctionDef _ a _ _ _ _ _ _ _ _) => a
  | _ => { posonlyargs := [], args := [], vararg := none, kwonlyargs := [], kw_defaults := [], kwarg := none, defaults := [] }
noncomputable def fBody : Option Stmt → List Stmt
  | some (.FunctionDef _ _ b _ _ _ _ _ _ _) => b
  | _ => []
noncomputable def fScope : Option Stmt → Scope
  | some (.FunctionDef _ _ _ _ _ _ s _ _ _) => s
  | _ => { kind := .function, names := [], isGenerator := false, isCoroutine := false, more := [] }
noncomputable def fRec : Option Stmt → DefRec
  | some (.FunctionDef n a b _ _ _ s _ _ q) => ⟨n, a, b, s, q⟩
  | _ => ⟨Str.ofString "", { posonlyargs := [], args := [], vararg := none, kwonlyargs := [], kw_defaults := [], kwarg := none, defaults := [] }, [], { kind := .function, names := [], isGenerator := false, isCoroutine := false, more := [] }, ⟨0, 0, 0, 0⟩⟩
@[reducible] def viewOf (p : Program) (keep : List Nat) {b : List Stmt} (_h : (keep.map fun i => p.main.body[i]?) = b.map some) : Program := { p with main := { p.main with body := b } }
end Mine
namespace MineX
open Mine
noncomputable abbrev P0 : Program := PySem.Challenge.rw_rl0125_02.prog
/-- the objects that the top leaves, a def's text told by its place in the row -/
noncomputable def hd.heap_39 : Params → Frag := fun P =>
  ((nat_lit 0), (Obj.mk (Value.type "dict") none (Data.dict #[(DictEntry.mk (PyData.keyHash P (Str.ofString "__name__")) (Value.str (Str.ofString "__name__") 1) (Value.str (Str.ofString "builtins") 160)), (DictEntry.mk (PyData.keyHash P (Str.ofString "__doc__")) (Value.str (Str.ofString "__doc__") 2) (Value.builtin "builtins.__doc__:str#opaque")), (DictEntry.mk (PyData.keyHash P (Str.ofString "__package__")) (Value.str (Str.ofString "__package__") 3) (Value.builtin "builtins.__package__:str#opaque")), (DictEntry.mk (PyData.keyHash P (Str.ofString "__loader__")) (Value.str (Str.ofString "__loader__") 4) (Value.builtin "builtins.__loader__:shared#opaque")), (DictEntry.mk (PyData.keyHash P (Str.ofString "__spec__")) (Value.str (Str.ofString "__spec__") 5) (Value.builtin "builtins.__spec__#opaque")), (DictEntry.mk (PyData.keyHash P (Str.ofString "__build_class__")) (Value.str (Str.ofString "__build_class__") 6) (Value.builtin "__build_class__")), (DictEntry.mk (PyData.keyHash P (Str.ofString "__import__")) (Value.str (Str.ofString "__import__") 7) (Value.builtin "__import__")), (DictEntry.mk (PyData.keyHash P (Str.ofString "abs")) (Value.str (Str.ofString "abs") 8) (Value.builtin "abs")), (DictEntry.mk (PyData.keyHash P (Str.ofString "all")) (Value.str (Str.ofString "all") 9) (Value.builtin "all")), (DictEntry.mk (PyData.keyHash P (Str.ofString "any")) (Value.str (Str.ofString "any") 10) (Value.builtin "any")), (DictEntry.mk (PyData.keyHash P (Str.ofString "ascii")) (Value.str (Str.ofString "ascii") 11) (Value.builtin "ascii")), (DictEntry.mk (PyData.keyHash P (Str.ofString "bin")) (Value.str (Str.ofString "bin") 12) (Value.builtin "bin")), (DictEntry.mk (PyData.keyHash P (Str.ofString "breakpoint")) (Value.str (Str.ofString "breakpoint") 13) (Value.builtin "breakpoint")), (DictEntry.mk (PyData.keyHash P (Str.ofString "callable")) (Value.str (Str.ofString "callable") 14) (Value.builtin "callable")), (DictEntry.mk (PyData.keyHash P (Str.ofString "chr")) (Value.str (Str.ofString "chr") 15) (Value.builtin "chr")), (DictEntry.mk (PyData.keyHash P (Str.ofString "compile")) (Value.str (Str.ofString "compile") 16) (Value.builtin "compile")), (DictEntry.mk (PyData.keyHash P (Str.ofString "delattr")) (Value.str (Str.ofString "delattr") 17) (Value.builtin "delattr")), (DictEntry.mk (PyData.keyHash P (Str.ofString "dir")) (Value.str (Str.ofString "dir") 18) (Value.builtin "dir")), (DictEntry.mk (PyData.keyHash P (Str.ofString "divmod")) (Value.str (Str.ofString "divmod") 19) (Value.builtin "divmod")), (DictEntry.mk (PyData.keyHash P (Str.ofString "eval")) (Value.str (Str.ofString "eval") 20) (Value.builtin "eval")), (DictEntry.mk (PyData.keyHash P (Str.ofString "exec")) (Value.str (Str.ofString "exec") 21) (Value.builtin "exec")), (DictEntry.mk (PyData.keyHash P (Str.ofString "format")) (Value.str (Str.ofString "format") 22) (Value.builtin "format")), (DictEntry.mk (PyData.keyHash P (Str.ofString "getattr")) (Value.str (Str.ofString "getattr") 23) (Value.builtin "getattr")), (DictEntry.mk (PyData.keyHash P (Str.ofString "globals")) (Value.str (Str.ofString "globals") 24) (Value.builtin "globals")), (DictEntry.mk (PyData.keyHash P (Str.ofString "hasattr")) (Value.str (Str.ofString "hasattr") 25) (Value.builtin "hasattr")), (DictEntry.mk (PyData.keyHash P (Str.ofString "hash")) (Value.str (Str.ofString "hash") 26) (Value.builtin "hash")), (DictEntry.mk (PyData.keyHash P (Str.ofString "hex")) (Value.str (Str.ofString "hex") 27) (Value.builtin "hex")), (DictEntry.mk (PyData.keyHash P (Str.ofString "id")) (Value.str (Str.ofString "id") 28) (Value.builtin "id")), (DictEntry.mk (PyData.keyHash P (Str.ofString "input")) (Value.str (Str.ofString "input") 29) (Value.builtin "input")), (DictEntry.mk (PyData.keyHash P (Str.ofString "isinstance")) (Value.str (Str.ofString "isinstance") 30) (Value.builtin "isinstance")), (DictEntry.mk (PyData.keyHash P (Str.ofString "issubclass")) (Value.str (Str.ofString "issubclass") 31) (Value.builtin "issubclass")), (DictEntry.mk (PyData.keyHash P (Str.ofString "iter")) (Value.str (Str.ofString "iter") 32) (Value.builtin "iter")), (DictEntry.mk (PyData.keyHash P (Str.ofString "aiter")) (Value.str (Str.ofString "aiter") 33) (Value.builtin "aiter")), (DictEntry.mk (PyData.keyHash P (Str.ofString "len")) (Value.str (Str.ofString "len") 34) (Value.builtin "len")), (DictEntry.mk (PyData.keyHash P (Str.ofString "locals")) (Value.str (Str.ofString "locals") 35) (Value.builtin "locals")), (DictEntry.mk (PyData.keyHash P (Str.ofString "max")) (Value.str (Str.ofString "max") 36) (Value.builtin "max")), (DictEntry.mk (PyData.keyHash P (Str.ofString "min")) (Value.str (Str.ofString "min") 37) (Value.builtin "min")), (DictEntry.mk (PyData.keyHash P (Str.ofString "next")) (Value.str (Str.ofString "next") 38) (Value.builtin "next")), (DictEntry.mk (PyData.keyHash P (Str.ofString "anext")) (Value.str (Str.ofString "anext") 39) (Value.builtin "anext")), (DictEntry.mk (PyData.keyHash P (Str.ofString "oct")) (Value.str (Str.ofString "oct") 40) (Value.builtin "oct")), (DictEntry.mk (PyData.keyHash P (Str.ofString "ord")) (Value.str (Str.ofString "ord") 41) (Value.builtin "ord")), (DictEntry.mk (PyData.keyHash P (Str.ofString "pow")) (Value.str (Str.ofString "pow") 42) (Value.builtin "pow")), (DictEntry.mk (PyData.keyHash P (Str.ofString "print")) (Value.str (Str.ofString "print") 43) (Value.builtin "print")), (DictEntry.mk (PyData.keyHash P (Str.ofString "repr")) (Value.str (Str.ofString "repr") 44) (Value.builtin "repr")), (DictEntry.mk (PyData.keyHash P (Str.ofString "round")) (Value.str (Str.ofString "round") 45) (Value.builtin "round")), (DictEntry.mk (PyData.keyHash P (Str.ofString "setattr")) (Value.str (Str.ofString "setattr") 46) (Value.builtin "setattr")), (DictEntry.mk (PyData.keyHash P (Str.ofString "sorted")) (Value.str (Str.ofString "sorted") 47) (Value.builtin "sorted")), (DictEntry.mk (PyData.keyHash P (Str.ofString "sum")) (Value.str (Str.ofString "sum") 48) (Value.builtin "sum")), (DictEntry.mk (PyData.keyHash P (Str.ofString "vars")) (Value.str (Str.ofString "vars") 49) (Value.builtin "vars")), (DictEntry.mk (PyData.keyHash P (Str.ofString "None")) (Value.str (Str.ofString "None") 50) Value.none), (DictEntry.mk (PyData.keyHash P (Str.ofString "Ellipsis")) (Value.str (Str.ofString "Ellipsis") 51) Value.ellipsis), (DictEntry.mk (PyData.keyHash P (Str.ofString "NotImplemented")) (Value.str (Str.ofString "NotImplemented") 52) Value.notImplemented), (DictEntry.mk (PyData.keyHash P (Str.ofString "False")) (Value.str (Str.ofString "False") 53) (Value.bool Bool.false)), (DictEntry.mk (PyData.keyHash P (Str.ofString "True")) (Value.str (Str.ofString "True") 54) (Value.bool Bool.true)), (DictEntry.mk (PyData.keyHash P (Str.ofString "bool")) (Value.str (Str.ofString "bool") 55) (Value.type "bool")), (DictEntry.mk (PyData.keyHash P (Str.ofString "memoryview")) (Value.str (Str.ofString "memoryview") 56) (Value.type "memoryview")), (DictEntry.mk (PyData.keyHash P (Str.ofString "bytearray")) (Value.str (Str.ofString "bytearray") 57) (Value.type "bytearray")), (DictEntry.mk (PyData.keyHash P (Str.ofString "bytes")) (Value.str (Str.ofString "bytes") 58) (Value.type "bytes")), (DictEntry.mk (PyData.keyHash P (Str.ofString "classmethod")) (Value.str (Str.ofString "classmethod") 59) (Value.type "classmethod")), (DictEntry.mk (PyData.keyHash P (Str.ofString "complex")) (Value.str (Str.ofString "complex") 60) (Value.type "complex")), (DictEntry.mk (PyData.keyHash P (Str.ofString "dict")) (Value.str (Str.ofString "dict") 61) (Value.type "dict")), (DictEntry.mk (PyData.keyHash P (Str.ofString "enumerate")) (Value.str (Str.ofString "enumerate") 62) (Value.type "enumerate")), (DictEntry.mk (PyData.keyHash P (Str.ofString "filter")) (Value.str (Str.ofString "filter") 63) (Value.type "filter")), (DictEntry.mk (PyData.keyHash P (Str.ofString "float")) (Value.str (Str.ofString "float") 64) (Value.type "float")), (DictEntry.mk (PyData.keyHash P (Str.ofString "frozenset")) (Value.str (Str.ofString "frozenset") 65) (Value.type "frozenset")), (DictEntry.mk (PyData.keyHash P (Str.ofString "property")) (Value.str (Str.ofString "property") 66) (Value.type "property")), (DictEntry.mk (PyData.keyHash P (Str.ofString "int")) (Value.str (Str.ofString "int") 67) (Value.type "int")), (DictEntry.mk (PyData.keyHash P (Str.ofString "list")) (Value.str (Str.ofString "list") 68) (Value.type "list")), (DictEntry.mk (PyData.keyHash P (Str.ofString "map")) (Value.str (Str.ofString "map") 69) (Value.type "map")), (DictEntry.mk (PyData.keyHash P (Str.ofString "object")) (Value.str (Str.ofString "object") 70) (Value.type "object")), (DictEntry.mk (PyData.keyHash P (Str.ofString "range")) (Value.str (Str.ofString "range") 71) (Value.type "range")), (DictEntry.mk (PyData.keyHash P (Str.ofString "reversed")) (Value.str (Str.ofString "reversed") 72) (Value.type "reversed")), (DictEntry.mk (PyData.keyHash P (Str.ofString "set")) (Value.str (Str.ofString "set") 73) (Value.type "set")), (DictEntry.mk (PyData.keyHash P (Str.ofString "slice")) (Value.str (Str.ofString "slice") 74) (Value.type "slice")), (DictEntry.mk (PyData.keyHash P (Str.ofString "staticmethod")) (Value.str (Str.ofString "staticmethod") 75) (Value.type "staticmethod")), (DictEntry.mk (PyData.keyHash P (Str.ofString "str")) (Value.str (Str.ofString "str") 76) (Value.type "str")), (DictEntry.mk (PyData.keyHash P (Str.ofString "super")) (Value.str (Str.ofString "super") 77) (Value.type "super")), (DictEntry.mk (PyData.keyHash P (Str.ofString "tuple")) (Value.str (Str.ofString "tuple") 78) (Value.type "tuple")), (DictEntry.mk (PyData.keyHash P (Str.ofString "type")) (Value.str (Str.ofString "type") 79) (Value.type "type")), (DictEntry.mk (PyData.keyHash P (Str.ofString "zip")) (Value.str (Str.ofString "zip") 80) (Value.type "zip")), (DictEntry.mk (PyData.keyHash P (Str.ofString "__debug__")) (Value.str (Str.ofString "__debug__") 81) (Value.bool Bool.true)), (DictEntry.mk (PyData.keyHash P (Str.ofString "BaseException")) (Value.str (Str.ofString "BaseException") 82) (Value.type "BaseException")), (DictEntry.mk (PyData.keyHash P (Str.ofString "BaseExceptionGroup")) (Value.str (Str.ofString "BaseExceptionGroup") 83) (Value.type "BaseExceptionGroup")), (DictEntry.mk (PyData.keyHash P (Str.ofString "Exception")) (Value.str (Str.ofString "Exception") 84) (Value.type "Exception")), (DictEntry.mk (PyData.keyHash P (Str.ofString "GeneratorExit")) (Value.str (Str.ofString "GeneratorExit") 85) (Value.type "GeneratorExit")), (DictEntry.mk (PyData.keyHash P (Str.ofString "KeyboardInterrupt")) (Value.str (Str.ofString "KeyboardInterrupt") 86) (Value.type "KeyboardInterrupt")), (DictEntry.mk (PyData.keyHash P (Str.ofString "SystemExit")) (Value.str (Str.ofString "SystemExit") 87) (Value.type "SystemExit")), (DictEntry.mk (PyData.keyHash P (Str.ofString "ArithmeticError")) (Value.str (Str.ofString "ArithmeticError") 88) (Value.type "ArithmeticError")), (DictEntry.mk (PyData.keyHash P (Str.ofString "AssertionError")) (Value.str (Str.ofString "AssertionError") 89) (Value.type "AssertionError")), (DictEntry.mk (PyData.keyHash P (Str.ofString "AttributeError")) (Value.str (Str.ofString "AttributeError") 90) (Value.type "AttributeError")), (DictEntry.mk (PyData.keyHash P (Str.ofString "BufferError")) (Value.str (Str.ofString "BufferError") 91) (Value.type "BufferError")), (DictEntry.mk (PyData.keyHash P (Str.ofString "EOFError")) (Value.str (Str.ofString "EOFError") 92) (Value.type "EOFError")), (DictEntry.mk (PyData.keyHash P (Str.ofString "ImportError")) (Value.str (Str.ofString "ImportError") 93) (Value.type "ImportError")), (DictEntry.mk (PyData.keyHash P (Str.ofString "LookupError")) (Value.str (Str.ofString "LookupError") 94) (Value.type "LookupError")), (DictEntry.mk (PyData.keyHash P (Str.ofString "MemoryError")) (Value.str (Str.ofString "MemoryError") 95) (Value.type "MemoryError")), (DictEntry.mk (PyData.keyHash P (Str.ofString "NameError")) (Value.str (Str.ofString "NameError") 96) (Value.type "NameError")), (DictEntry.mk (PyData.keyHash P (Str.ofString "OSError")) (Value.str (Str.ofString "OSError") 97) (Value.type "OSError")), (DictEntry.mk (PyData.keyHash P (Str.ofString "ReferenceError")) (Value.str (Str.ofString "ReferenceError") 98) (Value.type "ReferenceError")), (DictEntry.mk (PyData.keyHash P (Str.ofString "RuntimeError")) (Value.str (Str.ofString "RuntimeError") 99) (Value.type "RuntimeError")), (DictEntry.mk (PyData.keyHash P (Str.ofString "StopAsyncIteration")) (Value.str (Str.ofString "StopAsyncIteration") 100) (Value.type "StopAsyncIteration")), (DictEntry.mk (PyData.keyHash P (Str.ofString "StopIteration")) (Value.str (Str.ofString "StopIteration") 101) (Value.type "StopIteration")), (DictEntry.mk (PyData.keyHash P (Str.ofString "SyntaxError")) (Value.str (Str.ofString "SyntaxError") 102) (Value.type "SyntaxError")), (DictEntry.mk (PyData.keyHash P (Str.ofString "SystemError")) (Value.str (Str.ofString "SystemError") 103) (Value.type "SystemError")), (DictEntry.mk (PyData.keyHash P (Str.ofString "TypeError")) (Value.str (Str.ofString "TypeError") 104) (Value.type "TypeError")), (DictEntry.mk (PyData.keyHash P (Str.ofString "ValueError")) (Value.str (Str.ofString "ValueError") 105) (Value.type "ValueError")), (DictEntry.mk (PyData.keyHash P (Str.ofString "Warning")) (Value.str (Str.ofString "Warning") 106) (Value.type "Warning")), (DictEntry.mk (PyData.keyHash P (Str.ofString "FloatingPointError")) (Value.str (Str.ofString "FloatingPointError") 107) (Value.type "FloatingPointError")), (DictEntry.mk (PyData.keyHash P (Str.ofString "OverflowError")) (Value.str (Str.ofString "OverflowError") 108) (Value.type "OverflowError")), (DictEntry.mk (PyData.keyHash P (Str.ofString "ZeroDivisionError")) (Value.str (Str.ofString "ZeroDivisionError") 109) (Value.type "ZeroDivisionError")), (DictEntry.mk (PyData.keyHash P (Str.ofString "BytesWarning")) (Value.str (Str.ofString "BytesWarning") 110) (Value.type "BytesWarning")), (DictEntry.mk (PyData.keyHash P (Str.ofString "DeprecationWarning")) (Value.str (Str.ofString "DeprecationWarning") 111) (Value.type "DeprecationWarning")), (DictEntry.mk (PyData.keyHash P (Str.ofString "EncodingWarning")) (Value.str (Str.ofString "EncodingWarning") 112) (Value.type "EncodingWarning")), (DictEntry.mk (PyData.keyHash P (Str.ofString "FutureWarning")) (Value.str (Str.ofString "FutureWarning") 113) (Value.type "FutureWarning")), (DictEntry.mk (PyData.keyHash P (Str.ofString "ImportWarning")) (Value.str (Str.ofString "ImportWarning") 114) (Value.type "ImportWarning")), (DictEntry.mk (PyData.keyHash P (Str.ofString "PendingDeprecationWarning")) (Value.str (Str.ofString "PendingDeprecationWarning") 115) (Value.type "PendingDeprecationWarning")), (DictEntry.mk (PyData.keyHash P (Str.ofString "ResourceWarning")) (Value.str (Str.ofString "ResourceWarning") 116) (Value.type "ResourceWarning")), (DictEntry.mk (PyData.keyHash P (Str.ofString "RuntimeWarning")) (Value.str (Str.ofString "RuntimeWarning") 117) (Value.type "RuntimeWarning")), (DictEntry.mk (PyData.keyHash P (Str.ofString "SyntaxWarning")) (Value.str (Str.ofString "SyntaxWarning") 118) (Value.type "SyntaxWarning")), (DictEntry.mk (PyData.keyHash P (Str.ofString "UnicodeWarning")) (Value.str (Str.ofString "UnicodeWarning") 119) (Value.type "UnicodeWarning")), (DictEntry.mk (PyData.keyHash P (Str.ofString "UserWarning")) (Value.str (Str.ofString "UserWarning") 120) (Value.type "UserWarning")), (DictEntry.mk (PyData.keyHash P (Str.ofString "BlockingIOError")) (Value.str (Str.ofString "BlockingIOError") 121) (Value.type "BlockingIOError")), (DictEntry.mk (PyData.keyHash P (Str.ofString "ChildProcessError")) (Value.str (Str.ofString "ChildProcessError") 122) (Value.type "ChildProcessError")), (DictEntry.mk (PyData.keyHash P (Str.ofString "ConnectionError")) (Value.str (Str.ofString "ConnectionError") 123) (Value.type "ConnectionError")), (DictEntry.mk (PyData.keyHash P (Str.ofString "FileExistsError")) (Value.str (Str.ofString "FileExistsError") 124) (Value.type "FileExistsError")), (DictEntry.mk (PyData.keyHash P (Str.ofString "FileNotFoundError")) (Value.str (Str.ofString "FileNotFoundError") 125) (Value.type "FileNotFoundError")), (DictEntry.mk (PyData.keyHash P (Str.ofString "InterruptedError")) (Value.str (Str.ofString "InterruptedError") 126) (Value.type "InterruptedError")), (DictEntry.mk (PyData.keyHash P (Str.ofString "IsADirectoryError")) (Value.str (Str.ofString "IsADirectoryError") 127) (Value.type "IsADirectoryError")), (DictEntry.mk (PyData.keyHash P (Str.ofString "NotADirectoryError")) (Value.str (Str.ofString "NotADirectoryError") 128) (Value.type "NotADirectoryError")), (DictEntry.mk (PyData.keyHash P (Str.ofString "PermissionError")) (Value.str (Str.ofString "PermissionError") 129) (Value.type "PermissionError")), (DictEntry.mk (PyData.keyHash P (Str.ofString "ProcessLookupError")) (Value.str (Str.ofString "ProcessLookupError") 130) (Value.type "ProcessLookupError")), (DictEntry.mk (PyData.keyHash P (Str.ofString "TimeoutError")) (Value.str (Str.ofString "TimeoutError") 131) (Value.type "TimeoutError")), (DictEntry.mk (PyData.keyHash P (Str.ofString "IndentationError")) (Value.str (Str.ofString "IndentationError") 132) (Value.type "IndentationError")), (DictEntry.mk (PyData.keyHash P (Str.ofString "_IncompleteInputError")) (Value.str (Str.ofString "_IncompleteInputError") 133) (Value.type "_IncompleteInputError")), (DictEntry.mk (PyData.keyHash P (Str.ofString "IndexError")) (Value.str (Str.ofString "IndexError") 134) (Value.type "IndexError")), (DictEntry.mk (PyData.keyHash P (Str.ofString "KeyError")) (Value.str (Str.ofString "KeyError") 135) (Value.type "KeyError")), (DictEntry.mk (PyData.keyHash P (Str.ofString "ModuleNotFoundError")) (Value.str (Str.ofString "ModuleNotFoundError") 136) (Value.type "ModuleNotFoundError")), (DictEntry.mk (PyData.keyHash P (Str.ofString "NotImplementedError")) (Value.str (Str.ofString "NotImplementedError") 137) (Value.type "NotImplementedError")), (DictEntry.mk (PyData.keyHash P (Str.ofString "PythonFinalizationError")) (Value.str (Str.ofString "PythonFinalizationError") 138) (Value.type "PythonFinalizationError")), (DictEntry.mk (PyData.keyHash P (Str.ofString "RecursionError")) (Value.str (Str.ofString "RecursionError") 139) (Value.type "RecursionError")), (DictEntry.mk (PyData.keyHash P (Str.ofString "UnboundLocalError")) (Value.str (Str.ofString "UnboundLocalError") 140) (Value.type "UnboundLocalError")), (DictEntry.mk (PyData.keyHash P (Str.ofString "UnicodeError")) (Value.str (Str.ofString "UnicodeError") 141) (Value.type "UnicodeError")), (DictEntry.mk (PyData.keyHash P (Str.ofString "BrokenPipeError")) (Value.str (Str.ofString "BrokenPipeError") 142) (Value.type "BrokenPipeError")), (DictEntry.mk (PyData.keyHash P (Str.ofString "ConnectionAbortedError")) (Value.str (Str.ofString "ConnectionAbortedError") 143) (Value.type "ConnectionAbortedError")), (DictEntry.mk (PyData.keyHash P (Str.ofString "ConnectionRefusedError")) (Value.str (Str.ofString "ConnectionRefusedError") 144) (Value.type "ConnectionRefusedError")), (DictEntry.mk (PyData.keyHash P (Str.ofString "ConnectionResetError")) (Value.str (Str.ofString "ConnectionResetError") 145) (Value.type "ConnectionResetError")), (DictEntry.mk (PyData.keyHash P (Str.ofString "TabError")) (Value.str (Str.ofString "TabError") 146) (Value.type "TabError")), (DictEntry.mk (PyData.keyHash P (Str.ofString "UnicodeDecodeError")) (Value.str (Str.ofString "UnicodeDecodeError") 147) (Value.type "UnicodeDecodeError")), (DictEntry.mk (PyData.keyHash P (Str.ofString "UnicodeEncodeError")) (Value.str (Str.ofString "UnicodeEncodeError") 148) (Value.type "UnicodeEncodeError")), (DictEntry.mk (PyData.keyHash P (Str.ofString "UnicodeTranslateError")) (Value.str (Str.ofString "UnicodeTranslateError") 149) (Value.type "UnicodeTranslateError")), (DictEntry.mk (PyData.keyHash P (Str.ofString "ExceptionGroup")) (Value.str (Str.ofString "ExceptionGroup") 150) (Value.type "ExceptionGroup")), (DictEntry.mk (PyData.keyHash P (Str.ofString "EnvironmentError")) (Value.str (Str.ofString "EnvironmentError") 151) (Value.type "OSError")), (DictEntry.mk (PyData.keyHash P (Str.ofString "IOError")) (Value.str (Str.ofString "IOError") 152) (Value.type "OSError")), (DictEntry.mk (PyData.keyHash P (Str.ofString "open")) (Value.str (Str.ofString "open") 153) (Value.builtin "open")), (DictEntry.mk (PyData.keyHash P (Str.ofString "quit")) (Value.str (Str.ofString "quit") 154) (Value.builtin "builtins.quit#opaque")), (DictEntry.mk (PyData.keyHash P (Str.ofString "exit")) (Value.str (Str.ofString "exit") 155) (Value.builtin "builtins.exit#opaque")), (DictEntry.mk (PyData.keyHash P (Str.ofString "copyright")) (Value.str (Str.ofString "copyright") 156) (Value.builtin "builtins.copyright#opaque")), (DictEntry.mk (PyData.keyHash P (Str.ofString "credits")) (Value.str (Str.ofString "credits") 157) (Value.builtin "builtins.credits#opaque")), (DictEntry.mk (PyData.keyHash P (Str.ofString "license")) (Value.str (Str.ofString "license") 158) (Value.builtin "builtins.license#opaque")), (DictEntry.mk (PyData.keyHash P (Str.ofString "help")) (Value.str (Str.ofString "help") 159) (Value.builtin "builtins.help#opaque"))] 159) #[])) ::
  ((nat_lit 1), (Obj.mk (Value.type "dict") none (Data.dict #[(DictEntry.mk (PyData.keyHash P (Str.ofString "builtins")) (Value.str (Str.ofString "builtins") 162) (Value.ref 4)), (DictEntry.mk (PyData.keyHash P (Str.ofString "__main__")) (Value.str (Str.ofString "__main__") 163) (Value.ref 5)), (DictEntry.mk (PyData.keyHash P (Str.ofString "_sre")) (Value.str (Str.ofString "_sre") 244) (Value.ref 12))] 3) #[])) ::
  ((nat_lit 2), (Obj.mk Value.none none (Data.dict #[(DictEntry.mk (PyData.keyHash P (Str.ofString "\x69mport.loaded._sre")) (Value.str (Str.ofString "\x69mport.loaded._sre") 183) (Value.bool Bool.true)), (DictEntry.mk (PyData.keyHash P (Str.ofString "class._frozen_importlib.BuiltinImporter")) (Value.str (Str.ofString "class._frozen_importlib.BuiltinImporter") 185) (Value.ref 14)), (DictEntry.mk (PyData.keyHash P (Str.ofString "watched.\x69mport")) (Value.str (Str.ofString "watched.\x69mport") 206) (Value.ref 18)), (DictEntry.mk (PyData.keyHash P (Str.ofString "class._frozen_importlib.ModuleSpec")) (Value.str (Str.ofString "class._frozen_importlib.ModuleSpec") 216) (Value.ref 22)), (DictEntry.mk (PyData.keyHash P (Str.ofString "sys.modules.booked-epoch")) (Value.str (Str.ofString "sys.modules.booked-epoch") 245) (Value.int 3 0)), (DictEntry.mk (PyData.keyHash P (Str.ofString "\x69mport.later-laid._sre")) (Value.str (Str.ofString "\x69mport.later-laid._sre") 270) (Value.bool Bool.true)), (DictEntry.mk (PyData.keyHash P (Str.ofString "watched.library")) (Value.str (Str.ofString "watched.library") 272) (Value.ref 27)), (DictEntry.mk (PyData.keyHash P (Str.ofString "watched.library-objects")) (Value.str (Str.ofString "watched.library-objects") 0) (Value.str (Str.ofString "\x0c") 0)), (DictEntry.mk (PyData.keyHash P (Str.ofString "watched.library-deep._sre")) (Value.str (Str.ofString "watched.library-deep._sre") 273) (Value.str (Str.ofString "\x04\x00\x00\x0b\x04\x00\x00\x0b\x04\x00\x00\x03\x04\x00\x00\x0b\x08\x04dict\x02") 0))] 9) #[])) ::
  ((nat_lit 3), (Obj.mk (Value.type "dict") none (Data.dict #[(DictEntry.mk (PyData.keyHash P (Str.ofString "__name__")) (Value.str (Str.ofString "__name__") 165) (Value.str (Str.ofString "law_rl0125_02") 2153)), (DictEntry.mk (PyData.keyHash P (Str.ofString "__doc__")) (Value.str (Str.ofString "__doc__") 166) Value.none), (DictEntry.mk (PyData.keyHash P (Str.ofString "__package__")) (Value.str (Str.ofString "__package__") 167) Value.none), (DictEntry.mk (PyData.keyHash P (Str.ofString "__loader__")) (Value.str (Str.ofString "__loader__") 168) (Value.builtin "__main__.__loader__#opaque")), (DictEntry.mk (PyData.keyHash P (Str.ofString "__spec__")) (Value.str (Str.ofString "__spec__") 169) Value.none), (DictEntry.mk (PyData.keyHash P (Str.ofString "__annotations__")) (Value.str (Str.ofString "__annotations__") 170) (Value.ref 6)), (DictEntry.mk (PyData.keyHash P (Str.ofString "__builtins__")) (Value.str (Str.ofString "__builtins__") 171) (Value.ref 4)), (DictEntry.mk (PyData.keyHash P (Str.ofString "__file__")) (Value.str (Str.ofString "__file__") 173) (Value.str (Str.ofString "/claim/cut.py") 172)), (DictEntry.mk (PyData.keyHash P (Str.ofString "__cached__")) (Value.str (Str.ofString "__cached__") 174) Value.none), (DictEntry.mk (PyData.keyHash P (Str.ofString "_sre")) (Value.str (Str.ofString "_sre") 275) (Value.ref 12)), (DictEntry.mk (PyData.keyHash P (Str.ofString "_wall")) (Value.str (Str.ofString "_wall") 288) (Value.ref 38)), (DictEntry.mk (PyData.keyHash P (Str.ofString "tspecials")) (Value.str (Str.ofString "tspecials") 324) (Value.ref 43)), (DictEntry.mk (PyData.keyHash P (Str.ofString "_name_disallowed_re")) (Value.str (Str.ofString "_name_disallowed_re") 350) (Value.ref 48)), (DictEntry.mk (PyData.keyHash P (Str.ofString "_value_disallowed_re")) (Value.str (Str.ofString "_value_disallowed_re") 384) (Value.ref 53)), (DictEntry.mk (PyData.keyHash P (Str.ofString "_formatparam")) (Value.str (Str.ofString "_formatparam") 394) (Value.ref 61)), (DictEntry.mk (PyData.keyHash P (Str.ofString "Headers")) (Value.str (Str.ofString "Headers") 551) (Value.ref 182)), (DictEntry.mk (PyData.keyHash P (Str.ofString "CRLF")) (Value.str (Str.ofString "CRLF") 553) (Value.str (Str.ofString "\x0d\n") 552)), (DictEntry.mk (PyData.keyHash P (Str.ofString "NL")) (Value.str (Str.ofString "NL") 555) (Value.str (Str.ofString "\n") 554)), (DictEntry.mk (PyData.keyHash P (Str.ofString "_QUOPRI_MAP")) (Value.str (Str.ofString "_QUOPRI_MAP") 1583) (Value.ref 189)), (DictEntry.mk (PyData.keyHash P (Str.ofString "_QUOPRI_HEADER_MAP")) (Value.str (Str.ofString "_QUOPRI_HEADER_MAP") 1584) (Value.ref 194)), (DictEntry.mk (PyData.keyHash P (Str.ofString "_QUOPRI_BODY_MAP")) (Value.str (Str.ofString "_QUOPRI_BODY_MAP") 1585) (Value.ref 196)), (DictEntry.mk (PyData.keyHash P (Str.ofString "ascii_lowercase")) (Value.str (Str.ofString "ascii_lowercase") 1587) (Value.str (Str.ofString "abcdefghijklmnopqrstuvwxyz") 1586)), (DictEntry.mk (PyData.keyHash P (Str.ofString "ascii_uppercase")) (Value.str (Str.ofString "ascii_uppercase") 1589) (Value.str (Str.ofString "ABCDEFGHIJKLMNOPQRSTUVWXYZ") 1588)), (DictEntry.mk (PyData.keyHash P (Str.ofString "ascii_letters")) (Value.str (Str.ofString "ascii_letters") 1591) (Value.str (Str.ofString "abcdefghijklmnopqrstuvwxyzABCDEFGHIJKLMNOPQRSTUVWXYZ") 1590)), (DictEntry.mk (PyData.keyHash P (Str.ofString "digits")) (Value.str (Str.ofString "digits") 1593) (Value.str (Str.ofString "0123456789") 1592)), (DictEntry.mk (PyData.keyHash P (Str.ofString "hexdigits")) (Value.str (Str.ofString "hexdigits") 1598) (Value.str (Str.ofString "0123456789abcdefABCDEF") 1597)), (DictEntry.mk (PyData.keyHash P (Str.ofString "unquote")) (Value.str (Str.ofString "unquote") 2104) (Value.ref 209)), (DictEntry.mk (PyData.keyHash P (Str.ofString "quote")) (Value.str (Str.ofString "quote") 2111) (Value.ref 216)), (DictEntry.mk (PyData.keyHash P (Str.ofString "_QUOPRI_BODY_ENCODE_MAP")) (Value.str (Str.ofString "_QUOPRI_BODY_ENCODE_MAP") 2112) (Value.ref 218)), (DictEntry.mk (PyData.keyHash P (Str.ofString "body_encode")) (Value.str (Str.ofString "body_encode") 2139) (Value.ref 229)), (DictEntry.mk (PyData.keyHash P (Str.ofString "decode")) (Value.str (Str.ofString "decode") 2152) (Value.ref 237)), (DictEntry.mk (PyData.keyHash P (Str.ofString "_law_arrows")) (Value.str (Str.ofString "_law_arrows") 2169) (Value.ref 244)), (DictEntry.mk (PyData.keyHash P (Str.ofString "_law_name")) (Value.str (Str.ofString "_law_name") 2177) (Value.ref 251)), (DictEntry.mk (PyData.keyHash P (Str.ofString "_law_put")) (Value.str (Str.ofString "_law_put") 2188) (Value.ref 258)), (DictEntry.mk (PyData.keyHash P (Str.ofString "_law_full")) (Value.str (Str.ofString "_law_full") 2194) (Value.ref 263)), (DictEntry.mk (PyData.keyHash P (Str.ofString "_law_run")) (Value.str (Str.ofString "_law_run") 2200) (Value.ref 268)), (DictEntry.mk (PyData.keyHash P (Str.ofString "_law_chances")) (Value.str (Str.ofString "_law_chances") 2206) (Value.ref 273)), (DictEntry.mk (PyData.keyHash P (Str.ofString "law")) (Value.str (Str.ofString "law") 2223) (Value.ref 280))] 40) #[])) ::
  ((nat_lit 4), (Obj.mk (Value.type "module") (some 0) Data.plain #[])) ::
  ((nat_lit 5), (Obj.mk (Value.type "module") (some 3) Data.plain #[])) ::
  ((nat_lit 6), (Obj.mk (Value.type "dict") none (Data.dict #[] 0) #[])) ::
  ((nat_lit 7), (Obj.mk (Value.type "tuple") none (Data.seq #[] 0) #[])) ::
  ((nat_lit 8), (Obj.mk Value.none none (Data.fields #[]) #[])) ::
  ((nat_lit 9), (Obj.mk (Value.type "code") none (Data.fields #[(Value.str (Str.ofString "<module>") 176), (Value.str (Str.ofString "<module>") 177), (Value.str (Str.ofString "/claim/cut.py") 178), (Value.int 1 0), (Value.int 0 0), (Value.int 0 0), (Value.int 0 0), (Value.int 0 0), (Value.ref 7), (Value.bool Bool.false), (Value.int 175 0), (Value.ref 8), Value.none, Value.none, Value.none, Value.none, (Value.int 179 0), (Value.int 1 0), (Value.str (Str.ofString "/claim/cut.py") 180)]) #[])) ::
  ((nat_lit 10), (Obj.mk (Value.type "frame") none Data.plain #[(some (Value.ref 9)), (some (Value.ref 3)), (some (Value.ref 3)), none, (some (Value.str (Str.ofString "__main__") 164)), none, (some (Value.ref 0))])) ::
  ((nat_lit 11), (Obj.mk (Value.type "dict") none (Data.dict #[(DictEntry.mk (PyData.keyHash P (Str.ofString "__name__")) (Value.str (Str.ofString "__name__") 247) (Value.str (Str.ofString "_sre") 246)), (DictEntry.mk (PyData.keyHash P (Str.ofString "__doc__")) (Value.str (Str.ofString "__doc__") 248) Value.none), (DictEntry.mk (PyData.keyHash P (Str.ofString "__package__")) (Value.str (Str.ofString "__package__") 250) (Value.str (Str.ofString "") 249)), (DictEntry.mk (PyData.keyHash P (Str.ofString "__loader__")) (Value.str (Str.ofString "__loader__") 251) (Value.builtin "off-the-table:_sre.__loader__:shared#opaque")), (DictEntry.mk (PyData.keyHash P (Str.ofString "__spec__")) (Value.str (Str.ofString "__spec__") 252) (Value.builtin "off-the-table:_sre.__spec__:shared#opaque")), (DictEntry.mk (PyData.keyHash P (Str.ofString "compile")) (Value.str (Str.ofString "compile") 253) (Value.builtin "_sre.compile")), (DictEntry.mk (PyData.keyHash P (Str.ofString "template")) (Value.str (Str.ofString "template") 254) (Value.builtin "off-the-table:_sre.template:shared#opaque")), (DictEntry.mk (PyData.keyHash P (Str.ofString "getcodesize")) (Value.str (Str.ofString "getcodesize") 255) (Value.builtin "off-the-table:_sre.getcodesize:shared#opaque")), (DictEntry.mk (PyData.keyHash P (Str.ofString "ascii_iscased")) (Value.str (Str.ofString "ascii_iscased") 256) (Value.builtin "off-the-table:_sre.ascii_iscased:shared#opaque")), (DictEntry.mk (PyData.keyHash P (Str.ofString "unicode_iscased")) (Value.str (Str.ofString "unicode_iscased") 257) (Value.builtin "off-the-table:_sre.unicode_iscased:shared#opaque")), (DictEntry.mk (PyData.keyHash P (Str.ofString "ascii_tolower")) (Value.str (Str.ofString "ascii_tolower") 258) (Value.builtin "off-the-table:_sre.ascii_tolower:shared#opaque")), (DictEntry.mk (PyData.keyHash P (Str.ofString "unicode_tolower")) (Value.str (Str.ofString "unicode_tolower") 259) (Value.builtin "off-the-table:_sre.unicode_tolower:shared#opaque")), (DictEntry.mk (PyData.keyHash P (Str.ofString "MAGIC")) (Value.str (Str.ofString "MAGIC") 261) (Value.int 20230612 260)), (DictEntry.mk (PyData.keyHash P (Str.ofString "CODESIZE")) (Value.str (Str.ofString "CODESIZE") 263) (Value.int 4 262)), (DictEntry.mk (PyData.keyHash P (Str.ofString "MAXREPEAT")) (Value.str (Str.ofString "MAXREPEAT") 265) (Value.int 4294967295 264)), (DictEntry.mk (PyData.keyHash P (Str.ofString "MAXGROUPS")) (Value.str (Str.ofString "MAXGROUPS") 267) (Value.int 1073741823 266)), (DictEntry.mk (PyData.keyHash P (Str.ofString "copyright")) (Value.str (Str.ofString "copyright") 269) (Value.str (Str.ofString " SRE 2.2.2 Copyright (c) 1997-2002 by Secret Labs AB ") 268))] 17) #[])) ::
  ((nat_lit 12), (Obj.mk (Value.type "module") (some 11) Data.plain #[])) ::
  ((nat_lit 13), (Obj.mk (Value.type "dict") none (Data.dict #[(DictEntry.mk (PyData.keyHash P (Str.ofString "__module__")) (Value.str (Str.ofString "__module__") 189) (Value.str (Str.ofString "_frozen_importlib") 186)), (DictEntry.mk (PyData.keyHash P (Str.ofString "__firstlineno__")) (Value.str (Str.ofString "__firstlineno__") 190) (Value.int 971 187)), (DictEntry.mk (PyData.keyHash P (Str.ofString "__doc__")) (Value.str (Str.ofString "__doc__") 191) (Value.builtin "_frozen_importlib.BuiltinImporter.__doc__:str#opaque")), (DictEntry.mk (PyData.keyHash P (Str.ofString "_ORIGIN")) (Value.str (Str.ofString "_ORIGIN") 192) (Value.str (Str.ofString "built-in") 188)), (DictEntry.mk (PyData.keyHash P (Str.ofString "find_spec")) (Value.str (Str.ofString "find_spec") 193) (Value.builtin "_frozen_importlib.BuiltinImporter.find_spec#opaque")), (DictEntry.mk (PyData.keyHash P (Str.ofString "create_module")) (Value.str (Str.ofString "create_module") 194) (Value.builtin "_frozen_importlib.BuiltinImporter.create_module#opaque")), (DictEntry.mk (PyData.keyHash P (Str.ofString "exec_module")) (Value.str (Str.ofString "exec_module") 195) (Value.builtin "_frozen_importlib.BuiltinImporter.exec_module#opaque")), (DictEntry.mk (PyData.keyHash P (Str.ofString "get_code")) (Value.str (Str.ofString "get_code") 196) (Value.builtin "_frozen_importlib.BuiltinImporter.get_code#opaque")), (DictEntry.mk (PyData.keyHash P (Str.ofString "get_source")) (Value.str (Str.ofString "get_source") 197) (Value.builtin "_frozen_importlib.BuiltinImporter.get_source#opaque")), (DictEntry.mk (PyData.keyHash P (Str.ofString "is_package")) (Value.str (Str.ofString "is_package") 198) (Value.builtin "_frozen_importlib.BuiltinImporter.is_package#opaque")), (DictEntry.mk (PyData.keyHash P (Str.ofString "load_module")) (Value.str (Str.ofString "load_module") 199) (Value.builtin "_frozen_importlib.BuiltinImporter.load_module#opaque")), (DictEntry.mk (PyData.keyHash P (Str.ofString "__static_attributes__")) (Value.str (Str.ofString "__static_attributes__") 200) (Value.ref 15)), (DictEntry.mk (PyData.keyHash P (Str.ofString "__dict__")) (Value.str (Str.ofString "__dict__") 202) (Value.ref 16)), (DictEntry.mk (PyData.keyHash P (Str.ofString "__weakref__")) (Value.str (Str.ofString "__weakref__") 204) (Value.ref 17))] 14) #[])) ::
  ((nat_lit 14), (Obj.mk (Value.type "type") none (Data.cls (ClassData.mk (Str.ofString "BuiltinImporter") [(Value.type "object")] [(Value.ref 14), (Value.type "object")] 13 (Str.ofString "BuiltinImporter") Bool.true [] [] Bool.false none Bool.false)) #[])) ::
  ((nat_lit 15), (Obj.mk (Value.type "tuple") none (Data.seq #[] 0) #[])) ::
  ((nat_lit 32), (Obj.mk (Value.type "tuple") none (Data.seq #[] 0) #[])) ::
  ((nat_lit 33), (Obj.mk Value.none none (Data.fields #[]) #[])) ::
  ((nat_lit 34), (Obj.mk (Value.type "tuple") none (Data.seq #[(Value.str (Str.ofString "k") 285)] 0) #[])) ::
  ((nat_lit 35), (Obj.mk (Value.type "tuple") none (Data.seq #[] 0) #[])) ::
  ((nat_lit 36), (Obj.mk Value.none none (Data.func (FuncData.mk (fName (stA P0 [1])) (Str.ofString "_wall") (fArgs (stA P0 [1])) (.stmts (fBody (stA P0 [1]))) (fScope (stA P0 [1])) 0 [] Value.none Value.none Value.none Value.none none Value.none Value.none 0)) #[])) ::
  ((nat_lit 37), (Obj.mk (Value.type "code") none (Data.fields #[(Value.str (Str.ofString "_wall") 282), (Value.str (Str.ofString "_wall") 283), (Value.str (Str.ofString "/claim/cut.py") 284), (Value.int 2 0), (Value.int 1 0), (Value.int 0 0), (Value.int 0 0), (Value.int 3 0), (Value.ref 32), (Value.bool Bool.true), (Value.int 276 0), (Value.ref 33), Value.none, (Value.ref 34), (Value.ref 35), (Value.ref 36), (Value.int 286 0), (Value.int 2 0), (Value.str (Str.ofString "/claim/cut.py") 287)]) #[])) ::
  ((nat_lit 38), (Obj.mk (Value.type "function") none (Data.func (fnOf (fName (stA P0 [1])) (Str.ofString "_wall") (fArgs (stA P0 [1])) (fBody (stA P0 [1])) (fScope (stA P0 [1])) Value.none Value.none Value.none (Value.str (Str.ofString "__main__") 164) none (Value.ref 37) Value.none)) #[])) ::
  ((nat_lit 42), (Obj.mk (Value.type "tuple") none (Data.seq #[(Value.int 14 0), (Value.int 14 0), (Value.int 4 0), (Value.int 1 0), (Value.int 1 0), (Value.int 9 0), (Value.int 0 0), (Value.int 4227896069 0), (Value.int 939524097 0), (Value.int 0 0), (Value.int 0 0), (Value.int 0 0), (Value.int 0 0), (Value.int 0 0), (Value.int 0 0), (Value.int 13 0), (Value.int 11 0), (Value.int 9 0), (Value.int 0 0), (Value.int 4227896069 0), (Value.int 939524097 0), (Value.int 0 0), (Value.int 0 0), (Value.int 0 0), (Value.int 0 0), (Value.int 0 0), (Value.int 0 0), (Value.int 1 0)] 0) #[])) ::
  ((nat_lit 43), (Obj.mk (Value.type "re.Pattern") none (Data.fields #[(Value.str (Str.ofString "[ \\(\\)<>@,;:\\\\\"/\\[\\]\\?=]") 292), (Value.int 32 323), (Value.int 0 0), Value.none, Value.none, (Value.ref 42), (Value.int 0 0)]) #[])) ::
  ((nat_lit 47), (Obj.mk (Value.type "tuple") none (Data.seq #[(Value.int 14 0), (Value.int 10 0), (Value.int 4 0), (Value.int 1 0), (Value.int 1 0), (Value.int 22 0), (Value.int 0 0), (Value.int 31 0), (Value.int 16 0), (Value.int 127 0), (Value.int 0 0), (Value.int 13 0), (Value.int 7 0), (Value.int 22 0), (Value.int 0 0), (Value.int 31 0), (Value.int 16 0), (Value.int 127 0), (Value.int 0 0), (Value.int 1 0)] 0) #[])) ::
  ((nat_lit 48), (Obj.mk (Value.type "re.Pattern") none (Data.fields #[(Value.str (Str.ofString "[\\x00-\\x1F\\x7F]") 326), (Value.int 32 349), (Value.int 0 0), Value.none, Value.none, (Value.ref 47), (Value.int 0 0)]) #[])) ::
  ((nat_lit 52), (Obj.mk (Value.type "tuple") none (Data.seq #[(Value.int 14 0), (Value.int 14 0), (Value.int 4 0), (Value.int 1 0), (Value.int 1 0), (Value.int 9 0), (Value.int 4294966783 0), (Value.int 0 0), (Value.int 0 0), (Value.int 2147483648 0), (Value.int 0 0), (Value.int 0 0), (Value.int 0 0), (Value.int 0 0), (Value.int 0 0), (Value.int 13 0), (Value.int 11 0), (Value.int 9 0), (Value.int 4294966783 0), (Value.int 0 0), (Value.int 0 0), (Value.int 2147483648 0), (Value.int 0 0), (Value.int 0 0), (Value.int 0 0), (Value.int 0 0), (Value.int 0 0), (Value.int 1 0)] 0) #[])) ::
  ((nat_lit 53), (Obj.mk (Value.type "re.Pattern") none (Data.fields #[(Value.str (Str.ofString "[\\x00-\\x08\\x0A-\\x1F\\x7F]") 352), (Value.int 32 383), (Value.int 0 0), Value.none, Value.none, (Value.ref 52), (Value.int 0 0)]) #[])) ::
  ((nat_lit 54), (Obj.mk (Value.type "tuple") none (Data.seq #[Value.none, (Value.int 1 385)] 0) #[])) ::
  ((nat_lit 55), (Obj.mk (Value.type "tuple") none (Data.seq #[] 0) #[])) ::
  ((nat_lit 56), (Obj.mk Value.none none (Data.fields #[]) #[])) ::
  ((nat_lit 57), (Obj.mk (Value.type "tuple") none (Data.seq #[(Value.str (Str.ofString "param") 389), (Value.str (Str.ofString "value") 390), (Value.str (Str.ofString "quote") 391)] 0) #[])) ::
  ((nat_lit 58), (Obj.mk (Value.type "tuple") none (Data.seq #[] 0) #[])) ::
  ((nat_lit 59), (Obj.mk Value.none none (Data.func (FuncData.mk (fName (stA P0 [6])) (Str.ofString "_formatparam") (fArgs (stA P0 [6])) (.stmts (fBody (stA P0 [6]))) (fScope (stA P0 [6])) 0 [] Value.none Value.none Value.none Value.none none Value.none Value.none 0)) #[])) ::
  ((nat_lit 60), (Obj.mk (Value.type "code") none (Data.fields #[(Value.str (Str.ofString "_formatparam") 386), (Value.str (Str.ofString "_formatparam") 387), (Value.str (Str.ofString "/claim/cut.py") 388), (Value.int 9 0), (Value.int 3 0), (Value.int 0 0), (Value.int 0 0), (Value.int 3 0), (Value.ref 55), (Value.bool Bool.true), (Value.int 276 0), (Value.ref 56), Value.none, (Value.ref 57), (Value.ref 58), (Value.ref 59), (Value.int 392 0), (Value.int 9 0), (Value.str (Str.ofString "/claim/cut.py") 393)]) #[])) ::
  ((nat_lit 61), (Obj.mk (Value.type "function") none (Data.func (fnOf (fName (stA P0 [6])) (Str.ofString "_formatparam") (fArgs (stA P0 [6])) (fBody (stA P0 [6])) (fScope (stA P0 [6])) (Value.ref 54) Value.none Value.none (Value.str (Str.ofString "cpy313.wsgiref.headers") 289) none (Value.ref 60) Value.none)) #[])) ::
  ((nat_lit 69), (Obj.mk (Value.type "tuple") none (Data.seq #[Value.none] 0) #[])) ::
  ((nat_lit 70), (Obj.mk (Value.type "tuple") none (Data.seq #[] 0) #[])) ::
  ((nat_lit 71), (Obj.mk Value.none none (Data.fields #[]) #[])) ::
  ((nat_lit 72), (Obj.mk (Value.type "tuple") none (Data.seq #[(Value.str (Str.ofString "self") 410), (Value.str (Str.ofString "headers") 411), (Value.str (Str.ofString "k") 412), (Value.str (Str.ofString "v") 413)] 0) #[])) ::
  ((nat_lit 73), (Obj.mk (Value.type "tuple") none (Data.seq #[] 0) #[])) ::
  ((nat_lit 74), (Obj.mk Value.none none (Data.func (FuncData.mk (fName (stA P0 [7, 0])) (Str.ofString "Headers.__init__") (fArgs (stA P0 [7, 0])) (.stmts (fBody (stA P0 [7, 0]))) (fScope (stA P0 [7, 0])) 0 [] Value.none Value.none Value.none Value.none none Value.none Value.none 0)) #[])) ::
  ((nat_lit 75), (Obj.mk (Value.type "code") none (Data.fields #[(Value.str (Str.ofString "__init__") 407), (Value.str (Str.ofString "Headers.__init__") 408), (Value.str (Str.ofString "/claim/cut.py") 409), (Value.int 20 0), (Value.int 2 0), (Value.int 0 0), (Value.int 0 0), (Value.int 3 0), (Value.ref 70), (Value.bool Bool.true), (Value.int 276 0), (Value.ref 71), Value.none, (Value.ref 72), (Value.ref 73), (Value.ref 74), (Value.int 414 0), (Value.int 20 0), (Value.str (Str.ofString "/claim/cut.py") 415)]) #[])) ::
  ((nat_lit 76), (Obj.mk (Value.type "function") none (Data.func (fnOf (fName (stA P0 [7, 0])) (Str.ofString "Headers.__init__") (fArgs (stA P0 [7, 0])) (fBody (stA P0 [7, 0])) (fScope (stA P0 [7, 0])) (Value.ref 69) Value.none Value.none (Value.str (Str.ofString "cpy313.wsgiref.headers") 289) none (Value.ref 75) Value.none)) #[])) ::
  ((nat_lit 77), (Obj.mk (Value.type "tuple") none (Data.seq #[] 0) #[])) ::
  ((nat_lit 78), (Obj.mk Value.none none (Data.fields #[]) #[])) ::
  ((nat_lit 79), (Obj.mk (Value.type "tuple") none (Data.seq #[(Value.str (Str.ofString "self") 420), (Value.str (Str.ofString "value") 421), (Value.str (Str.ofString "name") 422), (Value.str (Str.ofString "regex") 423)] 0) #[])) ::
  ((nat_lit 80), (Obj.mk (Value.type "tuple") none (Data.seq #[] 0) #[])) ::
  ((nat_lit 81), (Obj.mk Value.none none (Data.func (FuncData.mk (fName (stA P0 [7, 1])) (Str.ofString "Headers._convert_string_type") (fArgs (stA P0 [7, 1])) (.stmts (fBody (stA P0 [7, 1]))) (fScope (stA P0 [7, 1])) 0 [] Value.none Value.none Value.none Value.none none Value.none Value.none 0)) #[])) ::
  ((nat_lit 82), (Obj.mk (Value.type "code") none (Data.fields #[(Value.str (Str.ofString "_convert_string_type") 417), (Value.str (Str.ofString "Headers._convert_string_type") 418), (Value.str (Str.ofString "/claim/cut.py") 419), (Value.int 30 0), (Value.int 2 0), (Value.int 0 0), (Value.int 1 0), (Value.int 3 0), (Value.ref 77), (Value.bool Bool.true), (Value.int 276 0), (Value.ref 78), Value.none, (Value.ref 79), (Value.ref 80), (Value.ref 81), (Value.int 424 0), (Value.int 30 0), (Value.str (Str.ofString "/claim/cut.py") 425)]) #[])) ::
  ((nat_lit 83), (Obj.mk (Value.type "function") none (Data.func (fnOf (fName (stA P0 [7, 1])) (Str.ofString "Headers._convert_string_type") (fArgs (stA P0 [7, 1])) (fBody (stA P0 [7, 1])) (fScope (stA P0 [7, 1])) Value.none Value.none Value.none (Value.str (Str.ofString "cpy313.wsgiref.headers") 289) none (Value.ref 82) Value.none)) #[])) ::
  ((nat_lit 84), (Obj.mk (Value.type "tuple") none (Data.seq #[] 0) #[])) ::
  ((nat_lit 85), (Obj.mk Value.none none (Data.fields #[]) #[])) ::
  ((nat_lit 86), (Obj.mk (Value.type "tuple") none (Data.seq #[(Value.str (Str.ofString "self") 430)] 0) #[])) ::
  ((nat_lit 87), (Obj.mk (Value.type "tuple") none (Data.seq #[] 0) #[])) ::
  ((nat_lit 88), (Obj.mk Value.none none (Data.func (FuncData.mk (fName (stA P0 [7, 2])) (Str.ofString "Headers.__len__") (fArgs (stA P0 [7, 2])) (.stmts (fBody (stA P0 [7, 2]))) (fScope (stA P0 [7, 2])) 0 [] Value.none Value.none Value.none Value.none none Value.none Value.none 0)) #[])) ::
  ((nat_lit 89), (Obj.mk (Value.type "code") none (Data.fields #[(Value.str (Str.ofString "__len__") 427), (Value.str (Str.ofString "Headers.__len__") 428), (Value.str (Str.ofString "/claim/cut.py") 429), (Value.int 38 0), (Value.int 1 0), (Value.int 0 0), (Value.int 0 0), (Value.int 3 0), (Value.ref 84), (Value.bool Bool.true), (Value.int 276 0), (Value.ref 85), Value.none, (Value.ref 86), (Value.ref 87), (Value.ref 88), (Value.int 431 0), (Value.int 38 0), (Value.str (Str.ofString "/claim/cut.py") 432)]) #[])) ::
  ((nat_lit 90), (Obj.mk (Value.type "function") none (Data.func (fnOf (fName (stA P0 [7, 2])) (Str.ofString "Headers.__len__") (fArgs (stA P0 [7, 2])) (fBody (stA P0 [7, 2])) (fScope (stA P0 [7, 2])) Value.none Value.none Value.none (Value.str (Str.ofString "cpy313.wsgiref.headers") 289) none (Value.ref 89) Value.none)) #[])) ::
  ((nat_lit 91), (Obj.mk (Value.type "tuple") none (Data.seq #[] 0) #[])) ::
  ((nat_lit 92), (Obj.mk Value.none none (Data.fields #[]) #[])) ::
  ((nat_lit 93), (Obj.mk (Value.type "tuple") none (Data.seq #[(Value.str (Str.ofString "self") 437), (Value.str (Str.ofString "name") 438), (Value.str (Str.ofString "val") 439)] 0) #[])) ::
  ((nat_lit 94), (Obj.mk (Value.type "tuple") none (Data.seq #[] 0) #[])) ::
  ((nat_lit 95), (Obj.mk Value.none none (Data.func (FuncData.mk (fName (stA P0 [7, 3])) (Str.ofString "Headers.__setitem__") (fArgs (stA P0 [7, 3])) (.stmts (fBody (stA P0 [7, 3]))) (fScope (stA P0 [7, 3])) 0 [] Value.none Value.none Value.none Value.none none Value.none Value.none 0)) #[])) ::
  ((nat_lit 96), (Obj.mk (Value.type "code") none (Data.fields #[(Value.str (Str.ofString "__setitem__") 434), (Value.str (Str.ofString "Headers.__setitem__") 435), (Value.str (Str.ofString "/claim/cut.py") 436), (Value.int 41 0), (Value.int 3 0), (Value.int 0 0), (Value.int 0 0), (Value.int 3 0), (Value.ref 91), (Value.bool Bool.true), (Value.int 276 0), (Value.ref 92), Value.none, (Value.ref 93), (Value.ref 94), (Value.ref 95), (Value.int 440 0), (Value.int 41 0), (Value.str (Str.ofString "/claim/cut.py") 441)]) #[])) ::
  ((nat_lit 97), (Obj.mk (Value.type "function") none (Data.func (fnOf (fName (stA P0 [7, 3])) (Str.ofString "Headers.__setitem__") (fArgs (stA P0 [7, 3])) (fBody (stA P0 [7, 3])) (fScope (stA P0 [7, 3])) Value.none Value.none Value.none (Value.str (Str.ofString "cpy313.wsgiref.headers") 289) none (Value.ref 96) Value.none)) #[])) ::
  ((nat_lit 98), (Obj.mk (Value.type "tuple") none (Data.seq #[] 0) #[])) ::
  ((nat_lit 99), (Obj.mk Value.none none (Data.fields #[]) #[])) ::
  ((nat_lit 100), (Obj.mk Value.none none (Data.func (FuncData.mk (fName (stA P0 [7, 4])) (Str.ofString "Headers.__delitem__") (fArgs (stA P0 [7, 4])) (.stmts (fBody (stA P0 [7, 4]))) (fScope (stA P0 [7, 4])) 0 [] Value.none Value.none Value.none Value.none none Value.none Value.none 0)) #[])) ::
  ((nat_lit 101), (Obj.mk (Value.type "code") none (Data.fields #[(Value.str (Str.ofString "__delitem__") 443), (Value.str (Str.ofString "Headers.__delitem__") 444), (Value.str (Str.ofString "/claim/cut.py") 445), (Value.int 45 0), (Value.int 2 0), (Value.int 0 0), (Value.int 0 0), (Value.int 3 0), (Value.ref 98), (Value.bool Bool.true), (Value.int 276 0), (Value.ref 99), Value.none, Value.none, Value.none, (Value.ref 100), (Value.int 446 0), (Value.int 45 0), (Value.str (Str.ofString "/claim/cut.py") 447)]) #[])) ::
  ((nat_lit 102), (Obj.mk (Value.type "function") none (Data.func (fnOf (fName (stA P0 [7, 4])) (Str.ofString "Headers.__delitem__") (fArgs (stA P0 [7, 4])) (fBody (stA P0 [7, 4])) (fScope (stA P0 [7, 4])) Value.none Value.none Value.none (Value.str (Str.ofString "cpy313.wsgiref.headers") 289) none (Value.ref 101) Value.none)) #[])) ::
  ((nat_lit 103), (Obj.mk (Value.type "tuple") none (Data.seq #[] 0) #[])) ::
  ((nat_lit 104), (Obj.mk Value.none none (Data.fields #[]) #[])) ::
  ((nat_lit 105), (Obj.mk (Value.type "tuple") none (Data.seq #[(Value.str (Str.ofString "self") 452), (Value.str (Str.ofString "name") 453)] 0) #[])) ::
  ((nat_lit 106), (Obj.mk (Value.type "tuple") none (Data.seq #[] 0) #[])) ::
  ((nat_lit 107), (Obj.mk Value.none none (Data.func (FuncData.mk (fName (stA P0 [7, 5])) (Str.ofString "Headers.__getitem__") (fArgs (stA P0 [7, 5])) (.stmts (fBody (stA P0 [7, 5]))) (fScope (stA P0 [7, 5])) 0 [] Value.none Value.none Value.none Value.none none Value.none Value.none 0)) #[])) ::
  ((nat_lit 108), (Obj.mk (Value.type "code") none (Data.fields #[(Value.str (Str.ofString "__getitem__") 449), (Value.str (Str.ofString "Headers.__getitem__") 450), (Value.str (Str.ofString "/claim/cut.py") 451), (Value.int 49 0), (Value.int 2 0), (Value.int 0 0), (Value.int 0 0), (Value.int 3 0), (Value.ref 103), (Value.bool Bool.true), (Value.int 276 0), (Value.ref 104), Value.none, (Value.ref 105), (Value.ref 106), (Value.ref 107), (Value.int 454 0), (Value.int 49 0), (Value.str (Str.ofString "/claim/cut.py") 455)]) #[])) ::
  ((nat_lit 109), (Obj.mk (Value.type "function") none (Data.func (fnOf (fName (stA P0 [7, 5])) (Str.ofString "Headers.__getitem__") (fArgs (stA P0 [7, 5])) (fBody (stA P0 [7, 5])) (fScope (stA P0 [7, 5])) Value.none Value.none Value.none (Value.str (Str.ofString "cpy313.wsgiref.headers") 289) none (Value.ref 108) Value.none)) #[])) ::
  ((nat_lit 110), (Obj.mk (Value.type "tuple") none (Data.seq #[] 0) #[])) ::
  ((nat_lit 111), (Obj.mk Value.none none (Data.fields #[]) #[])) ::
  ((nat_lit 112), (Obj.mk (Value.type "tuple") none (Data.seq #[(Value.str (Str.ofString "self") 460), (Value.str (Str.ofString "name") 461)] 0) #[])) ::
  ((nat_lit 113), (Obj.mk (Value.type "tuple") none (Data.seq #[] 0) #[])) ::
  ((nat_lit 114), (Obj.mk Value.none none (Data.func (FuncData.mk (fName (stA P0 [7, 6])) (Str.ofString "Headers.__contains__") (fArgs (stA P0 [7, 6])) (.stmts (fBody (stA P0 [7, 6]))) (fScope (stA P0 [7, 6])) 0 [] Value.none Value.none Value.none Value.none none Value.none Value.none 0)) #[])) ::
  ((nat_lit 115), (Obj.mk (Value.type "code") none (Data.fields #[(Value.str (Str.ofString "__contains__") 457), (Value.str (Str.ofString "Headers.__contains__") 458), (Value.str (Str.ofString "/claim/cut.py") 459), (Value.int 52 0), (Value.int 2 0), (Value.int 0 0), (Value.int 0 0), (Value.int 3 0), (Value.ref 110), (Value.bool Bool.true), (Value.int 276 0), (Value.ref 111), Value.none, (Value.ref 112), (Value.ref 113), (Value.ref 114), (Value.int 462 0), (Value.int 52 0), (Value.str (Str.ofString "/claim/cut.py") 463)]) #[])) ::
  ((nat_lit 116), (Obj.mk (Value.type "function") none (Data.func (fnOf (fName (stA P0 [7, 6])) (Str.ofString "Headers.__contains__") (fArgs (stA P0 [7, 6])) (fBody (stA P0 [7, 6])) (fScope (stA P0 [7, 6])) Value.none Value.none Value.none (Value.str (Str.ofString "cpy313.wsgiref.headers") 289) none (Value.ref 115) Value.none)) #[])) ::
  ((nat_lit 117), (Obj.mk (Value.type "tuple") none (Data.seq #[] 0) #[])) ::
  ((nat_lit 118), (Obj.mk Value.none none (Data.fields #[]) #[])) ::
  ((nat_lit 119), (Obj.mk Value.none none (Data.func (FuncData.mk (fName (stA P0 [7, 7])) (Str.ofString "Headers.get_all") (fArgs (stA P0 [7, 7])) (.stmts (fBody (stA P0 [7, 7]))) (fScope (stA P0 [7, 7])) 0 [] Value.none Value.none Value.none Value.none none Value.none Value.none 0)) #[])) ::
  ((nat_lit 120), (Obj.mk (Value.type "code") none (Data.fields #[(Value.str (Str.ofString "get_all") 465), (Value.str (Str.ofString "Headers.get_all") 466), (Value.str (Str.ofString "/claim/cut.py") 467), (Value.int 55 0), (Value.int 2 0), (Value.int 0 0), (Value.int 0 0), (Value.int 3 0), (Value.ref 117), (Value.bool Bool.true), (Value.int 276 0), (Value.ref 118), Value.none, Value.none, Value.none, (Value.ref 119), (Value.int 468 0), (Value.int 55 0), (Value.str (Str.ofString "/claim/cut.py") 469)]) #[])) ::
  ((nat_lit 121), (Obj.mk (Value.type "function") none (Data.func (fnOf (fName (stA P0 [7, 7])) (Str.ofString "Headers.get_all") (fArgs (stA P0 [7, 7])) (fBody (stA P0 [7, 7])) (fScope (stA P0 [7, 7])) Value.none Value.none Value.none (Value.str (Str.ofString "cpy313.wsgiref.headers") 289) none (Value.ref 120) Value.none)) #[])) ::
  ((nat_lit 122), (Obj.mk (Value.type "tuple") none (Data.seq #[Value.none] 0) #[])) ::
  ((nat_lit 123), (Obj.mk (Value.type "tuple") none (Data.seq #[] 0) #[])) ::
  ((nat_lit 124), (Obj.mk Value.none none (Data.fields #[]) #[])) ::
  ((nat_lit 125), (Obj.mk (Value.type "tuple") none (Data.seq #[(Value.str (Str.ofString "self") 474), (Value.str (Str.ofString "name") 475), (Value.str (Str.ofString "default") 476), (Value.str (Str.ofString "k") 477), (Value.str (Str.ofString "v") 478)] 0) #[])) ::
  ((nat_lit 126), (Obj.mk (Value.type "tuple") none (Data.seq #[] 0) #[])) ::
  ((nat_lit 127), (Obj.mk Value.none none (Data.func (FuncData.mk (fName (stA P0 [7, 8])) (Str.ofString "Headers.get") (fArgs (stA P0 [7, 8])) (.stmts (fBody (stA P0 [7, 8]))) (fScope (stA P0 [7, 8])) 0 [] Value.none Value.none Value.none Value.none none Value.none Value.none 0)) #[])) ::
  ((nat_lit 128), (Obj.mk (Value.type "code") none (Data.fields #[(Value.str (Str.ofString "get") 471), (Value.str (Str.ofString "Headers.get") 472), (Value.str (Str.ofString "/claim/cut.py") 473), (Value.int 59 0), (Value.int 3 0), (Value.int 0 0), (Value.int 0 0), (Value.int 3 0), (Value.ref 123), (Value.bool Bool.true), (Value.int 276 0), (Value.ref 124), Value.none, (Value.ref 125), (Value.ref 126), (Value.ref 127), (Value.int 479 0), (Value.int 59 0), (Value.str (Str.ofString "/claim/cut.py") 480)]) #[])) ::
  ((nat_lit 129), (Obj.mk (Value.type "function") none (Data.func (fnOf (fName (stA P0 [7, 8])) (Str.ofString "Headers.get") (fArgs (stA P0 [7, 8])) (fBody (stA P0 [7, 8])) (fScope (stA P0 [7, 8])) (Value.ref 122) Value.none Value.none (Value.str (Str.ofString "cpy313.wsgiref.headers") 289) none (Value.ref 128) Value.none)) #[])) ::
  ((nat_lit 130), (Obj.mk (Value.type "tuple") none (Data.seq #[] 0) #[])) ::
  ((nat_lit 131), (Obj.mk Value.none none (Data.fields #[]) #[])) ::
  ((nat_lit 132), (Obj.mk Value.none none (Data.func (FuncData.mk (fName (stA P0 [7, 9])) (Str.ofString "Headers.keys") (fArgs (stA P0 [7, 9])) (.stmts (fBody (stA P0 [7, 9]))) (fScope (stA P0 [7, 9])) 0 [] Value.none Value.none Value.none Value.none none Value.none Value.none 0)) #[])) ::
  ((nat_lit 133), (Obj.mk (Value.type "code") none (Data.fields #[(Value.str (Str.ofString "keys") 482), (Value.str (Str.ofString "Headers.keys") 483), (Value.str (Str.ofString "/claim/cut.py") 484), (Value.int 66 0), (Value.int 1 0), (Value.int 0 0), (Value.int 0 0), (Value.int 3 0), (Value.ref 130), (Value.bool Bool.true), (Value.int 276 0), (Value.ref 131), Value.none, Value.none, Value.none, (Value.ref 132), (Value.int 485 0), (Value.int 66 0), (Value.str (Str.ofString "/claim/cut.py") 486)]) #[])) ::
  ((nat_lit 134), (Obj.mk (Value.type "function") none (Data.func (fnOf (fName (stA P0 [7, 9])) (Str.ofString "Headers.keys") (fArgs (stA P0 [7, 9])) (fBody (stA P0 [7, 9])) (fScope (stA P0 [7, 9])) Value.none Value.none Value.none (Value.str (Str.ofString "cpy313.wsgiref.headers") 289) none (Value.ref 133) Value.none)) #[])) ::
  ((nat_lit 135), (Obj.mk (Value.type "tuple") none (Data.seq #[] 0) #[])) ::
  ((nat_lit 136), (Obj.mk Value.none none (Data.fields #[]) #[])) ::
  ((nat_lit 137), (Obj.mk Value.none none (Data.func (FuncData.mk (fName (stA P0 [7, 10])) (Str.ofString "Headers.values") (fArgs (stA P0 [7, 10])) (.stmts (fBody (stA P0 [7, 10]))) (fScope (stA P0 [7, 10])) 0 [] Value.none Value.none Value.none Value.none none Value.none Value.none 0)) #[])) ::
  ((nat_lit 138), (Obj.mk (Value.type "code") none (Data.fields #[(Value.str (Str.ofString "values") 488), (Value.str (Str.ofString "Headers.values") 489), (Value.str (Str.ofString "/claim/cut.py") 490), (Value.int 69 0), (Value.int 1 0), (Value.int 0 0), (Value.int 0 0), (Value.int 3 0), (Value.ref 135), (Value.bool Bool.true), (Value.int 276 0), (Value.ref 136), Value.none, Value.none, Value.none, (Value.ref 137), (Value.int 491 0), (Value.int 69 0), (Value.str (Str.ofString "/claim/cut.py") 492)]) #[])) ::
  ((nat_lit 139), (Obj.mk (Value.type "function") none (Data.func (fnOf (fName (stA P0 [7, 10])) (Str.ofString "Headers.values") (fArgs (stA P0 [7, 10])) (fBody (stA P0 [7, 10])) (fScope (stA P0 [7, 10])) Value.none Value.none Value.none (Value.str (Str.ofString "cpy313.wsgiref.headers") 289) none (Value.ref 138) Value.none)) #[])) ::
  ((nat_lit 140), (Obj.mk (Value.type "tuple") none (Data.seq #[] 0) #[])) ::
  ((nat_lit 141), (Obj.mk Value.none none (Data.fields #[]) #[])) ::
  ((nat_lit 142), (Obj.mk (Value.type "tuple") none (Data.seq #[(Value.str (Str.ofString "self") 497)] 0) #[])) ::
  ((nat_lit 143), (Obj.mk (Value.type "tuple") none (Data.seq #[] 0) #[])) ::
  ((nat_lit 144), (Obj.mk Value.none none (Data.func (FuncData.mk (fName (stA P0 [7, 11])) (Str.ofString "Headers.items") (fArgs (stA P0 [7, 11])) (.stmts (fBody (stA P0 [7, 11]))) (fScope (stA P0 [7, 11])) 0 [] Value.none Value.none Value.none Value.none none Value.none Value.none 0)) #[])) ::
  ((nat_lit 145), (Obj.mk (Value.type "code") none (Data.fields #[(Value.str (Str.ofString "items") 494), (Value.str (Str.ofString "Headers.items") 495), (Value.str (Str.ofString "/claim/cut.py") 496), (Value.int 72 0), (Value.int 1 0), (Value.int 0 0), (Value.int 0 0), (Value.int 3 0), (Value.ref 140), (Value.bool Bool.true), (Value.int 276 0), (Value.ref 141), Value.none, (Value.ref 142), (Value.ref 143), (Value.ref 144), (Value.int 498 0), (Value.int 72 0), (Value.str (Str.ofString "/claim/cut.py") 499)]) #[])) ::
  ((nat_lit 146), (Obj.mk (Value.type "function") none (Data.func (fnOf (fName (stA P0 [7, 11])) (Str.ofString "Headers.items") (fArgs (stA P0 [7, 11])) (fBody (stA P0 [7, 11])) (fScope (stA P0 [7, 11])) Value.none Value.none Value.none (Value.str (Str.ofString "cpy313.wsgiref.headers") 289) none (Value.ref 145) Value.none)) #[])) ::
  ((nat_lit 147), (Obj.mk (Value.type "tuple") none (Data.seq #[] 0) #[])) ::
  ((nat_lit 148), (Obj.mk Value.none none (Data.fields #[]) #[])) ::
  ((nat_lit 149), (Obj.mk (Value.type "tuple") none (Data.seq #[(Value.str (Str.ofString "self") 504)] 0) #[])) ::
  ((nat_lit 150), (Obj.mk (Value.type "tuple") none (Data.seq #[] 0) #[])) ::
  ((nat_lit 151), (Obj.mk Value.none none (Data.func (FuncData.mk (fName (stA P0 [7, 12])) (Str.ofString "Headers.__repr__") (fArgs (stA P0 [7, 12])) (.stmts (fBody (stA P0 [7, 12]))) (fScope (stA P0 [7, 12])) 0 [] Value.none Value.none Value.none Value.none none Value.none Value.none 0)) #[])) ::
  ((nat_lit 152), (Obj.mk (Value.type "code") none (Data.fields #[(Value.str (Str.ofString "__repr__") 501), (Value.str (Str.ofString "Headers.__repr__") 502), (Value.str (Str.ofString "/claim/cut.py") 503), (Value.int 75 0), (Value.int 1 0), (Value.int 0 0), (Value.int 0 0), (Value.int 3 0), (Value.ref 147), (Value.bool Bool.true), (Value.int 276 0), (Value.ref 148), Value.none, (Value.ref 149), (Value.ref 150), (Value.ref 151), (Value.int 505 0), (Value.int 75 0), (Value.str (Str.ofString "/claim/cut.py") 506)]) #[])) ::
  ((nat_lit 153), (Obj.mk (Value.type "function") none (Data.func (fnOf (fName (stA P0 [7, 12])) (Str.ofString "Headers.__repr__") (fArgs (stA P0 [7, 12])) (fBody (stA P0 [7, 12])) (fScope (stA P0 [7, 12])) Value.none Value.none Value.none (Value.str (Str.ofString "cpy313.wsgiref.headers") 289) none (Value.ref 152) Value.none)) #[])) ::
  ((nat_lit 154), (Obj.mk (Value.type "tuple") none (Data.seq #[] 0) #[])) ::
  ((nat_lit 155), (Obj.mk Value.none none (Data.fields #[]) #[])) ::
  ((nat_lit 156), (Obj.mk Value.none none (Data.func (FuncData.mk (fName (stA P0 [7, 13])) (Str.ofString "Headers.__str__") (fArgs (stA P0 [7, 13])) (.stmts (fBody (stA P0 [7, 13]))) (fScope (stA P0 [7, 13])) 0 [] Value.none Value.none Value.none Value.none none Value.none Value.none 0)) #[])) ::
  ((nat_lit 157), (Obj.mk (Value.type "code") none (Data.fields #[(Value.str (Str.ofString "__str__") 508), (Value.str (Str.ofString "Headers.__str__") 509), (Value.str (Str.ofString "/claim/cut.py") 510), (Value.int 78 0), (Value.int 1 0), (Value.int 0 0), (Value.int 0 0), (Value.int 3 0), (Value.ref 154), (Value.bool Bool.true), (Value.int 276 0), (Value.ref 155), Value.none, Value.none, Value.none, (Value.ref 156), (Value.int 511 0), (Value.int 78 0), (Value.str (Str.ofString "/claim/cut.py") 512)]) #[])) ::
  ((nat_lit 158), (Obj.mk (Value.type "function") none (Data.func (fnOf (fName (stA P0 [7, 13])) (Str.ofString "Headers.__str__") (fArgs (stA P0 [7, 13])) (fBody (stA P0 [7, 13])) (fScope (stA P0 [7, 13])) Value.none Value.none Value.none (Value.str (Str.ofString "cpy313.wsgiref.headers") 289) none (Value.ref 157) Value.none)) #[])) ::
  ((nat_lit 159), (Obj.mk (Value.type "tuple") none (Data.seq #[] 0) #[])) ::
  ((nat_lit 160), (Obj.mk Value.none none (Data.fields #[]) #[])) ::
  ((nat_lit 161), (Obj.mk (Value.type "tuple") none (Data.seq #[(Value.str (Str.ofString "self") 517)] 0) #[])) ::
  ((nat_lit 162), (Obj.mk (Value.type "tuple") none (Data.seq #[] 0) #[])) ::
  ((nat_lit 163), (Obj.mk Value.none none (Data.func (FuncData.mk (fName (stA P0 [7, 14])) (Str.ofString "Headers.__bytes__") (fArgs (stA P0 [7, 14])) (.stmts (fBody (stA P0 [7, 14]))) (fScope (stA P0 [7, 14])) 0 [] Value.none Value.none Value.none Value.none none Value.none Value.none 0)) #[])) ::
  ((nat_lit 164), (Obj.mk (Value.type "code") none (Data.fields #[(Value.str (Str.ofString "__bytes__") 514), (Value.str (Str.ofString "Headers.__bytes__") 515), (Value.str (Str.ofString "/claim/cut.py") 516), (Value.int 81 0), (Value.int 1 0), (Value.int 0 0), (Value.int 0 0), (Value.int 3 0), (Value.ref 159), (Value.bool Bool.true), (Value.int 276 0), (Value.ref 160), Value.none, (Value.ref 161), (Value.ref 162), (Value.ref 163), (Value.int 518 0), (Value.int 81 0), (Value.str (Str.ofString "/claim/cut.py") 519)]) #[])) ::
  ((nat_lit 165), (Obj.mk (Value.type "function") none (Data.func (fnOf (fName (stA P0 [7, 14])) (Str.ofString "Headers.__bytes__") (fArgs (stA P0 [7, 14])) (fBody (stA P0 [7, 14])) (fScope (stA P0 [7, 14])) Value.none Value.none Value.none (Value.str (Str.ofString "cpy313.wsgiref.headers") 289) none (Value.ref 164) Value.none)) #[])) ::
  ((nat_lit 166), (Obj.mk (Value.type "tuple") none (Data.seq #[] 0) #[])) ::
  ((nat_lit 167), (Obj.mk Value.none none (Data.fields #[]) #[])) ::
  ((nat_lit 168), (Obj.mk (Value.type "tuple") none (Data.seq #[(Value.str (Str.ofString "self") 524), (Value.str (Str.ofString "name") 525), (Value.str (Str.ofString "value") 526)] 0) #[])) ::
  ((nat_lit 169), (Obj.mk (Value.type "tuple") none (Data.seq #[] 0) #[])) ::
  ((nat_lit 170), (Obj.mk Value.none none (Data.func (FuncData.mk (fName (stA P0 [7, 15])) (Str.ofString "Headers.setdefault") (fArgs (stA P0 [7, 15])) (.stmts (fBody (stA P0 [7, 15]))) (fScope (stA P0 [7, 15])) 0 [] Value.none Value.none Value.none Value.none none Value.none Value.none 0)) #[])) ::
  ((nat_lit 171), (Obj.mk (Value.type "code") none (Data.fields #[(Value.str (Str.ofString "setdefault") 521), (Value.str (Str.ofString "Headers.setdefault") 522), (Value.str (Str.ofString "/claim/cut.py") 523), (Value.int 84 0), (Value.int 3 0), (Value.int 0 0), (Value.int 0 0), (Value.int 3 0), (Value.ref 166), (Value.bool Bool.true), (Value.int 276 0), (Value.ref 167), Value.none, (Value.ref 168), (Value.ref 169), (Value.ref 170), (Value.int 527 0), (Value.int 84 0), (Value.str (Str.ofString "/claim/cut.py") 528)]) #[])) ::
  ((nat_lit 172), (Obj.mk (Value.type "function") none (Data.func (fnOf (fName (stA P0 [7, 15])) (Str.ofString "Headers.setdefault") (fArgs (stA P0 [7, 15])) (fBody (stA P0 [7, 15])) (fScope (stA P0 [7, 15])) Value.none Value.none Value.none (Value.str (Str.ofString "cpy313.wsgiref.headers") 289) none (Value.ref 171) Value.none)) #[])) ::
  ((nat_lit 173), (Obj.mk (Value.type "tuple") none (Data.seq #[] 0) #[])) ::
  ((nat_lit 174), (Obj.mk Value.none none (Data.fields #[]) #[])) ::
  ((nat_lit 175), (Obj.mk (Value.type "tuple") none (Data.seq #[(Value.str (Str.ofString "self") 533), (Value.str (Str.ofString "_name") 534), (Value.str (Str.ofString "_value") 535), (Value.str (Str.ofString "_params") 536), (Value.str (Str.ofString "parts") 537), (Value.str (Str.ofString "k") 538), (Value.str (Str.ofString "v") 539)] 0) #[])) ::
  ((nat_lit 176), (Obj.mk (Value.type "tuple") none (Data.seq #[] 0) #[])) ::
  ((nat_lit 177), (Obj.mk Value.none none (Data.func (FuncData.mk (fName (stA P0 [7, 16])) (Str.ofString "Headers.add_header") (fArgs (stA P0 [7, 16])) (.stmts (fBody (stA P0 [7, 16]))) (fScope (stA P0 [7, 16])) 0 [] Value.none Value.none Value.none Value.none none Value.none Value.none 0)) #[])) ::
  ((nat_lit 178), (Obj.mk (Value.type "code") none (Data.fields #[(Value.str (Str.ofString "add_header") 530), (Value.str (Str.ofString "Headers.add_header") 531), (Value.str (Str.ofString "/claim/cut.py") 532), (Value.int 87 0), (Value.int 3 0), (Value.int 0 0), (Value.int 0 0), (Value.int 11 0), (Value.ref 173), (Value.bool Bool.true), (Value.int 276 0), (Value.ref 174), Value.none, (Value.ref 175), (Value.ref 176), (Value.ref 177), (Value.int 540 0), (Value.int 87 0), (Value.str (Str.ofString "/claim/cut.py") 541)]) #[])) ::
  ((nat_lit 179), (Obj.mk (Value.type "function") none (Data.func (fnOf (fName (stA P0 [7, 16])) (Str.ofString "Headers.add_header") (fArgs (stA P0 [7, 16])) (fBody (stA P0 [7, 16])) (fScope (stA P0 [7, 16])) Value.none Value.none Value.none (Value.str (Str.ofString "cpy313.wsgiref.headers") 289) none (Value.ref 178) Value.none)) #[])) ::
  ((nat_lit 180), (Obj.mk (Value.type "tuple") none (Data.seq #[(Value.str (Str.ofString "_headers") 543)] 0) #[])) ::
  ((nat_lit 181), (Obj.mk (Value.type "dict") none (Data.dict #[(DictEntry.mk (PyData.keyHash P (Str.ofString "__module__")) (Value.str (Str.ofString "__module__") 402) (Value.str (Str.ofString "cpy313.wsgiref.headers") 289)), (DictEntry.mk (PyData.keyHash P (Str.ofString "__firstlineno__")) (Value.str (Str.ofString "__firstlineno__") 406) (Value.int 18 405)), (DictEntry.mk (PyData.keyHash P (Str.ofString "__init__")) (Value.str (Str.ofString "__init__") 416) (Value.ref 76)), (DictEntry.mk (PyData.keyHash P (Str.ofString "_convert_string_type")) (Value.str (Str.ofString "_convert_string_type") 426) (Value.ref 83)), (DictEntry.mk (PyData.keyHash P (Str.ofString "__len__")) (Value.str (Str.ofString "__len__") 433) (Value.ref 90)), (DictEntry.mk (PyData.keyHash P (Str.ofString "__setitem__")) (Value.str (Str.ofString "__setitem__") 442) (Value.ref 97)), (DictEntry.mk (PyData.keyHash P (Str.ofString "__delitem__")) (Value.str (Str.ofString "__delitem__") 448) (Value.ref 102)), (DictEntry.mk (PyData.keyHash P (Str.ofString "__getitem__")) (Value.str (Str.ofString "__getitem__") 456) (Value.ref 109)), (DictEntry.mk (PyData.keyHash P (Str.ofString "__contains__")) (Value.str (Str.ofString "__contains__") 464) (Value.ref 116)), (DictEntry.mk (PyData.keyHash P (Str.ofString "get_all")) (Value.str (Str.ofString "get_all") 470) (Value.ref 121)), (DictEntry.mk (PyData.keyHash P (Str.ofString "get")) (Value.str (Str.ofString "get") 481) (Value.ref 129)), (DictEntry.mk (PyData.keyHash P (Str.ofString "keys")) (Value.str (Str.ofString "keys") 487) (Value.ref 134)), (DictEntry.mk (PyData.keyHash P (Str.ofString "values")) (Value.str (Str.ofString "values") 493) (Value.ref 139)), (DictEntry.mk (PyData.keyHash P (Str.ofString "items")) (Value.str (Str.ofString "items") 500) (Value.ref 146)), (DictEntry.mk (PyData.keyHash P (Str.ofString "__repr__")) (Value.str (Str.ofString "__repr__") 507) (Value.ref 153)), (DictEntry.mk (PyData.keyHash P (Str.ofString "__str__")) (Value.str (Str.ofString "__str__") 513) (Value.ref 158)), (DictEntry.mk (PyData.keyHash P (Str.ofString "__bytes__")) (Value.str (Str.ofString "__bytes__") 520) (Value.ref 165)), (DictEntry.mk (PyData.keyHash P (Str.ofString "setdefault")) (Value.str (Str.ofString "setdefault") 529) (Value.ref 172)), (DictEntry.mk (PyData.keyHash P (Str.ofString "add_header")) (Value.str (Str.ofString "add_header") 542) (Value.ref 179)), (DictEntry.mk (PyData.keyHash P (Str.ofString "__static_attributes__")) (Value.str (Str.ofString "__static_attributes__") 544) (Value.ref 180)), (DictEntry.mk (PyData.keyHash P (Str.ofString "__dict__")) (Value.str (Str.ofString "__dict__") 546) (Value.ref 183)), (DictEntry.mk (PyData.keyHash P (Str.ofString "__weakref__")) (Value.str (Str.ofString "__weakref__") 548) (Value.ref 184)), (DictEntry.mk (PyData.keyHash P (Str.ofString "__doc__")) (Value.str (Str.ofString "__doc__") 549) Value.none)] 4) #[])) ::
  ((nat_lit 182), (Obj.mk (Value.type "type") none (Data.cls (ClassData.mk (Str.ofString "Headers") [(Value.type "object")] [(Value.ref 182), (Value.type "object")] 181 (Str.ofString "Headers") Bool.true [] [] Bool.false none Bool.false)) #[none, none, (some (Value.str (Str.ofString "Headers") 395)), (some (Value.str (Str.ofString "Headers") 403)), (some (Value.builtin "object.__new__")), (some (Value.bool Bool.true))])) ::
  ((nat_lit 183), (Obj.mk (Value.type "getset_descriptor") none (Data.fields #[(Value.str (Str.ofString "__dict__") 545), (Value.ref 182), (Value.builtin "function.__dict__"), (Value.builtin "function.__dict__#set")]) #[])) ::
  ((nat_lit 184), (Obj.mk (Value.type "getset_descriptor") none (Data.fields #[(Value.str (Str.ofString "__weakref__") 547), (Value.ref 182), (Value.builtin "ExceptionGroup.__weakref__"), Value.none]) #[])) ::
  ((nat_lit 189), (Obj.mk (Value.type "list") none (Data.seq #[(Value.str (Str.ofString "=00") 562), (Value.str (Str.ofString "=01") 566), (Value.str (Str.ofString "=02") 570), (Value.str (Str.ofString "=03") 574), (Value.str (Str.ofString "=04") 578), (Value.str (Str.ofString "=05") 582), (Value.str (Str.ofString "=06") 586), (Value.str (Str.ofString "=07") 590), (Value.str (Str.ofString "=08") 594), (Value.str (Str.ofString "=09") 598), (Value.str (Str.ofString "=0A") 602), (Value.str (Str.ofString "=0B") 606), (Value.str (Str.ofString "=0C") 610), (Value.str (Str.ofString "=0D") 614), (Value.str (Str.ofString "=0E") 618), (Value.str (Str.ofString "=0F") 622), (Value.str (Str.ofString "=10") 626), (Value.str (Str.ofString "=11") 630), (Value.str (Str.ofString "=12") 634), (Value.str (Str.ofString "=13") 638), (Value.str (Str.ofString "=14") 642), (Value.str (Str.ofString "=15") 646), (Value.str (Str.ofString "=16") 650), (Value.str (Str.ofString "=17") 654), (Value.str (Str.ofString "=18") 658), (Value.str (Str.ofString "=19") 662), (Value.str (Str.ofString "=1A") 666), (Value.str (Str.ofString "=1B") 670), (Value.str (Str.ofString "=1C") 674), (Value.str (Str.ofString "=1D") 678), (Value.str (Str.ofString "=1E") 682), (Value.str (Str.ofString "=1F") 686), (Value.str (Str.ofString "=20") 690), (Value.str (Str.ofString "=21") 694), (Value.str (Str.ofString "=22") 698), (Value.str (Str.ofString "=23") 702), (Value.str (Str.ofString "=24") 706), (Value.str (Str.ofString "=25") 710), (Value.str (Str.ofString "=26") 714), (Value.str (Str.ofString "=27") 718), (Value.str (Str.ofString "=28") 722), (Value.str (Str.ofString "=29") 726), (Value.str (Str.ofString "=2A") 730), (Value.str (Str.ofString "=2B") 734), (Value.str (Str.ofString "=2C") 738), (Value.str (Str.ofString "=2D") 742), (Value.str (Str.ofString "=2E") 746), (Value.str (Str.ofString "=2F") 750), (Value.str (Str.ofString "=30") 754), (Value.str (Str.ofString "=31") 758), (Value.str (Str.ofString "=32") 762), (Value.str (Str.ofString "=33") 766), (Value.str (Str.ofString "=34") 770), (Value.str (Str.ofString "=35") 774), (Value.str (Str.ofString "=36") 778), (Value.str (Str.ofString "=37") 782), (Value.str (Str.ofString "=38") 786), (Value.str (Str.ofString "=39") 790), (Value.str (Str.ofString "=3A") 794), (Value.str (Str.ofString "=3B") 798), (Value.str (Str.ofString "=3C") 802), (Value.str (Str.ofString "=3D") 806), (Value.str (Str.ofString "=3E") 810), (Value.str (Str.ofString "=3F") 814), (Value.str (Str.ofString "=40") 818), (Value.str (Str.ofString "=41") 822), (Value.str (Str.ofString "=42") 826), (Value.str (Str.ofString "=43") 830), (Value.str (Str.ofString "=44") 834), (Value.str (Str.ofString "=45") 838), (Value.str (Str.ofString "=46") 842), (Value.str (Str.ofString "=47") 846), (Value.str (Str.ofString "=48") 850), (Value.str (Str.ofString "=49") 854), (Value.str (Str.ofString "=4A") 858), (Value.str (Str.ofString "=4B") 862), (Value.str (Str.ofString "=4C") 866), (Value.str (Str.ofString "=4D") 870), (Value.str (Str.ofString "=4E") 874), (Value.str (Str.ofString "=4F") 878), (Value.str (Str.ofString "=50") 882), (Value.str (Str.ofString "=51") 886), (Value.str (Str.ofString "=52") 890), (Value.str (Str.ofString "=53") 894), (Value.str (Str.ofString "=54") 898), (Value.str (Str.ofString "=55") 902), (Value.str (Str.ofString "=56") 906), (Value.str (Str.ofString "=57") 910), (Value.str (Str.ofString "=58") 914), (Value.str (Str.ofString "=59") 918), (Value.str (Str.ofString "=5A") 922), (Value.str (Str.ofString "=5B") 926), (Value.str (Str.ofString "=5C") 930), (Value.str (Str.ofString "=5D") 934), (Value.str (Str.ofString "=5E") 938), (Value.str (Str.ofString "=5F") 942), (Value.str (Str.ofString "=60") 946), (Value.str (Str.ofString "=61") 950), (Value.str (Str.ofString "=62") 954), (Value.str (Str.ofString "=63") 958), (Value.str (Str.ofString "=64") 962), (Value.str (Str.ofString "=65") 966), (Value.str (Str.ofString "=66") 970), (Value.str (Str.ofString "=67") 974), (Value.str (Str.ofString "=68") 978), (Value.str (Str.ofString "=69") 982), (Value.str (Str.ofString "=6A") 986), (Value.str (Str.ofString "=6B") 990), (Value.str (Str.ofString "=6C") 994), (Value.str (Str.ofString "=6D") 998), (Value.str (Str.ofString "=6E") 1002), (Value.str (Str.ofString "=6F") 1006), (Value.str (Str.ofString "=70") 1010), (Value.str (Str.ofString "=71") 1014), (Value.str (Str.ofString "=72") 1018), (Value.str (Str.ofString "=73") 1022), (Value.str (Str.ofString "=74") 1026), (Value.str (Str.ofString "=75") 1030), (Value.str (Str.ofString "=76") 1034), (Value.str (Str.ofString "=77") 1038), (Value.str (Str.ofString "=78") 1042), (Value.str (Str.ofString "=79") 1046), (Value.str (Str.ofString "=7A") 1050), (Value.str (Str.ofString "=7B") 1054), (Value.str (Str.ofString "=7C") 1058), (Value.str (Str.ofString "=7D") 1062), (Value.str (Str.ofString "=7E") 1066), (Value.str (Str.ofString "=7F") 1070), (Value.str (Str.ofString "=80") 1074), (Value.str (Str.ofString "=81") 1078), (Value.str (Str.ofString "=82") 1082), (Value.str (Str.ofString "=83") 1086), (Value.str (Str.ofString "=84") 1090), (Value.str (Str.ofString "=85") 1094), (Value.str (Str.ofString "=86") 1098), (Value.str (Str.ofString "=87") 1102), (Value.str (Str.ofString "=88") 1106), (Value.str (Str.ofString "=89") 1110), (Value.str (Str.ofString "=8A") 1114), (Value.str (Str.ofString "=8B") 1118), (Value.str (Str.ofString "=8C") 1122), (Value.str (Str.ofString "=8D") 1126), (Value.str (Str.ofString "=8E") 1130), (Value.str (Str.ofString "=8F") 1134), (Value.str (Str.ofString "=90") 1138), (Value.str (Str.ofString "=91") 1142), (Value.str (Str.ofString "=92") 1146), (Value.str (Str.ofString "=93") 1150), (Value.str (Str.ofString "=94") 1154), (Value.str (Str.ofString "=95") 1158), (Value.str (Str.ofString "=96") 1162), (Value.str (Str.ofString "=97") 1166), (Value.str (Str.ofString "=98") 1170), (Value.str (Str.ofString "=99") 1174), (Value.str (Str.ofString "=9A") 1178), (Value.str (Str.ofString "=9B") 1182), (Value.str (Str.ofString "=9C") 1186), (Value.str (Str.ofString "=9D") 1190), (Value.str (Str.ofString "=9E") 1194), (Value.str (Str.ofString "=9F") 1198), (Value.str (Str.ofString "=A0") 1202), (Value.str (Str.ofString "=A1") 1206), (Value.str (Str.ofString "=A2") 1210), (Value.str (Str.ofString "=A3") 1214), (Value.str (Str.ofString "=A4") 1218), (Value.str (Str.ofString "=A5") 1222), (Value.str (Str.ofString "=A6") 1226), (Value.str (Str.ofString "=A7") 1230), (Value.str (Str.ofString "=A8") 1234), (Value.str (Str.ofString "=A9") 1238), (Value.str (Str.ofString "=AA") 1242), (Value.str (Str.ofString "=AB") 1246), (Value.str (Str.ofString "=AC") 1250), (Value.str (Str.ofString "=AD") 1254), (Value.str (Str.ofString "=AE") 1258), (Value.str (Str.ofString "=AF") 1262), (Value.str (Str.ofString "=B0") 1266), (Value.str (Str.ofString "=B1") 1270), (Value.str (Str.ofString "=B2") 1274), (Value.str (Str.ofString "=B3") 1278), (Value.str (Str.ofString "=B4") 1282), (Value.str (Str.ofString "=B5") 1286), (Value.str (Str.ofString "=B6") 1290), (Value.str (Str.ofString "=B7") 1294), (Value.str (Str.ofString "=B8") 1298), (Value.str (Str.ofString "=B9") 1302), (Value.str (Str.ofString "=BA") 1306), (Value.str (Str.ofString "=BB") 1310), (Value.str (Str.ofString "=BC") 1314), (Value.str (Str.ofString "=BD") 1318), (Value.str (Str.ofString "=BE") 1322), (Value.str (Str.ofString "=BF") 1326), (Value.str (Str.ofString "=C0") 1330), (Value.str (Str.ofString "=C1") 1334), (Value.str (Str.ofString "=C2") 1338), (Value.str (Str.ofString "=C3") 1342), (Value.str (Str.ofString "=C4") 1346), (Value.str (Str.ofString "=C5") 1350), (Value.str (Str.ofString "=C6") 1354), (Value.str (Str.ofString "=C7") 1358), (Value.str (Str.ofString "=C8") 1362), (Value.str (Str.ofString "=C9") 1366), (Value.str (Str.ofString "=CA") 1370), (Value.str (Str.ofString "=CB") 1374), (Value.str (Str.ofString "=CC") 1378), (Value.str (Str.ofString "=CD") 1382), (Value.str (Str.ofString "=CE") 1386), (Value.str (Str.ofString "=CF") 1390), (Value.str (Str.ofString "=D0") 1394), (Value.str (Str.ofString "=D1") 1398), (Value.str (Str.ofString "=D2") 1402), (Value.str (Str.ofString "=D3") 1406), (Value.str (Str.ofString "=D4") 1410), (Value.str (Str.ofString "=D5") 1414), (Value.str (Str.ofString "=D6") 1418), (Value.str (Str.ofString "=D7") 1422), (Value.str (Str.ofString "=D8") 1426), (Value.str (Str.ofString "=D9") 1430), (Value.str (Str.ofString "=DA") 1434), (Value.str (Str.ofString "=DB") 1438), (Value.str (Str.ofString "=DC") 1442), (Value.str (Str.ofString "=DD") 1446), (Value.str (Str.ofString "=DE") 1450), (Value.str (Str.ofString "=DF") 1454), (Value.str (Str.ofString "=E0") 1458), (Value.str (Str.ofString "=E1") 1462), (Value.str (Str.ofString "=E2") 1466), (Value.str (Str.ofString "=E3") 1470), (Value.str (Str.ofString "=E4") 1474), (Value.str (Str.ofString "=E5") 1478), (Value.str (Str.ofString "=E6") 1482), (Value.str (Str.ofString "=E7") 1486), (Value.str (Str.ofString "=E8") 1490), (Value.str (Str.ofString "=E9") 1494), (Value.str (Str.ofString "=EA") 1498), (Value.str (Str.ofString "=EB") 1502), (Value.str (Str.ofString "=EC") 1506), (Value.str (Str.ofString "=ED") 1510), (Value.str (Str.ofString "=EE") 1514), (Value.str (Str.ofString "=EF") 1518), (Value.str (Str.ofString "=F0") 1522), (Value.str (Str.ofString "=F1") 1526), (Value.str (Str.ofString "=F2") 1530), (Value.str (Str.ofString "=F3") 1534), (Value.str (Str.ofString "=F4") 1538), (Value.str (Str.ofString "=F5") 1542), (Value.str (Str.ofString "=F6") 1546), (Value.str (Str.ofString "=F7") 1550), (Value.str (Str.ofString "=F8") 1554), (Value.str (Str.ofString "=F9") 1558), (Value.str (Str.ofString "=FA") 1562), (Value.str (Str.ofString "=FB") 1566), (Value.str (Str.ofString "=FC") 1570), (Value.str (Str.ofString "=FD") 1574), (Value.str (Str.ofString "=FE") 1578), (Value.str (Str.ofString "=FF") 1582)] 256) #[])) ::
  ((nat_lit 203), (Obj.mk (Value.type "tuple") none (Data.seq #[] 0) #[])) ::
  ((nat_lit 204), (Obj.mk Value.none none (Data.fields #[]) #[])) ::
  ((nat_lit 205), (Obj.mk (Value.type "tuple") none (Data.seq #[(Value.str (Str.ofString "s") 2101)] 0) #[])) ::
  ((nat_lit 206), (Obj.mk (Value.type "tuple") none (Data.seq #[] 0) #[])) ::
  ((nat_lit 207), (Obj.mk Value.none none (Data.func (FuncData.mk (fName (stA P0 [22])) (Str.ofString "unquote") (fArgs (stA P0 [22])) (.stmts (fBody (stA P0 [22]))) (fScope (stA P0 [22])) 0 [] Value.none Value.none Value.none Value.none none Value.none Value.none 0)) #[])) ::
  ((nat_lit 208), (Obj.mk (Value.type "code") none (Data.fields #[(Value.str (Str.ofString "unquote") 2098), (Value.str (Str.ofString "unquote") 2099), (Value.str (Str.ofString "/claim/cut.py") 2100), (Value.int 116 0), (Value.int 1 0), (Value.int 0 0), (Value.int 0 0), (Value.int 3 0), (Value.ref 203), (Value.bool Bool.true), (Value.int 276 0), (Value.ref 204), Value.none, (Value.ref 205), (Value.ref 206), (Value.ref 207), (Value.int 2102 0), (Value.int 116 0), (Value.str (Str.ofString "/claim/cut.py") 2103)]) #[])) ::
  ((nat_lit 209), (Obj.mk (Value.type "function") none (Data.func (fnOf (fName (stA P0 [22])) (Str.ofString "unquote") (fArgs (stA P0 [22])) (fBody (stA P0 [22])) (fScope (stA P0 [22])) Value.none Value.none Value.none (Value.str (Str.ofString "cpy313.email.quoprimime") 1599) none (Value.ref 208) Value.none)) #[])) ::
  ((nat_lit 210), (Obj.mk (Value.type "tuple") none (Data.seq #[] 0) #[])) ::
  ((nat_lit 211), (Obj.mk Value.none none (Data.fields #[]) #[])) ::
  ((nat_lit 212), (Obj.mk (Value.type "tuple") none (Data.seq #[(Value.str (Str.ofString "c") 2108)] 0) #[])) ::
  ((nat_lit 213), (Obj.mk (Value.type "tuple") none (Data.seq #[] 0) #[])) ::
  ((nat_lit 214), (Obj.mk Value.none none (Data.func (FuncData.mk (fName (stA P0 [23])) (Str.ofString "quote") (fArgs (stA P0 [23])) (.stmts (fBody (stA P0 [23]))) (fScope (stA P0 [23])) 0 [] Value.none Value.none Value.none Value.none none Value.none Value.none 0)) #[])) ::
  ((nat_lit 215), (Obj.mk (Value.type "code") none (Data.fields #[(Value.str (Str.ofString "quote") 2105), (Value.str (Str.ofString "quote") 2106), (Value.str (Str.ofString "/claim/cut.py") 2107), (Value.int 118 0), (Value.int 1 0), (Value.int 0 0), (Value.int 0 0), (Value.int 3 0), (Value.ref 210), (Value.bool Bool.true), (Value.int 276 0), (Value.ref 211), Value.none, (Value.ref 212), (Value.ref 213), (Value.ref 214), (Value.int 2109 0), (Value.int 118 0), (Value.str (Str.ofString "/claim/cut.py") 2110)]) #[])) ::
  ((nat_lit 216), (Obj.mk (Value.type "function") none (Data.func (fnOf (fName (stA P0 [23])) (Str.ofString "quote") (fArgs (stA P0 [23])) (fBody (stA P0 [23])) (fScope (stA P0 [23])) Value.none Value.none Value.none (Value.str (Str.ofString "cpy313.email.quoprimime") 1599) none (Value.ref 215) Value.none)) #[])) ::
  ((nat_lit 218), (Obj.mk (Value.type "list") none (Data.seq #[(Value.str (Str.ofString "=00") 562), (Value.str (Str.ofString "=01") 566), (Value.str (Str.ofString "=02") 570), (Value.str (Str.ofString "=03") 574), (Value.str (Str.ofString "=04") 578), (Value.str (Str.ofString "=05") 582), (Value.str (Str.ofString "=06") 586), (Value.str (Str.ofString "=07") 590), (Value.str (Str.ofString "=08") 594), (Value.str (Str.ofString "\t") 2097), (Value.str (Str.ofString "\n") 2119), (Value.str (Str.ofString "=0B") 606), (Value.str (Str.ofString "=0C") 610), (Value.str (Str.ofString "\x0d") 2116), (Value.str (Str.ofString "=0E") 618), (Value.str (Str.ofString "=0F") 622), (Value.str (Str.ofString "=10") 626), (Value.str (Str.ofString "=11") 630), (Value.str (Str.ofString "=12") 634), (Value.str (Str.ofString "=13") 638), (Value.str (Str.ofString "=14") 642), (Value.str (Str.ofString "=15") 646), (Value.str (Str.ofString "=16") 650), (Value.str (Str.ofString "=17") 654), (Value.str (Str.ofString "=18") 658), (Value.str (Str.ofString "=19") 662), (Value.str (Str.ofString "=1A") 666), (Value.str (Str.ofString "=1B") 670), (Value.str (Str.ofString "=1C") 674), (Value.str (Str.ofString "=1D") 678), (Value.str (Str.ofString "=1E") 682), (Value.str (Str.ofString "=1F") 686), (Value.str (Str.ofString " ") 1815), (Value.str (Str.ofString "!") 1818), (Value.str (Str.ofString "\"") 1821), (Value.str (Str.ofString "#") 1824), (Value.str (Str.ofString "$") 1827), (Value.str (Str.ofString "%") 1830), (Value.str (Str.ofString "&") 1833), (Value.str (Str.ofString "'") 1836), (Value.str (Str.ofString "(") 1839), (Value.str (Str.ofString ")") 1842), (Value.str (Str.ofString "*") 1845), (Value.str (Str.ofString "+") 1848), (Value.str (Str.ofString ",") 1851), (Value.str (Str.ofString "-") 1854), (Value.str (Str.ofString ".") 1857), (Value.str (Str.ofString "/") 1860), (Value.str (Str.ofString "0") 1863), (Value.str (Str.ofString "1") 1866), (Value.str (Str.ofString "2") 1869), (Value.str (Str.ofString "3") 1872), (Value.str (Str.ofString "4") 1875), (Value.str (Str.ofString "5") 1878), (Value.str (Str.ofString "6") 1881), (Value.str (Str.ofString "7") 1884), (Value.str (Str.ofString "8") 1887), (Value.str (Str.ofString "9") 1890), (Value.str (Str.ofString ":") 1893), (Value.str (Str.ofString ";") 1896), (Value.str (Str.ofString "<") 1899), (Value.str (Str.ofString "=3D") 806), (Value.str (Str.ofString ">") 1902), (Value.str (Str.ofString "?") 1905), (Value.str (Str.ofString "@") 1908), (Value.str (Str.ofString "A") 1911), (Value.str (Str.ofString "B") 1914), (Value.str (Str.ofString "C") 1917), (Value.str (Str.ofString "D") 1920), (Value.str (Str.ofString "E") 1923), (Value.str (Str.ofString "F") 1926), (Value.str (Str.ofString "G") 1929), (Value.str (Str.ofString "H") 1932), (Value.str (Str.ofString "I") 1935), (Value.str (Str.ofString "J") 1938), (Value.str (Str.ofString "K") 1941), (Value.str (Str.ofString "L") 1944), (Value.str (Str.ofString "M") 1947), (Value.str (Str.ofString "N") 1950), (Value.str (Str.ofString "O") 1953), (Value.str (Str.ofString "P") 1956), (Value.str (Str.ofString "Q") 1959), (Value.str (Str.ofString "R") 1962), (Value.str (Str.ofString "S") 1965), (Value.str (Str.ofString "T") 1968), (Value.str (Str.ofString "U") 1971), (Value.str (Str.ofString "V") 1974), (Value.str (Str.ofString "W") 1977), (Value.str (Str.ofString "X") 1980), (Value.str (Str.ofString "Y") 1983), (Value.str (Str.ofString "Z") 1986), (Value.str (Str.ofString "[") 1989), (Value.str (Str.ofString "\\") 1992), (Value.str (Str.ofString "]") 1995), (Value.str (Str.ofString "^") 1998), (Value.str (Str.ofString "_") 2001), (Value.str (Str.ofString "`") 2004), (Value.str (Str.ofString "a") 2007), (Value.str (Str.ofString "b") 2010), (Value.str (Str.ofString "c") 2013), (Value.str (Str.ofString "d") 2016), (Value.str (Str.ofString "e") 2019), (Value.str (Str.ofString "f") 2022), (Value.str (Str.ofString "g") 2025), (Value.str (Str.ofString "h") 2028), (Value.str (Str.ofString "i") 2031), (Value.str (Str.ofString "j") 2034), (Value.str (Str.ofString "k") 2037), (Value.str (Str.ofString "l") 2040), (Value.str (Str.ofString "m") 2043), (Value.str (Str.ofString "n") 2046), (Value.str (Str.ofString "o") 2049), (Value.str (Str.ofString "p") 2052), (Value.str (Str.ofString "q") 2055), (Value.str (Str.ofString "r") 2058), (Value.str (Str.ofString "s") 2061), (Value.str (Str.ofString "t") 2064), (Value.str (Str.ofString "u") 2067), (Value.str (Str.ofString "v") 2070), (Value.str (Str.ofString "w") 2073), (Value.str (Str.ofString "x") 2076), (Value.str (Str.ofString "y") 2079), (Value.str (Str.ofString "z") 2082), (Value.str (Str.ofString "{") 2085), (Value.str (Str.ofString "|") 2088), (Value.str (Str.ofString "}") 2091), (Value.str (Str.ofString "~") 2094), (Value.str (Str.ofString "=7F") 1070), (Value.str (Str.ofString "=80") 1074), (Value.str (Str.ofString "=81") 1078), (Value.str (Str.ofString "=82") 1082), (Value.str (Str.ofString "=83") 1086), (Value.str (Str.ofString "=84") 1090), (Value.str (Str.ofString "=85") 1094), (Value.str (Str.ofString "=86") 1098), (Value.str (Str.ofString "=87") 1102), (Value.str (Str.ofString "=88") 1106), (Value.str (Str.ofString "=89") 1110), (Value.str (Str.ofString "=8A") 1114), (Value.str (Str.ofString "=8B") 1118), (Value.str (Str.ofString "=8C") 1122), (Value.str (Str.ofString "=8D") 1126), (Value.str (Str.ofString "=8E") 1130), (Value.str (Str.ofString "=8F") 1134), (Value.str (Str.ofString "=90") 1138), (Value.str (Str.ofString "=91") 1142), (Value.str (Str.ofString "=92") 1146), (Value.str (Str.ofString "=93") 1150), (Value.str (Str.ofString "=94") 1154), (Value.str (Str.ofString "=95") 1158), (Value.str (Str.ofString "=96") 1162), (Value.str (Str.ofString "=97") 1166), (Value.str (Str.ofString "=98") 1170), (Value.str (Str.ofString "=99") 1174), (Value.str (Str.ofString "=9A") 1178), (Value.str (Str.ofString "=9B") 1182), (Value.str (Str.ofString "=9C") 1186), (Value.str (Str.ofString "=9D") 1190), (Value.str (Str.ofString "=9E") 1194), (Value.str (Str.ofString "=9F") 1198), (Value.str (Str.ofString "=A0") 1202), (Value.str (Str.ofString "=A1") 1206), (Value.str (Str.ofString "=A2") 1210), (Value.str (Str.ofString "=A3") 1214), (Value.str (Str.ofString "=A4") 1218), (Value.str (Str.ofString "=A5") 1222), (Value.str (Str.ofString "=A6") 1226), (Value.str (Str.ofString "=A7") 1230), (Value.str (Str.ofString "=A8") 1234), (Value.str (Str.ofString "=A9") 1238), (Value.str (Str.ofString "=AA") 1242), (Value.str (Str.ofString "=AB") 1246), (Value.str (Str.ofString "=AC") 1250), (Value.str (Str.ofString "=AD") 1254), (Value.str (Str.ofString "=AE") 1258), (Value.str (Str.ofString "=AF") 1262), (Value.str (Str.ofString "=B0") 1266), (Value.str (Str.ofString "=B1") 1270), (Value.str (Str.ofString "=B2") 1274), (Value.str (Str.ofString "=B3") 1278), (Value.str (Str.ofString "=B4") 1282), (Value.str (Str.ofString "=B5") 1286), (Value.str (Str.ofString "=B6") 1290), (Value.str (Str.ofString "=B7") 1294), (Value.str (Str.ofString "=B8") 1298), (Value.str (Str.ofString "=B9") 1302), (Value.str (Str.ofString "=BA") 1306), (Value.str (Str.ofString "=BB") 1310), (Value.str (Str.ofString "=BC") 1314), (Value.str (Str.ofString "=BD") 1318), (Value.str (Str.ofString "=BE") 1322), (Value.str (Str.ofString "=BF") 1326), (Value.str (Str.ofString "=C0") 1330), (Value.str (Str.ofString "=C1") 1334), (Value.str (Str.ofString "=C2") 1338), (Value.str (Str.ofString "=C3") 1342), (Value.str (Str.ofString "=C4") 1346), (Value.str (Str.ofString "=C5") 1350), (Value.str (Str.ofString "=C6") 1354), (Value.str (Str.ofString "=C7") 1358), (Value.str (Str.ofString "=C8") 1362), (Value.str (Str.ofString "=C9") 1366), (Value.str (Str.ofString "=CA") 1370), (Value.str (Str.ofString "=CB") 1374), (Value.str (Str.ofString "=CC") 1378), (Value.str (Str.ofString "=CD") 1382), (Value.str (Str.ofString "=CE") 1386), (Value.str (Str.ofString "=CF") 1390), (Value.str (Str.ofString "=D0") 1394), (Value.str (Str.ofString "=D1") 1398), (Value.str (Str.ofString "=D2") 1402), (Value.str (Str.ofString "=D3") 1406), (Value.str (Str.ofString "=D4") 1410), (Value.str (Str.ofString "=D5") 1414), (Value.str (Str.ofString "=D6") 1418), (Value.str (Str.ofString "=D7") 1422), (Value.str (Str.ofString "=D8") 1426), (Value.str (Str.ofString "=D9") 1430), (Value.str (Str.ofString "=DA") 1434), (Value.str (Str.ofString "=DB") 1438), (Value.str (Str.ofString "=DC") 1442), (Value.str (Str.ofString "=DD") 1446), (Value.str (Str.ofString "=DE") 1450), (Value.str (Str.ofString "=DF") 1454), (Value.str (Str.ofString "=E0") 1458), (Value.str (Str.ofString "=E1") 1462), (Value.str (Str.ofString "=E2") 1466), (Value.str (Str.ofString "=E3") 1470), (Value.str (Str.ofString "=E4") 1474), (Value.str (Str.ofString "=E5") 1478), (Value.str (Str.ofString "=E6") 1482), (Value.str (Str.ofString "=E7") 1486), (Value.str (Str.ofString "=E8") 1490), (Value.str (Str.ofString "=E9") 1494), (Value.str (Str.ofString "=EA") 1498), (Value.str (Str.ofString "=EB") 1502), (Value.str (Str.ofString "=EC") 1506), (Value.str (Str.ofString "=ED") 1510), (Value.str (Str.ofString "=EE") 1514), (Value.str (Str.ofString "=EF") 1518), (Value.str (Str.ofString "=F0") 1522), (Value.str (Str.ofString "=F1") 1526), (Value.str (Str.ofString "=F2") 1530), (Value.str (Str.ofString "=F3") 1534), (Value.str (Str.ofString "=F4") 1538), (Value.str (Str.ofString "=F5") 1542), (Value.str (Str.ofString "=F6") 1546), (Value.str (Str.ofString "=F7") 1550), (Value.str (Str.ofString "=F8") 1554), (Value.str (Str.ofString "=F9") 1558), (Value.str (Str.ofString "=FA") 1562), (Value.str (Str.ofString "=FB") 1566), (Value.str (Str.ofString "=FC") 1570), (Value.str (Str.ofString "=FD") 1574), (Value.str (Str.ofString "=FE") 1578), (Value.str (Str.ofString "=FF") 1582)] 0) #[])) ::
  ((nat_lit 222), (Obj.mk (Value.type "tuple") none (Data.seq #[(Value.int 76 2120), (Value.str (Str.ofString "\n") 554)] 0) #[])) ::
  ((nat_lit 223), (Obj.mk (Value.type "tuple") none (Data.seq #[] 0) #[])) ::
  ((nat_lit 224), (Obj.mk Value.none none (Data.fields #[]) #[])) ::
  ((nat_lit 225), (Obj.mk (Value.type "tuple") none (Data.seq #[(Value.str (Str.ofString "body") 2124), (Value.str (Str.ofString "maxlinelen") 2125), (Value.str (Str.ofString "eol") 2126), (Value.str (Str.ofString "soft_break") 2127), (Value.str (Str.ofString "maxlinelen1") 2128), (Value.str (Str.ofString "encoded_body") 2129), (Value.str (Str.ofString "append") 2130), (Value.str (Str.ofString "line") 2131), (Value.str (Str.ofString "start") 2132), (Value.str (Str.ofString "laststart") 2133), (Value.str (Str.ofString "stop") 2134), (Value.str (Str.ofString "room") 2135), (Value.str (Str.ofString "q") 2136)] 0) #[])) ::
  ((nat_lit 226), (Obj.mk (Value.type "tuple") none (Data.seq #[] 0) #[])) ::
  ((nat_lit 227), (Obj.mk Value.none none (Data.func (FuncData.mk (fName (stA P0 [27])) (Str.ofString "body_encode") (fArgs (stA P0 [27])) (.stmts (fBody (stA P0 [27]))) (fScope (stA P0 [27])) 0 [] Value.none Value.none Value.none Value.none none Value.none Value.none 0)) #[])) ::
  ((nat_lit 228), (Obj.mk (Value.type "code") none (Data.fields #[(Value.str (Str.ofString "body_encode") 2121), (Value.str (Str.ofString "body_encode") 2122), (Value.str (Str.ofString "/claim/cut.py") 2123), (Value.int 124 0), (Value.int 3 0), (Value.int 0 0), (Value.int 0 0), (Value.int 3 0), (Value.ref 223), (Value.bool Bool.true), (Value.int 276 0), (Value.ref 224), Value.none, (Value.ref 225), (Value.ref 226), (Value.ref 227), (Value.int 2137 0), (Value.int 124 0), (Value.str (Str.ofString "/claim/cut.py") 2138)]) #[])) ::
  ((nat_lit 229), (Obj.mk (Value.type "function") none (Data.func (fnOf (fName (stA P0 [27])) (Str.ofString "body_encode") (fArgs (stA P0 [27])) (fBody (stA P0 [27])) (fScope (stA P0 [27])) (Value.ref 222) Value.none Value.none (Value.str (Str.ofString "cpy313.email.quoprimime") 1599) none (Value.ref 228) Value.none)) #[])) ::
  ((nat_lit 230), (Obj.mk (Value.type "tuple") none (Data.seq #[(Value.str (Str.ofString "\n") 554)] 0) #[])) ::
  ((nat_lit 231), (Obj.mk (Value.type "tuple") none (Data.seq #[] 0) #[])) ::
  ((nat_lit 232), (Obj.mk Value.none none (Data.fields #[]) #[])) ::
  ((nat_lit 233), (Obj.mk (Value.type "tuple") none (Data.seq #[(Value.str (Str.ofString "encoded") 2143), (Value.str (Str.ofString "eol") 2144), (Value.str (Str.ofString "decoded") 2145), (Value.str (Str.ofString "line") 2146), (Value.str (Str.ofString "i") 2147), (Value.str (Str.ofString "n") 2148), (Value.str (Str.ofString "c") 2149)] 0) #[])) ::
  ((nat_lit 234), (Obj.mk (Value.type "tuple") none (Data.seq #[] 0) #[])) ::
  ((nat_lit 235), (Obj.mk Value.none none (Data.func (FuncData.mk (fName (stA P0 [28])) (Str.ofString "decode") (fArgs (stA P0 [28])) (.stmts (fBody (stA P0 [28]))) (fScope (stA P0 [28])) 0 [] Value.none Value.none Value.none Value.none none Value.none Value.none 0)) #[])) ::
  ((nat_lit 236), (Obj.mk (Value.type "code") none (Data.fields #[(Value.str (Str.ofString "decode") 2140), (Value.str (Str.ofString "decode") 2141), (Value.str (Str.ofString "/claim/cut.py") 2142), (Value.int 162 0), (Value.int 2 0), (Value.int 0 0), (Value.int 0 0), (Value.int 3 0), (Value.ref 231), (Value.bool Bool.true), (Value.int 276 0), (Value.ref 232), Value.none, (Value.ref 233), (Value.ref 234), (Value.ref 235), (Value.int 2150 0), (Value.int 162 0), (Value.str (Str.ofString "/claim/cut.py") 2151)]) #[])) ::
  ((nat_lit 237), (Obj.mk (Value.type "function") none (Data.func (fnOf (fName (stA P0 [28])) (Str.ofString "decode") (fArgs (stA P0 [28])) (fBody (stA P0 [28])) (fScope (stA P0 [28])) (Value.ref 230) Value.none Value.none (Value.str (Str.ofString "cpy313.email.quoprimime") 1599) none (Value.ref 236) Value.none)) #[])) ::
  ((nat_lit 238), (Obj.mk (Value.type "tuple") none (Data.seq #[] 0) #[])) ::
  ((nat_lit 239), (Obj.mk Value.none none (Data.fields #[]) #[])) ::
  ((nat_lit 240), (Obj.mk (Value.type "tuple") none (Data.seq #[(Value.str (Str.ofString "script") 2158), (Value.str (Str.ofString "rooms") 2159), (Value.str (Str.ofString "number") 2160), (Value.str (Str.ofString "places") 2161), (Value.str (Str.ofString "arrows") 2162), (Value.str (Str.ofString "k") 2163), (Value.str (Str.ofString "later") 2164), (Value.str (Str.ofString "other") 2165), (Value.str (Str.ofString "first") 2166)] 0) #[])) ::
  ((nat_lit 241), (Obj.mk (Value.type "tuple") none (Data.seq #[] 0) #[])) ::
  ((nat_lit 242), (Obj.mk Value.none none (Data.func (FuncData.mk (fName (stA P0 [30])) (Str.ofString "_law_arrows") (fArgs (stA P0 [30])) (.stmts (fBody (stA P0 [30]))) (fScope (stA P0 [30])) 0 [] Value.none Value.none Value.none Value.none none Value.none Value.none 0)) #[])) ::
  ((nat_lit 243), (Obj.mk (Value.type "code") none (Data.fields #[(Value.str (Str.ofString "_law_arrows") 2155), (Value.str (Str.ofString "_law_arrows") 2156), (Value.str (Str.ofString "/claim/cut.py") 2157), (Value.int 193 0), (Value.int 2 0), (Value.int 0 0), (Value.int 0 0), (Value.int 3 0), (Value.ref 238), (Value.bool Bool.true), (Value.int 276 0), (Value.ref 239), Value.none, (Value.ref 240), (Value.ref 241), (Value.ref 242), (Value.int 2167 0), (Value.int 193 0), (Value.str (Str.ofString "/claim/cut.py") 2168)]) #[])) ::
  ((nat_lit 244), (Obj.mk (Value.type "function") none (Data.func (fnOf (fName (stA P0 [30])) (Str.ofString "_law_arrows") (fArgs (stA P0 [30])) (fBody (stA P0 [30])) (fScope (stA P0 [30])) Value.none Value.none Value.none (Value.str (Str.ofString "law_rl0125_02") 2153) none (Value.ref 243) Value.none)) #[])) ::
  ((nat_lit 245), (Obj.mk (Value.type "tuple") none (Data.seq #[] 0) #[])) ::
  ((nat_lit 246), (Obj.mk Value.none none (Data.fields #[]) #[])) ::
  ((nat_lit 247), (Obj.mk (Value.type "tuple") none (Data.seq #[(Value.str (Str.ofString "letter") 2173), (Value.str (Str.ofString "turn") 2174)] 0) #[])) ::
  ((nat_lit 248), (Obj.mk (Value.type "tuple") none (Data.seq #[] 0) #[])) ::
  ((nat_lit 249), (Obj.mk Value.none none (Data.func (FuncData.mk (fName (stA P0 [31])) (Str.ofString "_law_name") (fArgs (stA P0 [31])) (.stmts (fBody (stA P0 [31]))) (fScope (stA P0 [31])) 0 [] Value.none Value.none Value.none Value.none none Value.none Value.none 0)) #[])) ::
  ((nat_lit 250), (Obj.mk (Value.type "code") none (Data.fields #[(Value.str (Str.ofString "_law_name") 2170), (Value.str (Str.ofString "_law_name") 2171), (Value.str (Str.ofString "/claim/cut.py") 2172), (Value.int 205 0), (Value.int 2 0), (Value.int 0 0), (Value.int 0 0), (Value.int 3 0), (Value.ref 245), (Value.bool Bool.true), (Value.int 276 0), (Value.ref 246), Value.none, (Value.ref 247), (Value.ref 248), (Value.ref 249), (Value.int 2175 0), (Value.int 205 0), (Value.str (Str.ofString "/claim/cut.py") 2176)]) #[])) ::
  ((nat_lit 251), (Obj.mk (Value.type "function") none (Data.func (fnOf (fName (stA P0 [31])) (Str.ofString "_law_name") (fArgs (stA P0 [31])) (fBody (stA P0 [31])) (fScope (stA P0 [31])) Value.none Value.none Value.none (Value.str (Str.ofString "law_rl0125_02") 2153) none (Value.ref 250) Value.none)) #[])) ::
  ((nat_lit 252), (Obj.mk (Value.type "tuple") none (Data.seq #[] 0) #[])) ::
  ((nat_lit 253), (Obj.mk Value.none none (Data.fields #[]) #[])) ::
  ((nat_lit 254), (Obj.mk (Value.type "tuple") none (Data.seq #[(Value.str (Str.ofString "table") 2181), (Value.str (Str.ofString "letter") 2182), (Value.str (Str.ofString "turn") 2183), (Value.str (Str.ofString "times") 2184), (Value.str (Str.ofString "value") 2185)] 0) #[])) ::
  ((nat_lit 255), (Obj.mk (Value.type "tuple") none (Data.seq #[] 0) #[])) ::
  ((nat_lit 256), (Obj.mk Value.none none (Data.func (FuncData.mk (fName (stA P0 [32])) (Str.ofString "_law_put") (fArgs (stA P0 [32])) (.stmts (fBody (stA P0 [32]))) (fScope (stA P0 [32])) 0 [] Value.none Value.none Value.none Value.none none Value.none Value.none 0)) #[])) ::
  ((nat_lit 257), (Obj.mk (Value.type "code") none (Data.fields #[(Value.str (Str.ofString "_law_put") 2178), (Value.str (Str.ofString "_law_put") 2179), (Value.str (Str.ofString "/claim/cut.py") 2180), (Value.int 207 0), (Value.int 4 0), (Value.int 0 0), (Value.int 0 0), (Value.int 3 0), (Value.ref 252), (Value.bool Bool.true), (Value.int 276 0), (Value.ref 253), Value.none, (Value.ref 254), (Value.ref 255), (Value.ref 256), (Value.int 2186 0), (Value.int 207 0), (Value.str (Str.ofString "/claim/cut.py") 2187)]) #[])) ::
  ((nat_lit 258), (Obj.mk (Value.type "function") none (Data.func (fnOf (fName (stA P0 [32])) (Str.ofString "_law_put") (fArgs (stA P0 [32])) (fBody (stA P0 [32])) (fScope (stA P0 [32])) Value.none Value.none Value.none (Value.str (Str.ofString "law_rl0125_02") 2153) none (Value.ref 257) Value.none)) #[])) ::
  ((nat_lit 259), (Obj.mk (Value.type "tuple") none (Data.seq #[] 0) #[])) ::
  ((nat_lit 260), (Obj.mk Value.none none (Data.fields #[]) #[])) ::
  ((nat_lit 261), (Obj.mk Value.none none (Data.func (FuncData.mk (fName (stA P0 [33])) (Str.ofString "_law_full") (fArgs (stA P0 [33])) (.stmts (fBody (stA P0 [33]))) (fScope (stA P0 [33])) 0 [] Value.none Value.none Value.none Value.none none Value.none Value.none 0)) #[])) ::
  ((nat_lit 262), (Obj.mk (Value.type "code") none (Data.fields #[(Value.str (Str.ofString "_law_full") 2189), (Value.str (Str.ofString "_law_full") 2190), (Value.str (Str.ofString "/claim/cut.py") 2191), (Value.int 210 0), (Value.int 2 0), (Value.int 0 0), (Value.int 0 0), (Value.int 3 0), (Value.ref 259), (Value.bool Bool.true), (Value.int 276 0), (Value.ref 260), Value.none, Value.none, Value.none, (Value.ref 261), (Value.int 2192 0), (Value.int 210 0), (Value.str (Str.ofString "/claim/cut.py") 2193)]) #[])) ::
  ((nat_lit 263), (Obj.mk (Value.type "function") none (Data.func (fnOf (fName (stA P0 [33])) (Str.ofString "_law_full") (fArgs (stA P0 [33])) (fBody (stA P0 [33])) (fScope (stA P0 [33])) Value.none Value.none Value.none (Value.str (Str.ofString "law_rl0125_02") 2153) none (Value.ref 262) Value.none)) #[])) ::
  ((nat_lit 264), (Obj.mk (Value.type "tuple") none (Data.seq #[] 0) #[])) ::
  ((nat_lit 265), (Obj.mk Value.none none (Data.fields #[]) #[])) ::
  ((nat_lit 266), (Obj.mk Value.none none (Data.func (FuncData.mk (fName (stA P0 [34])) (Str.ofString "_law_run") (fArgs (stA P0 [34])) (.stmts (fBody (stA P0 [34]))) (fScope (stA P0 [34])) 0 [] Value.none Value.none Value.none Value.none none Value.none Value.none 0)) #[])) ::
  ((nat_lit 267), (Obj.mk (Value.type "code") none (Data.fields #[(Value.str (Str.ofString "_law_run") 2195), (Value.str (Str.ofString "_law_run") 2196), (Value.str (Str.ofString "/claim/cut.py") 2197), (Value.int 212 0), (Value.int 3 0), (Value.int 0 0), (Value.int 0 0), (Value.int 3 0), (Value.ref 264), (Value.bool Bool.true), (Value.int 276 0), (Value.ref 265), Value.none, Value.none, Value.none, (Value.ref 266), (Value.int 2198 0), (Value.int 212 0), (Value.str (Str.ofString "/claim/cut.py") 2199)]) #[])) ::
  ((nat_lit 268), (Obj.mk (Value.type "function") none (Data.func (fnOf (fName (stA P0 [34])) (Str.ofString "_law_run") (fArgs (stA P0 [34])) (fBody (stA P0 [34])) (fScope (stA P0 [34])) Value.none Value.none Value.none (Value.str (Str.ofString "law_rl0125_02") 2153) none (Value.ref 267) Value.none)) #[])) ::
  ((nat_lit 269), (Obj.mk (Value.type "tuple") none (Data.seq #[] 0) #[])) ::
  ((nat_lit 270), (Obj.mk Value.none none (Data.fields #[]) #[])) ::
  ((nat_lit 271), (Obj.mk Value.none none (Data.func (FuncData.mk (fName (stA P0 [35])) (Str.ofString "_law_chances") (fArgs (stA P0 [35])) (.stmts (fBody (stA P0 [35]))) (fScope (stA P0 [35])) 0 [] Value.none Value.none Value.none Value.none none Value.none Value.none 0)) #[])) ::
  ((nat_lit 272), (Obj.mk (Value.type "code") none (Data.fields #[(Value.str (Str.ofString "_law_chances") 2201), (Value.str (Str.ofString "_law_chances") 2202), (Value.str (Str.ofString "/claim/cut.py") 2203), (Value.int 234 0), (Value.int 2 0), (Value.int 0 0), (Value.int 0 0), (Value.int 3 0), (Value.ref 269), (Value.bool Bool.true), (Value.int 276 0), (Value.ref 270), Value.none, Value.none, Value.none, (Value.ref 271), (Value.int 2204 0), (Value.int 234 0), (Value.str (Str.ofString "/claim/cut.py") 2205)]) #[])) ::
  ((nat_lit 273), (Obj.mk (Value.type "function") none (Data.func (fnOf (fName (stA P0 [35])) (Str.ofString "_law_chances") (fArgs (stA P0 [35])) (fBody (stA P0 [35])) (fScope (stA P0 [35])) Value.none Value.none Value.none (Value.str (Str.ofString "law_rl0125_02") 2153) none (Value.ref 272) Value.none)) #[])) ::
  ((nat_lit 274), (Obj.mk (Value.type "tuple") none (Data.seq #[] 0) #[])) ::
  ((nat_lit 275), (Obj.mk Value.none none (Data.fields #[]) #[])) ::
  ((nat_lit 276), (Obj.mk (Value.type "tuple") none (Data.seq #[(Value.str (Str.ofString "script") 2210), (Value.str (Str.ofString "rooms") 2211), (Value.str (Str.ofString "arrows") 2212), (Value.str (Str.ofString "counts") 2213), (Value.str (Str.ofString "doors") 2214), (Value.str (Str.ofString "divisor") 2215), (Value.str (Str.ofString "count") 2216), (Value.str (Str.ofString "one") 2217), (Value.str (Str.ofString "other") 2218), (Value.str (Str.ofString "due") 2219), (Value.str (Str.ofString "left") 2220)] 0) #[])) ::
  ((nat_lit 277), (Obj.mk (Value.type "tuple") none (Data.seq #[] 0) #[])) ::
  ((nat_lit 278), (Obj.mk Value.none none (Data.func (FuncData.mk (fName (stA P0 [36])) (Str.ofString "law") (fArgs (stA P0 [36])) (.stmts (fBody (stA P0 [36]))) (fScope (stA P0 [36])) 0 [] Value.none Value.none Value.none Value.none none Value.none Value.none 0)) #[])) ::
  ((nat_lit 279), (Obj.mk (Value.type "code") none (Data.fields #[(Value.str (Str.ofString "law") 2207), (Value.str (Str.ofString "law") 2208), (Value.str (Str.ofString "/claim/cut.py") 2209), (Value.int 244 0), (Value.int 1 0), (Value.int 0 0), (Value.int 0 0), (Value.int 3 0), (Value.ref 274), (Value.bool Bool.true), (Value.int 276 0), (Value.ref 275), Value.none, (Value.ref 276), (Value.ref 277), (Value.ref 278), (Value.int 2221 0), (Value.int 244 0), (Value.str (Str.ofString "/claim/cut.py") 2222)]) #[])) ::
  ((nat_lit 280), (Obj.mk (Value.type "function") none (Data.func (fnOf (fName (stA P0 [36])) (Str.ofString "law") (fArgs (stA P0 [36])) (fBody (stA P0 [36])) (fScope (stA P0 [36])) Value.none Value.none Value.none (Value.str (Str.ofString "law_rl0125_02") 2153) none (Value.ref 279) Value.none)) #[])) :: []
noncomputable def hd.as : List Addr := (nat_lit 0) :: (nat_lit 1) :: (nat_lit 2) :: (nat_lit 3) :: (nat_lit 4) :: (nat_lit 5) :: (nat_lit 6) :: (nat_lit 7) :: (nat_lit 8) :: (nat_lit 9) :: (nat_lit 10) :: (nat_lit 11) :: (nat_lit 12) :: (nat_lit 13) :: (nat_lit 14) :: (nat_lit 15) :: (nat_lit 32) :: (nat_lit 33) :: (nat_lit 34) :: (nat_lit 35) :: (nat_lit 36) :: (nat_lit 37) :: (nat_lit 38) :: (nat_lit 42) :: (nat_lit 43) :: (nat_lit 47) :: (nat_lit 48) :: (nat_lit 52) :: (nat_lit 53) :: (nat_lit 54) :: (nat_lit 55) :: (nat_lit 56) :: (nat_lit 57) :: (nat_lit 58) :: (nat_lit 59) :: (nat_lit 60) :: (nat_lit 61) :: (nat_lit 69) :: (nat_lit 70) :: (nat_lit 71) :: (nat_lit 72) :: (nat_lit 73) :: (nat_lit 74) :: (nat_lit 75) :: (nat_lit 76) :: (nat_lit 77) :: (nat_lit 78) :: (nat_lit 79) :: (nat_lit 80) :: (nat_lit 81) :: (nat_lit 82) :: (nat_lit 83) :: (nat_lit 84) :: (nat_lit 85) :: (nat_lit 86) :: (nat_lit 87) :: (nat_lit 88) :: (nat_lit 89) :: (nat_lit 90) :: (nat_lit 91) :: (nat_lit 92) :: (nat_lit 93) :: (nat_lit 94) :: (nat_lit 95) :: (nat_lit 96) :: (nat_lit 97) :: (nat_lit 98) :: (nat_lit 99) :: (nat_lit 100) :: (nat_lit 101) :: (nat_lit 102) :: (nat_lit 103) :: (nat_lit 104) :: (nat_lit 105) :: (nat_lit 106) :: (nat_lit 107) :: (nat_lit 108) :: (nat_lit 109) :: (nat_lit 110) :: (nat_lit 111) :: (nat_lit 112) :: (nat_lit 113) :: (nat_lit 114) :: (nat_lit 115) :: (nat_lit 116) :: (nat_lit 117) :: (nat_lit 118) :: (nat_lit 119) :: (nat_lit 120) :: (nat_lit 121) :: (nat_lit 122) :: (nat_lit 123) :: (nat_lit 124) :: (nat_lit 125) :: (nat_lit 126) :: (nat_lit 127) :: (nat_lit 128) :: (nat_lit 129) :: (nat_lit 130) :: (nat_lit 131) :: (nat_lit 132) :: (nat_lit 133) :: (nat_lit 134) :: (nat_lit 135) :: (nat_lit 136) :: (nat_lit 137) :: (nat_lit 138) :: (nat_lit 139) :: (nat_lit 140) :: (nat_lit 141) :: (nat_lit 142) :: (nat_lit 143) :: (nat_lit 144) :: (nat_lit 145) :: (nat_lit 146) :: (nat_lit 147) :: (nat_lit 148) :: (nat_lit 149) :: (nat_lit 150) :: (nat_lit 151) :: (nat_lit 152) :: (nat_lit 153) :: (nat_lit 154) :: (nat_lit 155) :: (nat_lit 156) :: (nat_lit 157) :: (nat_lit 158) :: (nat_lit 159) :: (nat_lit 160) :: (nat_lit 161) :: (nat_lit 162) :: (nat_lit 163) :: (nat_lit 164) :: (nat_lit 165) :: (nat_lit 166) :: (nat_lit 167) :: (nat_lit 168) :: (nat_lit 169) :: (nat_lit 170) :: (nat_lit 171) :: (nat_lit 172) :: (nat_lit 173) :: (nat_lit 174) :: (nat_lit 175) :: (nat_lit 176) :: (nat_lit 177) :: (nat_lit 178) :: (nat_lit 179) :: (nat_lit 180) :: (nat_lit 181) :: (nat_lit 182) :: (nat_lit 183) :: (nat_lit 184) :: (nat_lit 189) :: (nat_lit 203) :: (nat_lit 204) :: (nat_lit 205) :: (nat_lit 206) :: (nat_lit 207) :: (nat_lit 208) :: (nat_lit 209) :: (nat_lit 210) :: (nat_lit 211) :: (nat_lit 212) :: (nat_lit 213) :: (nat_lit 214) :: (nat_lit 215) :: (nat_lit 216) :: (nat_lit 218) :: (nat_lit 222) :: (nat_lit 223) :: (nat_lit 224) :: (nat_lit 225) :: (nat_lit 226) :: (nat_lit 227) :: (nat_lit 228) :: (nat_lit 229) :: (nat_lit 230) :: (nat_lit 231) :: (nat_lit 232) :: (nat_lit 233) :: (nat_lit 234) :: (nat_lit 235) :: (nat_lit 236) :: (nat_lit 237) :: (nat_lit 238) :: (nat_lit 239) :: (nat_lit 240) :: (nat_lit 241) :: (nat_lit 242) :: (nat_lit 243) :: (nat_lit 244) :: (nat_lit 245) :: (nat_lit 246) :: (nat_lit 247) :: (nat_lit 248) :: (nat_lit 249) :: (nat_lit 250) :: (nat_lit 251) :: (nat_lit 252) :: (nat_lit 253) :: (nat_lit 254) :: (nat_lit 255) :: (nat_lit 256) :: (nat_lit 257) :: (nat_lit 258) :: (nat_lit 259) :: (nat_lit 260) :: (nat_lit 261) :: (nat_lit 262) :: (nat_lit 263) :: (nat_lit 264) :: (nat_lit 265) :: (nat_lit 266) :: (nat_lit 267) :: (nat_lit 268) :: (nat_lit 269) :: (nat_lit 270) :: (nat_lit 271) :: (nat_lit 272) :: (nat_lit 273) :: (nat_lit 274) :: (nat_lit 275) :: (nat_lit 276) :: (nat_lit 277) :: (nat_lit 278) :: (nat_lit 279) :: (nat_lit 280) :: []
noncomputable def hd.view_39 : Program := viewOf P0 [0, 1, 3, 4, 5, 7, 8, 9, 10, 11, 12, 13, 14, 15, 16, 17, 22, 23, 24, 30, 31, 32, 33, 34, 35, 36] (b := [_, _, _, _, _, _, _, _, _, _, _, _, _, _, _, _, _, _, _, _, _, _, _, _, _, _]) rfl
noncomputable abbrev hd.loose : List Str := [Str.ofString "tspecials", Str.ofString "_name_disallowed_re", Str.ofString "_value_disallowed_re", Str.ofString "_formatparam", Str.ofString "_QUOPRI_MAP", Str.ofString "_QUOPRI_HEADER_MAP", Str.ofString "_QUOPRI_BODY_MAP", Str.ofString "ascii_letters", Str.ofString "hexdigits", Str.ofString "_QUOPRI_BODY_ENCODE_MAP", Str.ofString "body_encode", Str.ofString "decode"]
noncomputable abbrev hd.lv : List (Str × WData) := [(Str.ofString "ascii_letters", WData.str ⟨#[97, 98, 99, 100, 101, 102, 103, 104, 105, 106, 107, 108, 109, 110, 111, 112, 113, 114, 115, 116, 117, 118, 119, 120, 121, 122, 65, 66, 67, 68, 69, 70, 71, 72, 73, 74, 75, 76, 77, 78, 79, 80, 81, 82, 83, 84, 85, 86, 87, 88, 89, 90]⟩), (Str.ofString "hexdigits", WData.str ⟨#[48, 49, 50, 51, 52, 53, 54, 55, 56, 57, 97, 98, 99, 100, 101, 102, 65, 66, 67, 68, 69, 70]⟩)]
noncomputable abbrev hd.H : Hook := kHook hd.heap_39 hd.as (fun _ => by kernel_rfl)
noncomputable abbrev hd.sC (w : World) : Prop := lookC P0 hd.as w 1000 20000 = some ((hd.heap_39 w.params).map (fun p => some p.2), 281, {}, #[], {}, 2224, {})
noncomputable abbrev hd.X : Shared → Bool := fun s => xlAt hd.view_39 hd.lv s && recOk (RowW.records PySem.Challenge.rw_rl0125_02.row.toRowW) s
theorem hd.c00 (w : World) : hd.sC ((w.withFollow "special-get-raises" false).withFollow "comprehension-iter-twice" false) := by kernel_rfl
theorem hd.c01 (w : World) : hd.sC ((w.withFollow "special-get-raises" false).withFollow "comprehension-iter-twice" true) := by kernel_rfl
theorem hd.c10 (w : World) : hd.sC ((w.withFollow "special-get-raises" true).withFollow "comprehension-iter-twice" false) := by kernel_rfl
theorem hd.c11 (w : World) : hd.sC ((w.withFollow "special-get-raises" true).withFollow "comprehension-iter-twice" true) := by kernel_rfl
theorem hd.allC : ∀ w, hd.sC w := byRow2 "comprehension-iter-twice" (P := hd.sC) (byRow2 "special-get-raises" (P := fun w => hd.sC (w.withFollow "comprehension-iter-twice" false)) hd.c00 hd.c10) (byRow2 "special-get-raises" (P := fun w => hd.sC (w.withFollow "comprehension-iter-twice" true)) hd.c01 hd.c11)
theorem hd.allD (g : Nat → Obj) (w : World) : lookD P0 (fillS hd.heap_39 281 2224 g) w 1000 = true := by kernel_rfl
theorem hd.allE (g : Nat → Obj) (w : World) : (PySem.W.Fast.tw4187177175401517315 hd.view_39 hd.loose (importedModules P0.main.body) hd.X true (fillS hd.heap_39 281 2224 g w.params), Hook.obs hd.H (fillS hd.heap_39 281 2224 g w.params)) = (openGood hd.view_39 hd.loose, Hook.val hd.H w) := by kernel_rfl
theorem hd.left : LeftO P0 hd.view_39 hd.loose (fun s => xlAt hd.view_39 hd.lv s && recOk (RowW.records PySem.Challenge.rw_rl0125_02.row.toRowW) s) (Hook.obs hd.H) (Hook.val hd.H) 37406 true :=
  left_of (by decide +kernel) (by decide +kernel) hd.allC hd.allD hd.allE
theorem hd.ws : OpenLaw.wellSaid PySem.Challenge.rw_rl0125_02 = true := by rw [PySem.W.Fast.te9446332074065402090]; kernel_rfl
theorem hd {name : Str} {params : Arguments} {body : List Stmt} {dec : List Expr} {ret : Option Expr} {tp : List TypeParam} {scope : Scope} {ts : Option Scope} {bind : Str} {pos : Pos} (hst : stA P0 [36] = some (.FunctionDef name params body dec ret tp scope ts bind pos))
    (h : WalkO hd.view_39 hd.loose (XL hd.view_39 hd.lv) hd.H.says PySem.Challenge.rw_rl0125_02.row.toRowW ⟨name, params, body, scope, pos⟩ [] (fun f vs => PySem.call f vs)) : PySem.Challenge.rw_rl0125_02.Holds := by
  have e : (⟨name, params, body, scope, pos⟩ : DefRec) = fRec (stA P0 [36]) := by rw [hst]; rfl
  rw [e] at h
  clear e hst
  w_on
  refine holds_law hd.ws fun _ => ?_
  refine W.holds_open (q := hd.view_39) (loose := hd.loose) (Xt := fun s => xlAt hd.view_39 hd.lv s && recOk (RowW.records PySem.Challenge.rw_rl0125_02.row.toRowW) s) (XP := XL hd.view_39 hd.lv) (Yf := Hook.obs hd.H) (Ya := Hook.val hd.H) (YP := Hook.says hd.H) (N := 37406) hd.left (Hook.of hd.H) (Hook.keeps hd.H) (fun s e => xl_of s (Bool.and_eq_true_iff.mp e).1) XL.keeps (by rfl) (by rfl) (by rfl) (fun s e => recFacts_of (Bool.and_eq_true_iff.mp e).2) (by rfl) (by first | assumption | decide +kernel) (by decide +kernel) ⟨rfl, rfl, rfl, rfl, rfl, by decide +kernel⟩ ?hw h
  case hw => w_witness2
end MineX
namespace Mine
theorem top_off : True := by w_top off; trivial
theorem k_filled : (MineX.hd.heap_39 = MineX.hd.heap_39) ∧ (PySem.Challenge.rw_rl0125_02 = PySem.Challenge.rw_rl0125_02) := by k_fill; exact ⟨rfl, rfl⟩
end Mine
namespace Mine
/-! a run by the kernel, with addresses that are letters: which object a step reads or changes is said ahead, by a list of numbers
(0: an object of the top, at a written address; 2 i + 1: the i-th object that the run has made; 2 j + 2: the j-th of those that are given) -/
inductive Job (α : Type) where
  | tree (t : Sem α)
  | code (c : Code) (k : Result → Sem α)
noncomputable abbrev Eqs := List (Nat × Nat)
noncomputable def AllEq : Eqs → Prop
  | [] => True
  | p :: l => p.1 = p.2 ∧ AllEq l
noncomputable def normL {β γ : Type} (f : β → (β → γ) → γ) : List β → (List β → γ) → γ
  | [], k => k []
  | x :: xs, k => f x fun x' => normL f xs fun ys => k (x' :: ys)
noncomputable def normE {γ : Type} (e : DictEntry) (k : DictEntry → γ) : γ := match e with | ⟨h, key, v⟩ => k ⟨h, key, v⟩
noncomputable def normV {γ : Type} (v : Value) (k : Value → γ) : γ := match v with
  | .int i t => k (.int i t)
  | .str x t => k (.str x t)
  | .ref a => k (.ref a)
  | .bool b => k (.bool b)
  | v => k v
noncomputable def normO {γ : Type} (o : Obj) (k : Obj → γ) : γ := match o with
  | ⟨c, d, dt, sl⟩ => match dt with
    | .dict ⟨es⟩ n => normL normE es fun es' => k ⟨c, d, .dict ⟨es'⟩ n, sl⟩
    | .seq ⟨xs⟩ n => normL normV xs fun xs' => k ⟨c, d, .seq ⟨xs'⟩ n, sl⟩
    | .fields ⟨xs⟩ => normL normV xs fun xs' => k ⟨c, d, .fields ⟨xs'⟩, sl⟩
    | dt => k ⟨c, d, dt, sl⟩
theorem normL_eq {β γ : Type} {f : β → (β → γ) → γ} (hf : ∀ x k, f x k = k x) : ∀ (l : List β) (k : List β → γ), normL f l k = k l
  | [], _ => rfl
  | x :: xs, k => by unfold normL; rw [hf, normL_eq hf xs]
theorem normE_eq {γ : Type} (e : DictEntry) (k : DictEntry → γ) : normE e k = k e := rfl
theorem normV_eq {γ : Type} (v : Value) (k : Value → γ) : normV v k = k v := by cases v <;> rfl
theorem normO_eq {γ : Type} (o : Obj) (k : Obj → γ) : normO o k = k o := by
  obtain ⟨c, d, dt, sl⟩ := o
  cases dt with
  | dict es n => obtain ⟨es⟩ := es; exact normL_eq normE_eq _ _
  | seq xs n => obtain ⟨xs⟩ := xs; exact normL_eq normV_eq _ _
  | fields xs => obtain ⟨xs⟩ := xs; exact normL_eq normV_eq _ _
  | _ => rfl
noncomputable def snocL {β γ : Type} (x : β) : List β → (List β → γ) → γ
  | [], k => k [x]
  | y :: ys, k => snocL x ys fun zs => k (y :: zs)
theorem snocL_eq {β γ : Type} (x : β) : ∀ (l : List β) (k : List β → γ), snocL x l k = k (l ++ [x])
  | [], _ => rfl
  | y :: ys, k => by unfold snocL; rw [snocL_eq x ys]; rfl
noncomputable def setL {β γ : Type} (x : β) : List β → Nat → (List β → γ) → γ
  | [], _, k => k []
  | _ :: ys, 0, k => k (x :: ys)
  | y :: ys, i + 1, k => setL x ys i fun zs => k (y :: zs)
theorem setL_eq {β γ : Type} (x : β) : ∀ (l : List β) (i : Nat) (k : List β → γ), setL x l i k = k (l.set i x)
  | [], _, _ => rfl
  | _ :: _, 0, _ => rfl
  | y :: ys, i + 1, k => by unfold setL; rw [setL_eq x ys]; rfl
/-- how deep a code's own code may still call -/
noncomputable def depIn : Code → Nat → Nat
  | .func .., d => d - 1
  | .whileLoop .., d => d
  | .forLoop .., d => d
  | .block .., d => d
  | .call .., d => d
  | _, _ => 0
noncomputable abbrev denQ : Code → Sem Fin := PySem.W.Fast.tw11892475500146522536 PySem.W.Fast.tw14364793385576792824
theorem denQ_eq (c : Code) : denote table c = denQ c := by rw [table_eq_tree, PySem.W.Fast.te14364793385576792824, PySem.W.Fast.te11892475500146522536]
noncomputable abbrev bindQ : FuncData → Args → Sem (List (Str × Value)) := PySem.W.Fast.tw9782568553167038054
theorem bindQ_eq (f : FuncData) (a : Args) : bindArgs f a = bindQ f a := by rw [PySem.W.Fast.te9782568553167038054]
noncomputable abbrev envQ (fd : FuncData) (binds : List (Str × Value)) (a : Addr) : Sem Env := PySem.W.Fast.tw11113344188204177931 fd.scope fd.globals fd.closure binds (fd.qualname ++ ".<locals>.") (some a) fd.code none fd.builtins
theorem envQ_eq (fd : FuncData) (binds : List (Str × Value)) (a : Addr) : newFunctionEnv fd.scope fd.globals fd.closure binds (fd.qualname ++ ".<locals>.") (some a) fd.code none fd.builtins = envQ fd binds a := by rw [PySem.W.Fast.te11113344188204177931]
noncomputable abbrev Out (α : Type) := Option (Except Value α × List Obj × Nat × List Nat × Eqs)
structure Tab where
  K : Nat → Option Obj
  cI : Value → Str → Bool
  S : Setting
  N : Nat
  giv : List (Nat × Obj)
noncomputable def run (V : Tab) : Nat → (α : Type) → Nat → List Obj → Nat → List Nat → Eqs → Job α → Out α
  | 0, _, _, _, _, _, _, _ => none
  | n + 1, α, d, own, tk, cert, eqs, .code c k =>
    let plain (_ : Unit) : Out α := match run V n Fin (depIn c d) own tk cert eqs (.tree (denQ c)) with
      | some (.ok (.done f), own, tk, cert, eqs) => run V n α d own tk cert eqs (.tree (k (.ok f)))
      | some (.ok (.again c'), own, tk, cert, eqs) => match c'.quiet with
        | true => run V n α d own tk cert eqs (.code c' k)
        | false => none
      | some (.error e, own, tk, cert, eqs) => run V n α d own tk cert eqs (.tree (k (.error e)))
      | none => none
    match c with
    | .call (.ref a) args => match cert with
      | 0 :: cs => match V.K a with
        | some o => match o.data with
          | .func fd => match d, fd.body, fd.scope.isCoroutine, fd.scope.isGenerator, V.cI fd.code fd.qualname with
            | _ + 1, .stmts body, false, false, true => match run V n (List (Str × Value)) 0 own tk cs eqs (.tree (bindQ fd args)) with
              | some (.ok binds, own, tk, cert, eqs) => match run V n Env 0 own tk cert eqs (.tree (envQ fd binds a)) with
                | some (.ok env, own, tk, cert, eqs) => run V n α d own tk cert eqs (.code (.func body env) k)
                | _ => none
              | _ => none
            | _, _, _, _, _ => none
          | _ => plain ()
        | none => plain ()
      | _ => plain ()
    | _ => plain ()
  | n + 1, α, d, own, tk, cert, eqs, .tree t => match t with
    | .pure a => some (.ok a, own, tk, cert, eqs)
    | .raise e => some (.error e, own, tk, cert, eqs)
    | .rule _ k => run V n α d own tk cert eqs (.tree (k ()))
    | .at _ k => run V n α d own tk cert eqs (.tree (k ()))
    | .point _ k => run V n α d own tk cert eqs (.tree (k ()))
    | .ask k => run V n α d own tk cert eqs (.tree (k V.S))
    | .fresh k => run V n α d own (tk + 1) cert eqs (.tree (k tk))
    | .handled false k => run V n α d own tk cert eqs (.tree (k none))
    | .load a _ k => match cert with
      | 0 :: cs => match V.K a with
        | some o => run V n α d own tk cs eqs (.tree (k o))
        | none => none
      | (c + 1) :: cs => match c % 2 with
        | 0 => match own[c / 2]? with
          | some o => run V n α d own tk cs ((a, V.N + c / 2) :: eqs) (.tree (k o))
          | none => none
        | _ => match V.giv[c / 2]? with
          | some p => run V n α d own tk cs ((a, p.1) :: eqs) (.tree (k p.2))
          | none => none
      | [] => none
    | .update a _ f k => match cert with
      | (c + 1) :: cs => match c % 2 with
        | 0 => match own[c / 2]? with
          | some o => normO (f o) fun o' => match o'.isFreed with
            | false => setL o' own (c / 2) fun own' => run V n α d own' tk cs ((a, V.N + c / 2) :: eqs) (.tree (k ()))
            | true => none
          | none => none
        | _ => none
      | _ => none
    | .alloc o k => normO o fun o' => match o'.isFreed with
      | false => snocL o' own fun own' => run V n α d own' tk cert eqs (.tree (k (V.N + own.length)))
      | true => none
    | .call c none _ _ k => run V n α d own tk cert eqs (.code c k)
    | _ => none
end Mine
namespace Mine
structure Rep (V : Tab) (h₀ h : Heap) (own : List Obj) : Prop where
  size : h.objs.size = V.N + own.length
  own : ∀ i o, own[i]? = some o → h.get? (V.N + i) = some o
  keep : ∀ b o, h₀.get? b = some o → h.get? b = some o
structure Tab.Ok (V : Tab) (prog : Program) (w : World) (h₀ : Heap) : Prop where
  size : h₀.objs.size = V.N
  K : ∀ a o, V.K a = some o → h₀.get? a = some o
  giv : ∀ p ∈ V.giv, h₀.get? p.1 = some p.2
  S : V.S = ⟨prog, w.params⟩
  cI : ∀ h : Heap, (∀ b o, h₀.get? b = some o → h.get? b = some o) → ∀ c q, V.cI c q = true → h.CodeRec c q
  lim : h₀.NoLimit
noncomputable def outOf {α : Type} (Q : α → Shared → Prop) (E : Value → Shared → Prop) (r : Except Value α) (s : Shared) : Prop := match r with
  | .ok a => Q a s
  | .error e => E e s
noncomputable def Room (d : Nat) (A : Around) : Prop := A.handled = none ∧ (d = 0 ∨ A.depth + d ≤ 999)
noncomputable def JobOk {α : Type} (M : Model) (d : Nat) (Q : α → Shared → Prop) (E : Value → Shared → Prop) (s : Shared) : Job α → Prop
  | .tree t => ∀ A : Around, Room d A → wpAny M A t Q E s
  | .code c k => ∀ A A₀ : Around, Room d A → Room d A₀ → codeAny M A c (fun r s' => wpAny M A₀ (k r) Q E s') s
theorem room_in {d : Nat} {A : Around} (c : Code) (h : Room d A) : Room (depIn c d) (A.under c) := by
  refine ⟨h.1, ?_⟩
  cases c <;> first
    | exact .inl rfl
    | (rcases h.2 with rfl | h2
       · exact .inl rfl
       · refine .inr ?_; show A.depth + Code.weight _ + _ ≤ 999; exact h2)
    | (rcases h.2 with rfl | h2
       · exact .inl rfl
       · cases d with
         | zero => exact .inl rfl
         | succ d => refine .inr ?_; show A.depth + 1 + d ≤ 999; have h3 : A.depth + (d + 1) ≤ 999 := h2; rw [Nat.add_assoc, Nat.add_comm 1 d]; exact h3)
theorem room_zero {d : Nat} {A : Around} (h : Room d A) : Room 0 A.in1 := ⟨h.1, .inl rfl⟩
theorem room_mark {d : Nat} {A : Around} (h : Room d A) : Room d (A.mark none) := h
section
variable {V : Tab} {h₀ h : Heap} {own : List Obj}
theorem Rep.alloc (D : Rep V h₀ h own) {o : Obj} (hf : o.isFreed = false) : Rep V h₀ (h.push o) (own ++ [o]) := by
  refine ⟨by rw [Heap.size_push, D.size, List.length_append]; rfl, fun i o' e => ?_, fun b o' e => Heap.get?_push_of_some _ (D.keep b o' e)⟩
  by_cases hi : i < own.length
  · rw [List.getElem?_append_left hi] at e
    exact Heap.get?_push_of_some _ (D.own i o' e)
  · rw [List.getElem?_append_right (Nat.le_of_not_lt hi)] at e
    have hz : i - own.length = 0 := by
      rcases Nat.eq_zero_or_pos (i - own.length) with z | z
      · exact z
      · rw [List.getElem?_eq_none (show [o].length ≤ i - own.length from z)] at e; cases e
    rw [hz] at e
    cases e
    have : V.N + i = h.objs.size := by
      have h3 := Nat.le_of_not_lt hi
      rw [D.size, show i = own.length from Nat.le_antisymm (Nat.le_of_sub_eq_zero hz) h3]
    rw [this]; exact Heap.get?_push_size _ hf
theorem Rep.update (D : Rep V h₀ h own) (hs : h₀.objs.size = V.N) {i : Nat} {o : Obj} {f : Obj → Obj} (e : own[i]? = some o) (hf : (f o).isFreed = false) : Rep V h₀ (h.update (V.N + i) f) (own.set i (f o)) := by
  have ho := D.own i o e
  have sb : Heap.SameBut (V.N + i) h (h.update (V.N + i) f) := Heap.SameBut.update ..
  obtain ⟨hl, _⟩ := List.getElem?_eq_some_iff.mp e
  refine ⟨by rw [sb.1, D.size, List.length_set], fun j o' e' => ?_, fun b o' e' => ?_⟩
  · by_cases hj : j = i
    · subst hj
      rw [List.getElem?_set_self hl] at e'
      cases e'
      exact Heap.get?_update_self f ho hf
    · rw [List.getElem?_set_ne (Ne.symm hj)] at e'
      exact (sb.2 _ fun q => hj (Nat.add_left_cancel q)).trans (D.own j o' e')
  · have : b < V.N := hs ▸ Heap.lt_size e'
    exact (sb.2 b fun q => absurd this (by rw [q]; exact Nat.not_lt.mpr (Nat.le_add_right _ _))).trans (D.keep b o' e')
end
end Mine
namespace Mine
/-- what one run says -/
noncomputable def Says {α : Type} (prog : Program) (w : World) (V : Tab) (h₀ : Heap) (d : Nat) (own : List Obj) (tk : Nat) (eqs : Eqs) (j : Job α) (r : Except Value α) (own' : List Obj) (tk' : Nat) (eqs' : Eqs) : Prop :=
  AllEq eqs' → AllEq eqs ∧ ∀ (s : Shared) (Q : α → Shared → Prop) (E : Value → Shared → Prop), s.toks = tk → Rep V h₀ s.heap own → (∀ h', Rep V h₀ h' own' → outOf Q E r { s with heap := h', toks := tk' }) → JobOk (model prog w) d Q E s j
section
variable {prog : Program} {w : World} {V : Tab} {h₀ : Heap}
theorem says_step {α : Type} {d : Nat} {own own₁ own' : List Obj} {tk tk₁ tk' : Nat} {eqs eqs₁ eqs' : Eqs} {t t₁ : Sem α} {r : Except Value α} (h : Says prog w V h₀ d own₁ tk₁ eqs₁ (.tree t₁) r own' tk' eqs')
    (he : AllEq eqs₁ → AllEq eqs)
    (st : AllEq eqs₁ → ∀ (s : Shared) (Q : α → Shared → Prop) (E : Value → Shared → Prop) (A : Around), A.handled = none → s.toks = tk → Rep V h₀ s.heap own → (∀ h₁, Rep V h₀ h₁ own₁ → wpAny (model prog w) A t₁ Q E { s with heap := h₁, toks := tk₁ }) → wpAny (model prog w) A t Q E s) :
    Says prog w V h₀ d own tk eqs (.tree t) r own' tk' eqs' := fun ha => by
  obtain ⟨a, b⟩ := h ha
  exact ⟨he a, fun s Q E e D q A hA => st a s Q E A hA.1 e D fun h₁ D₁ => b { s with heap := h₁, toks := tk₁ } Q E rfl D₁ (fun h' D' => q h' D') A hA⟩
theorem run_sound (O : V.Ok prog w h₀) : ∀ (n : Nat) (α : Type) (d : Nat) (own : List Obj) (tk : Nat) (cert : List Nat) (eqs : Eqs) (j : Job α) (r : Except Value α) (own' : List Obj) (tk' : Nat) (cert' : List Nat) (eqs' : Eqs),
    run V n α d own tk cert eqs j = some (r, own', tk', cert', eqs') → Says prog w V h₀ d own tk eqs j r own' tk' eqs'
  | 0, _, _, _, _, _, _, _, _, _, _, _, _, h => by cases h
  | n + 1, α, d, own, tk, cert, eqs, .tree t, r, own', tk', cert', eqs', h => by
    have IH := run_sound O n
    unfold run at h
    split at h
    · cases h; exact fun ha => ⟨ha, fun s Q E e D q A hA => wpAny_pure (by have := q s.heap D; subst e; exact this)⟩
    · cases h; exact fun ha => ⟨ha, fun s Q E e D q A hA => wpAny_throw (by have := q s.heap D; subst e; exact this)⟩
    · exact says_step (IH _ _ _ _ _ _ _ _ _ _ _ _ h) id fun _ s Q E A hA e D q => X.x_rule (by have := q s.heap D; subst e; exact this)
    · exact says_step (IH _ _ _ _ _ _ _ _ _ _ _ _ h) id fun _ s Q E A hA e D q => X.x_at (by have := q s.heap D; subst e; exact this)
    · exact says_step (IH _ _ _ _ _ _ _ _ _ _ _ _ h) id fun _ s Q E A hA e D q => X.x_point (by have := q s.heap D; subst e; exact this)
    · exact says_step (IH _ _ _ _ _ _ _ _ _ _ _ _ h) id fun _ s Q E A hA e D q => X.x_ask (by have := q s.heap D; subst e; rw [O.S] at this; exact this)
    · exact says_step (IH _ _ _ _ _ _ _ _ _ _ _ _ h) id fun _ s Q E A hA e D q => X.x_fresh (by have := q s.heap D; subst e; exact this)
    · exact says_step (IH _ _ _ _ _ _ _ _ _ _ _ _ h) id fun _ s Q E A hA e D q => X.x_handled (by have := q s.heap D; subst e; rw [hA]; exact this)
    · rename_i a pt k
      split at h
      · rename_i cs
        split at h
        · rename_i o ho
          exact says_step (IH _ _ _ _ _ _ _ _ _ _ _ _ h) id fun _ s Q E A hA e D q => X.x_load (D.keep _ _ (O.K _ _ ho)) (by have := q s.heap D; subst e; exact this)
        · cases h
      · rename_i c cs
        split at h
        · split at h
          · rename_i o ho
            refine says_step (IH _ _ _ _ _ _ _ _ _ _ _ _ h) (fun z => z.2) fun z s Q E A hA e D q => ?_
            have ea : a = V.N + c / 2 := z.1
            exact X.x_load (by rw [ea]; exact D.own _ _ ho) (by have := q s.heap D; subst e; exact this)
          · cases h
        · split at h
          · rename_i p hp
            refine says_step (IH _ _ _ _ _ _ _ _ _ _ _ _ h) (fun z => z.2) fun z s Q E A hA e D q => ?_
            have ea : a = p.1 := z.1
            exact X.x_load (by rw [ea]; exact D.keep _ _ (O.giv p (List.mem_of_getElem? hp))) (by have := q s.heap D; subst e; exact this)
          · cases h
      · cases h
    · rename_i a pt f k
      split at h
      · rename_i c cs
        split at h
        · split at h
          · rename_i o ho
            rw [normO_eq] at h
            split at h
            · rename_i hf
              rw [setL_eq] at h
              refine says_step (IH _ _ _ _ _ _ _ _ _ _ _ _ h) (fun z => z.2) fun z s Q E A hA e D q => ?_
              have ea : a = V.N + c / 2 := z.1
              refine wpAny_bind (m := updatePart a pt f) (f := k) (wpAny_updatePart (by rw [ea]; exact D.own _ _ ho) ?_)
              have := q (s.heap.update a f) (by rw [ea]; exact D.update O.size ho hf)
              subst e; exact this
            · cases h
          · cases h
        · cases h
      · cases h
    · rename_i o k
      rw [normO_eq] at h
      split at h
      · rename_i hf
        rw [snocL_eq] at h
        refine says_step (IH _ _ _ _ _ _ _ _ _ _ _ _ h) id fun _ s Q E A hA e D q => ?_
        refine wpAny_bind (m := alloc o) (f := k) (wpAny_alloc ?_)
        have := q (s.heap.push o) (D.alloc hf)
        rw [D.size]
        subst e; exact this
      · cases h
    · rename_i c g l k
      intro ha
      obtain ⟨a, b⟩ := IH _ _ _ _ _ _ _ _ _ _ _ _ h ha
      exact ⟨a, fun s Q E e D q A hA => X.x_call (b s Q E e D q (A.mark none) A (room_mark hA) hA) (by intro x; cases x)⟩
    · cases h
  | n + 1, α, d, own, tk, cert, eqs, .code c k, r, own', tk', cert', eqs', h => by
    have IH := run_sound O n
    have plain : (match run V n Fin (depIn c d) own tk cert eqs (.tree (denQ c)) with
      | some (.ok (.done f), own, tk, cert, eqs) => run V n α d own tk cert eqs (.tree (k (.ok f)))
      | some (.ok (.again c'), own, tk, cert, eqs) => match c'.quiet with
        | true => run V n α d own tk cert eqs (.code c' k)
        | false => none
      | some (.error e, own, tk, cert, eqs) => run V n α d own tk cert eqs (.tree (k (.error e)))
      | none => none) = some (r, own', tk', cert', eqs') → Says prog w V h₀ d own tk eqs (.code c k) r own' tk' eqs' := by
      intro h ha
      have den : (model prog w).den c = denQ c := denQ_eq c
      split at h
      · rename_i f own₁ tk₁ cert₁ eqs₁ h₁
        obtain ⟨a, b⟩ := IH _ _ _ _ _ _ _ _ _ _ _ _ h ha
        obtain ⟨a', b'⟩ := IH _ _ _ _ _ _ _ _ _ _ _ _ h₁ a
        refine ⟨a', fun s Q E e D q A A₀ hA hA₀ => codeAny_of_tree ?_⟩
        rw [den]
        exact b' s (fun fin s' => match fin with | .done f => wpAny (model prog w) A₀ (k (.ok f)) Q E s' | .again c' => c'.quiet = true ∧ codeAny (model prog w) A c' (fun r s' => wpAny (model prog w) A₀ (k r) Q E s') s') (fun e s' => wpAny (model prog w) A₀ (k (.error e)) Q E s') e D (fun h₂ D₂ => b { s with heap := h₂, toks := tk₁ } Q E rfl D₂ (fun h' D' => q h' D') A₀ hA₀) (A.under c) (room_in c hA)
      · rename_i c' own₁ tk₁ cert₁ eqs₁ h₁
        split at h
        · rename_i hq
          obtain ⟨a, b⟩ := IH _ _ _ _ _ _ _ _ _ _ _ _ h ha
          obtain ⟨a', b'⟩ := IH _ _ _ _ _ _ _ _ _ _ _ _ h₁ a
          refine ⟨a', fun s Q E e D q A A₀ hA hA₀ => codeAny_of_tree ?_⟩
          rw [den]
          exact b' s (fun fin s' => match fin with | .done f => wpAny (model prog w) A₀ (k (.ok f)) Q E s' | .again c' => c'.quiet = true ∧ codeAny (model prog w) A c' (fun r s' => wpAny (model prog w) A₀ (k r) Q E s') s') (fun e s' => wpAny (model prog w) A₀ (k (.error e)) Q E s') e D (fun h₂ D₂ => ⟨hq, b { s with heap := h₂, toks := tk₁ } Q E rfl D₂ (fun h' D' => q h' D') A A₀ hA hA₀⟩) (A.under c) (room_in c hA)
        · cases h
      · rename_i e' own₁ tk₁ cert₁ eqs₁ h₁
        obtain ⟨a, b⟩ := IH _ _ _ _ _ _ _ _ _ _ _ _ h ha
        obtain ⟨a', b'⟩ := IH _ _ _ _ _ _ _ _ _ _ _ _ h₁ a
        refine ⟨a', fun s Q E e D q A A₀ hA hA₀ => codeAny_of_tree ?_⟩
        rw [den]
        exact b' s (fun fin s' => match fin with | .done f => wpAny (model prog w) A₀ (k (.ok f)) Q E s' | .again c' => c'.quiet = true ∧ codeAny (model prog w) A c' (fun r s' => wpAny (model prog w) A₀ (k r) Q E s') s') (fun e s' => wpAny (model prog w) A₀ (k (.error e)) Q E s') e D (fun h₂ D₂ => b { s with heap := h₂, toks := tk₁ } Q E rfl D₂ (fun h' D' => q h' D') A₀ hA₀) (A.under c) (room_in c hA)
      · cases h
    unfold run at h
    dsimp only at h
    split at h
    · rename_i a args
      split at h
      · rename_i cs
        split at h
        · rename_i o ho
          split at h
          · rename_i fd hfd
            split at h
            · rename_i d body hbody hco hgen hcI
              split at h
              · rename_i binds own₁ tk₁ cert₁ eqs₁ h₁
                split at h
                · rename_i env own₂ tk₂ cert₂ eqs₂ h₂
                  intro ha
                  obtain ⟨a3, b3⟩ := IH _ _ _ _ _ _ _ _ _ _ _ _ h ha
                  obtain ⟨a2, b2⟩ := IH _ _ _ _ _ _ _ _ _ _ _ _ h₂ a3
                  obtain ⟨a1, b1⟩ := IH _ _ _ _ _ _ _ _ _ _ _ _ h₁ a2
                  refine ⟨a1, fun s Q E e D q A A₀ hA hA₀ => ?_⟩
                  refine codeAny_call_function (by
                      rcases hA.2 with z | z
                      · cases z
                      · exact Nat.lt_of_le_of_lt (Nat.le_trans (Nat.le_add_right _ _) z) (by decide))
                    (D.keep _ _ (O.K _ _ ho)) hfd hco hgen hbody (O.cI _ D.keep _ _ hcI) ?_
                  rw [bindQ_eq]
                  refine b1 s (fun binds s₁ => wpAny (model prog w) A.in1 (newFunctionEnv fd.scope fd.globals fd.closure binds (fd.qualname ++ ".<locals>.") (some a) fd.code none fd.builtins)
                    (fun env s₂ => s₂.heap.NoLimit ∧ codeAny (model prog w) A (.func body env) (fun r s' => wpAny (model prog w) A₀ (k r) Q E s') s₂) (fun e s' => wpAny (model prog w) A₀ (k (.error e)) Q E s') s₁)
                    (fun e s' => wpAny (model prog w) A₀ (k (.error e)) Q E s') e D (fun h₁' D₁ => ?_) A.in1 (room_zero hA)
                  show wpAny (model prog w) A.in1 (newFunctionEnv fd.scope fd.globals fd.closure binds (fd.qualname ++ ".<locals>.") (some a) fd.code none fd.builtins) _ _ _
                  rw [envQ_eq]
                  refine b2 { s with heap := h₁', toks := tk₁ } (fun env s₂ => s₂.heap.NoLimit ∧ codeAny (model prog w) A (.func body env) (fun r s' => wpAny (model prog w) A₀ (k r) Q E s') s₂) (fun e s' => wpAny (model prog w) A₀ (k (.error e)) Q E s') rfl D₁ (fun h₂' D₂ => ?_) A.in1 (room_zero hA)
                  exact ⟨O.lim.keeps D₂.keep, b3 { s with heap := h₂', toks := tk₂ } Q E rfl D₂ (fun h' D' => q h' D') A A₀ hA hA₀⟩
                · cases h
              · cases h
            · cases h
          · exact plain h
        · exact plain h
      · exact plain h
    · exact plain h
end
end Mine
namespace Mine
/-- the two rows of the world's that the texts hang on, written out -/
noncomputable def mkP (P : Params) (b c : Bool) : Params := { P with followText := fun r => match decide (r = "special-get-raises") with
  | true => b
  | false => match decide (r = "comprehension-iter-twice") with
    | true => c
    | false => P.followText r }
theorem mkP_eq (P : Params) : P = mkP P (P.followText "special-get-raises") (P.followText "comprehension-iter-twice") := by
  obtain ⟨a1, a2, a3, a4, a5, ft, a7⟩ := P
  unfold mkP
  congr 1
  funext r
  by_cases h : r = "special-get-raises"
  · subst h; simp
  · by_cases h2 : r = "comprehension-iter-twice"
    · subst h2; simp
    · simp [h, h2]
noncomputable def lookN : Frag → Nat → Option Obj
  | [], _ => none
  | p :: r, a => match Nat.beq p.1 a with
    | true => some p.2
    | false => lookN r a
theorem lookN_eq : ∀ {K : Frag} {a : Nat} {o : Obj}, lookN K a = some o → K.lookup a = some o
  | [], _, _, h => by cases h
  | p :: r, a, o, h => by
    unfold lookN at h
    split at h
    · rename_i e
      have e' : p.1 = a := Nat.eq_of_beq_eq_true e
      subst e'
      show List.lookup p.1 ((p.1, p.2) :: r) = _
      rw [List.lookup_cons, beq_self_eq_true]
      exact h
    · rename_i e
      have e' : ¬ a = p.1 := fun q => by rw [q, Nat.beq_refl] at e; cases e
      show List.lookup a ((p.1, p.2) :: r) = _
      rw [List.lookup_cons, beq_eq_false_iff_ne.mpr e']
      exact lookN_eq h
noncomputable def clm (N : Nat) (giv : List (Nat × Obj)) : List Nat → Eqs → Eqs
  | [], e => e
  | 0 :: cs, e => clm N giv cs e
  | (c + 1) :: cs, e => match c % 2 with
    | 0 => clm N giv cs ((N + c / 2, N + c / 2) :: e)
    | _ => match giv[c / 2]? with
      | some p => clm N giv cs ((p.1, p.1) :: e)
      | none => clm N giv cs e
theorem clm_ok {N : Nat} {giv : List (Nat × Obj)} : ∀ (cs : List Nat) (e : Eqs), AllEq e → AllEq (clm N giv cs e)
  | [], _, h => h
  | 0 :: cs, e, h => clm_ok cs e h
  | (c + 1) :: cs, e, h => by
    unfold clm
    split
    · exact clm_ok cs _ ⟨rfl, h⟩
    · split
      · exact clm_ok cs _ ⟨rfl, h⟩
      · exact clm_ok cs _ h
noncomputable def out3 {α : Type} (r : Except Value α × List Obj × Nat × List Nat × Eqs) : Except Value α × Nat × Eqs := (r.1, r.2.2.1, r.2.2.2.2)
noncomputable abbrev tabOf (K : Frag) (prog : Program) (P : Params) (N : Nat) (giv : List (Nat × Obj)) : Tab := ⟨lookN K, codeIn K, ⟨prog, P⟩, N, giv⟩
theorem tabOf_ok {K : Frag} {prog : Program} {w : World} {h : Heap} {giv : List (Nat × Obj)} (X : K.In h) (hl : h.NoLimit) (hg : ∀ p ∈ giv, h.get? p.1 = some p.2) : (tabOf K prog w.params h.objs.size giv).Ok prog w h :=
  ⟨rfl, fun a o e => X a o (lookN_eq e), hg, rfl, fun h' k c q e => codeRec_of (X.keeps k) e, hl⟩
theorem run_tree {α : Type} {K : Frag} {prog : Program} {w : World} {A : Around} {s : Shared} {giv : List (Nat × Obj)} {t : Sem α} {v : α} {tk' : Nat} {Q : α → Shared → Prop} {E : Value → Shared → Prop} (n d : Nat) (cert : List Nat)
    (X : K.In s.heap) (hl : s.heap.NoLimit) (hg : ∀ p ∈ giv, s.heap.get? p.1 = some p.2) (hA : A.handled = none) (hd : A.depth + d ≤ 999)
    (h : (run (tabOf K prog w.params s.heap.objs.size giv) n α d [] s.toks cert [] (.tree t)).map out3 = some (.ok v, tk', clm s.heap.objs.size giv cert []))
    (q : ∀ h', (∀ b o, s.heap.get? b = some o → h'.get? b = some o) → Q v { s with heap := h', toks := tk' }) : wpAny (model prog w) A t Q E s := by
  obtain ⟨r, hr, e⟩ := Option.map_eq_some_iff.mp h
  obtain ⟨r1, own', tk2, cert', eqs'⟩ := r
  have e1 : r1 = .ok v := congrArg Prod.fst e
  have e2 : tk2 = tk' := congrArg (fun x => x.2.1) e
  have e3 : eqs' = clm s.heap.objs.size giv cert [] := congrArg (fun x => x.2.2) e
  subst e1 e2 e3
  have z := run_sound (tabOf_ok X hl hg) n α d [] s.toks cert [] (.tree t) _ own' _ cert' _ hr (clm_ok cert [] trivial)
  exact z.2 s Q E rfl ⟨rfl, fun i o e => (nomatch e), fun _ _ e => e⟩ (fun h' D => q h' D.keep) A ⟨hA, .inr hd⟩
end Mine
namespace Mine
noncomputable abbrev loose3 : List Str := looseW MineX.hd.view_39 [Str.ofString "tspecials", Str.ofString "_name_disallowed_re", Str.ofString "_value_disallowed_re", Str.ofString "_formatparam", Str.ofString "_QUOPRI_MAP", Str.ofString "_QUOPRI_HEADER_MAP", Str.ofString "_QUOPRI_BODY_MAP", Str.ofString "ascii_letters", Str.ofString "hexdigits", Str.ofString "_QUOPRI_BODY_ENCODE_MAP", Str.ofString "body_encode", Str.ofString "decode"]
noncomputable abbrev prog3 : Program := PySem.Challenge.rw_rl0125_02.row.prog
noncomputable abbrev noE : Value → Shared → Prop := fun _ _ => False
noncomputable abbrev Aq (n : Nat) : Around := { handled := none, depth := 900 - 20 * n, frames := none, guards := none, units := 9000 - 300 * n }

theorem weaken {α : Type} {M : Model} {A B : Around} {t : Sem α} {Q : α → Shared → Prop} {E : Value → Shared → Prop} {s : Shared}
    (h : wpAny M B t Q E s) (hh : A.handled = B.handled) (hd : A.depth ≤ B.depth) (hu : A.units ≤ B.units) (hf : B.frames = none) (hg : B.guards = none) : wpAny M A t Q E s :=
  fun Γ p hΓ => h Γ p ⟨hΓ.1.trans hh, Nat.le_trans hΓ.2.1 hd, fun l e => (by rw [hf] at e; cases e), fun l e => (by rw [hg] at e; cases e), Nat.le_trans hΓ.2.2.2.2 hu⟩

structure G3 (w : World) (mean : ExcName → Option Value) (mg mb : Str → Option Value) (h₀ : Heap) : Prop where
  X : (MineX.hd.heap_39 w.params).In h₀
  T : Top MineX.hd.view_39 loose3 mean mg mb h₀

section
variable {w : World} {mean : ExcName → Option Value} {mg mb : Str → Option Value} {h₀ : Heap}

theorem stays_hide {h₀ h : Heap} {hid : List (Addr × Obj)} (hs : h₀.StaysIn h) (hn : ∀ p ∈ hid, h₀.get? p.1 = none) : h₀.StaysIn (hideAll h (hid.map (·.1))) := fun b o e =>
  hideAll_get _ (hs b o e) fun q => by
    obtain ⟨p, hp, rfl⟩ := List.mem_map.mp q
    rw [hn p hp] at e; cases e

theorem enter0 {A : Around} {s : Shared} {f : Addr} {args : Args} {R : Result → Shared → Prop} {name qual : Str} {params : Arguments} {body : List Stmt} {scope : Scope} {dV kV doc pm cdv ct oc : Value} {an od : Option Addr} {osl : Array (Option Value)} {ix : List Nat} {dec : List Expr} {ret : Option Expr} {tp : List TypeParam} {ts : Option Scope} {bnd : Str} {ps : Pos}
    {binds : List (Str × Value)} {hid : List (Addr × Obj)} (G : G3 w mean mg mb h₀) (hs : h₀.StaysIn s.heap) (hN : ∀ p ∈ hid, s.heap.get? p.1 = some p.2 ∧ h₀.get? p.1 = none)
    (ho : (MineX.hd.heap_39 w.params).lookup f = some ⟨oc, od, .func (fnOf (fName (stA MineX.P0 ix)) qual (fArgs (stA MineX.P0 ix)) (fBody (stA MineX.P0 ix)) (fScope (stA MineX.P0 ix)) dV kV doc pm an cdv ct), osl⟩) (hcd : codeIn (MineX.hd.heap_39 w.params) cdv qual = true) (hst : stA MineX.P0 ix = some (.FunctionDef name params body dec ret tp scope ts bnd ps)) (hroom : A.depth < recursionLimit)
    (hbind : BindsTo s (fnOf name qual params body scope dV kV doc pm an cdv ct) args binds) (hloc : ∀ y ∈ binds, scope.names.lookup y.1 = some .local)
    (h : ∀ g L h₁, g = hideAll s.heap (hid.map (·.1)) → h₀.StaysIn g → Fr g L h₁ (fun y => binds.reverse.lookup y) → News g L h₁ hid → (MineX.hd.heap_39 w.params).In g → Top MineX.hd.view_39 loose3 mean mg mb g → (∀ p ∈ hid, p.1 < L) →
      wpAny (model prog3 w) (A.deeper (envOf qual scope L f cdv)) (execs body (envOf qual scope L f cdv))
        (fun fl s' => R (.ok (.ret (match fl with | .ret v => v | _ => .none))) s') noE { s with heap := h₁, toks := s.toks + binds.length })
    (hco : scope.isCoroutine = false) (hgen : scope.isGenerator = false) (hk : scope.kind = .function)
    (hcell : ∀ x ∈ scope.names, x.2 ≠ .cell) : codeAny (model prog3 w) A (.call (.ref f) args) R s := by
  rw [hst] at ho
  replace ho : (MineX.hd.heap_39 w.params).lookup f = some ⟨oc, od, .func (fnOf name qual params body scope dV kV doc pm an cdv ct), osl⟩ := ho
  have X := G.X.keeps hs
  refine codeAny_call_def (fd := fnOf name qual params body scope dV kV doc pm an cdv ct) (body := body) (binds := binds) hroom (X _ _ ho) rfl (G.T.nolimit.keeps hs) (codeRec_of X hcd) rfl hbind hcell hloc (fun h₁ hns hk₁ => ?_) hco hgen hk
  have st := stays_hide hs (fun p hp => (hN p hp).2)
  refine wpAny_mono (h (hideAll s.heap (hid.map Prod.fst)) s.heap.objs.size h₁ rfl st ⟨hns, fun b o e => hk₁ b o (of_hideAll _ e), Nat.le_of_eq (hideAll_size _ _)⟩
    (fun p hp => ⟨hk₁ _ _ (hN p hp).1, Nat.ne_of_lt (Heap.lt_size (hN p hp).1), hideAll_none _ (List.mem_map_of_mem hp)⟩) (G.X.keeps fun b o e => st b o e) (G.T.keeps fun b o e => st b o e) (fun p hp => Heap.lt_size (hN p hp).1)) (fun _ _ x => x) fun _ _ x => x.elim
end
structure Post (R : Value → Prop) (s : Shared) (v : Value) (s' : Shared) : Prop where
  val : R v
  keeps : Keeps s s'
noncomputable abbrev IsStr (x : Str) (v : Value) : Prop := ∃ t, v = .str x t
section
variable {w : World} {mean : ExcName → Option Value} {mg mb : Str → Option Value} {h₀ : Heap}
theorem post_end {R : Value → Prop} {s : Shared} {h' : Heap} {tk : Nat} {v : Value} {L : Addr} {m : Str → Option Value} (F : Fr s.heap L h' m) (hv : R v) : Post R s v { s with heap := h', toks := tk } := ⟨hv, _, _, rfl, F.keep⟩
structure Fits (A : Around) (k : Nat) : Prop where
  h : A.handled = none
  d : A.depth ≤ 900 - 20 * k
  u : A.units ≤ 9000 - 300 * k
theorem use0 {A : Around} {t : Sem Value} {R : Value → Prop} {k : Nat} {s : Shared} {b : Heap} {L : Addr} {m : Str → Option Value} {news : List (Addr × Obj)} {Q E : Value → Shared → Prop}
    (spec : wpAny (model prog3 w) (Aq k) t (Post R s) noE s) (hA : Fits A k) (F : Fr b L s.heap m) (N : News b L s.heap news)
    (h : ∀ v h' tk', R v → Fr b L h' m → News b L h' news → Q v { s with heap := h', toks := tk' }) : wpAny (model prog3 w) A t Q E s := by
  refine wpAny_mono (weaken spec hA.h hA.d hA.u rfl rfl) (fun v s' p => ?_) fun _ _ x => x.elim
  obtain ⟨h', tk', rfl, hk⟩ := p.keeps
  exact h v h' tk' p.val (F.keeps hk) (N.keeps hk)
theorem use_str {A : Around} {t : Sem Value} {x : Str} {k : Nat} {s : Shared} {b : Heap} {L : Addr} {m : Str → Option Value} {news : List (Addr × Obj)} {Q E : Value → Shared → Prop}
    (spec : wpAny (model prog3 w) (Aq k) t (Post (IsStr x) s) noE s) (hA : Fits A k) (F : Fr b L s.heap m) (N : News b L s.heap news)
    (h : ∀ t h' tk', Fr b L h' m → News b L h' news → Q (.str x t) { s with heap := h', toks := tk' }) : wpAny (model prog3 w) A t Q E s :=
  use0 spec hA F N fun v h' tk' hv F' N' => by obtain ⟨t, rfl⟩ := hv; exact h t h' tk' F' N'
/-- a contract out of a run by the kernel -/
theorem by_run {R : Value → Prop} {A : Around} {s : Shared} {t : Sem Value} {v : Value} {tk' : Nat} (G : G3 w mean mg mb h₀) (hs : h₀.StaysIn s.heap) (cert : List Nat) (hA : A.handled = none) (hd : A.depth + 5 ≤ 999)
    (h : (run (tabOf (MineX.hd.heap_39 w.params) prog3 w.params s.heap.objs.size []) 9000 Value 5 [] s.toks cert [] (.tree t)).map out3 = some (.ok v, tk', clm s.heap.objs.size [] cert [])) (hv : R v) :
    wpAny (model prog3 w) A t (Post R s) noE s :=
  run_tree (giv := []) 9000 5 cert (G.X.keeps hs) (G.T.nolimit.keeps hs) (fun _ hp => nomatch hp) hA hd h fun h' k => ⟨hv, h', tk', rfl, k⟩
end
end Mine
namespace Mine
noncomputable abbrev c_cn0 : List Nat := [0, 1, 1, 1, 1, 1, 1, 0, 0, 1, 0, 0, 1, 0, 1, 1, 1, 0, 0, 0, 0, 1, 0, 0, 0, 1]
theorem k_cn0 (P : Params) (pr : Program) (N z t1 tk : Nat) : (run (tabOf (MineX.hd.heap_39 P) pr P N []) 9000 Value 5 [] tk c_cn0 [] (.tree (call (.ref 83) [.ref z, .str (Str.ofString "=6a") t1] [(Str.ofString "name", .bool true)]))).map out3 = some (.ok (.str (Str.ofString "=6a") t1), tk + 4, clm N [] c_cn0 []) := by
  rw [mkP_eq P]
  generalize P.followText "special-get-raises" = b
  cases b <;> kernel_rfl
noncomputable abbrev c_cn1 : List Nat := [0, 1, 1, 1, 1, 1, 1, 0, 0, 1, 0, 0, 1, 0, 1, 1, 1, 0, 0, 0, 0, 1, 0, 0, 0, 1]
theorem k_cn1 (P : Params) (pr : Program) (N z t1 tk : Nat) : (run (tabOf (MineX.hd.heap_39 P) pr P N []) 9000 Value 5 [] tk c_cn1 [] (.tree (call (.ref 83) [.ref z, .str (Str.ofString "=4a") t1] [(Str.ofString "name", .bool true)]))).map out3 = some (.ok (.str (Str.ofString "=4a") t1), tk + 4, clm N [] c_cn1 []) := by
  rw [mkP_eq P]
  generalize P.followText "special-get-raises" = b
  cases b <;> kernel_rfl
noncomputable abbrev c_cn2 : List Nat := [0, 1, 1, 1, 1, 1, 1, 0, 0, 1, 0, 0, 1, 0, 1, 1, 1, 0, 0, 0, 0, 1, 0, 0, 0, 1]
theorem k_cn2 (P : Params) (pr : Program) (N z t1 tk : Nat) : (run (tabOf (MineX.hd.heap_39 P) pr P N []) 9000 Value 5 [] tk c_cn2 [] (.tree (call (.ref 83) [.ref z, .str (Str.ofString "=6b") t1] [(Str.ofString "name", .bool true)]))).map out3 = some (.ok (.str (Str.ofString "=6b") t1), tk + 4, clm N [] c_cn2 []) := by
  rw [mkP_eq P]
  generalize P.followText "special-get-raises" = b
  cases b <;> kernel_rfl
noncomputable abbrev c_cn3 : List Nat := [0, 1, 1, 1, 1, 1, 1, 0, 0, 1, 0, 0, 1, 0, 1, 1, 1, 0, 0, 0, 0, 1, 0, 0, 0, 1]
theorem k_cn3 (P : Params) (pr : Program) (N z t1 tk : Nat) : (run (tabOf (MineX.hd.heap_39 P) pr P N []) 9000 Value 5 [] tk c_cn3 [] (.tree (call (.ref 83) [.ref z, .str (Str.ofString "=4b") t1] [(Str.ofString "name", .bool true)]))).map out3 = some (.ok (.str (Str.ofString "=4b") t1), tk + 4, clm N [] c_cn3 []) := by
  rw [mkP_eq P]
  generalize P.followText "special-get-raises" = b
  cases b <;> kernel_rfl
noncomputable abbrev c_cn4 : List Nat := [0, 1, 1, 1, 1, 1, 1, 0, 0, 1, 0, 0, 1, 0, 1, 1, 1, 0, 0, 0, 0, 1, 0, 0, 0, 1]
theorem k_cn4 (P : Params) (pr : Program) (N z t1 tk : Nat) : (run (tabOf (MineX.hd.heap_39 P) pr P N []) 9000 Value 5 [] tk c_cn4 [] (.tree (call (.ref 83) [.ref z, .str (Str.ofString "=6c") t1] [(Str.ofString "name", .bool true)]))).map out3 = some (.ok (.str (Str.ofString "=6c") t1), tk + 4, clm N [] c_cn4 []) := by
  rw [mkP_eq P]
  generalize P.followText "special-get-raises" = b
  cases b <;> kernel_rfl
noncomputable abbrev c_cn5 : List Nat := [0, 1, 1, 1, 1, 1, 1, 0, 0, 1, 0, 0, 1, 0, 1, 1, 1, 0, 0, 0, 0, 1, 0, 0, 0, 1]
theorem k_cn5 (P : Params) (pr : Program) (N z t1 tk : Nat) : (run (tabOf (MineX.hd.heap_39 P) pr P N []) 9000 Value 5 [] tk c_cn5 [] (.tree (call (.ref 83) [.ref z, .str (Str.ofString "=4c") t1] [(Str.ofString "name", .bool true)]))).map out3 = some (.ok (.str (Str.ofString "=4c") t1), tk + 4, clm N [] c_cn5 []) := by
  rw [mkP_eq P]
  generalize P.followText "special-get-raises" = b
  cases b <;> kernel_rfl
noncomputable abbrev c_cn6 : List Nat := [0, 1, 1, 1, 1, 1, 1, 0, 0, 1, 0, 0, 1, 0, 1, 1, 1, 0, 0, 0, 0, 1, 0, 0, 0, 1]
theorem k_cn6 (P : Params) (pr : Program) (N z t1 tk : Nat) : (run (tabOf (MineX.hd.heap_39 P) pr P N []) 9000 Value 5 [] tk c_cn6 [] (.tree (call (.ref 83) [.ref z, .str (Str.ofString "=6A") t1] [(Str.ofString "name", .bool true)]))).map out3 = some (.ok (.str (Str.ofString "=6A") t1), tk + 4, clm N [] c_cn6 []) := by
  rw [mkP_eq P]
  generalize P.followText "special-get-raises" = b
  cases b <;> kernel_rfl
noncomputable abbrev c_cn7 : List Nat := [0, 1, 1, 1, 1, 1, 1, 0, 0, 1, 0, 0, 1, 0, 1, 1, 1, 0, 0, 0, 0, 1, 0, 0, 0, 1]
theorem k_cn7 (P : Params) (pr : Program) (N z t1 tk : Nat) : (run (tabOf (MineX.hd.heap_39 P) pr P N []) 9000 Value 5 [] tk c_cn7 [] (.tree (call (.ref 83) [.ref z, .str (Str.ofString "=4A") t1] [(Str.ofString "name", .bool true)]))).map out3 = some (.ok (.str (Str.ofString "=4A") t1), tk + 4, clm N [] c_cn7 []) := by
  rw [mkP_eq P]
  generalize P.followText "special-get-raises" = b
  cases b <;> kernel_rfl
noncomputable abbrev c_cn8 : List Nat := [0, 1, 1, 1, 1, 1, 1, 0, 0, 1, 0, 0, 1, 0, 1, 1, 1, 0, 0, 0, 0, 1, 0, 0, 0, 1]
theorem k_cn8 (P : Params) (pr : Program) (N z t1 tk : Nat) : (run (tabOf (MineX.hd.heap_39 P) pr P N []) 9000 Value 5 [] tk c_cn8 [] (.tree (call (.ref 83) [.ref z, .str (Str.ofString "=6B") t1] [(Str.ofString "name", .bool true)]))).map out3 = some (.ok (.str (Str.ofString "=6B") t1), tk + 4, clm N [] c_cn8 []) := by
  rw [mkP_eq P]
  generalize P.followText "special-get-raises" = b
  cases b <;> kernel_rfl
noncomputable abbrev c_cn9 : List Nat := [0, 1, 1, 1, 1, 1, 1, 0, 0, 1, 0, 0, 1, 0, 1, 1, 1, 0, 0, 0, 0, 1, 0, 0, 0, 1]
theorem k_cn9 (P : Params) (pr : Program) (N z t1 tk : Nat) : (run (tabOf (MineX.hd.heap_39 P) pr P N []) 9000 Value 5 [] tk c_cn9 [] (.tree (call (.ref 83) [.ref z, .str (Str.ofString "=4B") t1] [(Str.ofString "name", .bool true)]))).map out3 = some (.ok (.str (Str.ofString "=4B") t1), tk + 4, clm N [] c_cn9 []) := by
  rw [mkP_eq P]
  generalize P.followText "special-get-raises" = b
  cases b <;> kernel_rfl
noncomputable abbrev c_cn10 : List Nat := [0, 1, 1, 1, 1, 1, 1, 0, 0, 1, 0, 0, 1, 0, 1, 1, 1, 0, 0, 0, 0, 1, 0, 0, 0, 1]
theorem k_cn10 (P : Params) (pr : Program) (N z t1 tk : Nat) : (run (tabOf (MineX.hd.heap_39 P) pr P N []) 9000 Value 5 [] tk c_cn10 [] (.tree (call (.ref 83) [.ref z, .str (Str.ofString "=6C") t1] [(Str.ofString "name", .bool true)]))).map out3 = some (.ok (.str (Str.ofString "=6C") t1), tk + 4, clm N [] c_cn10 []) := by
  rw [mkP_eq P]
  generalize P.followText "special-get-raises" = b
  cases b <;> kernel_rfl
noncomputable abbrev c_cn11 : List Nat := [0, 1, 1, 1, 1, 1, 1, 0, 0, 1, 0, 0, 1, 0, 1, 1, 1, 0, 0, 0, 0, 1, 0, 0, 0, 1]
theorem k_cn11 (P : Params) (pr : Program) (N z t1 tk : Nat) : (run (tabOf (MineX.hd.heap_39 P) pr P N []) 9000 Value 5 [] tk c_cn11 [] (.tree (call (.ref 83) [.ref z, .str (Str.ofString "=4C") t1] [(Str.ofString "name", .bool true)]))).map out3 = some (.ok (.str (Str.ofString "=4C") t1), tk + 4, clm N [] c_cn11 []) := by
  rw [mkP_eq P]
  generalize P.followText "special-get-raises" = b
  cases b <;> kernel_rfl
noncomputable abbrev c_cv0 : List Nat := [0, 1, 1, 1, 1, 1, 1, 0, 0, 1, 0, 0, 1, 0, 1, 1, 1, 0, 0, 0, 0, 1, 0, 0, 0, 1]
theorem k_cv0 (P : Params) (pr : Program) (N z t1 tk : Nat) : (run (tabOf (MineX.hd.heap_39 P) pr P N []) 9000 Value 5 [] tk c_cv0 [] (.tree (call (.ref 83) [.ref z, .str (Str.ofString "=") t1] [(Str.ofString "name", .bool false)]))).map out3 = some (.ok (.str (Str.ofString "=") t1), tk + 4, clm N [] c_cv0 []) := by
  rw [mkP_eq P]
  generalize P.followText "special-get-raises" = b
  cases b <;> kernel_rfl
noncomputable abbrev c_dec0 : List Nat := [0, 0, 1, 1, 1, 1, 1, 1, 1, 1, 3, 3, 3, 5, 5, 5, 5, 5, 3, 5, 5, 1, 1, 1, 1, 1, 1, 1, 1, 0, 0, 1, 1, 1, 1, 1, 1, 1, 1, 1, 1, 1, 1, 1, 1, 1, 1, 1, 5, 5, 5, 5, 3, 5, 5, 9, 1, 1, 1, 1]
theorem k_dec0 (P : Params) (pr : Program) (N t1 tk : Nat) : (run (tabOf (MineX.hd.heap_39 P) pr P N []) 9000 Value 5 [] tk c_dec0 [] (.tree (call (.ref 237) [.str (Str.ofString "=") t1]))).map out3 = some (.ok (.str (Str.ofString "") (tk + 4)), tk + 27, clm N [] c_dec0 []) := by
  rw [mkP_eq P]
  generalize P.followText "special-get-raises" = b
  cases b <;> kernel_rfl
noncomputable abbrev c_enc0 : List Nat := [0, 0, 1, 1, 1, 1, 1, 1, 1, 1, 1, 0, 0, 0, 0, 0, 0, 0, 0, 0, 1, 1, 1, 1, 1, 1, 1, 1, 1, 1, 1, 3, 3, 3, 3, 3, 3, 1, 1, 1, 7, 7, 7, 9, 9, 9, 9, 9, 7, 9, 9, 1, 1, 1, 1, 0, 0, 1, 1, 1, 1, 1, 1, 1, 1, 1, 1, 1, 11, 11, 11, 11, 5, 5, 3, 3, 3, 3, 3, 3, 9, 9, 9, 9, 7, 9, 9, 15, 1, 0, 1, 1, 3, 3]
theorem k_enc0 (P : Params) (pr : Program) (N t1 tk : Nat) : (run (tabOf (MineX.hd.heap_39 P) pr P N []) 9000 Value 5 [] tk c_enc0 [] (.tree (call (.ref 229) [.str (Str.ofString "=") t1]))).map out3 = some (.ok (.str (Str.ofString "=3D") (tk + 8)), tk + 37, clm N [] c_enc0 []) := by
  rw [mkP_eq P]
  generalize P.followText "special-get-raises" = b
  cases b <;> kernel_rfl
noncomputable abbrev c_cv1 : List Nat := [0, 1, 1, 1, 1, 1, 1, 0, 0, 1, 0, 0, 1, 0, 1, 1, 1, 0, 0, 0, 0, 1, 0, 0, 0, 1]
theorem k_cv1 (P : Params) (pr : Program) (N z t1 tk : Nat) : (run (tabOf (MineX.hd.heap_39 P) pr P N []) 9000 Value 5 [] tk c_cv1 [] (.tree (call (.ref 83) [.ref z, .str (Str.ofString "=3D") t1] [(Str.ofString "name", .bool false)]))).map out3 = some (.ok (.str (Str.ofString "=3D") t1), tk + 4, clm N [] c_cv1 []) := by
  rw [mkP_eq P]
  generalize P.followText "special-get-raises" = b
  cases b <;> kernel_rfl
noncomputable abbrev c_dec1 : List Nat := [0, 0, 1, 1, 1, 1, 1, 1, 1, 1, 3, 3, 3, 5, 5, 5, 5, 5, 3, 5, 5, 1, 1, 1, 1, 1, 1, 1, 1, 0, 0, 1, 1, 1, 1, 1, 1, 1, 1, 1, 1, 1, 1, 1, 1, 1, 1, 0, 1, 1, 0, 1, 0, 1, 1, 1, 7, 7, 7, 7, 0, 0, 9, 9, 0, 0, 0, 0, 9, 11, 11, 11, 11, 1, 1, 1, 1, 1, 1, 1, 1, 1, 1, 1, 1, 1, 5, 5, 5, 5, 3, 5, 5, 15, 1, 1, 1, 1, 0, 0, 1, 17, 17, 17, 17, 1, 1, 1]
theorem k_dec1 (P : Params) (pr : Program) (N t1 tk : Nat) : (run (tabOf (MineX.hd.heap_39 P) pr P N []) 9000 Value 5 [] tk c_dec1 [] (.tree (call (.ref 237) [.str (Str.ofString "=3D") t1]))).map out3 = some (.ok (.str (Str.ofString "=") (tk + 50)), tk + 52, clm N [] c_dec1 []) := by
  rw [mkP_eq P]
  generalize P.followText "special-get-raises" = b
  cases b <;> kernel_rfl
noncomputable abbrev c_enc1 : List Nat := [0, 0, 1, 1, 1, 1, 1, 1, 1, 1, 1, 0, 0, 0, 0, 0, 0, 0, 0, 0, 0, 0, 0, 0, 0, 0, 0, 0, 1, 1, 1, 1, 1, 1, 1, 1, 1, 1, 1, 3, 3, 3, 3, 3, 3, 1, 1, 1, 7, 7, 7, 9, 9, 9, 9, 9, 7, 9, 9, 1, 1, 1, 1, 0, 0, 1, 1, 1, 1, 1, 1, 1, 1, 1, 1, 1, 11, 11, 11, 11, 5, 5, 3, 3, 3, 3, 3, 3, 9, 9, 9, 9, 7, 9, 9, 15, 1, 0, 1, 1, 3, 3]
theorem k_enc1 (P : Params) (pr : Program) (N t1 tk : Nat) : (run (tabOf (MineX.hd.heap_39 P) pr P N []) 9000 Value 5 [] tk c_enc1 [] (.tree (call (.ref 229) [.str (Str.ofString "=3D") t1]))).map out3 = some (.ok (.str (Str.ofString "=3D3D") (tk + 10)), tk + 39, clm N [] c_enc1 []) := by
  rw [mkP_eq P]
  generalize P.followText "special-get-raises" = b
  cases b <;> kernel_rfl
noncomputable abbrev c_cv2 : List Nat := [0, 1, 1, 1, 1, 1, 1, 0, 0, 1, 0, 0, 1, 0, 1, 1, 1, 0, 0, 0, 0, 1, 0, 0, 0, 1]
theorem k_cv2 (P : Params) (pr : Program) (N z t1 tk : Nat) : (run (tabOf (MineX.hd.heap_39 P) pr P N []) 9000 Value 5 [] tk c_cv2 [] (.tree (call (.ref 83) [.ref z, .str (Str.ofString "=3D3D") t1] [(Str.ofString "name", .bool false)]))).map out3 = some (.ok (.str (Str.ofString "=3D3D") t1), tk + 4, clm N [] c_cv2 []) := by
  rw [mkP_eq P]
  generalize P.followText "special-get-raises" = b
  cases b <;> kernel_rfl
noncomputable abbrev c_dec2 : List Nat := [0, 0, 1, 1, 1, 1, 1, 1, 1, 1, 3, 3, 3, 5, 5, 5, 5, 5, 3, 5, 5, 1, 1, 1, 1, 1, 1, 1, 1, 0, 0, 1, 1, 1, 1, 1, 1, 1, 1, 1, 1, 1, 1, 1, 1, 1, 1, 0, 1, 1, 0, 1, 0, 1, 1, 1, 7, 7, 7, 7, 0, 0, 9, 9, 0, 0, 0, 0, 9, 11, 11, 11, 11, 1, 1, 1, 1, 1, 1, 1, 1, 1, 1, 1, 1, 1, 1, 1, 1, 1, 1, 1, 1, 1, 1, 1, 1, 1, 1, 1, 1, 1, 1, 1, 1, 1, 1, 1, 1, 1, 1, 1, 1, 1, 1, 1, 1, 1, 5, 5, 5, 5, 3, 5, 5, 15, 1, 1, 1, 1, 0, 0, 1, 17, 17, 17, 17, 1, 1, 1]
theorem k_dec2 (P : Params) (pr : Program) (N t1 tk : Nat) : (run (tabOf (MineX.hd.heap_39 P) pr P N []) 9000 Value 5 [] tk c_dec2 [] (.tree (call (.ref 237) [.str (Str.ofString "=3D3D") t1]))).map out3 = some (.ok (.str (Str.ofString "=3D") (tk + 67)), tk + 69, clm N [] c_dec2 []) := by
  rw [mkP_eq P]
  generalize P.followText "special-get-raises" = b
  cases b <;> kernel_rfl
noncomputable abbrev c_enc2 : List Nat := [0, 0, 1, 1, 1, 1, 1, 1, 1, 1, 1, 0, 0, 0, 0, 0, 0, 0, 0, 0, 0, 0, 0, 0, 0, 0, 0, 0, 0, 0, 0, 0, 0, 0, 0, 0, 1, 1, 1, 1, 1, 1, 1, 1, 1, 1, 1, 3, 3, 3, 3, 3, 3, 1, 1, 1, 7, 7, 7, 9, 9, 9, 9, 9, 7, 9, 9, 1, 1, 1, 1, 0, 0, 1, 1, 1, 1, 1, 1, 1, 1, 1, 1, 1, 11, 11, 11, 11, 5, 5, 3, 3, 3, 3, 3, 3, 9, 9, 9, 9, 7, 9, 9, 15, 1, 0, 1, 1, 3, 3]
theorem k_enc2 (P : Params) (pr : Program) (N t1 tk : Nat) : (run (tabOf (MineX.hd.heap_39 P) pr P N []) 9000 Value 5 [] tk c_enc2 [] (.tree (call (.ref 229) [.str (Str.ofString "=3D3D") t1]))).map out3 = some (.ok (.str (Str.ofString "=3D3D3D") (tk + 12)), tk + 41, clm N [] c_enc2 []) := by
  rw [mkP_eq P]
  generalize P.followText "special-get-raises" = b
  cases b <;> kernel_rfl
noncomputable abbrev c_cv3 : List Nat := [0, 1, 1, 1, 1, 1, 1, 0, 0, 1, 0, 0, 1, 0, 1, 1, 1, 0, 0, 0, 0, 1, 0, 0, 0, 1]
theorem k_cv3 (P : Params) (pr : Program) (N z t1 tk : Nat) : (run (tabOf (MineX.hd.heap_39 P) pr P N []) 9000 Value 5 [] tk c_cv3 [] (.tree (call (.ref 83) [.ref z, .str (Str.ofString "=3D3D3D") t1] [(Str.ofString "name", .bool false)]))).map out3 = some (.ok (.str (Str.ofString "=3D3D3D") t1), tk + 4, clm N [] c_cv3 []) := by
  rw [mkP_eq P]
  generalize P.followText "special-get-raises" = b
  cases b <;> kernel_rfl
noncomputable abbrev c_dec3 : List Nat := [0, 0, 1, 1, 1, 1, 1, 1, 1, 1, 3, 3, 3, 5, 5, 5, 5, 5, 3, 5, 5, 1, 1, 1, 1, 1, 1, 1, 1, 0, 0, 1, 1, 1, 1, 1, 1, 1, 1, 1, 1, 1, 1, 1, 1, 1, 1, 0, 1, 1, 0, 1, 0, 1, 1, 1, 7, 7, 7, 7, 0, 0, 9, 9, 0, 0, 0, 0, 9, 11, 11, 11, 11, 1, 1, 1, 1, 1, 1, 1, 1, 1, 1, 1, 1, 1, 1, 1, 1, 1, 1, 1, 1, 1, 1, 1, 1, 1, 1, 1, 1, 1, 1, 1, 1, 1, 1, 1, 1, 1, 1, 1, 1, 1, 1, 1, 1, 1, 1, 1, 1, 1, 1, 1, 1, 1, 1, 1, 1, 1, 1, 1, 1, 1, 1, 1, 1, 1, 1, 1, 1, 1, 1, 1, 1, 1, 1, 1, 1, 1, 5, 5, 5, 5, 3, 5, 5, 15, 1, 1, 1, 1, 0, 0, 1, 17, 17, 17, 17, 1, 1, 1]
theorem k_dec3 (P : Params) (pr : Program) (N t1 tk : Nat) : (run (tabOf (MineX.hd.heap_39 P) pr P N []) 9000 Value 5 [] tk c_dec3 [] (.tree (call (.ref 237) [.str (Str.ofString "=3D3D3D") t1]))).map out3 = some (.ok (.str (Str.ofString "=3D3D") (tk + 83)), tk + 85, clm N [] c_dec3 []) := by
  rw [mkP_eq P]
  generalize P.followText "special-get-raises" = b
  cases b <;> kernel_rfl
noncomputable abbrev c_enc3 : List Nat := [0, 0, 1, 1, 1, 1, 1, 1, 1, 1, 1, 0, 0, 0, 0, 0, 0, 0, 0, 0, 0, 0, 0, 0, 0, 0, 0, 0, 0, 0, 0, 0, 0, 0, 0, 0, 0, 0, 0, 0, 0, 0, 0, 0, 1, 1, 1, 1, 1, 1, 1, 1, 1, 1, 1, 3, 3, 3, 3, 3, 3, 1, 1, 1, 7, 7, 7, 9, 9, 9, 9, 9, 7, 9, 9, 1, 1, 1, 1, 0, 0, 1, 1, 1, 1, 1, 1, 1, 1, 1, 1, 1, 11, 11, 11, 11, 5, 5, 3, 3, 3, 3, 3, 3, 9, 9, 9, 9, 7, 9, 9, 15, 1, 0, 1, 1, 3, 3]
theorem k_enc3 (P : Params) (pr : Program) (N t1 tk : Nat) : (run (tabOf (MineX.hd.heap_39 P) pr P N []) 9000 Value 5 [] tk c_enc3 [] (.tree (call (.ref 229) [.str (Str.ofString "=3D3D3D") t1]))).map out3 = some (.ok (.str (Str.ofString "=3D3D3D3D") (tk + 14)), tk + 43, clm N [] c_enc3 []) := by
  rw [mkP_eq P]
  generalize P.followText "special-get-raises" = b
  cases b <;> kernel_rfl
noncomputable abbrev c_cv4 : List Nat := [0, 1, 1, 1, 1, 1, 1, 0, 0, 1, 0, 0, 1, 0, 1, 1, 1, 0, 0, 0, 0, 1, 0, 0, 0, 1]
theorem k_cv4 (P : Params) (pr : Program) (N z t1 tk : Nat) : (run (tabOf (MineX.hd.heap_39 P) pr P N []) 9000 Value 5 [] tk c_cv4 [] (.tree (call (.ref 83) [.ref z, .str (Str.ofString "=3D3D3D3D") t1] [(Str.ofString "name", .bool false)]))).map out3 = some (.ok (.str (Str.ofString "=3D3D3D3D") t1), tk + 4, clm N [] c_cv4 []) := by
  rw [mkP_eq P]
  generalize P.followText "special-get-raises" = b
  cases b <;> kernel_rfl
noncomputable abbrev c_dec4 : List Nat := [0, 0, 1, 1, 1, 1, 1, 1, 1, 1, 3, 3, 3, 5, 5, 5, 5, 5, 3, 5, 5, 1, 1, 1, 1, 1, 1, 1, 1, 0, 0, 1, 1, 1, 1, 1, 1, 1, 1, 1, 1, 1, 1, 1, 1, 1, 1, 0, 1, 1, 0, 1, 0, 1, 1, 1, 7, 7, 7, 7, 0, 0, 9, 9, 0, 0, 0, 0, 9, 11, 11, 11, 11, 1, 1, 1, 1, 1, 1, 1, 1, 1, 1, 1, 1, 1, 1, 1, 1, 1, 1, 1, 1, 1, 1, 1, 1, 1, 1, 1, 1, 1, 1, 1, 1, 1, 1, 1, 1, 1, 1, 1, 1, 1, 1, 1, 1, 1, 1, 1, 1, 1, 1, 1, 1, 1, 1, 1, 1, 1, 1, 1, 1, 1, 1, 1, 1, 1, 1, 1, 1, 1, 1, 1, 1, 1, 1, 1, 1, 1, 1, 1, 1, 1, 1, 1, 1, 1, 1, 1, 1, 1, 1, 1, 1, 1, 1, 1, 1, 1, 1, 1, 1, 1, 1, 1, 1, 1, 1, 1, 1, 1, 5, 5, 5, 5, 3, 5, 5, 15, 1, 1, 1, 1, 0, 0, 1, 17, 17, 17, 17, 1, 1, 1]
theorem k_dec4 (P : Params) (pr : Program) (N t1 tk : Nat) : (run (tabOf (MineX.hd.heap_39 P) pr P N []) 9000 Value 5 [] tk c_dec4 [] (.tree (call (.ref 237) [.str (Str.ofString "=3D3D3D3D") t1]))).map out3 = some (.ok (.str (Str.ofString "=3D3D3D") (tk + 99)), tk + 101, clm N [] c_dec4 []) := by
  rw [mkP_eq P]
  generalize P.followText "special-get-raises" = b
  cases b <;> kernel_rfl
noncomputable abbrev c_enc4 : List Nat := [0, 0, 1, 1, 1, 1, 1, 1, 1, 1, 1, 0, 0, 0, 0, 0, 0, 0, 0, 0, 0, 0, 0, 0, 0, 0, 0, 0, 0, 0, 0, 0, 0, 0, 0, 0, 0, 0, 0, 0, 0, 0, 0, 0, 0, 0, 0, 0, 0, 0, 0, 0, 1, 1, 1, 1, 1, 1, 1, 1, 1, 1, 1, 3, 3, 3, 3, 3, 3, 1, 1, 1, 7, 7, 7, 9, 9, 9, 9, 9, 7, 9, 9, 1, 1, 1, 1, 0, 0, 1, 1, 1, 1, 1, 1, 1, 1, 1, 1, 1, 11, 11, 11, 11, 5, 5, 3, 3, 3, 3, 3, 3, 9, 9, 9, 9, 7, 9, 9, 15, 1, 0, 1, 1, 3, 3]
theorem k_enc4 (P : Params) (pr : Program) (N t1 tk : Nat) : (run (tabOf (MineX.hd.heap_39 P) pr P N []) 9000 Value 5 [] tk c_enc4 [] (.tree (call (.ref 229) [.str (Str.ofString "=3D3D3D3D") t1]))).map out3 = some (.ok (.str (Str.ofString "=3D3D3D3D3D") (tk + 16)), tk + 45, clm N [] c_enc4 []) := by
  rw [mkP_eq P]
  generalize P.followText "special-get-raises" = b
  cases b <;> kernel_rfl
noncomputable abbrev c_cv5 : List Nat := [0, 1, 1, 1, 1, 1, 1, 0, 0, 1, 0, 0, 1, 0, 1, 1, 1, 0, 0, 0, 0, 1, 0, 0, 0, 1]
theorem k_cv5 (P : Params) (pr : Program) (N z t1 tk : Nat) : (run (tabOf (MineX.hd.heap_39 P) pr P N []) 9000 Value 5 [] tk c_cv5 [] (.tree (call (.ref 83) [.ref z, .str (Str.ofString "=3D3D3D3D3D") t1] [(Str.ofString "name", .bool false)]))).map out3 = some (.ok (.str (Str.ofString "=3D3D3D3D3D") t1), tk + 4, clm N [] c_cv5 []) := by
  rw [mkP_eq P]
  generalize P.followText "special-get-raises" = b
  cases b <;> kernel_rfl
noncomputable abbrev c_dec5 : List Nat := [0, 0, 1, 1, 1, 1, 1, 1, 1, 1, 3, 3, 3, 5, 5, 5, 5, 5, 3, 5, 5, 1, 1, 1, 1, 1, 1, 1, 1, 0, 0, 1, 1, 1, 1, 1, 1, 1, 1, 1, 1, 1, 1, 1, 1, 1, 1, 0, 1, 1, 0, 1, 0, 1, 1, 1, 7, 7, 7, 7, 0, 0, 9, 9, 0, 0, 0, 0, 9, 11, 11, 11, 11, 1, 1, 1, 1, 1, 1, 1, 1, 1, 1, 1, 1, 1, 1, 1, 1, 1, 1, 1, 1, 1, 1, 1, 1, 1, 1, 1, 1, 1, 1, 1, 1, 1, 1, 1, 1, 1, 1, 1, 1, 1, 1, 1, 1, 1, 1, 1, 1, 1, 1, 1, 1, 1, 1, 1, 1, 1, 1, 1, 1, 1, 1, 1, 1, 1, 1, 1, 1, 1, 1, 1, 1, 1, 1, 1, 1, 1, 1, 1, 1, 1, 1, 1, 1, 1, 1, 1, 1, 1, 1, 1, 1, 1, 1, 1, 1, 1, 1, 1, 1, 1, 1, 1, 1, 1, 1, 1, 1, 1, 1, 1, 1, 1, 1, 1, 1, 1, 1, 1, 1, 1, 1, 1, 1, 1, 1, 1, 1, 1, 1, 1, 1, 1, 1, 1, 1, 1, 1, 1, 1, 1, 5, 5, 5, 5, 3, 5, 5, 15, 1, 1, 1, 1, 0, 0, 1, 17, 17, 17, 17, 1, 1, 1]
theorem k_dec5 (P : Params) (pr : Program) (N t1 tk : Nat) : (run (tabOf (MineX.hd.heap_39 P) pr P N []) 9000 Value 5 [] tk c_dec5 [] (.tree (call (.ref 237) [.str (Str.ofString "=3D3D3D3D3D") t1]))).map out3 = some (.ok (.str (Str.ofString "=3D3D3D3D") (tk + 115)), tk + 117, clm N [] c_dec5 []) := by
  rw [mkP_eq P]
  generalize P.followText "special-get-raises" = b
  cases b <;> kernel_rfl
noncomputable abbrev c_q0 : List Nat := [0, 1, 1, 0, 0, 0, 1, 0, 0, 0, 0, 0]
theorem k_q0 (P : Params) (pr : Program) (N t1 tk : Nat) : (run (tabOf (MineX.hd.heap_39 P) pr P N []) 9000 Value 5 [] tk c_q0 [] (.tree (call (.ref 216) [.str (Str.ofString "j") t1]))).map out3 = some (.ok (.str (Str.ofString "=6A") 986), tk + 2, clm N [] c_q0 []) := by
  rw [mkP_eq P]
  generalize P.followText "special-get-raises" = b
  cases b <;> kernel_rfl
noncomputable abbrev c_q1 : List Nat := [0, 1, 1, 0, 0, 0, 1, 0, 0, 0, 0, 0]
theorem k_q1 (P : Params) (pr : Program) (N t1 tk : Nat) : (run (tabOf (MineX.hd.heap_39 P) pr P N []) 9000 Value 5 [] tk c_q1 [] (.tree (call (.ref 216) [.str (Str.ofString "J") t1]))).map out3 = some (.ok (.str (Str.ofString "=4A") 858), tk + 2, clm N [] c_q1 []) := by
  rw [mkP_eq P]
  generalize P.followText "special-get-raises" = b
  cases b <;> kernel_rfl
noncomputable abbrev c_q2 : List Nat := [0, 1, 1, 0, 0, 0, 1, 0, 0, 0, 0, 0]
theorem k_q2 (P : Params) (pr : Program) (N t1 tk : Nat) : (run (tabOf (MineX.hd.heap_39 P) pr P N []) 9000 Value 5 [] tk c_q2 [] (.tree (call (.ref 216) [.str (Str.ofString "k") t1]))).map out3 = some (.ok (.str (Str.ofString "=6B") 990), tk + 2, clm N [] c_q2 []) := by
  rw [mkP_eq P]
  generalize P.followText "special-get-raises" = b
  cases b <;> kernel_rfl
noncomputable abbrev c_q3 : List Nat := [0, 1, 1, 0, 0, 0, 1, 0, 0, 0, 0, 0]
theorem k_q3 (P : Params) (pr : Program) (N t1 tk : Nat) : (run (tabOf (MineX.hd.heap_39 P) pr P N []) 9000 Value 5 [] tk c_q3 [] (.tree (call (.ref 216) [.str (Str.ofString "K") t1]))).map out3 = some (.ok (.str (Str.ofString "=4B") 862), tk + 2, clm N [] c_q3 []) := by
  rw [mkP_eq P]
  generalize P.followText "special-get-raises" = b
  cases b <;> kernel_rfl
noncomputable abbrev c_q4 : List Nat := [0, 1, 1, 0, 0, 0, 1, 0, 0, 0, 0, 0]
theorem k_q4 (P : Params) (pr : Program) (N t1 tk : Nat) : (run (tabOf (MineX.hd.heap_39 P) pr P N []) 9000 Value 5 [] tk c_q4 [] (.tree (call (.ref 216) [.str (Str.ofString "l") t1]))).map out3 = some (.ok (.str (Str.ofString "=6C") 994), tk + 2, clm N [] c_q4 []) := by
  rw [mkP_eq P]
  generalize P.followText "special-get-raises" = b
  cases b <;> kernel_rfl
noncomputable abbrev c_q5 : List Nat := [0, 1, 1, 0, 0, 0, 1, 0, 0, 0, 0, 0]
theorem k_q5 (P : Params) (pr : Program) (N t1 tk : Nat) : (run (tabOf (MineX.hd.heap_39 P) pr P N []) 9000 Value 5 [] tk c_q5 [] (.tree (call (.ref 216) [.str (Str.ofString "L") t1]))).map out3 = some (.ok (.str (Str.ofString "=4C") 866), tk + 2, clm N [] c_q5 []) := by
  rw [mkP_eq P]
  generalize P.followText "special-get-raises" = b
  cases b <;> kernel_rfl
noncomputable abbrev c_dece : List Nat := [0, 0, 1, 1, 1, 1, 1, 1]
theorem k_dece (P : Params) (pr : Program) (N t1 tk : Nat) : (run (tabOf (MineX.hd.heap_39 P) pr P N []) 9000 Value 5 [] tk c_dece [] (.tree (call (.ref 237) [.str (Str.ofString "") t1]))).map out3 = some (.ok (.str (Str.ofString "") t1), tk + 4, clm N [] c_dece []) := by
  rw [mkP_eq P]
  generalize P.followText "special-get-raises" = b
  cases b <;> kernel_rfl
end Mine
namespace Mine
noncomputable def low6 : List Str := ["=6a", "=4a", "=6b", "=4b", "=6c", "=4c"].map Str.ofString
noncomputable def up6 : List Str := ["=6A", "=4A", "=6B", "=4B", "=6C", "=4C"].map Str.ofString
noncomputable def names10 : List Str := low6 ++ up6
noncomputable def vs6 : List Str := ["=", "=3D", "=3D3D", "=3D3D3D", "=3D3D3D3D", "=3D3D3D3D3D"].map Str.ofString
noncomputable def vstr (n : Nat) : Str := vs6.getD n (Str.ofString "")
noncomputable def letter (i : Nat) : Str := ["j", "J", "k", "K", "l", "L"].map Str.ofString |>.getD i (Str.ofString "")
noncomputable def qs (i : Nat) : Str := up6.getD i (Str.ofString "")
noncomputable def decV : Nat → Str | 0 => Str.ofString "" | n + 1 => vstr n
section
variable {w : World} {mean : ExcName → Option Value} {mg mb : Str → Option Value} {h₀ : Heap}
theorem conv_n (G : G3 w mean mg mb h₀) {s : Shared} (hs : h₀.StaysIn s.heap) {x : Str} (hx : x ∈ names10) (z : Addr) (t : Tok) :
    wpAny (model prog3 w) (Aq 1) (call (.ref 83) [.ref z, .str x t] [(Str.ofString "name", .bool true)]) (Post (fun v => v = .str x t) s) noE s := by
  simp only [names10, low6, up6, List.map_cons, List.map_nil, List.cons_append, List.nil_append, List.mem_cons, List.not_mem_nil, or_false] at hx
  rcases hx with rfl | rfl | rfl | rfl | rfl | rfl | rfl | rfl | rfl | rfl | rfl | rfl
  · exact by_run G hs _ rfl (by decide) (k_cn0 ..) rfl
  · exact by_run G hs _ rfl (by decide) (k_cn1 ..) rfl
  · exact by_run G hs _ rfl (by decide) (k_cn2 ..) rfl
  · exact by_run G hs _ rfl (by decide) (k_cn3 ..) rfl
  · exact by_run G hs _ rfl (by decide) (k_cn4 ..) rfl
  · exact by_run G hs _ rfl (by decide) (k_cn5 ..) rfl
  · exact by_run G hs _ rfl (by decide) (k_cn6 ..) rfl
  · exact by_run G hs _ rfl (by decide) (k_cn7 ..) rfl
  · exact by_run G hs _ rfl (by decide) (k_cn8 ..) rfl
  · exact by_run G hs _ rfl (by decide) (k_cn9 ..) rfl
  · exact by_run G hs _ rfl (by decide) (k_cn10 ..) rfl
  · exact by_run G hs _ rfl (by decide) (k_cn11 ..) rfl
theorem conv_v (G : G3 w mean mg mb h₀) {s : Shared} (hs : h₀.StaysIn s.heap) {x : Str} (hx : x ∈ vs6) (z : Addr) (t : Tok) :
    wpAny (model prog3 w) (Aq 1) (call (.ref 83) [.ref z, .str x t] [(Str.ofString "name", .bool false)]) (Post (fun v => v = .str x t) s) noE s := by
  simp only [vs6, List.map_cons, List.map_nil, List.mem_cons, List.not_mem_nil, or_false] at hx
  rcases hx with rfl | rfl | rfl | rfl | rfl | rfl
  · exact by_run G hs _ rfl (by decide) (k_cv0 ..) rfl
  · exact by_run G hs _ rfl (by decide) (k_cv1 ..) rfl
  · exact by_run G hs _ rfl (by decide) (k_cv2 ..) rfl
  · exact by_run G hs _ rfl (by decide) (k_cv3 ..) rfl
  · exact by_run G hs _ rfl (by decide) (k_cv4 ..) rfl
  · exact by_run G hs _ rfl (by decide) (k_cv5 ..) rfl
theorem dec_v (G : G3 w mean mg mb h₀) {s : Shared} (hs : h₀.StaysIn s.heap) (n : Nat) (hn : n < 6) (t : Tok) :
    wpAny (model prog3 w) (Aq 1) (call (.ref 237) [.str (vstr n) t]) (Post (IsStr (decV n)) s) noE s := by
  match n, hn with
  | 0, _ => exact by_run G hs _ rfl (by decide) (k_dec0 ..) ⟨_, rfl⟩
  | 1, _ => exact by_run G hs _ rfl (by decide) (k_dec1 ..) ⟨_, rfl⟩
  | 2, _ => exact by_run G hs _ rfl (by decide) (k_dec2 ..) ⟨_, rfl⟩
  | 3, _ => exact by_run G hs _ rfl (by decide) (k_dec3 ..) ⟨_, rfl⟩
  | 4, _ => exact by_run G hs _ rfl (by decide) (k_dec4 ..) ⟨_, rfl⟩
  | 5, _ => exact by_run G hs _ rfl (by decide) (k_dec5 ..) ⟨_, rfl⟩
  | n + 6, h => omega
theorem enc_v (G : G3 w mean mg mb h₀) {s : Shared} (hs : h₀.StaysIn s.heap) (n : Nat) (hn : n < 5) (t : Tok) :
    wpAny (model prog3 w) (Aq 1) (call (.ref 229) [.str (vstr n) t]) (Post (IsStr (vstr (n + 1))) s) noE s := by
  match n, hn with
  | 0, _ => exact by_run G hs _ rfl (by decide) (k_enc0 ..) ⟨_, rfl⟩
  | 1, _ => exact by_run G hs _ rfl (by decide) (k_enc1 ..) ⟨_, rfl⟩
  | 2, _ => exact by_run G hs _ rfl (by decide) (k_enc2 ..) ⟨_, rfl⟩
  | 3, _ => exact by_run G hs _ rfl (by decide) (k_enc3 ..) ⟨_, rfl⟩
  | 4, _ => exact by_run G hs _ rfl (by decide) (k_enc4 ..) ⟨_, rfl⟩
  | n + 5, h => omega
theorem dec_e (G : G3 w mean mg mb h₀) {s : Shared} (hs : h₀.StaysIn s.heap) (t : Tok) :
    wpAny (model prog3 w) (Aq 1) (call (.ref 237) [.str (Str.ofString "") t]) (Post (IsStr (Str.ofString "")) s) noE s := by_run G hs _ rfl (by decide) (k_dece ..) ⟨_, rfl⟩
theorem quote_c (G : G3 w mean mg mb h₀) {s : Shared} (hs : h₀.StaysIn s.heap) (i : Nat) (hi : i < 6) (t : Tok) :
    wpAny (model prog3 w) (Aq 1) (call (.ref 216) [.str (letter i) t]) (Post (IsStr (qs i)) s) noE s := by
  match i, hi with
  | 0, _ => exact by_run G hs _ rfl (by decide) (k_q0 ..) ⟨_, rfl⟩
  | 1, _ => exact by_run G hs _ rfl (by decide) (k_q1 ..) ⟨_, rfl⟩
  | 2, _ => exact by_run G hs _ rfl (by decide) (k_q2 ..) ⟨_, rfl⟩
  | 3, _ => exact by_run G hs _ rfl (by decide) (k_q3 ..) ⟨_, rfl⟩
  | 4, _ => exact by_run G hs _ rfl (by decide) (k_q4 ..) ⟨_, rfl⟩
  | 5, _ => exact by_run G hs _ rfl (by decide) (k_q5 ..) ⟨_, rfl⟩
  | i + 6, h => omega
theorem use_val {A : Around} {t : Sem Value} {v : Value} {k : Nat} {s : Shared} {b : Heap} {L : Addr} {m : Str → Option Value} {news : List (Addr × Obj)} {Q E : Value → Shared → Prop}
    (spec : wpAny (model prog3 w) (Aq k) t (Post (fun v' => v' = v) s) noE s) (hA : Fits A k) (F : Fr b L s.heap m) (N : News b L s.heap news)
    (h : ∀ h' tk', Fr b L h' m → News b L h' news → Q v { s with heap := h', toks := tk' }) : wpAny (model prog3 w) A t Q E s :=
  use0 spec hA F N fun v h' tk' hv F' N' => by subst hv; exact h h' tk' F' N'
end
/-- the table: an object of Headers, its namespace, its list -/
noncomputable def hdrDict (w : World) (l : Addr) (tk : Tok) : Obj := dictOf [⟨PyData.keyHash w.params (Str.ofString "_headers"), .str (Str.ofString "_headers") tk, .ref l⟩] 1
structure TabAt (w : World) (h : Heap) (t d l : Addr) : Prop where
  inst : h.get? t = some (instObj 182 d)
  dict : ∃ tk, h.get? d = some (hdrDict w l tk)
structure RowsAt (h : Heap) (l : Addr) (its : List Addr) (kvs : List (Str × Str)) : Prop where
  list : ∃ n, h.get? l = some (W.listOf (its.map Value.ref).toArray n)
  len : its.length = kvs.length
  tup : ∀ (i : Nat) (a : Addr) (kv : Str × Str), its[i]? = some a → kvs[i]? = some kv → ∃ t1 t2 n, h.get? a = some { cls := .type "tuple", data := .seq #[.str kv.1 t1, .str kv.2 t2] n }
theorem TabAt.at {w : World} {h h' : Heap} {t d l : Addr} (T : TabAt w h t d l) (k : ∀ b o, h.get? b = some o → h'.get? b = some o) : TabAt w h' t d l := ⟨k _ _ T.inst, let ⟨tk, e⟩ := T.dict; ⟨tk, k _ _ e⟩⟩
theorem RowsAt.at {h h' : Heap} {l : Addr} {its : List Addr} {kvs : List (Str × Str)} (R : RowsAt h l its kvs) (k : ∀ b o, h.get? b = some o → h'.get? b = some o) : RowsAt h' l its kvs :=
  ⟨let ⟨n, e⟩ := R.list; ⟨n, k _ _ e⟩, R.len, fun i a kv h1 h2 => let ⟨t1, t2, n, e⟩ := R.tup i a kv h1 h2; ⟨t1, t2, n, k _ _ e⟩⟩
end Mine
namespace Mine
section
variable {prog : Program} {w : World} {A : Around} {E : Value → Shared → Prop} {s : Shared} {env : Env} {h₀ : Heap} {body : List Stmt} {Q : Flow → Shared → Prop}
/-- a walk through rows that lie in the base heap -/
theorem iter_rows {elts : List Expr} {k : Nat} {pos : Pos} {l : Addr} {its : List Addr} {kvs : List (Str × Str)} {m₀ : Str → Option Value} {news : List (Addr × Obj)} (J : Nat → (Str → Option Value) → Prop)
    (hh : A.handled = none) (R : RowsAt h₀ l its kvs) (F : Fr h₀ env.locals s.heap m₀) (N : News h₀ env.locals s.heap news) (hj : J 0 m₀)
    (turn : ∀ i kv T t1 t2 m₁ h tk own, kvs[i]? = some kv → J i m₁ → IsTup h T #[.str kv.1 t1, .str kv.2 t2] → Fr h₀ env.locals h m₁ → News h₀ env.locals h (own ++ news) →
      wpAny (model prog w) A (assign (.Tuple elts k pos) env (.ref T)) (fun _ s₃ => wpAny (model prog w) A (execs body env) (InvPost h₀ env.locals (J (i + 1)) (own ++ news) { s with heap := h, toks := tk } Q) E s₃) E { s with heap := h, toks := tk })
    (done : ∀ m₁ h tk, J kvs.length m₁ → Fr h₀ env.locals h m₁ → News h₀ env.locals h news → Q .next { s with heap := h, toks := tk }) :
    wpAny (model prog w) A (pyIter (.ref l)) (fun it s₂ => TurnsAt prog w A h₀ env (.Tuple elts k pos) body Q E it s₂) E s := by
  obtain ⟨nl, hl⟩ := R.list
  have hl₀ : h₀.IsList l (its.map Value.ref).toArray := ⟨_, hl, rfl, nl, rfl⟩
  have hls : s.heap.IsList l (its.map Value.ref).toArray := hl₀.at fun o e => F.keep l o e
  have hlt : l < h₀.objs.size := Heap.lt_size hl
  have hLs : env.locals < s.heap.objs.size := F.ns.lt
  have hne : l ≠ s.heap.objs.size := Nat.ne_of_lt (Nat.lt_trans (Nat.lt_of_lt_of_le hlt F.above) F.ns.lt)
  have tup : ∀ j, j < its.length → ∃ v : Array Value, h₀.IsTuple (its.getD j 0) v ∧ ∃ kv t1 t2, kvs[j]? = some kv ∧ v = #[.str kv.1 t1, .str kv.2 t2] := fun j hj => by
    have hk : j < kvs.length := R.len ▸ hj
    obtain ⟨t1, t2, n, e⟩ := R.tup j its[j] kvs[j] (by simp [hj]) (by simp [hk])
    refine ⟨_, ⟨_, by simpa [hj] using e, rfl, n, rfl⟩, kvs[j], t1, t2, by simp [hk], rfl⟩
  let vals : Nat → Array Value := fun j => if h : j < its.length then Classical.choose (tup j h) else #[]
  have hv : ∀ j (h : j < its.length), h₀.IsTuple (its.getD j 0) (vals j) ∧ ∃ kv t1 t2, kvs[j]? = some kv ∧ vals j = #[.str kv.1 t1, .str kv.2 t2] := fun j h => by
    have := Classical.choose_spec (tup j h)
    simp only [vals, h, dif_pos]
    exact this
  have hTlt : ∀ j, j < its.length → its.getD j 0 < h₀.objs.size := fun j h => by
    obtain ⟨o, ho, _⟩ := (hv j h).1
    exact Heap.lt_size ho
  refine wpAny_pyIter_list hls ?_
  have hsz : (its.map Value.ref).toArray.size = its.length := by simp
  have W := WalksU.listOfTuples (prog := prog) (w := w) hh s.heap.objs.size l hne (its.map Value.ref).toArray (fun j => its.getD j 0) vals (fun j hj => by rw [hsz] at hj; simp [hj]) (fun j hj => by
    rw [hsz] at hj
    exact Nat.ne_of_lt (Nat.lt_trans (Nat.lt_of_lt_of_le (hTlt j hj) F.above) F.ns.lt))
  rw [hsz] at W
  let J' : Nat → (Str → Option Value) → List (Addr × Obj) → Prop := fun i m₁ news₁ => news₁ = news ∧ J i m₁
  refine ⟨_, _, _, its.length, _, _, _, m₀, news, J', rfl, KTurns.ofWalksU W, ?_, ?_, ?_, ⟨⟨_, Heap.get?_push_size _ rfl, rfl, rfl⟩, hls.at fun o e => Heap.get?_push_of_some _ e, ?_⟩, F.push _, (fun p hp => ⟨Heap.get?_push_of_some _ (N p hp).1, (N p hp).2⟩), ⟨rfl, hj⟩, ?_, ?_⟩
  · intro hm
    rcases List.mem_cons.mp hm with e | hm
    · exact absurd F.ns.lt (e ▸ Nat.lt_irrefl _)
    · rcases List.mem_cons.mp hm with e | hm
      · exact absurd (Nat.lt_of_lt_of_le hlt F.above) (e ▸ Nat.lt_irrefl _)
      · obtain ⟨j, hj, e⟩ := List.mem_map.mp hm
        exact absurd (Nat.lt_of_lt_of_le (hTlt j (List.mem_range.mp hj)) F.above) (e ▸ Nat.lt_irrefl _)
  · intro b hb
    rw [List.mem_singleton.mp hb]
    exact next_is_new F
  · intro p hp hI
    exact absurd (Heap.lt_size (N p hp).1) ((List.mem_singleton.mp hI) ▸ Nat.lt_irrefl _)
  · intro j hj
    exact (hv j hj).1.at fun o e => Heap.get?_push_of_some _ (F.keep _ o e)
  · rintro i v m₁ news₁ h₁ tk₁ own hin ⟨T, vs, rfl, hP, hT⟩ ⟨rfl, hJ⟩ hoff _ _ _ hst F₁ N₁
    have hlt' : i < its.length := hin
    obtain ⟨hT₀, kv, t1, t2, hkv, hvs⟩ := hv i hlt'
    have hP' : vs = #[.str kv.1 t1, .str kv.2 t2] := hP.trans hvs
    subst hP'
    refine wpAny_mono (turn i kv T t1 t2 m₁ h₁ tk₁ own hkv hJ hT F₁ N₁) (fun _ s₃ p => wpAny_mono p (fun f s₂ p => ?_) fun _ _ e => e) fun _ _ e => e
    have fin : InvEnd h₀ env.locals (J (i + 1)) (own ++ news₁) { s with heap := h₁, toks := tk₁ } s₂ → LoopStepU h₀ env.locals [s.heap.objs.size] own (J' (i + 1)) { s with heap := h₁, toks := tk₁ } .next s₂ := by
      rintro ⟨h', tk, m', news', e, F', N', hn, hm⟩
      exact ⟨rfl, h', tk, m', news₁, e, F', fun p hp => N' p (hn p hp), hoff, rfl, hm⟩
    cases f with
    | ret v => exact .ret p
    | brk => exact .brk p
    | next => exact .next (fin p)
    | cont => exact .cont (fin p)
  · rintro h' tk m' news' F' N' _ ⟨rfl, hJ⟩
    exact done m' h' tk (R.len ▸ hJ) F' N'
end
end Mine
namespace Mine
theorem find_hit {α : Type} {p : α → Bool} {l : List α} {i : Nat} {a : α} (h : l[i]? = some a) (hp : p a = true) (hn : ∀ b ∈ l.take i, p b = false) : l.find? p = some a := by
  induction l generalizing i with
  | nil => cases h
  | cons c r ih =>
    cases i with
    | zero => cases h; simp [hp]
    | succ j =>
      have hc : p c = false := hn c (by simp)
      rw [List.find?_cons, hc]
      exact ih (i := j) (by simpa using h) fun b hb => hn b (by simp [hb])
theorem find_miss {α : Type} {p : α → Bool} {l : List α} (hn : ∀ b ∈ l, p b = false) : l.find? p = none := by
  rw [List.find?_eq_none]; intro b hb; rw [hn b hb]; exact Bool.false_ne_true
section
variable {w : World} {mean : ExcName → Option Value} {mg mb : Str → Option Value} {h₀ : Heap}
theorem inst_tab {b h : Heap} {L t d l : Addr} {m : Str → Option Value} {tk : Tok} (hi : b.get? t = some (instObj 182 d)) (hd : b.get? d = some (hdrDict w l tk)) (F : Fr b L h m) :
    InstAt h t (instObj 182 d) 182 (some (dictOf [⟨PyData.keyHash w.params (Str.ofString "_headers"), .str (Str.ofString "_headers") tk, .ref l⟩] 1)) := ⟨F.keep _ _ hi, rfl, rfl, F.keep _ _ hd⟩
local macro_rules | `(tactic| k_inst) => `(tactic| exact inst_tab (by assumption) (by assumption) (by k_asm))
local macro_rules | `(tactic| walk_at "call ref") => `(tactic| (k_here; (with_reducible show wpAny _ _ (call (Value.ref 83) [Value.ref _, Value.str _ _] _) _ _ _); (show wpAny _ _ (call (Value.ref 83) [Value.ref _, Value.str _ _] [(Str.ofString "name", Value.bool true)]) _ _ _); refine use_val (conv_n (by assumption) (fun b o e => Fr.keep (by assumption) b o ((by assumption : Heap.StaysIn _ _) b o e)) (by assumption) _ _) ⟨rfl, Nat.le_of_ble_eq_true rfl, Nat.le_of_ble_eq_true rfl⟩ (by k_asm) (by k_asm) ?_; intro h' tk' F' N'))
local macro_rules | `(tactic| walk_at "eval Name") => `(tactic| (k_here; refine ld (by k_asm) (by assumption) ?_))
theorem get_c (G : G3 w mean mg mb h₀) {s : Shared} (hs : h₀.StaysIn s.heap) {t d l : Addr} {its : List Addr} {kvs : List (Str × Str)} (T : TabAt w s.heap t d l) (R : RowsAt s.heap l its kvs) {x : Str} (tk : Tok) (hx : Txt.lower x ∈ names10) (hlen : x.length ≤ 20) (hK : ∀ kv ∈ kvs, kv.1.length ≤ 20) :
    wpAny (model prog3 w) (Aq 3) (call (.ref 129) [.ref t, .str x tk]) (Post (fun v => match kvs.find? (fun kv => decide (Txt.lower kv.1 = Txt.lower x)) with | some kv => IsStr kv.2 v | none => v = .none) s) noE s := by
  obtain ⟨hi, tk0, hd⟩ := T
  refine wpAny_call ?_
  refine enter0 (hid := []) (binds := [(Str.ofString "self", .ref t), (Str.ofString "name", .str x tk), (Str.ofString "default", .none)]) G hs (fun _ h => nomatch h) (by k_is) (by k_is) (by rfl) (by exact Nat.le_of_ble_eq_true rfl) (binds_K (G.X.keeps hs) rfl (by k_is) rfl rfl rfl) (locs rfl) ?_ rfl rfl rfl (by decide)
  intro g L h₁ hg st F N X T _
  subst hg
  replace hi : (hideAll s.heap (List.map (fun (x : Addr × Obj) => x.fst) [])).get? t = _ := hi
  replace hd : (hideAll s.heap (List.map (fun (x : Addr × Obj) => x.fst) [])).get? d = _ := hd
  k_steps
  rename Fr _ _ _ _ => lF
  refine For_turns lF ?_
  k_steps
  rename Fr _ _ _ _ => lF
  rename News _ _ _ _ => lN
  refine iter_rows (fun i m => (∃ tn, m (Str.ofString "name") = some (.str (Txt.lower x) tn)) ∧ m (Str.ofString "default") = some .none ∧ ∀ kv ∈ kvs.take i, ¬ Txt.lower kv.1 = Txt.lower x) rfl (R.at (fun _ _ e => e)) lF lN ⟨⟨_, rfl⟩, rfl, fun kv h => nomatch h⟩ ?_ ?_
  · clear lF lN
    intro i kv T t1 t2 m₁ h tk own hkv ⟨⟨tn, hm1⟩, hm2, hno⟩ hT F N
    have hk := hK kv (List.mem_of_getElem? hkv)
    k_steps
    · rename (_ == _) = true => he
      refine post_end (by assumption) ?_
      rw [find_hit hkv (decide_eq_true (eq_of_beq he)) fun kv h => decide_eq_false (hno kv h)]
      exact ⟨_, rfl⟩
    · rename (_ == _) = false => he
      rename Fr _ _ _ _ => F2
      refine InvEnd.intro F2 (by assumption) (fun _ h => h) ⟨⟨tn, hm1⟩, hm2, fun kv' h' => ?_⟩
      rw [List.take_add_one, hkv] at h'
      rcases List.mem_append.mp h' with h' | h'
      · exact hno kv' h'
      · rw [List.mem_singleton.mp h']; exact fun e => Bool.false_ne_true (he.symm.trans (beq_iff_eq.mpr e))
  · clear lF lN
    intro m₁ h tk ⟨⟨tn, hm1⟩, hm2, hno⟩ F N
    k_steps
    refine post_end F ?_
    rw [List.take_length] at hno
    rw [find_miss fun kv h => decide_eq_false (hno kv h)]
end
end Mine
section
open Mine
local macro_rules | `(tactic| k_inst) => `(tactic| exact inst_tab (by assumption) (by assumption) (by k_asm))
local macro_rules | `(tactic| walk_at "eval Name") => `(tactic| (k_here; refine ld (by k_asm) (by assumption) ?_))
namespace Mine
section
variable {w : World} {mean : ExcName → Option Value} {mg mb : Str → Option Value} {h₀ : Heap}
theorem stays_fr {b : Heap} {L : Addr} {h : Heap} {m : Str → Option Value} (hs : h₀.StaysIn b) (F : Fr b L h m) : h₀.StaysIn h := fun a o e => F.keep a o (hs a o e)
theorem cls_ne {o o' : Obj} {P : Prop} (h : some o = some o') (hn : o.cls ≠ o'.cls) : P := absurd (congrArg Obj.cls (Option.some.inj h)) hn
structure Row where
  a : Addr
  k : Str
  v : Str
  t1 : Tok
  t2 : Tok
  n : Nat
noncomputable def Row.obj (r : Row) : Obj := { cls := .type "tuple", data := .seq #[.str r.k r.t1, .str r.v r.t2] r.n }
noncomputable def lst (rows : List Row) (n : Nat) : Obj := W.listOf (rows.map (fun r => Value.ref r.a)).toArray n
theorem lst_push {rows : List Row} {r : Row} {n : Nat} : lst (rows ++ [r]) n = W.listOf ((rows.map (fun r => Value.ref r.a)).toArray.push (.ref r.a)) n := by
  unfold lst; simp
noncomputable def kvsOf (rows : List Row) : List (Str × Str) := rows.map fun r => (r.k, r.v)
theorem rows_of {h : Heap} {l : Addr} {rows : List Row} {n : Nat} (hl : h.get? l = some (lst rows n)) (hr : ∀ r ∈ rows, h.get? r.a = some r.obj) : RowsAt h l (rows.map (·.a)) (kvsOf rows) := by
  refine ⟨⟨n, ?_⟩, by simp [kvsOf], fun i a kv h1 h2 => ?_⟩
  · rw [hl, lst, List.map_map]; rfl
  · rw [List.getElem?_map] at h1
    rw [kvsOf, List.getElem?_map] at h2
    cases e : rows[i]? with
    | none => rw [e] at h1; cases h1
    | some r =>
      rw [e] at h1 h2
      cases h1; cases h2
      exact ⟨r.t1, r.t2, r.n, hr r (List.mem_of_getElem? e)⟩
structure PostM (ok : Value → List Row → Prop) (l : Addr) (rows₀ : List Row) (s : Shared) (v : Value) (s' : Shared) : Prop where
  ex : ∃ h' tk rows n, s' = { s with heap := h', toks := tk } ∧ (∀ b o, b ≠ l → s.heap.get? b = some o → h'.get? b = some o) ∧ h'.get? l = some (lst rows n) ∧ (∀ r ∈ rows, h'.get? r.a = some r.obj) ∧ (∀ r ∈ rows, r ∈ rows₀ ∨ s.heap.get? r.a = none) ∧ ok v rows
theorem postM_end {ok : Value → List Row → Prop} {l : Addr} {rows rows' : List Row} {n' : Nat} {s : Shared} {g h' : Heap} {L : Addr} {m : Str → Option Value} {news : List (Addr × Obj)} {v : Value} {tk : Nat} (hne : ∀ a o, a ≠ l → s.heap.get? a = some o → g.get? a = some o)
    (hr : ∀ r ∈ rows, g.get? r.a = some r.obj) (F : Fr g L h' m) (N : News g L h' news) (h1 : (l, lst rows' n') ∈ news) (h2 : ∀ r ∈ rows', r ∈ rows ∨ (r.a, r.obj) ∈ news) (hok : ok v rows') : PostM ok l rows s v { s with heap := h', toks := tk } := by
  refine ⟨h', tk, rows', n', rfl, fun b o hb e => F.keep _ _ (hne b o hb e), (N _ h1).1, fun r h => (h2 r h).elim (fun h => F.keep _ _ (hr r h)) fun h => (N _ h).1, fun r h => (h2 r h).imp id fun h => ?_, hok⟩
  cases e : s.heap.get? r.a with
  | none => rfl
  | some o =>
    by_cases q : r.a = l
    · have a1 := (N _ h).1
      have a2 := (N _ h1).1
      simp only [q] at a1
      rw [a2] at a1
      exact cls_ne a1 fun h => absurd (Value.type.inj h) (by decide)
    · have := (N _ h).2.2
      simp only [hne _ _ q e] at this
      cases this
theorem append_end {ok : Value → List Row → Prop} {l : Addr} {rows : List Row} {n' : Nat} {s : Shared} {g h' : Heap} {L : Addr} {m : Str → Option Value} {D : Addr} {x y : Str} {t1 t2 : Tok} {k : Nat} {v : Value} {tk : Nat} (hne : ∀ a o, a ≠ l → s.heap.get? a = some o → g.get? a = some o)
    (hr : ∀ r ∈ rows, g.get? r.a = some r.obj) (F : Fr g L h' m) (N : News g L h' [(D, { cls := .type "tuple", data := .seq #[.str x t1, .str y t2] k }), (l, W.listOf ((rows.map (fun r => Value.ref r.a)).toArray.push (.ref D)) n')]) (hok : ok v (rows ++ [⟨D, x, y, t1, t2, k⟩])) : PostM ok l rows s v { s with heap := h', toks := tk } := by
  refine postM_end (rows' := rows ++ [⟨D, x, y, t1, t2, k⟩]) (n' := n') hne hr F N ?_ ?_ hok
  · rw [lst_push]; exact .tail _ (.head _)
  · intro r h
    rcases List.mem_append.mp h with h | h
    · exact .inl h
    · rw [List.mem_singleton.mp h]; exact .inr (.head _)
end
end Mine
namespace Mine
section
variable {prog : Program} {w : World} {A : Around} {h₀ : Heap} {L : Addr} {m : Str → Option Value} {env : Env}
noncomputable def KeptC (h₀ : Heap) (L : Addr) (m : Str → Option Value) (nw : List (Addr × Obj)) (s s' : Shared) : Prop := ∃ h' tk', s' = { s with heap := h', toks := tk' } ∧ Fr h₀ L h' m ∧ News h₀ L h' nw
theorem KeptC.intro {nw nw' : List (Addr × Obj)} {s : Shared} {h' : Heap} {tk' : Nat} (F : Fr h₀ L h' m) (N : News h₀ L h' nw) : KeptC h₀ L m nw s { s with heap := h', toks := tk' } := ⟨h', tk', rfl, F, N⟩
/-- the turns of a comprehension with a test, over the images of a list -/
theorem restT_of {β : Type} {ct elt : Expr} {x : Str} {scope : Scope} {cl : List (Str × Addr)} {s : Shared} {S : List (Addr × Obj) → Prop} {Fin : List Value → List (Addr × Obj) → Prop} {news : List (Addr × Obj)} {xs : List β} {f e : β → Value} {p : β → Bool} {P : Nat → Value → Prop}
    (hP : ∀ i v, P i v → (xs.map f)[i]? = some v) (hS : S news)
    (turn : ∀ b, b ∈ xs → ∀ I oI C oC D m₂ h tk ys (E' : Value → Shared → Prop), LCg.NsObj oC m₂ → m₂ x = some (f b) → Fr h₀ L h m → News h₀ L h ((I, oI) :: (C, oC) :: (D, LCg.lst ys) :: news) → LCg.Off3 I C D news → ((@Ne Nat I C) ∧ (@Ne Nat I D) ∧ (@Ne Nat C D)) →
      wpAny (model prog w) A (isTrue ct (compEnvC scope cl C env) (eval ct (compEnvC scope cl C env))) (fun ok s' => if ok = true then
        wpAny (model prog w) A (eval elt (compEnvC scope cl C env)) (fun y s'' => p b = true ∧ y = e b ∧ KeptC h₀ L m ((I, oI) :: (C, oC) :: (D, LCg.lst ys) :: news) { s with heap := h, toks := tk } s'') E' s'
        else p b = false ∧ KeptC h₀ L m ((I, oI) :: (C, oC) :: (D, LCg.lst ys) :: news) { s with heap := h, toks := tk } s') E' { s with heap := h, toks := tk })
    (fin : Fin ((xs.filter p).map e) news) : ∀ (suf pre : List β), xs = pre ++ suf → LCt.CompRestT prog w A h₀ L m env ct elt x scope cl s S P Fin suf.length pre.length ((pre.filter p).map e) news
  | [], pre, hx => by
    rw [List.append_nil] at hx; subst hx
    exact fin
  | b :: r, pre, hx => by
    intro v I oI C oC D m₂ h tk E' hv hns hm F N off ne
    have hv' : v = f b := by
      have q := hP _ _ hv
      rw [hx, List.map_append, List.getElem?_append_right (by simp)] at q
      simp at q
      exact q.symm
    subst hv'
    have hb : b ∈ xs := by rw [hx]; simp
    refine wpAny_mono (turn b hb I oI C oC D m₂ h tk _ E' hns hm F N off ne) (fun ok s' q => ?_) fun _ _ e => e
    have ih := restT_of hP hS turn fin r (pre ++ [b]) (by rw [hx]; simp)
    rw [List.length_append, List.filter_append, List.map_append] at ih
    cases ok with
    | true =>
      simp only [if_true] at q ⊢
      refine wpAny_mono q (fun y s'' q => ?_) fun _ _ e => e
      obtain ⟨hp, rfl, h', tk', rfl, F', N'⟩ := q
      refine ⟨h', tk', news, rfl, F', N', off, hS, ?_⟩
      simpa [hp] using ih
    | false =>
      simp only [Bool.false_eq_true, if_false] at q ⊢
      obtain ⟨hp, h', tk', rfl, F', N'⟩ := q
      refine ⟨h', tk', news, rfl, F', N', off, hS, ?_⟩
      simpa [hp] using ih
end
end Mine
namespace Mine
section
variable {prog : Program} {w : World} {A : Around} {E : Value → Shared → Prop} {s : Shared}
/-- l[:] = D -/
theorem setItem_all {l sl D : Addr} {o : Obj} {items new : Array Value} {n : Nat} {Q : Unit → Shared → Prop} (ho : s.heap.get? l = some o) (hc : o.cls = .type "list") (hd : o.data = .seq items n)
    (hs : s.heap.IsSliceOf sl .none .none .none) (hD : s.heap.IsList D new) (hne : l ≠ D) (hsz : items.size + new.size ≤ sizeLine)
    (hQ : ∀ f : Array Value → Array Value, f items = new → Q () { s with heap := s.heap.update l (Obj.mapSeq f) }) :
    wpAny (model prog w) A (setItem (.ref l) (.ref sl) (.ref D)) Q E s := by
  have hl : s.heap.IsList l items := ⟨o, ho, hc, n, hd⟩
  obtain ⟨os, hos, hcs, hds⟩ := id hs
  obtain ⟨oD, hoD, hcD, nD, hdD⟩ := id hD
  have hTs : s.TypeIs (.ref sl) "slice" := ⟨os, hos, hcs⟩
  unfold setItem
  try with_reducible refine wpAny_holding ?_
  first | refine wpAny_bind (wpAny_pure ?_) | skip
  refine wpAny_bind (wpAny_sequenceKey hl.typeIs (by decide) ?_)
  refine wpAny_bind (wpAny_callSpecial?_slot (name := Str.ofString "__setitem__") hl.typeIs slot_list_setitem
    (wpAny_call_entry slot_list_setitem hl.typeIs entry_list_setitem ?_ (args_list_setitem _ _ _)))
  show wpAny _ _ (Builtin.List.listSubscript? (.ref sl) >>= _) _ _ s
  refine wpAny_bind ?_
  unfold Builtin.List.listSubscript?
  refine wpAny_bind (wpAny_specialOf hTs slice_no_index ?_)
  simp only [Option.isNone_none, if_true]
  refine wpAny_pure ?_
  show wpAny _ _ (typeOf (.ref sl) >>= _) _ _ s
  refine wpAny_bind (wpAny_typeOf hTs ?_)
  rw [if_neg (by decide)]
  rw [listSliceParts_eq]
  refine wpAny_bind (wpAny_bind (wpAny_field hos hds (x := .none) rfl (wpAny_bind (wpAny_listPart .none ?_))))
  rw [if_neg (by exact Bool.false_ne_true)]
  refine wpAny_bind (wpAny_field hos hds (x := .none) rfl (wpAny_bind (wpAny_listPart .none ?_)))
  refine wpAny_bind (wpAny_field hos hds (x := .none) rfl (wpAny_bind (wpAny_listPart .none (wpAny_pure ?_))))
  rw [if_neg (show ¬ (Builtin.List.listSameRef (.ref l) (.ref D) = true) from fun h => hne (by simpa [Builtin.List.listSameRef] using h))]
  refine wpAny_bind ?_
  unfold Builtin.List.listAllItems
  refine wpAny_bind (wpAny_typeOf hD.typeIs ?_)
  rw [if_pos (by decide)]
  refine wpAny_listItems hoD hdD ?_
  refine wpAny_bind (wpAny_listItems ho hd ?_)
  refine wpAny_bind (wpAny_of_eq (sliceIndices_raw none none none items.size (by simp)) ?_)
  have hb : sliceBounds none none none items.size = (0, (items.size : Int), 1) := rfl
  rw [hb]
  dsimp only
  rw [if_pos (by decide)]
  have htl : ¬ (Builtin.List.listTooLong (items.size + new.size) = true) := by simp [Builtin.List.listTooLong]; exact hsz
  rw [if_neg htl]
  refine wpAny_bind (wpAny_rule ?_)
  refine wpAny_bind (wpAny_updateSeq ho hd ?_ (Nat.le_trans (Nat.le_add_right _ _) hsz) ?_)
  · refine wpAny_bind (wpAny_letGo (wpAny_pure ⟨.none, rfl, wpAny_pure (hQ _ ?_)⟩))
    simp
  · have : (items.extract 0 (Int.toNat 0) ++ new ++ items.extract (max 0 (items.size : Int)).toNat).size = new.size := by simp
    rw [this]
    exact Nat.le_trans (Nat.le_trans (Nat.le_add_left _ _) hsz) (Nat.le_succ _)
theorem setItem_led {l sl D : Addr} {items new : Array Value} {n : Nat} {h₀ : Heap} {L : Addr} {m : Str → Option Value} {pre post : List (Addr × Obj)} {Q : Unit → Shared → Prop} (F : Fr h₀ L s.heap m) (N : News h₀ L s.heap (pre ++ (l, W.listOf items n) :: post))
    (a : ∀ p ∈ pre, p.1 ≠ l) (b : ∀ p ∈ post, p.1 ≠ l) (hs : s.heap.IsSliceOf sl .none .none .none) (hD : s.heap.IsList D new) (hne : l ≠ D) (hsz : items.size + new.size ≤ sizeLine)
    (h : ∀ h' n', Fr h₀ L h' m → News h₀ L h' (pre ++ (l, W.listOf new n') :: post) → Q () { s with heap := h' }) :
    wpAny (model prog w) A (setItem (.ref l) (.ref sl) (.ref D)) Q E s := by
  have z := N (l, W.listOf items n) (List.mem_append.mpr (.inr (.head _)))
  refine setItem_all z.1 rfl rfl hs hD hne hsz fun f hf => ?_
  have hs' := Heap.SameBut.update s.heap l (Obj.mapSeq f)
  have ho' := Heap.get?_update_self (Obj.mapSeq f) z.1 (Obj.isFreed_of_seq (Obj.data_mapSeq (show (W.listOf items n).data = .seq items n from rfl) f).choose_spec)
  have he : ∃ n', Obj.mapSeq f (W.listOf items n) = W.listOf new n' := by
    subst hf; exact ⟨_, rfl⟩
  obtain ⟨n', he⟩ := he
  exact h _ n' (F.change hs' z.2.1 z.2.2) (news_set N a b hs' (he ▸ ho'))
theorem setItem_push {l D c : Addr} {oc : Obj} {items : Array Value} {ys : List Value} {n : Nat} {h h₀ : Heap} {L : Addr} {m : Str → Option Value} {Q : Unit → Shared → Prop} (F : Fr h₀ L h m) (N : News h₀ L h [(D, LCg.lst ys), (c, oc), (l, W.listOf items n)])
    (hD : D ≠ l) (hc : c ≠ l) (hsz : items.size + ys.length ≤ sizeLine)
    (k : ∀ h' n', Fr h₀ L h' m → News h₀ L h' [(D, LCg.lst ys), (c, oc), (l, W.listOf ys.toArray n')] → Q () { s with heap := h' }) :
    wpAny (model prog w) A (setItem (.ref l) (.ref h.objs.size) (.ref D)) Q E { s with heap := h.push { cls := .type "slice", data := .fields #[.none, .none, .none] } } := by
  have N' : News h₀ L (h.push { cls := .type "slice", data := .fields #[.none, .none, .none] }) [(D, LCg.lst ys), (c, oc), (l, W.listOf items n)] := fun p hp => ⟨Heap.get?_push_of_some _ (N p hp).1, (N p hp).2⟩
  refine setItem_led (s := { s with heap := h.push { cls := .type "slice", data := .fields #[.none, .none, .none] } }) (pre := [(D, LCg.lst ys), (c, oc)]) (post := []) (F.push _) N' (fun p hp => ?_) (fun p hp => nomatch hp) (Heap.IsSliceOf.new ..) ⟨_, (N' _ (.head _)).1, rfl, _, rfl⟩ (Ne.symm hD) (by simpa using hsz) fun h' n' F' N' => k h' n' F' N'
  rcases List.mem_cons.mp hp with rfl | hp
  · exact hD
  · rw [List.mem_singleton.mp hp]; exact hc
end
end Mine
section
open Mine
local macro_rules | `(tactic| walk_at "call ref") => `(tactic| (k_here; (with_reducible show wpAny _ _ (call (Value.ref 83) [Value.ref _, Value.str _ _] _) _ _ _); (show wpAny _ _ (call (Value.ref 83) [Value.ref _, Value.str _ _] [(Str.ofString "name", Value.bool true)]) _ _ _); refine use_val (conv_n (by assumption) (stays_fr (by assumption) (by assumption)) (by assumption) _ _) ⟨rfl, Nat.le_of_ble_eq_true rfl, Nat.le_of_ble_eq_true rfl⟩ (by k_asm) (by k_asm) ?_; intro h' tk' F' N'))
local macro_rules | `(tactic| walk_at "call ref") => `(tactic| (k_here; (with_reducible show wpAny _ _ (call (Value.ref 83) [Value.ref _, Value.str _ _] _) _ _ _); (show wpAny _ _ (call (Value.ref 83) [Value.ref _, Value.str _ _] [(Str.ofString "name", Value.bool false)]) _ _ _); refine use_val (conv_v (by assumption) (stays_fr (by assumption) (by assumption)) (by assumption) _ _) ⟨rfl, Nat.le_of_ble_eq_true rfl, Nat.le_of_ble_eq_true rfl⟩ (by k_asm) (by k_asm) ?_; intro h' tk' F' N'))
local macro_rules | `(tactic| walk_at "eval ListComp") => `(tactic| (k_here; lct_look; lcg_calm; k_dflt (refine LCt.ListComp_T (F₀ := by k_asm) (by with_unfolding_all rfl) (by decide) (by rfl) (by decide) (by rfl) ?_)))
namespace Mine
section
variable {w : World} {mean : ExcName → Option Value} {mg mb : Str → Option Value} {h₀ : Heap}
theorem enterC {A : Around} {s : Shared} {f : Addr} {args : Args} {R : Result → Shared → Prop} {name qual : Str} {params : Arguments} {body : List Stmt} {scope : Scope} {dV kV doc pm cdv ct oc : Value} {an od : Option Addr} {osl : Array (Option Value)} {ix : List Nat} {dec : List Expr} {ret : Option Expr} {tp : List TypeParam} {ts : Option Scope} {bnd : Str} {ps : Pos}
    {binds : List (Str × Value)} {hid : List (Addr × Obj)} (G : G3 w mean mg mb h₀) (hs : h₀.StaysIn s.heap) (hN : ∀ p ∈ hid, s.heap.get? p.1 = some p.2 ∧ h₀.get? p.1 = none)
    (ho : (MineX.hd.heap_39 w.params).lookup f = some ⟨oc, od, .func (fnOf (fName (stA MineX.P0 ix)) qual (fArgs (stA MineX.P0 ix)) (fBody (stA MineX.P0 ix)) (fScope (stA MineX.P0 ix)) dV kV doc pm an cdv ct), osl⟩) (hcd : codeIn (MineX.hd.heap_39 w.params) cdv qual = true) (hst : stA MineX.P0 ix = some (.FunctionDef name params body dec ret tp scope ts bnd ps)) (hroom : A.depth < recursionLimit)
    (hbind : BindsTo s (fnOf name qual params body scope dV kV doc pm an cdv ct) args binds)
    (hkind : (binds.all fun y => scope.names.lookup y.1 == some .local || scope.names.lookup y.1 == some .cell) = true) (hnd : ((cellsFrom 0 scope.names []).map (·.1)).Nodup)
    (h : ∀ g L h₁ tk cells, g = hideAll s.heap (hid.map (·.1)) → h₀.StaysIn g → Fr g L h₁ (bindL (envOfC qual scope L f cdv).kindOf binds fun _ => none) → News g L h₁ (cells ++ hid) →
      CellsAre (bindC (envOfC qual scope L f cdv).kindOf binds fun _ => none) (cellsFrom (L + 1) scope.names []) cells → (MineX.hd.heap_39 w.params).In g → Top MineX.hd.view_39 loose3 mean mg mb g → (∀ p ∈ hid, p.1 < L) →
      wpAny (model prog3 w) (A.deeper (envOfC qual scope L f cdv)) (execs body (envOfC qual scope L f cdv))
        (fun fl s' => R (.ok (.ret (match fl with | .ret v => v | _ => .none))) s') noE { s with heap := h₁, toks := tk })
    (hco : scope.isCoroutine = false) (hgen : scope.isGenerator = false) (hk : scope.kind = .function) : codeAny (model prog3 w) A (.call (.ref f) args) R s := by
  rw [hst] at ho
  replace ho : (MineX.hd.heap_39 w.params).lookup f = some ⟨oc, od, .func (fnOf name qual params body scope dV kV doc pm an cdv ct), osl⟩ := ho
  have X := G.X.keeps hs
  refine codeAny_call_function hroom (X _ _ ho) rfl hco hgen rfl (codeRec_of X hcd) (hbind _ _ _ _ ?_)
  refine wpAny_newFunctionEnv_cells hk (kindsX hkind _) fun env' he s' x => ?_
  subst he
  refine ⟨(G.T.nolimit.keeps hs).keeps x.toInCall.keep, codeAny_func ?_⟩
  obtain ⟨h₁, tk, rfl, _⟩ := x.done
  have hk₁ := x.toInCall.keep
  have st := stays_hide hs (fun p hp => (hN p hp).2)
  obtain ⟨cells, NC, Y⟩ := Cl.news (h₀ := s.heap) (Nat.le_refl _) fun n c hm => ⟨x.cell n c (lookup_of_mem_nodup (cellsFrom_names scope.names 0 (s.heap.objs.size + 1) [] [] rfl ▸ hnd) hm), x.above n c hm⟩
  refine wpAny_mono (h (hideAll s.heap (hid.map Prod.fst)) s.heap.objs.size h₁ tk cells rfl st ⟨x.toInCall.ns, fun b o e => hk₁ b o (of_hideAll _ e), Nat.le_of_eq (hideAll_size _ _)⟩ (fun p hp => ?_) Y (G.X.keeps fun b o e => st b o e) (G.T.keeps fun b o e => st b o e) (fun p hp => Heap.lt_size (hN p hp).1)) (fun _ _ x => x) fun _ _ x => x.elim
  rcases List.mem_append.mp hp with hp | hp
  · refine ⟨(NC p hp).1, (NC p hp).2.1, ?_⟩
    cases q : (hideAll s.heap (hid.map Prod.fst)).get? p.1 with
    | none => rfl
    | some o => have := of_hideAll _ q; rw [(NC p hp).2.2] at this; cases this
  · exact ⟨hk₁ _ _ (hN p hp).1, Nat.ne_of_lt (Heap.lt_size (hN p hp).1), hideAll_none _ (List.mem_map_of_mem hp)⟩
theorem hide1 {s : Shared} {g : Heap} {t d l : Addr} {rows : List Row} {n : Nat} (hg : g = hideAll s.heap ([(l, lst rows n)].map (·.1))) (T : TabAt w s.heap t d l) (hl : s.heap.get? l = some (lst rows n)) (hr : ∀ r ∈ rows, s.heap.get? r.a = some r.obj) :
    (∀ a o, a ≠ l → s.heap.get? a = some o → g.get? a = some o) ∧ TabAt w g t d l ∧ ∀ r ∈ rows, g.get? r.a = some r.obj := by
  have hne : ∀ a o, a ≠ l → s.heap.get? a = some o → g.get? a = some o := fun a o h e => hg ▸ hideAll_get _ e fun q => h (List.mem_singleton.mp q)
  refine ⟨hne, ?_, fun r h => hne _ _ (fun e => by have q := hr r h; rw [e, hl] at q; exact cls_ne q fun h => absurd (Value.type.inj h) (by decide)) (hr r h)⟩
  refine ⟨hne _ _ (fun e => ?_) T.inst, let ⟨tk, e⟩ := T.dict; ⟨tk, hne _ _ (fun q => ?_) e⟩⟩
  · have q := T.inst; rw [e, hl] at q; exact cls_ne q fun h => nomatch h
  · rw [q, hl] at e; exact cls_ne e fun h => absurd (Value.type.inj h) (by decide)
theorem del_c (G : G3 w mean mg mb h₀) {s : Shared} (hs : h₀.StaysIn s.heap) {t d l : Addr} {rows : List Row} {n : Nat} (T : TabAt w s.heap t d l) (hl : s.heap.get? l = some (lst rows n)) (hl₀ : h₀.get? l = none) (hr : ∀ r ∈ rows, s.heap.get? r.a = some r.obj)
    {x : Str} (hx : Txt.lower x ∈ names10) (hlen : x.length ≤ 20) (hK : ∀ r ∈ rows, r.k.length ≤ 20) (hc : rows.length ≤ 40) (t1 : Tok) :
    wpAny (model prog3 w) (Aq 3) (call (.ref 102) [.ref t, .str x t1]) (PostM (fun _ rows' => rows' = rows.filter fun r => decide (Txt.lower r.k ≠ Txt.lower x)) l rows s) noE s := by
  refine wpAny_call ?_
  refine enterC (hid := [(l, lst rows n)]) (binds := [(Str.ofString "self", .ref t), (Str.ofString "name", .str x t1)]) G hs (fun p h => by cases List.mem_singleton.mp h; exact ⟨hl, hl₀⟩) (by k_is) (by k_is) (by rfl) (by exact Nat.le_of_ble_eq_true rfl) (BindsTo.of_eq rfl) rfl (by decide +kernel) ?_ rfl rfl rfl
  intro g L h₁ tk cells hg st F N Y X TT hlt
  obtain ⟨hne, T', hr'⟩ := hide1 hg T hl hr
  obtain ⟨tk0, hd⟩ := T'.dict
  have hi0 := T'.inst
  k_cells Y
  simp only [List.cons_append, List.nil_append] at N
  dsimp only
  k_steps
  rename Fr _ _ _ _ => F2
  rename News _ _ _ _ => N2
  refine LCt.CompSrcT.ledger rfl F2 N2 (.tail _ (.head _)) (by simp only [List.size_toArray, List.length_map]; exact Nat.le_trans hc (by decide)) fun g' => ?_
  refine (show _ from ?_ : LCt.CompRestT _ _ _ _ _ _ _ _ _ _ _ _ _ _ _ _ (rows.map (fun r => Value.ref r.a)).toArray.size 0 [] _)
  rw [List.size_toArray, List.length_map]
  refine restT_of (xs := rows) (f := fun r => .ref r.a) (e := fun r => .ref r.a) (p := fun r => decide (Txt.lower r.k ≠ Txt.lower x)) (fun i v h => by simpa using h) (.inr ⟨_, .tail _ (.head _), rfl, _, rfl⟩) ?_ ?_ rows [] rfl
  · intro r hr I oI C oC D m₂ h tk ys E' hns hm F N off ne
    have hk := hK r hr
    have hT : IsTup g r.a #[.str r.k r.t1, .str r.v r.t2] := ⟨_, hr' r hr, rfl, _, rfl⟩
    k_steps
    · exact ⟨_, _, rfl, by assumption, by assumption⟩
    · rename (_ != _) = false => he
      exact decide_eq_false fun e => e (by simpa using he)
    · exact ⟨_, _, rfl, by assumption, by assumption⟩
  · intro D h tk F N off
    k_steps
    rename Fr _ _ _ _ => F3
    rename News _ _ _ _ => N3
    have hDl : D ≠ l := fun e => off.2.1 e.symm
    refine setItem_push (s := { s with heap := h, toks := _ }) F3 N3 hDl (fun e => Nat.lt_irrefl _ (Nat.lt_of_lt_of_le (hlt _ (.head _)) (e ▸ Nat.le_succ L))) (by have hf := List.length_filter_le (fun r : Row => decide (Txt.lower r.k ≠ Txt.lower x)) rows; simp only [List.size_toArray, List.length_map]; exact Nat.le_trans (Nat.add_le_add hc (Nat.le_trans hf hc)) (by decide)) fun h' n' F' N' => ?_
    k_steps
    exact postM_end (rows' := rows.filter fun r => decide (Txt.lower r.k ≠ Txt.lower x)) (n' := n') hne hr' F' N' (.tail _ (.tail _ (.head _))) (fun r h => .inl (List.mem_filter.mp h).1) rfl
end
end Mine
namespace Mine
section
variable {w : World} {mean : ExcName → Option Value} {mg mb : Str → Option Value} {h₀ : Heap}
theorem ksp_delItem {M : Model} {A : Around} {E : Value → Shared → Prop} {s : Shared} {K : Frag} {x C L f : Addr} {h₀ : Heap} {m : Str → Option Value} {ox : Obj} {od : Option Obj} {i : Value} {Q : Unit → Shared → Prop} (F : Fr h₀ L s.heap m) (X₀ : K.In h₀) (I : InstAt s.heap x ox C od) (hq : noSeq K C = true) (hs : findIn K (.ref C) "__delitem__" = some (some (.ref f))) (hf : isFn K (.ref f) = true)
    (h : wpAny M A (call (.ref f) [.ref x, i]) (fun _ s' => Q () s') E s) : wpAny M A (delItem (.ref x) i) Q E s := by
  have X := X₀.keeps F.keep
  unfold delItem sequenceKey
  refine wpAny_holding (wpAny_bind (wpAny_bind (I.type.here ?_)))
  refine wpAny_bind ((anyM_none X hq).here ?_)
  rw [if_pos (show (!false) = true from rfl)]
  exact wpAny_pure (wpAny_bind (special_fn X I hs (beq_iff_eq.mp hf) (wpAny_mono h (fun _ _ z => wpAny_pure z) fun _ _ z => z)))
local macro_rules | `(tactic| walk_at "delItem ref str") => `(tactic| (k_here; (with_reducible show wpAny _ _ (delItem (Value.ref _) _) _ _ _); k_dflt (refine' ksp_delItem ?F ?X ?I ?hQ ?hS ?hF ?_; (case F => k_asm); (case X => k_asm); (case I => k_inst); (case hS => k_is); (case hF => k_is); (case hQ => k_is); k_whole)))
theorem use_del {A : Around} {t : Sem Value} {l : Addr} {rows : List Row} {f : Row → Bool} {k n : Nat} {s : Shared} {b : Heap} {L : Addr} {m : Str → Option Value} {Q E : Value → Shared → Prop}
    (spec : wpAny (model prog3 w) (Aq k) t (PostM (fun _ rows' => rows' = rows.filter f) l rows s) noE s) (hA : Fits A k) (F : Fr b L s.heap m) (N : News b L s.heap [(l, lst rows n)])
    (h : ∀ v h' tk' n', Fr b L h' m → News b L h' [(l, lst (rows.filter f) n')] → Q v { s with heap := h', toks := tk' }) : wpAny (model prog3 w) A t Q E s := by
  refine wpAny_mono (weaken spec hA.h hA.d hA.u rfl rfl) (fun v s' p => ?_) fun _ _ x => x.elim
  obtain ⟨h', tk, rows', n', rfl, hk, hl, hr, _, rfl⟩ := p.ex
  have z := N _ (.head _)
  refine h v h' tk n' ⟨F.ns.at' fun o e => hk _ _ (Ne.symm z.2.1) e, fun a o e => hk _ _ (fun q => ?_) (F.keep a o e), F.above⟩ fun p hp => ?_
  · have y := z.2.2; rw [← q, e] at y; cases y
  · cases List.mem_singleton.mp hp; exact ⟨hl, z.2⟩
theorem append_end2 {ok : Value → List Row → Prop} {l : Addr} {rows₀ rows : List Row} {n' : Nat} {s : Shared} {g h' : Heap} {L : Addr} {m : Str → Option Value} {D : Addr} {x y : Str} {t1 t2 : Tok} {k : Nat} {v : Value} {tk : Nat} (hne : ∀ a o, a ≠ l → s.heap.get? a = some o → g.get? a = some o)
    (hr : ∀ r ∈ rows₀, g.get? r.a = some r.obj) (hsub : ∀ r ∈ rows, r ∈ rows₀) (F : Fr g L h' m) (N : News g L h' [(D, { cls := .type "tuple", data := .seq #[.str x t1, .str y t2] k }), (l, W.listOf ((rows.map (fun r => Value.ref r.a)).toArray.push (.ref D)) n')]) (hok : ok v (rows ++ [⟨D, x, y, t1, t2, k⟩])) : PostM ok l rows₀ s v { s with heap := h', toks := tk } := by
  refine postM_end (rows' := rows ++ [⟨D, x, y, t1, t2, k⟩]) (n' := n') hne hr F N ?_ ?_ hok
  · rw [lst_push]; exact .tail _ (.head _)
  · intro r h
    rcases List.mem_append.mp h with h | h
    · exact .inl (hsub r h)
    · rw [List.mem_singleton.mp h]; exact .inr (.head _)
theorem hr_led {b : Heap} {L : Addr} {h : Heap} {m : Str → Option Value} {rows : List Row} (F : Fr b L h m) (hr : ∀ r ∈ rows, b.get? r.a = some r.obj) : ∀ r ∈ rows, h.get? r.a = some r.obj := fun r h => F.keep _ _ (hr r h)
local macro_rules | `(tactic| walk_at "call ref") => `(tactic| (k_here; (with_reducible show wpAny _ _ (call (Value.ref 102) _) _ _ _); (show wpAny _ _ (call (Value.ref 102) [Value.ref _, Value.str _ _]) _ _ _); refine use_del (del_c (by assumption) (stays_fr (by assumption) (by assumption)) (TabAt.at (by assumption) (Fr.keep (by assumption))) (News.get (by assumption) (.head _)) (by assumption) (hr_led (by assumption) (by assumption)) (by assumption) (by assumption) (by assumption) (by assumption) _) ⟨rfl, Nat.le_of_ble_eq_true rfl, Nat.le_of_ble_eq_true rfl⟩ (by k_asm) (by k_asm) ?_; intro v' h' tk' n' F' N'))
theorem seti_c (G : G3 w mean mg mb h₀) {s : Shared} (hs : h₀.StaysIn s.heap) {t d l : Addr} {rows : List Row} {n : Nat} (T : TabAt w s.heap t d l) (hl : s.heap.get? l = some (lst rows n)) (hl₀ : h₀.get? l = none) (hr : ∀ r ∈ rows, s.heap.get? r.a = some r.obj)
    {x v : Str} (hx : x ∈ names10) (hxl : Txt.lower x ∈ names10) (hv : v ∈ vs6) (hlen : x.length ≤ 20) (hK : ∀ r ∈ rows, r.k.length ≤ 20) (hc : rows.length ≤ 40) (t1 t2 : Tok) :
    wpAny (model prog3 w) (Aq 5) (call (.ref 97) [.ref t, .str x t1, .str v t2]) (PostM (fun _ rows' => ∃ r, r.k = x ∧ r.v = v ∧ rows' = (rows.filter fun r => decide (Txt.lower r.k ≠ Txt.lower x)) ++ [r]) l rows s) noE s := by
  refine wpAny_call ?_
  refine enter0 (hid := [(l, lst rows n)]) (binds := [(Str.ofString "self", .ref t), (Str.ofString "name", .str x t1), (Str.ofString "val", .str v t2)]) G hs (fun p h => by cases List.mem_singleton.mp h; exact ⟨hl, hl₀⟩) (by k_is) (by k_is) (by rfl) (by exact Nat.le_of_ble_eq_true rfl) (BindsTo.of_eq rfl) (locs rfl) ?_ rfl rfl rfl (by decide)
  intro g L h₁ hg st F N X TT _
  obtain ⟨hne, T', hr'⟩ := hide1 hg T hl hr
  obtain ⟨tk0, hd⟩ := T'.dict
  have hi0 := T'.inst
  have hc2 : (rows.filter fun r => decide (Txt.lower r.k ≠ Txt.lower x)).length ≤ 40 := Nat.le_trans (List.length_filter_le _ _) hc
  k_steps
  rename Fr _ _ _ _ => F2
  rename News _ _ _ _ => N2
  exact append_end2 hne hr' (fun r h => (List.mem_filter.mp h).1) F2 N2 ⟨_, rfl, rfl, rfl⟩
end
end Mine
namespace Mine
section
variable {w : World} {mean : ExcName → Option Value} {mg mb : Str → Option Value} {h₀ : Heap}
theorem kit_list {b : Heap} {L l : Addr} {h : Heap} {m : Str → Option Value} {its : Array Value} (hl : b.IsList l its) (F : Fr b L h m) : KitAt l "list" h := by
  obtain ⟨o, ho, hc, n, hd⟩ := hl
  exact ⟨o, F.keep _ _ ho, hc⟩
theorem weakenC {M : Model} {A B : Around} {c : Code} {R : Result → Shared → Prop} {s : Shared}
    (h : codeAny M B c R s) (hh : A.handled = B.handled) (hd : A.depth ≤ B.depth) (hu : A.units ≤ B.units) (hf : B.frames = none) (hg : B.guards = none) : codeAny M A c R s :=
  fun Γ p hc hΓ => h Γ p hc ⟨hΓ.1.trans hh, Nat.le_trans hΓ.2.1 hd, fun l e => (by rw [hf] at e; cases e), fun l e => (by rw [hg] at e; cases e), Nat.le_trans hΓ.2.2.2.2 hu⟩
local macro_rules | `(tactic| walk_at "call type:type") => `(tactic| (k_here; (with_reducible show wpAny _ _ (call (Value.type "type") [Value.ref _]) _ _ _); refine kto_cont (T := "list") (kit_list (by assumption) (by assumption)) (by decide) ?_))
theorem init_c (G : G3 w mean mg mb h₀) {s : Shared} (hs : h₀.StaysIn s.heap) {x dx l : Addr} {its : List Addr} {kvs : List (Str × Str)} (hx : s.heap.get? x = some (instObj 182 dx)) (hdx : s.heap.get? dx = some (dictOf [] 0)) (hd₀ : h₀.get? dx = none) (hx₀ : h₀.get? x = none) (hxd : dx < x) (R : RowsAt s.heap l its kvs) (hk : ∀ kv ∈ kvs, kv.1 ∈ names10 ∧ kv.2 ∈ vs6)
    {RR : Result → Shared → Prop} (hR : ∀ h' tk tk0, (∀ b o, b ≠ dx → s.heap.get? b = some o → h'.get? b = some o) → h'.get? dx = some (hdrDict w l tk0) → RR (.ok (.ret .none)) { s with heap := h', toks := tk }) :
    codeAny (model prog3 w) (Aq 5) (.call (.ref 76) ⟨[.ref x, .ref l], []⟩) RR s := by
  refine enter0 (hid := [(x, instObj 182 dx), (dx, dictOf [] 0)]) (binds := [(Str.ofString "self", .ref x), (Str.ofString "headers", .ref l)]) G hs (fun p h => by
    rcases List.mem_cons.mp h with rfl | h
    · exact ⟨hx, hx₀⟩
    · cases List.mem_singleton.mp h; exact ⟨hdx, hd₀⟩) (by k_is) (by k_is) (by rfl) (by exact Nat.le_of_ble_eq_true rfl) (binds_K (G.X.keeps hs) rfl (by k_is) rfl rfl rfl) (locs rfl) ?_ rfl rfl rfl (by decide)
  intro g L h₁ hg st F N X TT hlt
  have hne : ∀ a o, a ≠ x → a ≠ dx → s.heap.get? a = some o → g.get? a = some o := fun a o h1 h2 e => hg ▸ hideAll_get _ e fun q => by
    rcases List.mem_cons.mp q with q | q
    · exact h1 q
    · exact h2 (List.mem_singleton.mp q)
  have hne' : ∀ a o c, o.cls = .type c → c ≠ "dict" → s.heap.get? a = some o → g.get? a = some o := fun a o c hc hcn e => by
    refine hne a o (fun q => ?_) (fun q => ?_) e
    · rw [q, hx] at e; exact cls_ne e fun h => by rw [hc] at h; cases h
    · rw [q, hdx] at e; exact cls_ne e fun h => by rw [hc] at h; exact hcn (Value.type.inj h).symm
  obtain ⟨nl, hl⟩ := R.list
  have hl' : g.get? l = some (W.listOf (its.map Value.ref).toArray nl) := hne' _ _ "list" rfl (by decide) hl
  have hlist : g.IsList l (its.map Value.ref).toArray := ⟨_, hl', rfl, _, rfl⟩
  have R' : RowsAt g l its kvs := ⟨⟨nl, hl'⟩, R.len, fun i a kv h1 h2 => let ⟨t1, t2, n, e⟩ := R.tup i a kv h1 h2; ⟨t1, t2, n, hne' _ _ "tuple" rfl (by decide) e⟩⟩
  have hxd' := ltN hxd
  k_steps
  rename Fr _ _ _ _ => lF
  refine For_turns lF ?_
  k_steps
  rename Fr _ _ _ _ => lF
  rename News _ _ _ _ => lN
  refine iter_rows (fun i m => m (Str.ofString "self") = some (.ref x)) rfl R' lF lN rfl ?_ ?_
  · clear lF lN
    intro i kv T t1 t2 m₁ h tk own hkv hm1 hT F N
    obtain ⟨hk1, hk2⟩ := hk kv (List.mem_of_getElem? hkv)
    k_steps
    rename Fr _ _ _ _ => F2
    exact InvEnd.intro F2 (by assumption) (fun _ h => h) hm1
  · clear lF lN
    intro m₁ h tk hm1 F N
    k_steps
    refine hR h tk _ (fun b o hb e => ?_) (N _ (.tail _ (.head _))).1
    by_cases q : b = x
    · subst q
      rw [hx] at e; cases e
      exact (N _ (.head _)).1
    · exact F.keep _ _ (hne b o q hb e)
end
end Mine
namespace Mine
section
variable {w : World} {mean : ExcName → Option Value} {mg mb : Str → Option Value} {h₀ : Heap}
structure Fits2 (A : Around) (k : Nat) : Prop where
  h : A.handled = none
  d : A.depth ≤ 890 - 20 * k
  u : A.units ≤ 8900 - 300 * k
theorem new_use {A : Around} {s : Shared} {b : Heap} {L l : Addr} {m : Str → Option Value} {news : List (Addr × Obj)} {Q E : Value → Shared → Prop} {its : List Addr} {kvs : List (Str × Str)} (G : G3 w mean mg mb h₀) (hs : h₀.StaysIn b) (F : Fr b L s.heap m) (X : (MineX.hd.heap_39 w.params).In b) (N : News b L s.heap news)
    (R : ∀ h', Fr b L h' m → News b L h' news → RowsAt h' l its kvs) (hk : ∀ kv ∈ kvs, kv.1 ∈ names10 ∧ kv.2 ∈ vs6) (hA : Fits2 A 5)
    (h : ∀ x dx h' tk tk0, Fr b L h' m → News b L h' ((x, instObj 182 dx) :: (dx, hdrDict w l tk0) :: news) → (∀ p ∈ news, p.1 < dx) → dx < x → Q (.ref x) { s with heap := h', toks := tk }) : wpAny (model prog3 w) A (call (.ref 182) [.ref l]) Q E s := by
  refine call_cls F X N (by k_is) (by k_is) (by k_is) ?_
  intro x dx h' F' N' l1 l2
  have none₀ : ∀ p ∈ (x, instObj 182 dx) :: (dx, dictOf [] 0) :: news, h₀.get? p.1 = none := fun p hp => by
    cases e : h₀.get? p.1 with
    | none => rfl
    | some o => have z := (N' p hp).2.2; rw [hs _ _ e] at z; cases z
  have nx := N' _ (.head _)
  have nd := N' _ (.tail _ (.head _))
  have N2 : News b L h' news := fun p hp => N' p (.tail _ (.tail _ hp))
  refine weakenC (init_c G (fun a o e => F'.keep _ _ (hs _ _ e)) nx.1 nd.1 (none₀ _ (.tail _ (.head _))) (none₀ _ (.head _)) l2 (R h' F' N2) hk ?_) hA.h (Nat.le_trans (Nat.add_le_add_right hA.d _) (Nat.le_of_ble_eq_true rfl)) (Nat.le_trans (Nat.add_le_add_right hA.u _) (Nat.le_of_ble_eq_true rfl)) rfl rfl
  intro h'' tk tk0 hk' hd'
  refine ⟨rfl, h x dx h'' tk tk0 ⟨F'.ns.at' fun o e => hk' _ _ (Ne.symm nd.2.1) e, fun a o e => hk' _ _ (fun q => ?_) (F'.keep a o e), F'.above⟩ (fun p hp => ?_) l1 l2⟩
  · have y := nd.2.2; rw [show (dx, dictOf [] 0).1 = a from q.symm, e] at y; cases y
  · rcases List.mem_cons.mp hp with rfl | hp
    · exact ⟨hk' _ _ (Nat.ne_of_gt l2) nx.1, nx.2⟩
    · rcases List.mem_cons.mp hp with rfl | hp
      · exact ⟨hd', nd.2⟩
      · exact ⟨hk' _ _ (Nat.ne_of_lt (l1 p hp)) (N2 p hp).1, (N2 p hp).2⟩
end
end Mine
namespace Mine
section
variable {prog : Program} {w : World} {A : Around} {E : Value → Shared → Prop} {s : Shared} {env : Env} {h₀ : Heap} {x : Str} {body : List Stmt} {Q : Flow → Shared → Prop}
/-- the object of an iterator -/
noncomputable def IterO (o : Obj) : Prop := o.cls ≠ .type "tuple" ∧ o.cls ≠ .type "list"
theorem iter_ne {L : Addr} {h : Heap} {I a : Addr} {oI o : Obj} {all : List (Addr × Obj)} (N : News h₀ L h all) (h1 : (I, oI) ∈ all) (hi : IterO oI) (h2 : (a, o) ∈ all) (hc : o.cls = .type "tuple" ∨ o.cls = .type "list") : a ≠ I := fun e => by
  have a1 := (N _ h1).1
  have a2 := (N _ h2).1
  simp only [e] at a2
  rw [a1] at a2
  cases a2
  rcases hc with hc | hc
  · exact hi.1 hc
  · exact hi.2 hc
/-- where a turn of a loop ends -/
noncomputable def TurnEnd (h₀ : Heap) (L : Addr) (I : Addr) (own : List (Addr × Obj)) (J : (Str → Option Value) → List (Addr × Obj) → Prop) (s₁ : Shared) (Q : Flow → Shared → Prop) (f : Flow) (s₂ : Shared) : Prop :=
  match f with
  | .ret v => Q (.ret v) s₂
  | .brk => Q .next s₂
  | _ => ∃ h' tk m' news', s₂ = { s₁ with heap := h', toks := tk } ∧ Fr h₀ L h' m' ∧ News h₀ L h' (own ++ news') ∧ (∀ p ∈ news', p.1 ≠ I) ∧ J m' news'
theorem TurnEnd.next {L I : Addr} {own news' : List (Addr × Obj)} {J : (Str → Option Value) → List (Addr × Obj) → Prop} {s₁ : Shared} {h' : Heap} {tk : Nat} {m' : Str → Option Value} (F : Fr h₀ L h' m') (N : News h₀ L h' (own ++ news')) (hI : ∀ p ∈ news', p.1 ≠ I) (hj : J m' news') :
    TurnEnd h₀ L I own J s₁ Q .next { s₁ with heap := h', toks := tk } := ⟨h', tk, m', news', rfl, F, N, hI, hj⟩
theorem loop_core {I : Addr} {fp : List Addr} {n : Nat} {P : Nat → Value → Prop} {St : Nat → Heap → Prop} {m₀ : Str → Option Value} {news : List (Addr × Obj)} (J : Nat → (Str → Option Value) → List (Addr × Obj) → Prop)
    (W : Walks prog w A I fp [I] n P St) (hL : env.locals ∉ fp) (hI : h₀.get? I = none) (hN : ∀ p ∈ news, p.1 ≠ I) (hst : St 0 s.heap) (F : Fr h₀ env.locals s.heap m₀) (N : News h₀ env.locals s.heap news) (hj : J 0 m₀ news)
    (turn : ∀ i v m₁ news₁ h tk own, i < n → P i v → J i m₁ news₁ → (∀ p ∈ news₁, p.1 ≠ I) → (∀ p ∈ own, p.1 ∈ fp) → (∃ oI, (I, oI) ∈ own ∧ IterO oI) → Fr h₀ env.locals h (fun y => if y = x then some v else m₁ y) → News h₀ env.locals h (own ++ news₁) →
      wpAny (model prog w) A (execs body env) (TurnEnd h₀ env.locals I own (J (i + 1)) { s with heap := h, toks := tk } Q) E { s with heap := h, toks := tk })
    (hIo : ∀ i h, St i h → ∃ o, h.get? I = some o ∧ IterO o)
    (done : ∀ m₁ news₁ h tk, J n m₁ news₁ → (∀ p ∈ news₁, p.1 ≠ I) → Fr h₀ env.locals h m₁ → News h₀ env.locals h news₁ → Q .next { s with heap := h, toks := tk }) :
    LoopAtV prog w A h₀ env x body Q E (.ref I) s := by
  refine ⟨I, fp, [I], n, P, St, m₀, news, J, rfl, W, hL, fun b hb => List.mem_singleton.mp hb ▸ hI, fun p hp hm => hN p hp (List.mem_singleton.mp hm), hst, F, N, hj, ?_, ?_⟩
  · rintro i v m₁ news₁ s₁ own ⟨h, tk, rfl⟩ hi hP hJ hoff hown hget hall hst₁ F₁ N₁
    obtain ⟨oI, hoI, hit⟩ := hIo _ _ hst₁
    refine wpAny_mono (turn i v m₁ news₁ h tk own hi hP hJ (fun p hp e => hoff p hp (List.mem_singleton.mpr e)) hown ⟨oI, hall I (W.sub _ (List.mem_singleton.mpr rfl)) hI oI hoI, hit⟩ F₁ N₁) (fun f s₂ p => ?_) fun _ _ e => e
    have fin : (∃ h' tk' m' news', s₂ = { s with heap := h', toks := tk' } ∧ Fr h₀ env.locals h' m' ∧ News h₀ env.locals h' (own ++ news') ∧ (∀ p ∈ news', p.1 ≠ I) ∧ J (i + 1) m' news') → LoopStepU h₀ env.locals [I] own (J (i + 1)) { s with heap := h, toks := tk } .next s₂ := by
      rintro ⟨h', tk', m', news', e, F', N', hn, hm⟩
      exact ⟨rfl, h', tk', m', news', e, F', N', fun p hp hm => hn p hp (List.mem_singleton.mp hm), hm⟩
    cases f with
    | ret v => exact .ret p
    | brk => exact .brk p
    | next => exact .next (fin p)
    | cont => exact .cont (fin p)
  · intro h' tk m' news' F' N' hoff hJ
    exact done m' news' h' tk hJ (fun p hp e => hoff p hp (List.mem_singleton.mpr e)) F' N'
/-- a loop over a text -/
theorem loop_str {y : Str} {t : Tok} {m₀ : Str → Option Value} {news : List (Addr × Obj)} (J : Nat → (Str → Option Value) → List (Addr × Obj) → Prop)
    (hh : A.handled = none) (hasc : y.cps.all (· < 128) = true) (F : Fr h₀ env.locals s.heap m₀) (N : News h₀ env.locals s.heap news) (hj : J 0 m₀ news)
    (turn : ∀ I i c u m₁ news₁ h tk own, y.cps[i]? = some c → J i m₁ news₁ → (∀ p ∈ news₁, p.1 ≠ I) → (∀ p ∈ news, p.1 < I) → (∀ p ∈ own, p.1 = I) → (∃ oI, (I, oI) ∈ own ∧ IterO oI) → Fr h₀ env.locals h (fun z => if z = x then some (.str ⟨#[c]⟩ u) else m₁ z) → News h₀ env.locals h (own ++ news₁) →
      wpAny (model prog w) A (execs body env) (TurnEnd h₀ env.locals I own (J (i + 1)) { s with heap := h, toks := tk } Q) E { s with heap := h, toks := tk })
    (done : ∀ m₁ news₁ h tk, J y.cps.size m₁ news₁ → Fr h₀ env.locals h m₁ → News h₀ env.locals h news₁ → Q .next { s with heap := h, toks := tk }) :
    wpAny (model prog w) A (pyIter (.str y t)) (fun it s₂ => LoopAtV prog w A h₀ env x body Q E it s₂) E s := by
  refine wpAny_pyIter_ascii hasc ?_
  have hlt : ∀ p ∈ news, p.1 < s.heap.objs.size := fun p hp => Heap.lt_size (N p hp).1
  refine loop_core (s := { s with heap := _ }) J (Walks.strAscii hh _ y t) ?_ (next_is_new F) (fun p hp => Nat.ne_of_lt (hlt p hp)) ⟨_, Heap.get?_push_size _ rfl, rfl, rfl⟩ (F.push _) (fun p hp => ⟨Heap.get?_push_of_some _ (N p hp).1, (N p hp).2⟩) hj ?_ ?_ ?_
  · intro hm; exact absurd F.ns.lt ((List.mem_singleton.mp hm) ▸ Nat.lt_irrefl _)
  · rintro i v m₁ news₁ h tk own hi ⟨c, u, hc, rfl⟩ hJ hoff hown hit F₁ N₁
    exact turn _ i c u m₁ news₁ h tk own hc hJ hoff hlt (fun p hp => List.mem_singleton.mp (hown p hp)) hit F₁ N₁
  · rintro i h ⟨o, ho, hc, _⟩
    exact ⟨o, ho, by rw [hc]; exact fun e => absurd (Value.type.inj e) (by decide), by rw [hc]; exact fun e => absurd (Value.type.inj e) (by decide)⟩
  · intro m₁ news₁ h tk hJ _ F' N'
    exact done m₁ news₁ h tk hJ F' N'
/-- a loop over a range from 0 -/
theorem loop_range {r : Addr} {b : Int} {t u v : Tok} {n : Nat} {m₀ : Str → Option Value} {news : List (Addr × Obj)} (J : Nat → (Str → Option Value) → List (Addr × Obj) → Prop)
    (hh : A.handled = none) (hr : IsRange s.heap r 0 b 1 t u v) (hsm : Builtin.Range.small 0 b 1 = true) (hn : Builtin.Range.rangeSize 0 b 1 = ((n : Nat) : Int)) (F : Fr h₀ env.locals s.heap m₀) (N : News h₀ env.locals s.heap news) (hj : J 0 m₀ news)
    (turn : ∀ I (i : Nat) u m₁ news₁ h tk own, i < n → J i m₁ news₁ → (∀ p ∈ news₁, p.1 ≠ I) → (∀ p ∈ news, p.1 < I) → (∀ p ∈ own, p.1 = I) → (∃ oI, (I, oI) ∈ own ∧ IterO oI) → Fr h₀ env.locals h (fun z => if z = x then some (.int (i : Int) u) else m₁ z) → News h₀ env.locals h (own ++ news₁) →
      wpAny (model prog w) A (execs body env) (TurnEnd h₀ env.locals I own (J (i + 1)) { s with heap := h, toks := tk } Q) E { s with heap := h, toks := tk })
    (done : ∀ m₁ news₁ h tk, J n m₁ news₁ → Fr h₀ env.locals h m₁ → News h₀ env.locals h news₁ → Q .next { s with heap := h, toks := tk }) :
    wpAny (model prog w) A (pyIter (.ref r)) (fun it s₂ => LoopAtV prog w A h₀ env x body Q E it s₂) E s := by
  refine wpAny_pyIter_range hr hsm ?_
  have hlt : ∀ p ∈ news, p.1 < s.heap.objs.size := fun p hp => Heap.lt_size (N p hp).1
  refine loop_core (s := { s with heap := _ }) J (LCg.range_walks hh 0 n) ?_ (next_is_new F) (fun p hp => Nat.ne_of_lt (hlt p hp)) (by show IsRangeIter _ _ _ _ _; rw [hn]; simpa using Heap.get?_push_size _ rfl) (F.push _) (fun p hp => ⟨Heap.get?_push_of_some _ (N p hp).1, (N p hp).2⟩) hj ?_ ?_ ?_
  · intro hm; exact absurd F.ns.lt ((List.mem_singleton.mp hm) ▸ Nat.lt_irrefl _)
  · rintro i v m₁ news₁ h tk own hi ⟨u, rfl⟩ hJ hoff hown hit F₁ N₁
    rw [Int.zero_add] at F₁
    exact turn _ i u m₁ news₁ h tk own hi hJ hoff hlt (fun p hp => List.mem_singleton.mp (hown p hp)) hit F₁ N₁
  · rintro i h hi
    exact ⟨_, hi, fun e => absurd (Value.type.inj e) (by decide), fun e => absurd (Value.type.inj e) (by decide)⟩
  · intro m₁ news₁ h tk hJ _ F' N'
    exact done m₁ news₁ h tk hJ F' N'
end
end Mine
namespace Mine
section
variable {w : World} {mean : ExcName → Option Value} {mg mb : Str → Option Value} {h₀ : Heap}
noncomputable def led (l : Addr) (n : Nat) (rows : List Row) : List (Addr × Obj) := (l, lst rows n) :: rows.map fun r => (r.a, r.obj)
theorem use_mut {A : Around} {t : Sem Value} {ok : Value → List Row → Prop} {l : Addr} {rows : List Row} {k n : Nat} {s : Shared} {b : Heap} {L : Addr} {m : Str → Option Value} {other : List (Addr × Obj)} {Q E : Value → Shared → Prop}
    (spec : wpAny (model prog3 w) (Aq k) t (PostM ok l rows s) noE s) (hA : Fits A k) (F : Fr b L s.heap m) (N : News b L s.heap (other ++ led l n rows)) (ho : ∀ p ∈ other, p.1 ≠ l)
    (h : ∀ v h' tk' n' rows', ok v rows' → Fr b L h' m → News b L h' (other ++ led l n' rows') → Q v { s with heap := h', toks := tk' }) : wpAny (model prog3 w) A t Q E s := by
  refine wpAny_mono (weaken spec hA.h hA.d hA.u rfl rfl) (fun v s' p => ?_) fun _ _ x => x.elim
  obtain ⟨h', tk, rows', n', rfl, hk, hl, hr, hnew, hok⟩ := p.ex
  have z := N (l, lst rows n) (List.mem_append_right _ (.head _))
  refine h v h' tk n' rows' hok ⟨F.ns.at' fun o e => hk _ _ (Ne.symm z.2.1) e, fun a o e => hk _ _ (fun q => ?_) (F.keep a o e), F.above⟩ fun p hp => ?_
  · have y := z.2.2; rw [show (l, lst rows n).1 = a from q.symm, e] at y; cases y
  · rcases List.mem_append.mp hp with hp | hp
    · have y := N p (List.mem_append_left _ hp)
      exact ⟨hk _ _ (ho p hp) y.1, y.2⟩
    · rcases List.mem_cons.mp hp with rfl | hp
      · exact ⟨hl, z.2⟩
      · obtain ⟨r, hr', rfl⟩ := List.mem_map.mp hp
        rcases hnew r hr' with q | q
        · have y := N (r.a, r.obj) (List.mem_append_right _ (.tail _ (List.mem_map.mpr ⟨r, q, rfl⟩)))
          exact ⟨hr r hr', y.2⟩
        · refine ⟨hr r hr', fun e => ?_, ?_⟩
          · obtain ⟨o, _, _, hL, _⟩ := F.ns
            rw [show r.a = L from e] at q
            rw [q] at hL; cases hL
          · cases e : b.get? r.a with
            | none => rfl
            | some o => have y := F.keep _ _ e; rw [q] at y; cases y
theorem tab_mem {b h : Heap} {L t d l : Addr} {tk : Tok} {news : List (Addr × Obj)} (N : News b L h news) (hi : (t, instObj 182 d) ∈ news) (hd : (d, hdrDict w l tk) ∈ news) : TabAt w h t d l := ⟨(N _ hi).1, tk, (N _ hd).1⟩
noncomputable def Lp (w : World) (A : Around) (b : Heap) (env : Env) (x : Str) (body : List Stmt) (Q : Flow → Shared → Prop) (E : Value → Shared → Prop) (xv : Value) (s₁ : Shared) : Prop := wpAny (model prog3 w) A (pyIter xv) (fun it s₂ => LoopAtV prog3 w A b env x body Q E it s₂) E s₁
theorem For_V {A : Around} {s : Shared} {env : Env} {b : Heap} {m : Str → Option Value} {E : Value → Shared → Prop} {Q : Flow → Shared → Prop} {x : Str} {px pos : Pos} {iter : Expr} {body : List Stmt} (_F : Fr b env.locals s.heap m) (hx : env.kindOf x = some .local)
    (hp : (env.scope.kind == .class || (env.scope.kind == .module && env.locals != env.globals)) = false)
    (h : wpAny (model prog3 w) A (eval iter env) (fun xv s₁ => Lp w A b env x body Q E xv s₁) E s)
    (hs : ∀ x, foldedSetIterable iter env x = pure x := by intro _; rfl)
    (hE : PassesOwn (model prog3 w) A env E := by passes_own) : wpAny (model prog3 w) A (exec (.For (.Name x px) iter body [] pos) env) Q E s := For_invV b hx hp h hs hE
end
section
variable {prog : Program} {w : World} {A : Around} {E : Value → Shared → Prop} {s : Shared} {b : Heap} {L : Addr} {m : Str → Option Value}
theorem upd_end {D : Addr} {o o' : Obj} : ∀ {other : List (Addr × Obj)}, (∀ p ∈ other, p.1 ≠ D) → Upd D o o' (other ++ [(D, o)]) (other ++ [(D, o')])
  | [], _ => .head fun _ h => nomatch h
  | p :: r, h => .tail (h p (.head _)) (upd_end fun q hq => h q (.tail _ hq))
theorem ki_setL_in {v : Value} : ∀ {l : List Value} {k : Nat}, k < l.length → ki_setL l k v = some (l.set k v)
  | [], _, h => absurd h (Nat.not_lt_zero _)
  | _ :: _, 0, _ => rfl
  | x :: r, k + 1, h => by
    show (match ki_setL r k v with | some q => some (x :: q) | none => none) = _
    rw [ki_setL_in (Nat.lt_of_succ_lt_succ h)]; rfl
/-- D[k] = x, on a list of ints at the end of the ledger -/
theorem setI_use {other : List (Addr × Obj)} {D : Addr} {ys : List Value} {ns : List Int} {n k : Nat} {x : Int} {t u : Tok} {Q : Unit → Shared → Prop} (F : Fr b L s.heap m) (N : News b L s.heap (other ++ [(D, W.listOf ys.toArray n)])) (ho : ∀ p ∈ other, p.1 ≠ D) (hi : IntsAre ys ns) (hk : k < ns.length) (hfit : ns.length ≤ 64)
    (h : ∀ h' ys', IntsAre ys' (ns.set k x) → Fr b L h' m → News b L h' (other ++ [(D, W.listOf ys'.toArray n)]) → Q () { s with heap := h' }) : wpAny (model prog w) A (setItem (.ref D) (.int (k : Int) u) (.int x t)) Q E s := by
  refine ki_set F N (Int.natCast_nonneg k) (by omega) (q := ys.set k (.int x t)) ?_ (upd_end ho) fun h' F' N' => h h' _ (ints_set hi k) F' N'
  show ki_setL ys k (.int x t) = _
  exact ki_setL_in (hi.length ▸ hk)
end
noncomputable def Rels {β : Type} (R : β → Value → Prop) : List β → List Value → Prop
  | [], [] => True
  | b :: r, v :: s => R b v ∧ Rels R r s
  | _, _ => False
theorem Rels.snoc {β : Type} {R : β → Value → Prop} : ∀ {xs : List β} {ys : List Value} {b : β} {v : Value}, Rels R xs ys → R b v → Rels R (xs ++ [b]) (ys ++ [v])
  | [], [], _, _, _, h => ⟨h, trivial⟩
  | _ :: _, _ :: _, _, _, hx, h => ⟨hx.1, hx.2.snoc h⟩
  | [], _ :: _, _, _, hx, _ => (show False from hx).elim
  | _ :: _, [], _, _, hx, _ => (show False from hx).elim
theorem Rels.length {β : Type} {R : β → Value → Prop} : ∀ {xs : List β} {ys : List Value}, Rels R xs ys → ys.length = xs.length
  | [], [], _ => rfl
  | _ :: _, _ :: _, h => congrArg (· + 1) h.2.length
  | [], _ :: _, h => (show False from h).elim
  | _ :: _, [], h => (show False from h).elim
theorem Rels.get {β : Type} {R : β → Value → Prop} : ∀ {xs : List β} {ys : List Value}, Rels R xs ys → ∀ (i : Nat) (b : β), xs[i]? = some b → ∃ v, ys[i]? = some v ∧ R b v
  | _ :: _, _ :: _, h, 0, _, e => ⟨_, rfl, by cases e; exact h.1⟩
  | _ :: _, _ :: _, h, i + 1, b, e => by simpa using h.2.get i b (by simpa using e)
  | [], [], _, i, _, e => by simp at e
  | [], _ :: _, h, _, _, _ => (show False from h).elim
  | _ :: _, [], h, _, _, _ => (show False from h).elim
section
variable {prog : Program} {w : World} {A : Around} {h₀ : Heap} {L : Addr} {m : Str → Option Value} {env : Env}
/-- the turns of a comprehension with a test, values told by a relation -/
theorem restT_rel {β : Type} {ct elt : Expr} {x : Str} {scope : Scope} {cl : List (Str × Addr)} {s : Shared} {S : List (Addr × Obj) → Prop} {Fin : List Value → List (Addr × Obj) → Prop} {news : List (Addr × Obj)} {xs : List β} {Rel Rel' : β → Value → Prop} {p : β → Bool} {P : Nat → Value → Prop}
    (hP : ∀ i v, P i v → ∃ b, xs[i]? = some b ∧ Rel b v) (hS : S news)
    (turn : ∀ b, b ∈ xs → ∀ v I oI C oC D m₂ h tk ys (E' : Value → Shared → Prop), Rel b v → LCg.NsObj oC m₂ → m₂ x = some v → Fr h₀ L h m → News h₀ L h ((I, oI) :: (C, oC) :: (D, LCg.lst ys) :: news) → LCg.Off3 I C D news → ((@Ne Nat I C) ∧ (@Ne Nat I D) ∧ (@Ne Nat C D)) →
      wpAny (model prog w) A (isTrue ct (compEnvC scope cl C env) (eval ct (compEnvC scope cl C env))) (fun ok s' => if ok = true then
        wpAny (model prog w) A (eval elt (compEnvC scope cl C env)) (fun y s'' => p b = true ∧ Rel' b y ∧ KeptC h₀ L m ((I, oI) :: (C, oC) :: (D, LCg.lst ys) :: news) { s with heap := h, toks := tk } s'') E' s'
        else p b = false ∧ KeptC h₀ L m ((I, oI) :: (C, oC) :: (D, LCg.lst ys) :: news) { s with heap := h, toks := tk } s') E' { s with heap := h, toks := tk })
    (fin : ∀ ys, Rels Rel' (xs.filter p) ys → Fin ys news) : ∀ (suf pre : List β) (ys : List Value), xs = pre ++ suf → Rels Rel' (pre.filter p) ys → LCt.CompRestT prog w A h₀ L m env ct elt x scope cl s S P Fin suf.length pre.length ys news
  | [], pre, ys, hx, hy => by
    rw [List.append_nil] at hx; subst hx
    exact fin ys hy
  | b :: r, pre, ys, hx, hy => by
    intro v I oI C oC D m₂ h tk E' hv hns hm F N off ne
    obtain ⟨b', hb', hrel⟩ := hP _ _ hv
    have hbb : b' = b := by
      rw [hx, List.getElem?_append_right (by simp)] at hb'
      simp at hb'
      exact hb'.symm
    subst hbb
    have hb : b' ∈ xs := by rw [hx]; simp
    refine wpAny_mono (turn b' hb v I oI C oC D m₂ h tk _ E' hrel hns hm F N off ne) (fun ok s' q => ?_) fun _ _ e => e
    cases ok with
    | true =>
      simp only [if_true] at q ⊢
      refine wpAny_mono q (fun y s'' q => ?_) fun _ _ e => e
      obtain ⟨hp, hr, h', tk', rfl, F', N'⟩ := q
      refine ⟨h', tk', news, rfl, F', N', off, hS, ?_⟩
      have ih := restT_rel hP hS turn fin r (pre ++ [b']) (ys ++ [y]) (by rw [hx]; simp) (by rw [List.filter_append]; simpa [hp] using hy.snoc hr)
      simpa using ih
    | false =>
      simp only [Bool.false_eq_true, if_false] at q ⊢
      obtain ⟨hp, h', tk', rfl, F', N'⟩ := q
      refine ⟨h', tk', news, rfl, F', N', off, hS, ?_⟩
      have ih := restT_rel hP hS turn fin r (pre ++ [b']) ys (by rw [hx]; simp) (by rw [List.filter_append]; simpa [hp] using hy)
      simpa using ih
end
section
variable {w : World} {mean : ExcName → Option Value} {mg mb : Str → Option Value} {h₀ : Heap}
noncomputable def InT (rows₀ : List Row) (tups : List (Addr × Obj)) (rows : List Row) : Prop := ∀ r ∈ rows, r ∈ rows₀ ∨ (r.a, r.obj) ∈ tups
/-- the tuples lie in the base heap (those of rows₀) or in the ledger -/
theorem use_mut2 {A : Around} {t : Sem Value} {ok : Value → List Row → Prop} {l : Addr} {rows₀ rows : List Row} {k n : Nat} {s : Shared} {b : Heap} {L : Addr} {m : Str → Option Value} {other tups : List (Addr × Obj)} {Q E : Value → Shared → Prop}
    (spec : wpAny (model prog3 w) (Aq k) t (PostM ok l rows s) noE s) (hA : Fits A k) (F : Fr b L s.heap m) (N : News b L s.heap (other ++ (l, lst rows n) :: tups)) (ho : ∀ p ∈ other, p.1 ≠ l) (hT : InT rows₀ tups rows) (htl : ∀ p ∈ tups, p.1 ≠ l)
    (h : ∀ v h' tk' n' rows' tups', ok v rows' → InT rows₀ tups' rows' → (∀ p ∈ tups', p.1 ≠ l ∧ (p ∈ tups ∨ p.2.cls = .type "tuple")) → Fr b L h' m → News b L h' (other ++ (l, lst rows' n') :: tups') → Q v { s with heap := h', toks := tk' }) : wpAny (model prog3 w) A t Q E s := by
  refine wpAny_mono (weaken spec hA.h hA.d hA.u rfl rfl) (fun v s' p => ?_) fun _ _ x => x.elim
  obtain ⟨h', tk, rows', n', rfl, hk, hl, hr, hnew, hok⟩ := p.ex
  have z := N (l, lst rows n) (List.mem_append_right _ (.head _))
  have fresh : ∀ r : Row, s.heap.get? r.a = none → r.a ≠ L ∧ b.get? r.a = none := fun r q => by
    refine ⟨fun e => ?_, ?_⟩
    · obtain ⟨o, _, _, hL, _⟩ := F.ns
      rw [show r.a = L from e] at q
      rw [q] at hL; cases hL
    · cases e : b.get? r.a with
      | none => rfl
      | some o => have y := F.keep _ _ e; rw [q] at y; cases y
  let new : List Row := rows'.filter fun r => (s.heap.get? r.a).isNone
  have hnw : ∀ r ∈ new, r ∈ rows' ∧ s.heap.get? r.a = none := fun r hr => by
    have := List.mem_filter.mp hr
    exact ⟨this.1, by simpa using this.2⟩
  refine h v h' tk n' rows' (tups ++ new.map fun r => (r.a, r.obj)) hok (fun r h => ?_) (fun p hp => ?_) ⟨F.ns.at' fun o e => hk _ _ (Ne.symm z.2.1) e, fun a o e => hk _ _ (fun q => ?_) (F.keep a o e), F.above⟩ fun p hp => ?_
  · rcases hnew r h with q | q
    · exact (hT r q).imp id fun q => List.mem_append_left _ q
    · exact .inr (List.mem_append_right _ (List.mem_map.mpr ⟨r, List.mem_filter.mpr ⟨h, by simp [q]⟩, rfl⟩))
  · rcases List.mem_append.mp hp with hp | hp
    · exact ⟨htl p hp, .inl hp⟩
    · obtain ⟨r, hr', rfl⟩ := List.mem_map.mp hp
      refine ⟨fun e => ?_, .inr rfl⟩
      have y := (hnw r hr').2
      rw [show r.a = l from e, z.1] at y; cases y
  · have y := z.2.2; rw [show (l, lst rows n).1 = a from q.symm, e] at y; cases y
  · rcases List.mem_append.mp hp with hp | hp
    · have y := N p (List.mem_append_left _ hp)
      exact ⟨hk _ _ (ho p hp) y.1, y.2⟩
    · rcases List.mem_cons.mp hp with rfl | hp
      · exact ⟨hl, z.2⟩
      · rcases List.mem_append.mp hp with hp | hp
        · have y := N p (List.mem_append_right _ (.tail _ hp))
          exact ⟨hk _ _ (htl p hp) y.1, y.2⟩
        · obtain ⟨r, hr', rfl⟩ := List.mem_map.mp hp
          exact ⟨hr r (hnw r hr').1, fresh r (hnw r hr').2⟩
end
section
variable {prog : Program} {w : World} {A : Around} {E : Value → Shared → Prop} {s : Shared} {env : Env} {h₀ : Heap} {x : Str} {body : List Stmt} {Q : Flow → Shared → Prop}
/-- a loop over a list -/
theorem loop_list {ax : Addr} {items : Array Value} {m₀ : Str → Option Value} {news : List (Addr × Obj)} (J : Nat → (Str → Option Value) → List (Addr × Obj) → Prop)
    (hh : A.handled = none) (hl : s.heap.IsList ax items) (hax : ax ≠ env.locals) (F : Fr h₀ env.locals s.heap m₀) (N : News h₀ env.locals s.heap news) (hj : J 0 m₀ news)
    (turn : ∀ I i v m₁ news₁ h tk own, items[i]? = some v → J i m₁ news₁ → (∀ p ∈ news₁, p.1 ≠ I) → (∀ p ∈ news, p.1 < I) → (∀ p ∈ own, p.1 = I ∨ p.1 = ax) → (∃ oI, (I, oI) ∈ own ∧ IterO oI) → Fr h₀ env.locals h (fun z => if z = x then some v else m₁ z) → News h₀ env.locals h (own ++ news₁) →
      wpAny (model prog w) A (execs body env) (TurnEnd h₀ env.locals I own (J (i + 1)) { s with heap := h, toks := tk } Q) E { s with heap := h, toks := tk })
    (done : ∀ m₁ news₁ h tk, J items.size m₁ news₁ → Fr h₀ env.locals h m₁ → News h₀ env.locals h news₁ → Q .next { s with heap := h, toks := tk }) :
    wpAny (model prog w) A (pyIter (.ref ax)) (fun it s₂ => LoopAtV prog w A h₀ env x body Q E it s₂) E s := by
  have hlt : ∀ p ∈ news, p.1 < s.heap.objs.size := fun p hp => Heap.lt_size (N p hp).1
  have hal : ax < s.heap.objs.size := by obtain ⟨_, e, _⟩ := hl; exact Heap.lt_size e
  refine wpAny_pyIter_list hl ?_
  refine loop_core (s := { s with heap := _ }) J (Walks.list hh s.heap.objs.size ax (Nat.ne_of_lt hal) items) ?_ (next_is_new F) (fun p hp => Nat.ne_of_lt (hlt p hp)) ⟨⟨_, Heap.get?_push_size _ rfl, rfl, rfl⟩, hl.push _⟩ (F.push _) (fun p hp => ⟨Heap.get?_push_of_some _ (N p hp).1, (N p hp).2⟩) hj ?_ ?_ ?_
  · intro hm
    rcases List.mem_cons.mp hm with e | hm
    · exact absurd F.ns.lt (e ▸ Nat.lt_irrefl _)
    · exact hax (List.mem_singleton.mp hm).symm
  · rintro i v m₁ news₁ h tk own hi hP hJ hoff hown hit F₁ N₁
    exact turn _ i v m₁ news₁ h tk own hP hJ hoff hlt (fun p hp => (List.mem_cons.mp (hown p hp)).imp id List.mem_singleton.mp) hit F₁ N₁
  · rintro i h ⟨⟨o, ho, hc, _⟩, _⟩
    exact ⟨o, ho, by rw [hc]; exact fun e => absurd (Value.type.inj e) (by decide), by rw [hc]; exact fun e => absurd (Value.type.inj e) (by decide)⟩
  · intro m₁ news₁ h tk hJ _ F' N'
    exact done m₁ news₁ h tk hJ F' N'
end
section
variable {prog : Program} {w : World} {A : Around} {h₀ : Heap} {L : Addr} {m : Str → Option Value} {env : Env}
theorem rels_ints {f : Nat → Int} : ∀ {xs : List Nat} {ys : List Value}, Rels (fun (b : Nat) v => ∃ t, v = .int (f b) t) xs ys → IntsAre ys (xs.map f)
  | [], [], _ => .nil
  | _ :: _, _ :: _, h => by
    obtain ⟨⟨t, rfl⟩, h2⟩ := h
    exact .cons _ _ (rels_ints h2)
  | [], _ :: _, h => (show False from h).elim
  | _ :: _, [], h => (show False from h).elim
end
section
variable {prog : Program} {w : World} {A : Around} {E : Value → Shared → Prop} {s : Shared} {env : Env} {h₀ : Heap} {x : Str} {body : List Stmt} {Q : Flow → Shared → Prop}
/-- a loop over a range from a -/
theorem loop_rangeA {r : Addr} {a b : Int} {t u v : Tok} {n : Nat} {m₀ : Str → Option Value} {news : List (Addr × Obj)} (J : Nat → (Str → Option Value) → List (Addr × Obj) → Prop)
    (hh : A.handled = none) (hr : IsRange s.heap r a b 1 t u v) (hsm : Builtin.Range.small a b 1 = true) (hn : Builtin.Range.rangeSize a b 1 = ((n : Nat) : Int)) (F : Fr h₀ env.locals s.heap m₀) (N : News h₀ env.locals s.heap news) (hj : J 0 m₀ news)
    (turn : ∀ I (i : Nat) u m₁ news₁ h tk own, i < n → J i m₁ news₁ → (∀ p ∈ news₁, p.1 ≠ I) → (∀ p ∈ news, p.1 < I) → (∀ p ∈ own, p.1 = I) → (∃ oI, (I, oI) ∈ own ∧ IterO oI) → Fr h₀ env.locals h (fun z => if z = x then some (.int (a + (i : Int)) u) else m₁ z) → News h₀ env.locals h (own ++ news₁) →
      wpAny (model prog w) A (execs body env) (TurnEnd h₀ env.locals I own (J (i + 1)) { s with heap := h, toks := tk } Q) E { s with heap := h, toks := tk })
    (done : ∀ m₁ news₁ h tk, J n m₁ news₁ → Fr h₀ env.locals h m₁ → News h₀ env.locals h news₁ → Q .next { s with heap := h, toks := tk }) :
    wpAny (model prog w) A (pyIter (.ref r)) (fun it s₂ => LoopAtV prog w A h₀ env x body Q E it s₂) E s := by
  refine wpAny_pyIter_range hr hsm ?_
  have hlt : ∀ p ∈ news, p.1 < s.heap.objs.size := fun p hp => Heap.lt_size (N p hp).1
  refine loop_core (s := { s with heap := _ }) J (LCg.range_walks hh a n) ?_ (next_is_new F) (fun p hp => Nat.ne_of_lt (hlt p hp)) (by show IsRangeIter _ _ _ _ _; rw [hn]; simpa using Heap.get?_push_size _ rfl) (F.push _) (fun p hp => ⟨Heap.get?_push_of_some _ (N p hp).1, (N p hp).2⟩) hj ?_ ?_ ?_
  · intro hm; exact absurd F.ns.lt ((List.mem_singleton.mp hm) ▸ Nat.lt_irrefl _)
  · rintro i v m₁ news₁ h tk own hi ⟨u, rfl⟩ hJ hoff hown hit F₁ N₁
    exact turn _ i u m₁ news₁ h tk own hi hJ hoff hlt (fun p hp => List.mem_singleton.mp (hown p hp)) hit F₁ N₁
  · rintro i h hi
    exact ⟨_, hi, fun e => absurd (Value.type.inj e) (by decide), fun e => absurd (Value.type.inj e) (by decide)⟩
  · intro m₁ news₁ h tk hJ _ F' N'
    exact done m₁ news₁ h tk hJ F' N'
end
section
variable {prog : Program} {w : World} {A : Around} {E : Value → Shared → Prop} {s : Shared} {b : Heap} {L : Addr} {m : Str → Option Value}
/-- append to a list at the end of the ledger -/
theorem append_use {other : List (Addr × Obj)} {D : Addr} {ys : List Value} {n : Nat} {v : Value} {Q : Value → Shared → Prop} (F : Fr b L s.heap m) (N : News b L s.heap (other ++ [(D, W.listOf ys.toArray n)])) (ho : ∀ p ∈ other, p.1 ≠ D) (hsz : ys.length ≤ 1000)
    (h : ∀ h', Fr b L h' m → News b L h' (other ++ [(D, W.listOf (ys ++ [v]).toArray (n + 1))]) → Q .none { s with heap := h' }) : wpAny (model prog w) A (call (.builtin "list.append") [.ref D, v]) Q E s := by
  refine append_K F N (upd_end ho) (fun h' F' N' => h h' F' ?_) (by rw [List.size_toArray]; exact Nat.le_trans hsz (by decide))
  rw [show (ys ++ [v]).toArray = ys.toArray.push v by simp]
  exact N'
theorem len_use {l : Addr} {its : Array Value} {k : Nat} {Q : Value → Shared → Prop} (hl : s.heap.IsList l its) (e : its.size = k) (hk : k ≤ 1000) (h : ∀ t tk, Q (.int (k : Int) t) { s with toks := tk }) : wpAny (model prog w) A (call (.builtin "len") [.ref l]) Q E s := by
  subst e
  exact len_list hl (by omega) (h _ _)
theorem ints_snoc {vs : List Value} {ns : List Int} (h : IntsAre vs ns) (n : Int) (t : Tok) : IntsAre (vs ++ [.int n t]) (ns ++ [n]) := by
  induction h with
  | nil => exact .cons _ _ .nil
  | cons k t' _ ih => exact .cons _ _ ih
end
section
variable {w : World}
structure RowP (x : Int) (b : Heap) (L : Addr) (m : Str → Option Value) (news : List (Addr × Obj)) (s : Shared) (v : Value) (s' : Shared) : Prop where
  ex : ∃ t h' tk', v = .int x t ∧ s' = { s with heap := h', toks := tk' } ∧ Fr b L h' m ∧ News b L h' news
theorem RowP.intro {x y : Int} {b : Heap} {L : Addr} {m : Str → Option Value} {news : List (Addr × Obj)} {s : Shared} {t : Tok} {h' : Heap} {tk : Nat} (e : y = x) (F : Fr b L h' m) (N : News b L h' news) : RowP x b L m news s (.int y t) { s with heap := h', toks := tk } := ⟨⟨t, h', tk, by rw [e], rfl, F, N⟩⟩
theorem itemB {A : Around} {E : Value → Shared → Prop} {s : Shared} {b : Heap} {L : Addr} {m : Str → Option Value} {value slice : PySem.Expr} {D : Addr} {ys : List Value} {ns : List Int} {k : Nat} {u : Tok} {Q : Value → Shared → Prop}
    (F : Fr b L s.heap m) (hl₀ : b.IsList D ys.toArray) (hi : IntsAre ys ns) (hk : k < ns.length) (hfit : ns.length ≤ 64) (h : ∀ t, Q (.int (ns.getD k 0) t) s)
    (hs : subscripted slice false (.ref D) (.int (k : Int) u) = operate [.ref D, .int (k : Int) u] (getItem (.ref D) (.int (k : Int) u)) := by with_unfolding_all rfl) :
    wpAny (model prog3 w) A (subscriptTail value slice (.ref D) (.int (k : Int) u)) Q E s := by
  have hl := hl₀.at fun o e => F.keep _ o e
  refine tail_any hl.typeIs slot_list_getitem.lookup ?_ hs
  have hky : k < ys.length := hi.length ▸ hk
  obtain ⟨t, ht⟩ := hi.int_at k ys[k] (by simp [hky])
  refine wpAny_getItem_list hl (Int.natCast_nonneg k) (by omega) (x := .int (ns.getD k 0) t) ?_ (h t)
  rw [← ht]; simp [hky]
end
section
variable {w : World}
theorem itemL {A : Around} {E : Value → Shared → Prop} {s : Shared} {value slice : PySem.Expr} {l : Addr} {vs : List Value} {k : Nat} {u : Tok} {v : Value} {Q : Value → Shared → Prop}
    (hl : s.heap.IsList l vs.toArray) (hk : k < 64) (hx : vs[k]? = some v) (h : Q v s)
    (hs : subscripted slice false (.ref l) (.int (k : Int) u) = operate [.ref l, .int (k : Int) u] (getItem (.ref l) (.int (k : Int) u)) := by with_unfolding_all rfl) :
    wpAny (model prog3 w) A (subscriptTail value slice (.ref l) (.int (k : Int) u)) Q E s :=
  tail_any hl.typeIs slot_list_getitem.lookup (wpAny_getItem_list hl (Int.natCast_nonneg k) (by omega) (by simpa using hx) h) hs
theorem itemI {A : Around} {E : Value → Shared → Prop} {s : Shared} {b : Heap} {L : Addr} {news : List (Addr × Obj)} {value slice : PySem.Expr} {D : Addr} {ys : List Value} {ns : List Int} {n k : Nat} {i : Int} {u : Tok} {Q : Value → Shared → Prop}
    (N : News b L s.heap news) (hm : (D, W.listOf ys.toArray n) ∈ news) (hi : IntsAre ys ns) (e : i = (k : Int)) (hk : k < ns.length) (hfit : ns.length ≤ 64) (h : ∀ t, Q (.int (ns.getD k 0) t) s)
    (hs : subscripted slice false (.ref D) (.int i u) = operate [.ref D, .int i u] (getItem (.ref D) (.int i u)) := by with_unfolding_all rfl) :
    wpAny (model prog3 w) A (subscriptTail value slice (.ref D) (.int i u)) Q E s := by
  subst e
  have hl : s.heap.IsList D ys.toArray := ⟨_, (N _ hm).1, rfl, _, rfl⟩
  refine tail_any hl.typeIs slot_list_getitem.lookup ?_ hs
  have hky : k < ys.length := hi.length ▸ hk
  obtain ⟨t, ht⟩ := hi.int_at k ys[k] (by simp [hky])
  refine wpAny_getItem_list hl (Int.natCast_nonneg k) (by omega) (x := .int (ns.getD k 0) t) ?_ (h t)
  rw [← ht]; simp [hky]
structure ValP (R : Value → Prop) (b : Heap) (L : Addr) (m : Str → Option Value) (news : List (Addr × Obj)) (s : Shared) (v : Value) (s' : Shared) : Prop where
  ex : ∃ h' tk', R v ∧ s' = { s with heap := h', toks := tk' } ∧ Fr b L h' m ∧ News b L h' news
theorem ValP.intro {R : Value → Prop} {b : Heap} {L : Addr} {m : Str → Option Value} {news : List (Addr × Obj)} {s : Shared} {v : Value} {h' : Heap} {tk : Nat} (hv : R v) (F : Fr b L h' m) (N : News b L h' news) : ValP R b L m news s v { s with heap := h', toks := tk } := ⟨⟨h', tk, hv, rfl, F, N⟩⟩
theorem eval_toV {M : Model} {A : Around} {E : Value → Shared → Prop} {s : Shared} {b : Heap} {L : Addr} {m : Str → Option Value} {news : List (Addr × Obj)} (R : Value → Prop) {t : Sem Value} {Q : Value → Shared → Prop} (_F : Fr b L s.heap m) (_N : News b L s.heap news)
    (h : wpAny M A t (ValP R b L m news s) E s) (k : ∀ v h' tk', R v → Fr b L h' m → News b L h' news → Q v { s with heap := h', toks := tk' }) : wpAny M A t Q E s :=
  wpAny_mono h (fun v s' p => by obtain ⟨h', tk', hv, rfl, F, N⟩ := p.ex; exact k v h' tk' hv F N) fun _ _ e => e
structure ListP (R : List Value → Prop) (b : Heap) (L : Addr) (m : Str → Option Value) (news : List (Addr × Obj)) (s : Shared) (v : Value) (s' : Shared) : Prop where
  ex : ∃ D vs n h' tk', v = .ref D ∧ R vs ∧ (∀ p ∈ news, p.1 < D) ∧ s' = { s with heap := h', toks := tk' } ∧ Fr b L h' m ∧ News b L h' ((D, W.listOf (List.toArray vs) n) :: news)
theorem ListP.intro {R : List Value → Prop} {b : Heap} {L : Addr} {m : Str → Option Value} {news : List (Addr × Obj)} {s : Shared} {D : Addr} {vs : List Value} {n : Nat} {h' : Heap} {tk : Nat} (hv : R vs) (hd : ∀ p ∈ news, p.1 < D) (F : Fr b L h' m) (N : News b L h' ((D, W.listOf (List.toArray vs) n) :: news)) : ListP R b L m news s (.ref D) { s with heap := h', toks := tk } := ⟨⟨D, vs, n, h', tk, rfl, hv, hd, rfl, F, N⟩⟩
structure StopAt (P : Prop) : Prop where
  p : P
end
end Mine
namespace Mine
/-! comprehensions by an invariant: lists and dicts, one clause or two, without tests -/
noncomputable def IterZ (o : Obj) : Prop := o.cls ≠ .type "tuple" ∧ o.cls ≠ .type "list" ∧ o.cls ≠ .type "dict"
section
variable {prog : Program} {w : World} {A : Around}
noncomputable abbrev nb (prog : Program) (w : World) (A : Around) (env : Env) (R : Result → Shared → Prop) : Value → Shared → Prop := notedBy (model prog w) A env fun e s' => R (.error e) s'
structure LoopTree (prog : Program) (w : World) (A : Around) (e : Expr) (depth : Nat) (it acc : Value) (env : Env) (x : Str) (px : Pos) (T : Sem PUnit) : Prop where
  run : ∀ (I : Nat → Shared → Prop) (R : Result → Shared → Prop),
    (∀ n s, I n s → wpAny (model prog w) A (pyNext it) (fun r s₁ => match r with
      | none => R (.ok .next) s₁
      | some v => wpAny (model prog w) A (assign (.Name x px) env v) (fun _ s₂ => wpAny (model prog w) A T (fun _ s₃ => ∃ m, m < n ∧ I m s₃) (nb prog w A env R) s₂) (nb prog w A env R) s₁) (nb prog w A env R) s) →
    ∀ n s, I n s → codeAny (model prog w) A (.compLoop e depth it acc env) R s
theorem loopTree_of {e : Expr} {depth : Nat} {it acc : Value} {env : Env} {x : Str} {px p : Pos} {T : Sem PUnit}
    (hq : (Code.compLoop e depth it acc env).quiet = true) (hu : A.under (.compLoop e depth it acc env) = A)
    (hden : (model prog w).den (.compLoop e depth it acc env) = (compTurn e depth it acc env).onRaise (fun x => do noteFrame x env; theTreesLotGoes x))
    (h : compTurn e depth it acc env = (standAt p >>= fun _ => pyNext it >>= fun r => match r with
      | none => pure (.done .next)
      | some v => letOwnedTupleGo (.Name x px) it v >>= fun _ => assign (.Name x px) env v >>= fun _ => T >>= fun _ => again (.compLoop e depth it acc env))) :
    LoopTree prog w A e depth it acc env x px T := by
  refine ⟨fun I R turn n s hI => codeAny_loop hq I (fun n s hI => ?_) n hI⟩
  rw [hden, h, hu]
  refine wpAny_noted ?_
  refine wpAny_bind (wpAny_standAt (wpAny_bind (wpAny_mono (turn n s hI) (fun r s₁ h₁ => ?_) fun _ _ h' => h')))
  cases r with
  | none => exact wpAny_pure h₁
  | some v =>
    refine wpAny_bind (wpAny_of_eq (by rfl) ?_)
    exact wpAny_bind (wpAny_mono h₁ (fun _ s₂ h₂ => wpAny_bind (wpAny_mono h₂ (fun _ s₃ h₃ => wpAny_pure ⟨rfl, h₃⟩) fun _ _ h' => h')) fun _ _ h' => h')
noncomputable def emitL (elt : Expr) (acc : Value) (env : Env) : Sem PUnit := eval elt env >>= fun x => call (.builtin "list.append") [acc, x] >>= fun _ => pure ()
noncomputable def emitD (kx vx : Expr) (D : Addr) (env : Env) : Sem PUnit := eval kx env >>= fun kv => holding [kv] (eval vx env) >>= fun vv => standAt { kx.pos with endLine := vx.pos.endLine, endCol := vx.pos.endCol } >>= fun _ => holding [kv, vv] (dictSet D kv vv)
noncomputable def innerT (e : Expr) (iter : Expr) (acc : Value) (env : Env) : Sem PUnit := eval iter env >>= fun x => standAt iter.pos >>= fun _ => foldedSetIterable iter env x >>= fun x => holding [x] (pyIter x) >>= fun it => runOwn (.compStart e 1 it acc env) env >>= fun _ => pure ()
theorem lt_list1 {elt iter : Expr} {x : Str} {px : Pos} {scope : Scope} {pos : Pos} {it acc : Value} {env : Env} : LoopTree prog w A (.ListComp elt [⟨.Name x px, iter, [], 0⟩] scope pos) 0 it acc env x px (emitL elt acc env) :=
  loopTree_of (p := iter.pos) rfl rfl rfl rfl
theorem lt_dict1 {kx vx iter : Expr} {x : Str} {px : Pos} {scope : Scope} {pos : Pos} {it : Value} {D : Addr} {env : Env} : LoopTree prog w A (.DictComp kx vx [⟨.Name x px, iter, [], 0⟩] scope pos) 0 it (.ref D) env x px (emitD kx vx D env) :=
  loopTree_of (p := iter.pos) rfl rfl rfl rfl
theorem lt_listO {elt iter iter₂ : Expr} {x x₂ : Str} {px px₂ : Pos} {scope : Scope} {pos : Pos} {it acc : Value} {env : Env} : LoopTree prog w A (.ListComp elt [⟨.Name x px, iter, [], 0⟩, ⟨.Name x₂ px₂, iter₂, [], 0⟩] scope pos) 0 it acc env x px (innerT (.ListComp elt [⟨.Name x px, iter, [], 0⟩, ⟨.Name x₂ px₂, iter₂, [], 0⟩] scope pos) iter₂ acc env) :=
  loopTree_of (p := iter.pos) rfl rfl rfl (by unfold innerT; simp only [bind_assoc, pure_bind]; rfl)
theorem lt_listI {elt iter iter₂ : Expr} {x x₂ : Str} {px px₂ : Pos} {scope : Scope} {pos : Pos} {it acc : Value} {env : Env} : LoopTree prog w A (.ListComp elt [⟨.Name x px, iter, [], 0⟩, ⟨.Name x₂ px₂, iter₂, [], 0⟩] scope pos) 1 it acc env x₂ px₂ (emitL elt acc env) :=
  loopTree_of (p := iter₂.pos) rfl rfl rfl rfl
/-! the source -/
noncomputable def SrcZ (prog : Program) (w : World) (A : Around) (n : Nat) (P : Nat → Value → Prop) (B : List Addr) (xv : Value) (s₁ : Shared) : Prop :=
  (∀ b ∈ B, b < s₁.heap.objs.size) ∧ ∃ (oI : Obj) (St : Nat → Heap → Prop), oI.isFreed = false ∧ Walks prog w A s₁.heap.objs.size (s₁.heap.objs.size :: B) [s₁.heap.objs.size] n P St ∧ St 0 (s₁.heap.push oI) ∧
    (∀ i h, St i h → ∃ o, h.get? s₁.heap.objs.size = some o ∧ IterZ o) ∧ ∀ (Q E : Value → Shared → Prop), Q (.ref s₁.heap.objs.size) { s₁ with heap := s₁.heap.push oI } → wpAny (model prog w) A (pyIter xv) Q E s₁
theorem src_text {y : Str} {t : Tok} {s₁ : Shared} (hh : A.handled = none) (hasc : y.cps.all (· < 128) = true) : SrcZ prog w A y.cps.size (SignAt y) [] (.str y t) s₁ :=
  ⟨fun _ h => (nomatch h), _, _, rfl, Walks.strAscii hh _ y t, ⟨_, Heap.get?_push_size _ rfl, rfl, rfl⟩, fun i h st => by
    obtain ⟨o, ho, hc, _⟩ := st
    exact ⟨o, ho, by rw [hc]; exact fun e => absurd (Value.type.inj e) (by decide), by rw [hc]; exact fun e => absurd (Value.type.inj e) (by decide), by rw [hc]; exact fun e => absurd (Value.type.inj e) (by decide)⟩, fun Q E q => wpAny_pyIter_ascii hasc q⟩
theorem src_list {ax : Addr} {its : Array Value} {s₁ : Shared} (hh : A.handled = none) (hl : s₁.heap.IsList ax its) : SrcZ prog w A its.size (fun i v => its[i]? = some v) [ax] (.ref ax) s₁ := by
  have hlt : ax < s₁.heap.objs.size := by obtain ⟨_, e, _⟩ := hl; exact Heap.lt_size e
  refine ⟨fun b h => by rw [List.mem_singleton.mp h]; exact hlt, _, _, rfl, Walks.list hh _ ax (Nat.ne_of_lt hlt) its, ⟨⟨_, Heap.get?_push_size _ rfl, rfl, rfl⟩, hl.push _⟩, fun i h st => ?_, fun Q E q => wpAny_pyIter_list hl q⟩
  obtain ⟨⟨o, ho, hc, _⟩, _⟩ := st
  exact ⟨o, ho, by rw [hc]; exact fun e => absurd (Value.type.inj e) (by decide), by rw [hc]; exact fun e => absurd (Value.type.inj e) (by decide), by rw [hc]; exact fun e => absurd (Value.type.inj e) (by decide)⟩
/-! the loop -/
noncomputable def TurnC (h₀ : Heap) (L : Addr) (m : Str → Option Value) (I C : Addr) (own : List (Addr × Obj)) (J : (Str → Option Value) → List (Addr × Obj) → Prop) (s₁ s₂ : Shared) : Prop :=
  ∃ h' tk m' oC news', s₂ = { s₁ with heap := h', toks := tk } ∧ Fr h₀ L h' m ∧ LCg.NsObj oC m' ∧ News h₀ L h' (own ++ (C, oC) :: news') ∧ (∀ p ∈ news', p.1 ≠ I ∧ p.1 ≠ C) ∧ J m' news'
theorem cl_walk {e : Expr} {depth : Nat} {I : Addr} {acc : Value} {env : Env} {x : Str} {px : Pos} {T : Sem PUnit} {B : List Addr} {n : Nat} {P : Nat → Value → Prop} {St : Nat → Heap → Prop} {C L : Addr} {h₀ : Heap} {m : Str → Option Value} {R : Result → Shared → Prop} {s : Shared} {m₁ : Str → Option Value} {news : List (Addr × Obj)}
    (LT : LoopTree prog w A e depth (.ref I) acc env x px T) (W : Walks prog w A I (I :: B) [I] n P St) (hC : env.locals = C) (hx : env.kindOf x = some .local) (hp : (env.scope.kind == .class || (env.scope.kind == .module && env.locals != env.globals)) = false)
    (J : Nat → (Str → Option Value) → List (Addr × Obj) → Prop) (hIL : L ≠ I) (hCI : C ≠ I) (hBL : L ∉ B) (hBC : C ∉ B) (hI₀ : h₀.get? I = none) (hCL : C ≠ L) (hC₀ : h₀.get? C = none)
    (hIo : ∀ i h, St i h → ∃ o, h.get? I = some o ∧ IterZ o) (hst : St 0 s.heap) (F : Fr h₀ L s.heap m) (hns : s.heap.Ns C m₁) (N : News h₀ L s.heap news) (off : ∀ p ∈ news, p.1 ≠ I ∧ p.1 ≠ C) (hj : J 0 m₁ news)
    (turn : ∀ i v m₁ oC own news₁ h tk (E' : Value → Shared → Prop), i < n → P i v → J i m₁ news₁ → (∀ p ∈ news₁, p.1 ≠ I ∧ p.1 ≠ C) → (∀ p ∈ own, p.1 = I ∨ p.1 ∈ B) → (∃ oI, (I, oI) ∈ own ∧ IterZ oI) → LCg.NsObj oC (fun y => if y = x then some v else m₁ y) → Fr h₀ L h m → News h₀ L h (own ++ (C, oC) :: news₁) →
      wpAny (model prog w) A T (fun _ s' => TurnC h₀ L m I C own (J (i + 1)) { s with heap := h, toks := tk } s') E' { s with heap := h, toks := tk })
    (done : ∀ m₁ news₁ h tk, J n m₁ news₁ → (∀ p ∈ news₁, p.1 ≠ I ∧ p.1 ≠ C) → Fr h₀ L h m → h.Ns C m₁ → News h₀ L h news₁ → R (.ok .next) { s with heap := h, toks := tk }) :
    codeAny (model prog w) A (.compLoop e depth (.ref I) acc env) R s := by
  subst hC
  refine LT.run (fun k s' => ∃ h' tk i m₁ news₁, s' = { s with heap := h', toks := tk } ∧ i ≤ n ∧ k = n + 1 - i ∧ St i h' ∧ Fr h₀ L h' m ∧ h'.Ns env.locals m₁ ∧ News h₀ L h' news₁ ∧ (∀ p ∈ news₁, p.1 ≠ I ∧ p.1 ≠ env.locals) ∧ J i m₁ news₁) R ?_ (n + 1) s
    ⟨s.heap, s.toks, 0, m₁, news, rfl, Nat.zero_le _, rfl, hst, F, hns, N, off, hj⟩
  rintro k s' ⟨h', tk, i, m₂, news₂, rfl, hi, rfl, hst', F', hn', N', off', hj'⟩
  by_cases hlt : i < n
  · refine W.item i _ _ _ hlt hst' fun v h₂ tk₂ hPv hst₂ hk₂ => ?_
    have hk₂' : ∀ b o, b ≠ I → h'.get? b = some o → h₂.get? b = some o := fun b o hb e => hk₂ b o (by simpa using hb) e
    refine wpAny_assign_Name (wpAny_storeName_local hx (hn'.at' fun o e => hk₂' _ o hCI e) (fun h₃ hn₃ hs₃ => ?_) hp)
    have hst₃ : St (i + 1) h₃ := W.frame _ _ _ hst₂ fun b hb o e => hs₃.extBut b o (fun q => by
      rcases List.mem_cons.mp hb with rfl | hb
      · exact hCI q.symm
      · exact hBC (q ▸ hb)) e
    obtain ⟨oI, heI, hIt⟩ := hIo _ _ hst₃
    obtain ⟨oC, heC, hoC⟩ := LCg.ns_obj hn₃
    have F₃ : Fr h₀ L h₃ m := (LCg.fr_but F' hk₂ hIL hI₀).change hs₃ hCL hC₀
    have N₃ : News h₀ L h₃ news₂ := fun p hp => ⟨hs₃.extBut _ _ (off' p hp).2 (hk₂' _ _ (off' p hp).1 (N' p hp).1), (N' p hp).2⟩
    obtain ⟨own, ho1, ho2, ho3⟩ : ∃ own : List (Addr × Obj), (∀ p ∈ own, p.1 = I ∨ p.1 ∈ B) ∧ (∀ p ∈ own, h₃.get? p.1 = some p.2 ∧ p.1 ≠ L ∧ h₀.get? p.1 = none) ∧ (∀ b ∈ I :: B, ∀ o, h₀.get? b = none → h₃.get? b = some o → (b, o) ∈ own) := by
      refine ⟨(I :: B).filterMap fun b => match h₀.get? b, h₃.get? b with | none, some o => some (b, o) | _, _ => none, fun p hp => ?_, fun p hp => ?_, fun b hb o e1 e2 => ?_⟩
      · obtain ⟨b, hb, e⟩ := List.mem_filterMap.mp hp
        split at e
        · cases e; exact List.mem_cons.mp hb
        · cases e
      · obtain ⟨b, hb, e⟩ := List.mem_filterMap.mp hp
        split at e
        · rename_i e1 e2
          cases e
          refine ⟨e2, ?_, e1⟩
          rcases List.mem_cons.mp hb with rfl | hb
          · exact Ne.symm hIL
          · exact fun q => hBL (by have q' : b = L := q; rw [← q']; exact hb)
        · cases e
      · exact List.mem_filterMap.mpr ⟨b, hb, by rw [e1, e2]⟩
    have NA : News h₀ L h₃ (own ++ (env.locals, oC) :: news₂) := fun p hp => by
      rcases List.mem_append.mp hp with hp | hp
      · exact ho2 p hp
      · rcases List.mem_cons.mp hp with rfl | hp
        · exact ⟨heC, hCL, hC₀⟩
        · exact N₃ p hp
    refine wpAny_mono (turn i v m₂ oC own news₂ h₃ _ _ hlt hPv hj' off' ho1 ⟨oI, ho3 I (.head _) oI hI₀ heI, hIt⟩ hoC F₃ NA) (fun _ s₄ h₄ => ?_) fun _ _ e => e
    obtain ⟨h₄, tk₄, m₄, oC₄, news₄, rfl, F₄, hoC₄, N₄, off₄, J₄⟩ := h₄
    have zC := (N₄ (env.locals, oC₄) (List.mem_append_right _ (.head _))).1
    refine ⟨n + 1 - (i + 1), by omega, h₄, tk₄, i + 1, m₄, news₄, rfl, hlt, rfl, W.frame _ _ _ hst₃ fun b hb o e => ?_, F₄, hoC₄.ns zC, fun p hp => N₄ p (List.mem_append_right _ (.tail _ hp)), off₄, J₄⟩
    cases q : h₀.get? b with
    | none => exact (N₄ _ (List.mem_append_left _ (ho3 b hb o q e))).1
    | some o' =>
      have := F₃.keep _ _ q
      rw [e] at this; cases this
      exact F₄.keep _ _ q
  · obtain rfl : i = n := Nat.le_antisymm hi (Nat.not_lt.mp hlt)
    refine W.done _ _ _ hst' fun h₂ tk₂ hk₂ => ?_
    have hk₂' : ∀ b o, b ≠ I → h'.get? b = some o → h₂.get? b = some o := fun b o hb e => hk₂ b o (by simpa using hb) e
    exact done m₂ news₂ h₂ tk₂ hj' off' (LCg.fr_but F' hk₂ hIL hI₀) (hn'.at' fun o e => hk₂' _ o hCI e) fun p hp => ⟨hk₂' _ _ (off' p hp).1 (N' p hp).1, (N' p hp).2⟩
end
end Mine
namespace Mine
section
variable {prog : Program} {w : World} {A : Around}
theorem start_Z {e : Expr} {depth : Nat} {it acc : Value} {env : Env} {R : Result → Shared → Prop} {s : Shared} {t iter : Expr} {ifs : List Expr}
    (hq : (Code.compLoop e depth it acc env).quiet = true) (hu : A.under (.compStart e depth it acc env) = A)
    (hden : (model prog w).den (.compStart e depth it acc env) = (compStart e depth it acc env).onRaise (fun x => do noteFrame x env; standAt theWindowsPlace))
    (hcl : (clausesOf e)[depth]? = some ⟨t, iter, ifs, 0⟩)
    (hs : ∀ (Q E : Value → Shared → Prop), Q it s → wpAny (model prog w) A (pyIter it) Q E s)
    (h : codeAny (model prog w) A (.compLoop e depth it acc env) R s) : codeAny (model prog w) A (.compStart e depth it acc env) R s := by
  refine codeAny_of_tree ?_
  rw [hden, hu]
  refine wpAny_notedAt ?_
  unfold compStart
  rw [hcl]
  show wpAny _ _ (ask >>= _) _ _ s
  refine wpAny_bind (wpAny_askSetting (wpAny_ite ?_))
  split
  · first
      | exact wpAny_bind (wpAny_pure (wpAny_pure (And.intro hq h)))
      | exact wpAny_pure (And.intro hq h)
  · first
      | exact wpAny_bind (wpAny_rule (wpAny_bind (wpAny_standAt (wpAny_bind (hs _ _ (wpAny_pure (And.intro hq h)))))))
      | (refine wpAny_bind (wpAny_rule ?_); show wpAny _ _ (standAt iter.pos >>= _) _ _ s; exact wpAny_bind (wpAny_standAt (wpAny_bind (hs _ _ (wpAny_pure (And.intro hq h))))))
noncomputable def OutZ (prog : Program) (w : World) (A : Around) (env : Env) (scope : Scope) (cl : List (Str × Addr)) (e : Expr) (newAcc : Sem Value) (RR : Value → Addr → Result → Shared → Prop) (E : Value → Shared → Prop) (xv : Value) (s₁ : Shared) : Prop :=
  wpAny (model prog w) A (pyIter xv) (fun it s₂ => wpAny (model prog w) A newAcc (fun acc s₃ => wpAny (model prog w) A (newFunctionEnv scope env.globals cl [] env.qual none .none (some env)) (fun cenv s₄ =>
      codeAny (model prog w) A (.compStart e 0 it acc { cenv with scope := relabel scope env }) (RR acc cenv.locals) s₄) E s₃) E s₂) E s₁
theorem outZ_intro {env : Env} {scope : Scope} {cl : List (Str × Addr)} {e : Expr} {newAcc : Sem Value} {oD : Obj} {RR : Value → Addr → Result → Shared → Prop} {E : Value → Shared → Prop} {xv : Value} {s₁ : Shared} {x : Str} {px : Pos} {T : Addr → Addr → Sem PUnit}
    {n : Nat} {P : Nat → Value → Prop} {B : List Addr} {h₀ : Heap} {L : Addr} {m : Str → Option Value} {news : List (Addr × Obj)} (J : Addr → Nat → (Str → Option Value) → List (Addr × Obj) → Prop)
    (hnew : ∀ (s : Shared) (Q E' : Value → Shared → Prop), Q (.ref s.heap.objs.size) { s with heap := s.heap.push oD } → wpAny (model prog w) A newAcc Q E' s) (hfr : oD.isFreed = false)
    (LTr : ∀ I D C, LoopTree prog w A e 0 (.ref I) (.ref D) (compEnvC scope cl C env) x px (T D C))
    (ST : ∀ I D C R s, (∀ (Q E : Value → Shared → Prop), Q (.ref I) s → wpAny (model prog w) A (pyIter (.ref I)) Q E s) → codeAny (model prog w) A (.compLoop e 0 (.ref I) (.ref D) (compEnvC scope cl C env)) R s → codeAny (model prog w) A (.compStart e 0 (.ref I) (.ref D) (compEnvC scope cl C env)) R s)
    (hcell : ∀ y ∈ scope.names, y.2 ≠ .cell) (hkind : scope.kind = .function) (hx : scope.names.lookup x = some .local)
    (S : SrcZ prog w A n P B xv s₁) (F : Fr h₀ L s₁.heap m) (N : News h₀ L s₁.heap news) (hBL : L ∉ B)
    (hj : ∀ D, J D 0 (fun _ => none) ((D, oD) :: news))
    (turn : ∀ D C I i v m₁ oC own news₁ h tk (E' : Value → Shared → Prop), i < n → P i v → J D i m₁ news₁ → (∀ p ∈ news, p.1 < D ∧ p.1 < I) → I < D ∧ D < C → (∀ p ∈ news₁, p.1 ≠ I ∧ p.1 ≠ C) → (∀ p ∈ own, p.1 = I ∨ p.1 ∈ B) → (∃ oI, (I, oI) ∈ own ∧ IterZ oI) → LCg.NsObj oC (fun y => if y = x then some v else m₁ y) → Fr h₀ L h m → News h₀ L h (own ++ (C, oC) :: news₁) →
      wpAny (model prog w) A (T D C) (fun _ s' => TurnC h₀ L m I C own (J D (i + 1)) { s₁ with heap := h, toks := tk } s') E' { s₁ with heap := h, toks := tk })
    (done : ∀ D C m₁ news₁ h tk, J D n m₁ news₁ → (∀ p ∈ news, p.1 < D) → (∀ p ∈ news₁, p.1 ≠ C) → C ≠ L → h₀.get? C = none → Fr h₀ L h m → h.Ns C m₁ → News h₀ L h news₁ → RR (.ref D) C (.ok .next) { s₁ with heap := h, toks := tk }) :
    OutZ prog w A env scope cl e newAcc RR E xv s₁ := by
  obtain ⟨hB, oI, St, hfI, W, hst, hIo, hit⟩ := S
  refine hit _ _ (hnew _ _ _ (wpAny_newFunctionEnv hcell (by intro y hy; simp at hy) (fun h₁ hns₁ hsb₁ => ?_) hkind))
  dsimp only at hns₁ hsb₁ ⊢
  generalize hI : s₁.heap.objs.size = I at *
  have hD : (s₁.heap.push oI).objs.size = I + 1 := by rw [Heap.size_push, hI]
  generalize hDD : (s₁.heap.push oI).objs.size = D at *
  have hC : ((s₁.heap.push oI).push oD).objs.size = D + 1 := by rw [Heap.size_push, hDD]
  generalize hCC : ((s₁.heap.push oI).push oD).objs.size = C at *
  have hID : @LT.lt Nat _ I D := by omega
  have hDC : @LT.lt Nat _ D C := by omega
  have hIC : @LT.lt Nat _ I C := Nat.lt_trans hID hDC
  have nlt : ∀ {a b : Nat}, a < b → a ≠ b := fun h => Nat.ne_of_lt h
  have old : ∀ b o, s₁.heap.get? b = some o → h₁.get? b = some o := fun b o e => by
    have hb : @LT.lt Nat _ b I := hI ▸ Heap.lt_size e
    exact hsb₁.extBut b o (nlt (Nat.lt_trans hb hIC)) (Heap.get?_push_of_some _ (Heap.get?_push_of_some _ (Heap.get?_push_of_some _ e)))
  have oldI : ∀ o, (s₁.heap.push oI).get? I = some o → h₁.get? I = some o := fun o e => hsb₁.extBut I o (nlt hIC) (Heap.get?_push_of_some _ (Heap.get?_push_of_some _ e))
  have hgD : h₁.get? D = some oD := hsb₁.extBut _ _ (nlt hDC) (Heap.get?_push_of_some _ (hDD ▸ Heap.get?_push_size _ hfr))
  have fresh₀ : ∀ a : Nat, I ≤ a → h₀.get? a = none := fun a ha => by
    cases e : h₀.get? a with
    | none => rfl
    | some o' =>
      have q : @LT.lt Nat _ a I := hI ▸ Heap.lt_size (F.keep a o' e)
      exact absurd q (Nat.not_lt.mpr ha)
  have hLlt : @LT.lt Nat _ L I := hI ▸ F.ns.lt
  have hNlt : ∀ p ∈ news, @LT.lt Nat _ p.1 I := fun p hp => hI ▸ Heap.lt_size (N p hp).1
  have hBC : C ∉ B := fun h => absurd (Nat.lt_trans (hB _ h) hIC) (Nat.lt_irrefl _)
  have hst₁ : St 0 h₁ := W.frame _ _ _ hst fun b hb o e => by
    rcases List.mem_cons.mp hb with rfl | hb
    · exact oldI o e
    · refine hsb₁.extBut b o (fun q => hBC (q ▸ hb)) (Heap.get?_push_of_some _ (Heap.get?_push_of_some _ e))
  have hLI : L ≠ I := nlt hLlt
  have hCI : C ≠ I := (nlt hIC).symm
  have hCL : C ≠ L := (nlt (Nat.lt_trans hLlt hIC)).symm
  refine ST _ _ _ _ _ (fun Q E q => W.self 0 _ _ _ hst₁ q) ?_
  refine cl_walk (s := { s₁ with heap := h₁, toks := _ }) (LTr I D C) W (C := C) rfl (lookup_relabel_local hx) (by simp [compEnvC, relabel, hkind]) (J D) hLI hCI hBL hBC (fresh₀ _ (Nat.le_refl _)) hCL (fresh₀ _ (Nat.le_of_lt hIC)) hIo hst₁ (F.keeps old) hns₁
    (news := (D, oD) :: news) (fun p hp => ?_) (fun p hp => ?_) (hj D) ?_ ?_
  · rcases List.mem_cons.mp hp with rfl | hp
    · exact ⟨hgD, (nlt (Nat.lt_trans hLlt hID)).symm, fresh₀ _ (Nat.le_of_lt hID)⟩
    · exact ⟨old _ _ (N p hp).1, (N p hp).2⟩
  · rcases List.mem_cons.mp hp with rfl | hp
    · exact ⟨(nlt hID).symm, nlt hDC⟩
    · exact ⟨nlt (hNlt p hp), nlt (Nat.lt_trans (hNlt p hp) hIC)⟩
  · intro i v m₁ oC own news₁ h tk E' hi hP hj' off hown hIm hoC F' N'
    exact turn D C I i v m₁ oC own news₁ h tk E' hi hP hj' (fun p hp => ⟨Nat.lt_trans (hNlt p hp) hID, hNlt p hp⟩) ⟨hID, hDC⟩ off hown hIm hoC F' N'
  · intro m₁ news₁ h tk hj' off F' hn' N'
    exact done D C m₁ news₁ h tk hj' (fun p hp => Nat.lt_trans (hNlt p hp) hID) (fun p hp => (off p hp).2) hCL (fresh₀ _ (Nat.le_of_lt hIC)) F' hn' N'
theorem rr_eval {E Q : Value → Shared → Prop} {h₀ h : Heap} {L C D : Addr} {m m₁ : Str → Option Value} {news : List (Addr × Obj)} {s₁ : Shared} {tk : Nat} (hCN : ∀ p ∈ news, p.1 ≠ C) (hCL : C ≠ L) (hC₀ : h₀.get? C = none) (F : Fr h₀ L h m) (hn : h.Ns C m₁) (N : News h₀ L h news)
    (q : ∀ h', Fr h₀ L h' m → News h₀ L h' news → Q (.ref D) { s₁ with heap := h', toks := tk }) : compPost (model prog w) A E none Q (.ref D) C (.ok .next) { s₁ with heap := h, toks := tk } :=
  ⟨m₁, hn, fun h' hs => q h' (F.change hs hCL hC₀) fun p hp => ⟨hs.extBut _ _ (hCN p hp) (N p hp).1, (N p hp).2⟩⟩
theorem rr_assign {E : Value → Shared → Prop} {Q : Flow → Shared → Prop} {h₀ h : Heap} {L C D : Addr} {m m₁ : Str → Option Value} {news : List (Addr × Obj)} {s₁ : Shared} {tk : Nat} {env : Env} {y : Str} {py : Pos} (hCN : ∀ p ∈ news, p.1 ≠ C) (hCL : C ≠ L) (hC₀ : h₀.get? C = none) (F : Fr h₀ L h m) (hn : h.Ns C m₁) (N : News h₀ L h news)
    (hL : env.locals = L) (hy : env.kindOf y = some .local) (hp : (env.scope.kind == .class || (env.scope.kind == .module && env.locals != env.globals)) = false)
    (q : ∀ h' tk', Fr h₀ L h' (fun z => if z = y then some (.ref D) else m z) → News h₀ L h' news → Q .next { s₁ with heap := h', toks := tk' }) : compPost (model prog w) A E (some (assign (.Name y py) env)) (fun _ s' => Q .next s') (.ref D) C (.ok .next) { s₁ with heap := h, toks := tk } := by
  subst hL
  show wpAny _ A (assign (.Name y py) env (.ref D)) _ _ _
  refine wpAny_assign_Name (wpAny_storeName_local hy F.ns (fun h₂ hn₂ hs₂ => ?_) hp)
  have hL₀ : h₀.get? env.locals = none := Heap.get?_none_of_le F.above
  have F₂ : Fr h₀ env.locals h₂ (fun z => if z = y then some (.ref D) else m z) := ⟨hn₂, fun b o e => hs₂.extBut b o (fun q => by rw [q, hL₀] at e; cases e) (F.keep b o e), F.above⟩
  refine ⟨m₁, hn.sameBut hs₂ hCL, fun h₃ hs₃ => q h₃ _ (F₂.change hs₃ hCL hC₀) fun p hp => ?_⟩
  have z : h₂.get? p.1 = some p.2 := hs₂.extBut _ _ (N p hp).2.1 (N p hp).1
  exact ⟨hs₃.extBut _ _ (hCN p hp) z, (N p hp).2⟩
theorem new_list : ∀ (s : Shared) (Q E' : Value → Shared → Prop), Q (.ref s.heap.objs.size) { s with heap := s.heap.push (LCg.lst []) } → wpAny (model prog w) A (newList []) Q E' s := fun _ _ _ h => wpAny_newObj_type h
noncomputable def dct0 : Obj := { cls := .type "dict", data := .dict #[] }
theorem new_dict : ∀ (s : Shared) (Q E' : Value → Shared → Prop), Q (.ref s.heap.objs.size) { s with heap := s.heap.push dct0 } → wpAny (model prog w) A newDict Q E' s := fun _ _ _ h => wpAny_newObj_type h
/-! the inner clause -/
noncomputable def InZ (prog : Program) (w : World) (A : Around) (e : Expr) (acc : Value) (env : Env) (Q : PUnit → Shared → Prop) (E : Value → Shared → Prop) (xv : Value) (s₁ : Shared) : Prop :=
  wpAny (model prog w) A (pyIter xv) (fun it s₂ => codeAny (model prog w) A (.compStart e 1 it acc env) (fun r s' => match r with | .ok _ => Q ⟨⟩ s' | .error x => cameBackBy (model prog w) A env E x s') s₂) E s₁
theorem inner_Z {e iter : Expr} {acc : Value} {env : Env} {Q : PUnit → Shared → Prop} {E : Value → Shared → Prop} {s : Shared} (hs : ∀ x, foldedSetIterable iter env x = pure x)
    (h : wpAny (model prog w) A (eval iter env) (InZ prog w A e acc env Q E) E s) : wpAny (model prog w) A (innerT e iter acc env) Q E s := by
  unfold innerT
  refine wpAny_bind (wpAny_mono h (fun x s₁ h₁ => ?_) fun _ _ e => e)
  refine wpAny_bind (wpAny_standAt ?_)
  rw [hs, pure_bind]
  refine wpAny_bind (wpAny_holding (wpAny_mono h₁ (fun it s₂ h₂ => ?_) fun _ _ e => e))
  refine wpAny_bind (wpAny_runOwn ?_)
  rw [Around.mark_none]
  refine codeAny_mono h₂ fun r s' hr => ?_
  cases r with
  | ok f => exact wpAny_pure hr
  | error x => exact hr
theorem inZ_intro {e : Expr} {acc : Value} {env : Env} {Q : PUnit → Shared → Prop} {E : Value → Shared → Prop} {xv : Value} {s₁ : Shared} {x : Str} {px : Pos} {T : Sem PUnit} {n : Nat} {P : Nat → Value → Prop} {B : List Addr} {h₀ : Heap} {L C : Addr} {m m₁ : Str → Option Value} {oC : Obj} {news : List (Addr × Obj)} (J : Nat → (Str → Option Value) → List (Addr × Obj) → Prop)
    (LTr : ∀ I, LoopTree prog w A e 1 (.ref I) acc env x px T)
    (ST : ∀ I R s, (∀ (Q E : Value → Shared → Prop), Q (.ref I) s → wpAny (model prog w) A (pyIter (.ref I)) Q E s) → codeAny (model prog w) A (.compLoop e 1 (.ref I) acc env) R s → codeAny (model prog w) A (.compStart e 1 (.ref I) acc env) R s)
    (hC : env.locals = C) (hx : env.kindOf x = some .local) (hp : (env.scope.kind == .class || (env.scope.kind == .module && env.locals != env.globals)) = false)
    (S : SrcZ prog w A n P B xv s₁) (F : Fr h₀ L s₁.heap m) (hoC : LCg.NsObj oC m₁) (N : News h₀ L s₁.heap ((C, oC) :: news)) (off : ∀ p ∈ news, p.1 ≠ C) (hBL : L ∉ B) (hBC : C ∉ B) (hj : J 0 m₁ news)
    (turn : ∀ I i v m₁ oC own news₁ h tk (E' : Value → Shared → Prop), i < n → P i v → J i m₁ news₁ → (∀ p ∈ news, p.1 < I) → (∀ p ∈ news₁, p.1 ≠ I ∧ p.1 ≠ C) → (∀ p ∈ own, p.1 = I ∨ p.1 ∈ B) → (∃ oI, (I, oI) ∈ own ∧ IterZ oI) → LCg.NsObj oC (fun y => if y = x then some v else m₁ y) → Fr h₀ L h m → News h₀ L h (own ++ (C, oC) :: news₁) →
      wpAny (model prog w) A T (fun _ s' => TurnC h₀ L m I C own (J (i + 1)) { s₁ with heap := h, toks := tk } s') E' { s₁ with heap := h, toks := tk })
    (done : ∀ m₁ oC news₁ h tk, J n m₁ news₁ → (∀ p ∈ news₁, p.1 ≠ C) → Fr h₀ L h m → LCg.NsObj oC m₁ → News h₀ L h ((C, oC) :: news₁) → Q ⟨⟩ { s₁ with heap := h, toks := tk }) :
    InZ prog w A e acc env Q E xv s₁ := by
  obtain ⟨hB, oI, St, hfI, W, hst, hIo, hit⟩ := S
  refine hit _ _ ?_
  have fresh₀ : h₀.get? s₁.heap.objs.size = none := by
    cases e : h₀.get? s₁.heap.objs.size with
    | none => rfl
    | some o' => exact absurd (Heap.lt_size (F.keep _ o' e)) (Nat.lt_irrefl _)
  have hLlt : L < s₁.heap.objs.size := F.ns.lt
  have hClt : C < s₁.heap.objs.size := Heap.lt_size (N _ (.head _)).1
  have hNlt : ∀ p ∈ news, p.1 < s₁.heap.objs.size := fun p hp => Heap.lt_size (N p (.tail _ hp)).1
  have zC := N (C, oC) (.head _)
  refine ST _ _ _ (fun Q E q => W.self 0 _ _ _ hst q) ?_
  refine cl_walk (s := { s₁ with heap := s₁.heap.push oI }) (LTr _) W (C := C) hC hx hp J (Nat.ne_of_lt hLlt) (Nat.ne_of_lt hClt) hBL hBC fresh₀ zC.2.1 zC.2.2 hIo hst (F.push _) (hoC.ns (Heap.get?_push_of_some _ zC.1)) (news := news)
    (fun p hp => ⟨Heap.get?_push_of_some _ (N p (.tail _ hp)).1, (N p (.tail _ hp)).2⟩) (fun p hp => ⟨Nat.ne_of_lt (hNlt p hp), off p hp⟩) hj ?_ ?_
  · intro i v m₁ oC own news₁ h tk E' hi hP hj' off hown hIm hoC F' N'
    exact turn _ i v m₁ oC own news₁ h tk E' hi hP hj' hNlt off hown hIm hoC F' N'
  · intro m₁ news₁ h tk hj' off F' hn' N'
    obtain ⟨oC', e1, e2⟩ := LCg.ns_obj hn'
    refine done m₁ oC' news₁ h tk hj' (fun p hp => (off p hp).2) F' e2 fun p hp => ?_
    rcases List.mem_cons.mp hp with rfl | hp
    · exact ⟨e1, zC.2⟩
    · exact N' p hp
end
end Mine
namespace Mine
/-! dicts by texts -/
section
variable {K : Type} [DecidableEq K]
theorem valueAt_nil (k : K) : valueAt ([] : List (K × Value)) k = none := rfl
theorem valueAt_cons (p : K × Value) (r : List (K × Value)) (k : K) : valueAt (p :: r) k = if p.1 = k then some p.2 else valueAt r k := by
  unfold valueAt
  rw [List.find?_cons]
  by_cases h : p.1 = k
  · simp [h]
  · simp [h]
theorem valueAt_app (a b : List (K × Value)) (k : K) : valueAt (a ++ b) k = match valueAt a k with | some v => some v | none => valueAt b k := by
  induction a with
  | nil => rfl
  | cons p r ih =>
    rw [List.cons_append, valueAt_cons, valueAt_cons, ih]
    by_cases h : p.1 = k <;> simp [h]
theorem valueAt_map (kvs : List (K × Value)) (k : K) (v : Value) (k' : K) : valueAt (kvs.map (fun kv => if kv.1 = k then (kv.1, v) else kv)) k' = if k' = k then (valueAt kvs k).map (fun _ => v) else valueAt kvs k' := by
  induction kvs with
  | nil => simp [valueAt_nil]
  | cons p r ih =>
    rw [List.map_cons, valueAt_cons, ih]
    by_cases h : p.1 = k
    · rw [if_pos h, valueAt_cons, valueAt_cons, if_pos h]
      by_cases h2 : k' = k
      · simp [h, h2]
      · have : ¬ p.1 = k' := fun e => h2 (e.symm.trans h)
        simp [h2, this]
    · rw [if_neg h, valueAt_cons, valueAt_cons, if_neg h]
      by_cases h2 : k' = k
      · subst h2; simp [h]
      · simp [h2]
theorem valueAt_none {kvs : List (K × Value)} {k : K} (h : k ∉ kvs.map (·.1)) : valueAt kvs k = none := by
  induction kvs with
  | nil => rfl
  | cons p r ih =>
    rw [List.map_cons, List.mem_cons, not_or] at h
    rw [valueAt_cons, if_neg (Ne.symm h.1), ih h.2]
theorem valueAt_some {kvs : List (K × Value)} {k : K} (h : k ∈ kvs.map (·.1)) : ∃ v, valueAt kvs k = some v := by
  induction kvs with
  | nil => cases h
  | cons p r ih =>
    rw [valueAt_cons]
    by_cases e : p.1 = k
    · exact ⟨_, by rw [if_pos e]⟩
    · rw [if_neg e]
      exact ih ((List.mem_cons.mp h).resolve_left (Ne.symm e))
theorem any_key {kvs : List (K × Value)} {k : K} : (kvs.any fun kv => kv.1 = k) = true ↔ k ∈ kvs.map (·.1) := by
  rw [List.any_eq_true, List.mem_map]
  exact ⟨fun ⟨p, h, e⟩ => ⟨p, h, of_decide_eq_true e⟩, fun ⟨p, h, e⟩ => ⟨p, h, decide_eq_true e⟩⟩
theorem valueAt_stored (kvs : List (K × Value)) (k : K) (v : Value) (k' : K) : valueAt (stored kvs k v) k' = if k' = k then some v else valueAt kvs k' := by
  unfold stored
  by_cases h : (kvs.any fun kv => kv.1 = k) = true
  · rw [if_pos h, valueAt_map]
    obtain ⟨u, hu⟩ := valueAt_some (any_key.mp h)
    rw [hu]; rfl
  · rw [if_neg h, valueAt_app]
    have hn : k ∉ kvs.map (·.1) := fun q => h (any_key.mpr q)
    by_cases h2 : k' = k
    · rw [if_pos h2, h2, valueAt_none hn, valueAt_cons, if_pos rfl]
    · rw [if_neg h2, valueAt_cons, if_neg (Ne.symm h2), valueAt_nil]
      cases valueAt kvs k' <;> rfl
theorem stored_old {kvs : List (K × Value)} {k : K} (v : Value) (h : k ∈ kvs.map (·.1)) : (stored kvs k v).map (·.1) = kvs.map (·.1) := by
  unfold stored
  rw [if_pos (any_key.mpr h), List.map_map]
  refine List.map_congr_left fun p _ => ?_
  by_cases e : p.1 = k <;> simp [e]
theorem stored_new {kvs : List (K × Value)} {k : K} (v : Value) (h : k ∉ kvs.map (·.1)) : (stored kvs k v).map (·.1) = kvs.map (·.1) ++ [k] := by
  unfold stored
  rw [if_neg (fun q => h (any_key.mp q)), List.map_append]; rfl
end
/-- a dict of ints by texts -/
structure DInt (kvs : List (Str × Value)) (ks : List Str) (f : Str → Int) : Prop where
  keys : kvs.map (·.1) = ks
  val : ∀ k ∈ ks, ∃ t, valueAt kvs k = some (.int (f k) t)
theorem DInt.nil (f : Str → Int) : DInt [] [] f := ⟨rfl, fun _ h => nomatch h⟩
theorem DInt.congr {kvs : List (Str × Value)} {ks : List Str} {f g : Str → Int} (d : DInt kvs ks f) (h : ∀ k ∈ ks, f k = g k) : DInt kvs ks g := ⟨d.keys, fun k hk => by rw [← h k hk]; exact d.val k hk⟩
theorem DInt.put {kvs : List (Str × Value)} {ks : List Str} {f : Str → Int} (d : DInt kvs ks f) {k : Str} (hk : k ∈ ks) (x : Int) (t : Tok) : DInt (stored kvs k (.int x t)) ks (fun y => if y = k then x else f y) := by
  refine ⟨(stored_old _ (d.keys ▸ hk)).trans d.keys, fun y hy => ?_⟩
  rw [valueAt_stored]
  by_cases e : y = k
  · exact ⟨t, by rw [if_pos e, if_pos e]⟩
  · rw [if_neg e, if_neg e]; exact d.val y hy
theorem DInt.add {kvs : List (Str × Value)} {ks : List Str} {f : Str → Int} (d : DInt kvs ks f) {k : Str} (hk : k ∉ ks) (t : Tok) : DInt (stored kvs k (.int (f k) t)) (ks ++ [k]) f := by
  refine ⟨(stored_new _ (d.keys ▸ hk)).trans (by rw [d.keys]), fun y hy => ?_⟩
  rw [valueAt_stored]
  by_cases e : y = k
  · exact ⟨t, by rw [if_pos e, e]⟩
  · rw [if_neg e]
    rcases List.mem_append.mp hy with h | h
    · exact d.val y h
    · exact absurd (List.mem_singleton.mp h) e
section
variable {prog : Program} {w : World}
theorem dct0_is : dct0.IsDictOf (PySem.strKind prog w) [] := ⟨#[], _, ⟨rfl, rfl, rfl⟩, rfl, fun _ he => by simp at he, .nil, List.nodup_nil⟩
end
end Mine
namespace Mine
section
variable {prog : Program} {w : World} {A : Around} {E : Value → Shared → Prop} {s : Shared} {env : Env} {kx vx elt iter : Expr} {x y : Str} {px py : Pos} {ifs : List Expr} {gs : List Comprehension} {scope : Scope} {cl : List (Str × Addr)} {pos spos : Pos}
theorem ListComp_Z {Q : Value → Shared → Prop} (hclos : closureFor scope env = pure cl) (hkind : scope.kind = .function) (hnames : ∀ z ∈ scope.names, z.2 = .local → scope.names.lookup z.1 = some .local)
    (h : wpAny (model prog w) A (eval iter env) (OutZ prog w A env scope cl (.ListComp elt (⟨.Name x px, iter, ifs, 0⟩ :: gs) scope pos) (newList []) (compPost (model prog w) A E none Q) E) E s)
    (hs : ∀ x, foldedSetIterable iter env x = pure x := by intro _; rfl) : wpAny (model prog w) A (eval (.ListComp elt (⟨.Name x px, iter, ifs, 0⟩ :: gs) scope pos) env) Q E s := by
  rw [eval_ListComp]
  exact wpAny_comprehension_free (use := none) rfl hs hclos hkind hnames h
theorem DictComp_Z {Q : Value → Shared → Prop} (hclos : closureFor scope env = pure cl) (hkind : scope.kind = .function) (hnames : ∀ z ∈ scope.names, z.2 = .local → scope.names.lookup z.1 = some .local)
    (h : wpAny (model prog w) A (eval iter env) (OutZ prog w A env scope cl (.DictComp kx vx (⟨.Name x px, iter, ifs, 0⟩ :: gs) scope pos) newDict (compPost (model prog w) A E none Q) E) E s)
    (hs : ∀ x, foldedSetIterable iter env x = pure x := by intro _; rfl) : wpAny (model prog w) A (eval (.DictComp kx vx (⟨.Name x px, iter, ifs, 0⟩ :: gs) scope pos) env) Q E s := by
  rw [arm_eval_DictComp]
  exact wpAny_comprehension_free (use := none) rfl hs hclos hkind hnames h
theorem Assign_ListZ {Q : Flow → Shared → Prop} (hsw : swapsWith (.ListComp elt (⟨.Name x px, iter, ifs, 0⟩ :: gs) scope pos) (some (.Name y py)) spos.line env = pure true)
    (hclos : closureFor scope env = pure cl) (hkind : scope.kind = .function) (hnames : ∀ z ∈ scope.names, z.2 = .local → scope.names.lookup z.1 = some .local)
    (h : wpAny (model prog w) A (eval iter env) (OutZ prog w A env scope cl (.ListComp elt (⟨.Name x px, iter, ifs, 0⟩ :: gs) scope pos) (newList []) (compPost (model prog w) A E (some (assign (.Name y py) env)) (fun _ s' => Q .next s')) E) E s)
    (hs : ∀ x, foldedSetIterable iter env x = pure x := by intro _; rfl) : wpAny (model prog w) A (exec (.Assign [.Name y py] (.ListComp elt (⟨.Name x px, iter, ifs, 0⟩ :: gs) scope pos) spos) env) Q E s := by
  rw [exec_Assign_Name_used _ _ _ _ hsw]
  refine wpAny_bind (wpAny_standAt (wpAny_bind ?_))
  show wpAny _ A (do let _ ← comprehension (.ListComp elt (⟨.Name x px, iter, ifs, 0⟩ :: gs) scope pos) scope env _ (newList []) false (eval iter env) (some (assign (.Name y py) env))) _ _ s
  exact wpAny_bind (wpAny_mono (wpAny_comprehension_free (use := some (assign (.Name y py) env)) (Q := fun _ s' => Q .next s') rfl hs hclos hkind hnames h) (fun _ s' hq => wpAny_pure (wpAny_pure hq)) fun _ _ e => e)
theorem emitD_Z {D : Addr} {Q : PUnit → Shared → Prop} (h : wpAny (model prog w) A (eval kx env) (fun kv s₁ => wpAny (model prog w) A (eval vx env) (fun vv s₂ => wpAny (model prog w) A (dictSet D kv vv) (fun _ s₃ => Q ⟨⟩ s₃) E s₂) E s₁) E s) : wpAny (model prog w) A (emitD kx vx D env) Q E s := by
  unfold emitD
  exact wpAny_bind (wpAny_mono h (fun kv s₁ h₁ => wpAny_bind (wpAny_holding (wpAny_mono h₁ (fun vv s₂ h₂ => wpAny_bind (wpAny_standAt (wpAny_holding (wpAny_mono h₂ (fun _ _ h => h) fun _ _ e => e)))) fun _ _ e => e))) fun _ _ e => e)
theorem emitL_Z {acc : Value} {Q : PUnit → Shared → Prop} (h : wpAny (model prog w) A (eval elt env) (fun v s₁ => wpAny (model prog w) A (call (.builtin "list.append") [acc, v]) (fun _ s₂ => Q ⟨⟩ s₂) E s₁) E s) : wpAny (model prog w) A (emitL elt acc env) Q E s := by
  unfold emitL
  exact wpAny_bind (wpAny_mono h (fun v s₁ h₁ => wpAny_bind (wpAny_mono h₁ (fun _ s₂ h₂ => wpAny_pure h₂) fun _ _ e => e)) fun _ _ e => e)
end
section
variable {prog : Program} {w : World} {A : Around} {E : Value → Shared → Prop} {s : Shared} {h₀ : Heap} {L D : Addr} {m : Str → Option Value} {other rest : List (Addr × Obj)} {oD : Obj} {kvs : List (Str × Value)} {k : Str} {t : Tok} {v : Value}
theorem dictSet_use {Q : Unit → Shared → Prop} (F : Fr h₀ L s.heap m) (N : News h₀ L s.heap (other ++ (D, oD) :: rest)) (h1 : ∀ p ∈ other, p.1 ≠ D) (h2 : ∀ p ∈ rest, p.1 ≠ D) (hd : oD.IsDictOf (PySem.strKind prog w) kvs) (hsz : kvs.length ≤ 1000)
    (h : ∀ h' o', Fr h₀ L h' m → News h₀ L h' (other ++ (D, o') :: rest) → o'.IsDictOf (PySem.strKind prog w) (stored kvs k v) → Q () { s with heap := h', toks := s.toks + 1 }) : wpAny (model prog w) A (dictSet D (.str k t) v) Q E s := by
  have hm := N (D, oD) (List.mem_append_right _ (.head _))
  refine wpAny_dictSet_pairs (hsz := Nat.le_trans hsz (by rw [sizeLine_eq]; exact Nat.le_of_ble_eq_true rfl)) (strKind_is prog w k t) (Heap.dictOf_iff.mpr ⟨oD, hm.1, hd⟩) fun h' hmm hs => ?_
  obtain ⟨o', ho', hd'⟩ := Heap.dictOf_iff.mp hmm
  exact h h' o' (F.change hs hm.2.1 hm.2.2) (N.setIn h1 h2 hs ho') hd'
theorem setItem_use {Q : Unit → Shared → Prop} (F : Fr h₀ L s.heap m) (N : News h₀ L s.heap (other ++ (D, oD) :: rest)) (h1 : ∀ p ∈ other, p.1 ≠ D) (h2 : ∀ p ∈ rest, p.1 ≠ D) (hd : oD.IsDictOf (PySem.strKind prog w) kvs) (hsz : kvs.length ≤ 1000)
    (h : ∀ h' o', Fr h₀ L h' m → News h₀ L h' (other ++ (D, o') :: rest) → o'.IsDictOf (PySem.strKind prog w) (stored kvs k v) → Q () { s with heap := h', toks := s.toks + 1 }) : wpAny (model prog w) A (setItem (.ref D) (.str k t) v) Q E s := by
  have hm := N (D, oD) (List.mem_append_right _ (.head _))
  refine wpAny_setItem_pairs (hsz := Nat.le_trans hsz (by rw [sizeLine_eq]; exact Nat.le_of_ble_eq_true rfl)) (strKind_is prog w k t) (Heap.dictOf_iff.mpr ⟨oD, hm.1, hd⟩) fun h' hmm hs => ?_
  obtain ⟨o', ho', hd'⟩ := Heap.dictOf_iff.mp hmm
  exact h h' o' (F.change hs hm.2.1 hm.2.2) (N.setIn h1 h2 hs ho') hd'
theorem dict_cls (hd : oD.IsDictOf (PySem.strKind prog w) kvs) : oD.cls = .type "dict" := let ⟨_, _, h, _⟩ := hd; h.1
/-- two entries of other classes lie at other places -/
theorem cls_off {h : Heap} {all : List (Addr × Obj)} {a b : Addr} {o o' : Obj} (N : News h₀ L h all) (h1 : (a, o) ∈ all) (h2 : (b, o') ∈ all) (hc : o.cls ≠ o'.cls) : a ≠ b := fun e => by
  have a1 := (N _ h1).1
  have a2 := (N _ h2).1
  simp only [e] at a1 a2
  rw [a1] at a2
  cases a2
  exact hc rfl
theorem ty_ne {a b : String} (h : a ≠ b) : Value.type a ≠ Value.type b := fun e => h (Value.type.inj e)
end
end Mine
namespace Mine
/-- a dict of ints, its keys told by an index -/
structure DV {ι : Type} (key : ι → Str) (idx : List ι) (kvs : List (Str × Value)) (x : ι → Int) : Prop where
  keys : kvs.map (·.1) = idx.map key
  val : ∀ i ∈ idx, ∃ t, valueAt kvs (key i) = some (.int (x i) t)
section
variable {ι : Type} {key : ι → Str} {idx : List ι} {kvs : List (Str × Value)} {x x' : ι → Int}
theorem DV.nil : DV key [] [] x := ⟨rfl, fun _ h => nomatch h⟩
theorem DV.congr (d : DV key idx kvs x) (h : ∀ i ∈ idx, x i = x' i) : DV key idx kvs x' := ⟨d.keys, fun i hi => by rw [← h i hi]; exact d.val i hi⟩
theorem DV.len (d : DV key idx kvs x) : kvs.length = idx.length := by have := congrArg List.length d.keys; simpa using this
theorem DV.put (d : DV key idx kvs x) {i : ι} (hi : i ∈ idx) (inj : ∀ j ∈ idx, key j = key i → j = i) (v : Int) (t : Tok) (h1 : x' i = v) (h2 : ∀ j ∈ idx, j ≠ i → x' j = x j) : DV key idx (stored kvs (key i) (.int v t)) x' := by
  refine ⟨(stored_old _ (d.keys ▸ List.mem_map_of_mem hi)).trans d.keys, fun j hj => ?_⟩
  rw [valueAt_stored]
  by_cases e : key j = key i
  · exact ⟨t, by rw [if_pos e, inj j hj e, h1]⟩
  · rw [if_neg e, h2 j hj fun q => e (q ▸ rfl)]; exact d.val j hj
theorem DV.add (d : DV key idx kvs x) {i : ι} (hi : key i ∉ idx.map key) (t : Tok) : DV key (idx ++ [i]) (stored kvs (key i) (.int (x i) t)) x := by
  refine ⟨(stored_new _ (d.keys ▸ hi)).trans (by rw [d.keys, List.map_append]; rfl), fun j hj => ?_⟩
  rw [valueAt_stored]
  by_cases e : key j = key i
  · rw [if_pos e]
    rcases List.mem_append.mp hj with h | h
    · exact absurd (e ▸ List.mem_map_of_mem h) hi
    · exact ⟨t, by rw [List.mem_singleton.mp h]⟩
  · rw [if_neg e]
    rcases List.mem_append.mp hj with h | h
    · exact d.val j h
    · exact absurd (by rw [List.mem_singleton.mp h]) e
end
end Mine
namespace Mine
section
variable {prog : Program} {w : World} {A : Around} {E : Value → Shared → Prop} {s : Shared} {env : Env} {h₀ : Heap} {elts : List Expr} {k : Nat} {tp pos : Pos} {iter : Expr} {body : List Stmt} {Q : Flow → Shared → Prop}
noncomputable def TurnT (h₀ : Heap) (L : Addr) (I : Addr) (own : List (Addr × Obj)) (J : (Str → Option Value) → List (Addr × Obj) → Prop) (s₁ : Shared) (f : Flow) (s₂ : Shared) : Prop := LoopStepU h₀ L [I] own J s₁ f s₂
theorem TurnT.next {L I : Addr} {own news' : List (Addr × Obj)} {J : (Str → Option Value) → List (Addr × Obj) → Prop} {s₁ : Shared} {h' : Heap} {tk : Nat} {m' : Str → Option Value} (F : Fr h₀ L h' m') (N : News h₀ L h' (own ++ news')) (hI : ∀ p ∈ news', p.1 ≠ I) (hj : J m' news') :
    TurnT h₀ L I own J s₁ .next { s₁ with heap := h', toks := tk } := LoopStepU.intro F N (fun p hp q => hI p hp (List.mem_singleton.mp q)) hj
end
end Mine
namespace Mine
section
variable {prog : Program} {w : World} {A : Around}
/-! a comprehension whose target is a cell (a comprehension within reads it) -/
noncomputable def cell0 : Obj := { cls := .type "cell", data := .cell none }
noncomputable def cdict : Obj := { cls := .type "dict", data := .dict #[] }
theorem newComp1 {scope : Scope} {globals : Addr} {cl : List (Str × Addr)} {qual : Str} {outer : Env} {x : Str} {E : Value → Shared → Prop} {s : Shared} {Q : Env → Shared → Prop}
    (hcf : ∀ n, cellsFrom n scope.names cl = (x, n) :: cl) (hpc : ∀ h, pushCells h scope.names = h.push cell0)
    (hQ : Q { scope, locals := s.heap.objs.size, globals, cells := (x, s.heap.objs.size + 1) :: cl, qual, func := none, code := outer.code, frame := outer.frame, builtins := outer.builtins } { s with heap := (s.heap.push cdict).push cell0 }) :
    wpAny (model prog w) A (newFunctionEnv scope globals cl [] qual none .none (some outer)) Q E s := by
  simp only [newFunctionEnv, Option.isSome_some, if_true]
  refine wpAny_bind (wpAny_alloc ?_)
  refine wpAny_bind (wpAny_layCells _ (fun name kind cells => by cases hkc : kind == NameKind.cell <;> simp [hkc]) _ _ _ _ ?_)
  rw [hcf, hpc]
  rw [show ({ s with heap := s.heap.push { cls := .type "dict", data := .dict #[] } } : Shared).heap.objs.size = s.heap.objs.size + 1 from Heap.size_push ..]
  exact wpAny_bind (wpAny_pure (wpAny_pure hQ))
noncomputable def TurnK (h₀ : Heap) (L : Addr) (m : Str → Option Value) (I C K : Addr) (own : List (Addr × Obj)) (J : List (Addr × Obj) → Prop) (s₁ s₂ : Shared) : Prop :=
  ∃ h' tk m' oC oK v' news', s₂ = { s₁ with heap := h', toks := tk } ∧ Fr h₀ L h' m ∧ LCg.NsObj oC m' ∧ oK.data = .cell v' ∧ News h₀ L h' (own ++ (K, oK) :: (C, oC) :: news') ∧ (∀ p ∈ news', p.1 ≠ I ∧ p.1 ≠ C ∧ p.1 ≠ K) ∧ J news'
theorem clc_walk {e : Expr} {depth : Nat} {I : Addr} {acc : Value} {env : Env} {x : Str} {px : Pos} {T : Sem PUnit} {B : List Addr} {n : Nat} {P : Nat → Value → Prop} {St : Nat → Heap → Prop} {C K L : Addr} {h₀ : Heap} {m : Str → Option Value} {R : Result → Shared → Prop} {s : Shared} {m₀ : Str → Option Value} {v₀ : Option Value} {news : List (Addr × Obj)}
    (LT : LoopTree prog w A e depth (.ref I) acc env x px T) (W : Walks prog w A I (I :: B) [I] n P St) (hC : env.locals = C) (hx : env.kindOf x = some .cell) (hk : env.scope.kind = .function) (hK : env.cells.lookup x = some K)
    (J : Nat → List (Addr × Obj) → Prop) (hIL : L ≠ I) (hCI : C ≠ I) (hKI : K ≠ I) (hKC : K ≠ C) (hKL : K ≠ L) (hBL : L ∉ B) (hBC : C ∉ B) (hBK : K ∉ B) (hI₀ : h₀.get? I = none) (hCL : C ≠ L) (hC₀ : h₀.get? C = none) (hK₀ : h₀.get? K = none)
    (hIo : ∀ i h, St i h → ∃ o, h.get? I = some o ∧ IterZ o) (hst : St 0 s.heap) (F : Fr h₀ L s.heap m) (hns : s.heap.Ns C m₀) (hcl : s.heap.IsCell K v₀) (N : News h₀ L s.heap news) (off : ∀ p ∈ news, p.1 ≠ I ∧ p.1 ≠ C ∧ p.1 ≠ K) (hj : J 0 news)
    (turn : ∀ i v m₁ oC oK own news₁ h tk (E' : Value → Shared → Prop), i < n → P i v → J i news₁ → (∀ p ∈ news₁, p.1 ≠ I ∧ p.1 ≠ C ∧ p.1 ≠ K) → (∀ p ∈ own, p.1 = I ∨ p.1 ∈ B) → (∃ oI, (I, oI) ∈ own ∧ IterZ oI) → LCg.NsObj oC m₁ → oK.data = .cell (some v) → Fr h₀ L h m → News h₀ L h (own ++ (K, oK) :: (C, oC) :: news₁) →
      wpAny (model prog w) A T (fun _ s' => TurnK h₀ L m I C K own (J (i + 1)) { s with heap := h, toks := tk } s') E' { s with heap := h, toks := tk })
    (done : ∀ m₁ news₁ h tk, J n news₁ → (∀ p ∈ news₁, p.1 ≠ I ∧ p.1 ≠ C ∧ p.1 ≠ K) → Fr h₀ L h m → h.Ns C m₁ → News h₀ L h news₁ → R (.ok .next) { s with heap := h, toks := tk }) :
    codeAny (model prog w) A (.compLoop e depth (.ref I) acc env) R s := by
  subst hC
  refine LT.run (fun k s' => ∃ h' tk i m₁ v₁ news₁, s' = { s with heap := h', toks := tk } ∧ i ≤ n ∧ k = n + 1 - i ∧ St i h' ∧ Fr h₀ L h' m ∧ h'.Ns env.locals m₁ ∧ h'.IsCell K v₁ ∧ News h₀ L h' news₁ ∧ (∀ p ∈ news₁, p.1 ≠ I ∧ p.1 ≠ env.locals ∧ p.1 ≠ K) ∧ J i news₁) R ?_ (n + 1) s
    ⟨s.heap, s.toks, 0, m₀, v₀, news, rfl, Nat.zero_le _, rfl, hst, F, hns, hcl, N, off, hj⟩
  rintro k s' ⟨h', tk, i, m₂, v₂, news₂, rfl, hi, rfl, hst', F', hn', hc', N', off', hj'⟩
  by_cases hlt : i < n
  · refine W.item i _ _ _ hlt hst' fun v h₂ tk₂ hPv hst₂ hk₂ => ?_
    have hk₂' : ∀ b o, b ≠ I → h'.get? b = some o → h₂.get? b = some o := fun b o hb e => hk₂ b o (by simpa using hb) e
    have hc₂ : h₂.IsCell K v₂ := let ⟨o, e, d⟩ := hc'; ⟨o, hk₂' _ _ hKI e, d⟩
    refine wpAny_assign_Name (wpAny_storeName_cell hk hx hK hc₂ fun h₃ hc₃ hs₃ => ?_)
    have hst₃ : St (i + 1) h₃ := W.frame _ _ _ hst₂ fun b hb o e => hs₃.extBut b o (fun q => by
      rcases List.mem_cons.mp hb with rfl | hb
      · exact hKI q.symm
      · exact hBK (q ▸ hb)) e
    obtain ⟨oI, heI, hIt⟩ := hIo _ _ hst₃
    have hn₃ : h₃.Ns env.locals m₂ := (hn'.at' fun o e => hk₂' _ o hCI e).sameBut hs₃ (Ne.symm hKC)
    obtain ⟨oC, heC, hoC⟩ := LCg.ns_obj hn₃
    obtain ⟨oK, heK, hoK⟩ := hc₃
    have F₃ : Fr h₀ L h₃ m := (LCg.fr_but F' hk₂ hIL hI₀).change hs₃ hKL hK₀
    have N₃ : News h₀ L h₃ news₂ := fun p hp => ⟨hs₃.extBut _ _ (off' p hp).2.2 (hk₂' _ _ (off' p hp).1 (N' p hp).1), (N' p hp).2⟩
    obtain ⟨own, ho1, ho2, ho3⟩ : ∃ own : List (Addr × Obj), (∀ p ∈ own, p.1 = I ∨ p.1 ∈ B) ∧ (∀ p ∈ own, h₃.get? p.1 = some p.2 ∧ p.1 ≠ L ∧ h₀.get? p.1 = none) ∧ (∀ b ∈ I :: B, ∀ o, h₀.get? b = none → h₃.get? b = some o → (b, o) ∈ own) := by
      refine ⟨(I :: B).filterMap fun b => match h₀.get? b, h₃.get? b with | none, some o => some (b, o) | _, _ => none, fun p hp => ?_, fun p hp => ?_, fun b hb o e1 e2 => ?_⟩
      · obtain ⟨b, hb, e⟩ := List.mem_filterMap.mp hp
        split at e
        · cases e; exact List.mem_cons.mp hb
        · cases e
      · obtain ⟨b, hb, e⟩ := List.mem_filterMap.mp hp
        split at e
        · rename_i e1 e2
          cases e
          refine ⟨e2, ?_, e1⟩
          rcases List.mem_cons.mp hb with rfl | hb
          · exact Ne.symm hIL
          · exact fun q => hBL (by have q' : b = L := q; rw [← q']; exact hb)
        · cases e
      · exact List.mem_filterMap.mpr ⟨b, hb, by rw [e1, e2]⟩
    have NA : News h₀ L h₃ (own ++ (K, oK) :: (env.locals, oC) :: news₂) := fun p hp => by
      rcases List.mem_append.mp hp with hp | hp
      · exact ho2 p hp
      · rcases List.mem_cons.mp hp with rfl | hp
        · exact ⟨heK, hKL, hK₀⟩
        · rcases List.mem_cons.mp hp with rfl | hp
          · exact ⟨heC, hCL, hC₀⟩
          · exact N₃ p hp
    refine wpAny_mono (turn i v m₂ oC oK own news₂ h₃ _ _ hlt hPv hj' off' ho1 ⟨oI, ho3 I (.head _) oI hI₀ heI, hIt⟩ hoC hoK F₃ NA) (fun _ s₄ h₄ => ?_) fun _ _ e => e
    obtain ⟨h₄, tk₄, m₄, oC₄, oK₄, v₄, news₄, rfl, F₄, hoC₄, hoK₄, N₄, off₄, J₄⟩ := h₄
    have zC := (N₄ (env.locals, oC₄) (List.mem_append_right _ (.tail _ (.head _)))).1
    have zK := (N₄ (K, oK₄) (List.mem_append_right _ (.head _))).1
    refine ⟨n + 1 - (i + 1), by omega, h₄, tk₄, i + 1, m₄, v₄, news₄, rfl, hlt, rfl, W.frame _ _ _ hst₃ fun b hb o e => ?_, F₄, hoC₄.ns zC, ⟨oK₄, zK, hoK₄⟩, fun p hp => N₄ p (List.mem_append_right _ (.tail _ (.tail _ hp))), off₄, J₄⟩
    cases q : h₀.get? b with
    | none => exact (N₄ _ (List.mem_append_left _ (ho3 b hb o q e))).1
    | some o' =>
      have := F₃.keep _ _ q
      rw [e] at this; cases this
      exact F₄.keep _ _ q
  · obtain rfl : i = n := Nat.le_antisymm hi (Nat.not_lt.mp hlt)
    refine W.done _ _ _ hst' fun h₂ tk₂ hk₂ => ?_
    have hk₂' : ∀ b o, b ≠ I → h'.get? b = some o → h₂.get? b = some o := fun b o hb e => hk₂ b o (by simpa using hb) e
    exact done m₂ news₂ h₂ tk₂ hj' off' (LCg.fr_but F' hk₂ hIL hI₀) (hn'.at' fun o e => hk₂' _ o hCI e) fun p hp => ⟨hk₂' _ _ (off' p hp).1 (N' p hp).1, (N' p hp).2⟩
theorem outC_intro {env : Env} {scope : Scope} {cl : List (Str × Addr)} {e : Expr} {newAcc : Sem Value} {oD : Obj} {RR : Value → Addr → Result → Shared → Prop} {E : Value → Shared → Prop} {xv : Value} {s₁ : Shared} {x : Str} {px : Pos} {T : Addr → Addr → Addr → Sem PUnit}
    {n : Nat} {P : Nat → Value → Prop} {B : List Addr} {h₀ : Heap} {L : Addr} {m : Str → Option Value} {news : List (Addr × Obj)} (J : Addr → Nat → List (Addr × Obj) → Prop)
    (hnew : ∀ (s : Shared) (Q E' : Value → Shared → Prop), Q (.ref s.heap.objs.size) { s with heap := s.heap.push oD } → wpAny (model prog w) A newAcc Q E' s) (hfr : oD.isFreed = false)
    (hcf : ∀ n, cellsFrom n scope.names cl = (x, n) :: cl) (hpc : ∀ h, pushCells h scope.names = h.push cell0)
    (LTr : ∀ I D C K, LoopTree prog w A e 0 (.ref I) (.ref D) (compEnvC scope ((x, K) :: cl) C env) x px (T D C K))
    (ST : ∀ I D C K R s, (∀ (Q E : Value → Shared → Prop), Q (.ref I) s → wpAny (model prog w) A (pyIter (.ref I)) Q E s) → codeAny (model prog w) A (.compLoop e 0 (.ref I) (.ref D) (compEnvC scope ((x, K) :: cl) C env)) R s → codeAny (model prog w) A (.compStart e 0 (.ref I) (.ref D) (compEnvC scope ((x, K) :: cl) C env)) R s)
    (hkind : (relabel scope env).kind = .function) (hx : ∀ C K, (compEnvC scope ((x, K) :: cl) C env).kindOf x = some .cell)
    (S : SrcZ prog w A n P B xv s₁) (F : Fr h₀ L s₁.heap m) (N : News h₀ L s₁.heap news) (hBL : L ∉ B)
    (hj : ∀ D, J D 0 ((D, oD) :: news))
    (turn : ∀ D C K I i v m₁ oC oK own news₁ h tk (E' : Value → Shared → Prop), i < n → P i v → J D i news₁ → (∀ p ∈ news, p.1 < D ∧ p.1 < I) → I < D ∧ D < C ∧ C < K → (∀ p ∈ news₁, p.1 ≠ I ∧ p.1 ≠ C ∧ p.1 ≠ K) → (∀ p ∈ own, p.1 = I ∨ p.1 ∈ B) → (∃ oI, (I, oI) ∈ own ∧ IterZ oI) → LCg.NsObj oC m₁ → oK.data = .cell (some v) → Fr h₀ L h m → News h₀ L h (own ++ (K, oK) :: (C, oC) :: news₁) →
      wpAny (model prog w) A (T D C K) (fun _ s' => TurnK h₀ L m I C K own (J D (i + 1)) { s₁ with heap := h, toks := tk } s') E' { s₁ with heap := h, toks := tk })
    (done : ∀ D C m₁ news₁ h tk, J D n news₁ → (∀ p ∈ news, p.1 < D) → (∀ p ∈ news₁, p.1 ≠ C) → C ≠ L → h₀.get? C = none → Fr h₀ L h m → h.Ns C m₁ → News h₀ L h news₁ → RR (.ref D) C (.ok .next) { s₁ with heap := h, toks := tk }) :
    OutZ prog w A env scope cl e newAcc RR E xv s₁ := by
  obtain ⟨hB, oI, St, hfI, W, hst, hIo, hit⟩ := S
  refine hit _ _ (hnew _ _ _ (newComp1 hcf hpc ?_))
  dsimp only
  generalize hI : s₁.heap.objs.size = I at *
  have hD : (s₁.heap.push oI).objs.size = I + 1 := by rw [Heap.size_push, hI]
  generalize hDD : (s₁.heap.push oI).objs.size = D at *
  have hC : ((s₁.heap.push oI).push oD).objs.size = D + 1 := by rw [Heap.size_push, hDD]
  generalize hCC : ((s₁.heap.push oI).push oD).objs.size = C at *
  have hKK : (((s₁.heap.push oI).push oD).push cdict).objs.size = C + 1 := by rw [Heap.size_push, hCC]
  have hID : @LT.lt Nat _ I D := by omega
  have hDC : @LT.lt Nat _ D C := by omega
  have hIC : @LT.lt Nat _ I C := Nat.lt_trans hID hDC
  have nlt : ∀ {a b : Nat}, a < b → a ≠ b := fun h => Nat.ne_of_lt h
  generalize hh₁ : (((s₁.heap.push oI).push oD).push cdict).push cell0 = h₁
  have old : ∀ b o, s₁.heap.get? b = some o → h₁.get? b = some o := fun b o e => hh₁ ▸ Heap.get?_push_of_some _ (Heap.get?_push_of_some _ (Heap.get?_push_of_some _ (Heap.get?_push_of_some _ e)))
  have oldI : ∀ b o, (s₁.heap.push oI).get? b = some o → h₁.get? b = some o := fun b o e => hh₁ ▸ Heap.get?_push_of_some _ (Heap.get?_push_of_some _ (Heap.get?_push_of_some _ e))
  have hgD : h₁.get? D = some oD := hh₁ ▸ Heap.get?_push_of_some _ (Heap.get?_push_of_some _ (hDD ▸ Heap.get?_push_size _ hfr))
  have hns₁ : h₁.Ns C (fun _ => none) := by
    have q := Heap.Ns.new ((s₁.heap.push oI).push oD) (.type "dict")
    rw [hCC] at q
    exact q.keeps fun b o e => hh₁ ▸ Heap.get?_push_of_some _ e
  have hcell : h₁.IsCell (C + 1) none := ⟨cell0, hh₁ ▸ hKK ▸ Heap.get?_push_size _ rfl, rfl⟩
  have fresh₀ : ∀ a : Nat, I ≤ a → h₀.get? a = none := fun a ha => by
    cases e : h₀.get? a with
    | none => rfl
    | some o' =>
      have q : @LT.lt Nat _ a I := hI ▸ Heap.lt_size (F.keep a o' e)
      exact absurd q (Nat.not_lt.mpr ha)
  have hLlt : @LT.lt Nat _ L I := hI ▸ F.ns.lt
  have hNlt : ∀ p ∈ news, @LT.lt Nat _ p.1 I := fun p hp => hI ▸ Heap.lt_size (N p hp).1
  have hBC : C ∉ B := fun h => absurd (Nat.lt_trans (hB _ h) hIC) (Nat.lt_irrefl _)
  have hBK : C + 1 ∉ B := fun h => absurd (Nat.lt_trans (hB _ h) (Nat.lt_succ_of_lt hIC)) (Nat.lt_irrefl _)
  have hst₁ : St 0 h₁ := W.frame _ _ _ hst fun b hb o e => oldI b o e
  have hLI : L ≠ I := nlt hLlt
  have hCI : C ≠ I := (nlt hIC).symm
  have hCL : C ≠ L := (nlt (Nat.lt_trans hLlt hIC)).symm
  refine ST _ _ _ _ _ _ (fun Q E q => W.self 0 _ _ _ hst₁ q) ?_
  refine clc_walk (s := { s₁ with heap := h₁, toks := _ }) (LTr I D C (C + 1)) W (C := C) (K := C + 1) rfl (hx _ _) hkind (by simp [compEnvC]) (J D) hLI hCI (nlt (Nat.lt_succ_of_lt hIC)).symm (Nat.succ_ne_self C) (nlt (Nat.lt_trans hLlt (Nat.lt_succ_of_lt hIC))).symm hBL hBC hBK (fresh₀ _ (Nat.le_refl _)) hCL (fresh₀ _ (Nat.le_of_lt hIC)) (fresh₀ _ (Nat.le_of_lt (Nat.lt_succ_of_lt hIC))) hIo hst₁ (F.keeps old) hns₁ hcell
    (news := (D, oD) :: news) (fun p hp => ?_) (fun p hp => ?_) (hj D) ?_ ?_
  · rcases List.mem_cons.mp hp with rfl | hp
    · exact ⟨hgD, (nlt (Nat.lt_trans hLlt hID)).symm, fresh₀ _ (Nat.le_of_lt hID)⟩
    · exact ⟨old _ _ (N p hp).1, (N p hp).2⟩
  · rcases List.mem_cons.mp hp with rfl | hp
    · exact ⟨(nlt hID).symm, nlt hDC, nlt (Nat.lt_succ_of_lt hDC)⟩
    · exact ⟨nlt (hNlt p hp), nlt (Nat.lt_trans (hNlt p hp) hIC), nlt (Nat.lt_trans (hNlt p hp) (Nat.lt_succ_of_lt hIC))⟩
  · intro i v m₁ oC oK own news₁ h tk E' hi hP hj' off hown hIm hoC hoK F' N'
    exact turn D C (C + 1) I i v m₁ oC oK own news₁ h tk E' hi hP hj' (fun p hp => ⟨Nat.lt_trans (hNlt p hp) hID, hNlt p hp⟩) ⟨hID, hDC, Nat.lt_succ_self C⟩ off hown hIm hoC hoK F' N'
  · intro m₁ news₁ h tk hj' off F' hn' N'
    exact done D C m₁ news₁ h tk hj' (fun p hp => Nat.lt_trans (hNlt p hp) hID) (fun p hp => (off p hp).2.1) hCL (fresh₀ _ (Nat.le_of_lt hIC)) F' hn' N'
end
end Mine
namespace Mine
section
variable {prog : Program} {w : World} {A : Around}
/-! a clause with one test -/
noncomputable def condT (c : Expr) (env : Env) (T : Sem PUnit) : Sem PUnit := isTrue c env (eval c env) >>= fun ok => if ok = true then T else pure ⟨⟩
theorem condT_Z {c : Expr} {env : Env} {T : Sem PUnit} {Q : PUnit → Shared → Prop} {E : Value → Shared → Prop} {s : Shared} (h : wpAny (model prog w) A (isTrue c env (eval c env)) (fun ok s₁ => if ok = true then wpAny (model prog w) A T Q E s₁ else Q ⟨⟩ s₁) E s) : wpAny (model prog w) A (condT c env T) Q E s := by
  refine wpAny_bind (wpAny_mono h (fun ok s₁ h₁ => ?_) fun _ _ e => e)
  cases ok with
  | true => exact h₁
  | false => exact wpAny_pure h₁
theorem lt_listT {elt iter test : Expr} {x : Str} {px : Pos} {scope : Scope} {pos : Pos} {it acc : Value} {env : Env} : LoopTree prog w A (.ListComp elt [⟨.Name x px, iter, [test], 0⟩] scope pos) 0 it acc env x px (condT test env (emitL elt acc env)) :=
  loopTree_of (p := iter.pos) rfl rfl rfl (by
    let ag := again (.compLoop (.ListComp elt [⟨.Name x px, iter, [test], 0⟩] scope pos) 0 it acc env)
    show (standAt iter.pos >>= fun _ => pyNext it >>= fun r => match r with
      | none => pure (.done .next)
      | some v => letOwnedTupleGo (.Name x px) it v >>= fun _ => assign (.Name x px) env v >>= fun _ =>
          (forIn [test] true fun c s => if s = true then (isTrue c env (eval c env) >>= fun ok => pure (ForInStep.yield ok)) else pure (ForInStep.yield s)) >>= fun s => if s = true then (emitL elt acc env >>= fun _ => ag) else ag) = _
    refine congrArg (fun f => standAt iter.pos >>= f) (funext fun _ => congrArg (fun f => pyNext it >>= f) (funext fun r => ?_))
    cases r with
    | none => rfl
    | some v =>
      refine congrArg (fun f => letOwnedTupleGo (.Name x px) it v >>= f) (funext fun _ => congrArg (fun f => assign (.Name x px) env v >>= f) (funext fun _ => ?_))
      unfold condT
      simp only [List.forIn_cons, List.forIn_nil, bind_assoc, pure_bind, if_true]
      refine congrArg (fun f => isTrue test env (eval test env) >>= f) (funext fun ok => ?_)
      cases ok <;> rfl)
end
end Mine
namespace Mine
/-! law 02, plain: chips that walk from room to room -/
noncomputable def sumN : Nat → (Nat → Int) → Int
  | 0, _ => 0
  | n + 1, F => sumN n F + F n
theorem sumN_congr {n : Nat} {F G : Nat → Int} (h : ∀ i < n, F i = G i) : sumN n F = sumN n G := by
  induction n with
  | zero => rfl
  | succ n ih => rw [sumN, sumN, ih fun i hi => h i (by omega), h n (by omega)]
theorem sumN_add (n : Nat) (F G : Nat → Int) : sumN n (fun i => F i + G i) = sumN n F + sumN n G := by
  induction n with
  | zero => rfl
  | succ n ih => simp only [sumN, ih]; omega
theorem sumN_sub (n : Nat) (F G : Nat → Int) : sumN n (fun i => F i - G i) = sumN n F - sumN n G := by
  induction n with
  | zero => rfl
  | succ n ih => simp only [sumN, ih]; omega
theorem sumN_mul (n : Nat) (a : Int) (F : Nat → Int) : sumN n (fun i => a * F i) = a * sumN n F := by
  induction n with
  | zero => simp [sumN]
  | succ n ih => simp only [sumN, ih, Int.mul_add]
theorem sumN_zero (n : Nat) : sumN n (fun _ => 0) = 0 := by
  induction n with
  | zero => rfl
  | succ n ih => simp [sumN, ih]
theorem sumN_le {n : Nat} {F G : Nat → Int} (h : ∀ i < n, F i ≤ G i) : sumN n F ≤ sumN n G := by
  induction n with
  | zero => exact Int.le_refl _
  | succ n ih =>
    have a := ih fun i hi => h i (by omega)
    have b := h n (by omega)
    simp only [sumN]; omega
theorem sumN_swap (n m : Nat) (F : Nat → Nat → Int) : sumN n (fun i => sumN m fun j => F i j) = sumN m (fun j => sumN n fun i => F i j) := by
  induction n with
  | zero => simp only [sumN]; exact (sumN_zero m).symm
  | succ n ih => simp only [sumN, ih]; rw [sumN_add]
theorem sumN_pick (n : Nat) (F : Nat → Int) (k : Nat) : sumN n (fun i => if k = i then F i else 0) = if k < n then F k else 0 := by
  induction n with
  | zero => rfl
  | succ n ih =>
    simp only [sumN, ih]
    by_cases h : k = n
    · subst h; simp
    · by_cases h2 : k < n
      · rw [if_pos h2, if_neg h, if_pos (by omega)]; omega
      · rw [if_neg h2, if_neg h, if_neg (by omega)]; rfl
theorem sumN_at {n : Nat} {F : Nat → Int} (h : ∀ i < n, 0 ≤ F i) {k : Nat} (hk : k < n) : F k ≤ sumN n F := by
  have a := sumN_pick n F k
  rw [if_pos hk] at a
  rw [← a]
  refine sumN_le fun i hi => ?_
  split
  · exact Int.le_refl _
  · exact h i hi
/-- the arrows of the rooms 0 .. n-1; the doors are n and n+1 -/
structure Arr (n : Nat) (f g : Nat → Nat) : Prop where
  f1 : ∀ r < n, r < f r ∧ f r < n + 2
  g1 : ∀ r < n, g r ≠ r ∧ g r < n + 2
noncomputable def ind (a p : Nat) : Int := if a = p then 1 else 0
theorem ind_nn (a p : Nat) : 0 ≤ ind a p := by unfold ind; split <;> decide
noncomputable def Wt (f g : Nat → Nat) (r p : Nat) : Int := ind (f r) p + ind (g r) p
theorem Wt_nn (f g : Nat → Nat) (r p : Nat) : 0 ≤ Wt f g r p := by
  have := ind_nn (f r) p
  have := ind_nn (g r) p
  unfold Wt; omega
/-- the chips in a place: M laid, the room r has sent s r times -/
noncomputable def cfg (n : Nat) (f g : Nat → Nat) (M : Int) (s : Nat → Int) (p : Nat) : Int := (if p < n then 1 - 2 * s p else 0) + (if p = 0 then M else 0) + sumN n (fun r => s r * Wt f g r p)
noncomputable def up (s : Nat → Int) (r : Nat) : Nat → Int := fun i => s i + ind r i
variable {n : Nat} {f g : Nat → Nat}
theorem cfg_fire {M : Int} {s : Nat → Int} {r : Nat} (hr : r < n) (p : Nat) : cfg n f g M (up s r) p = cfg n f g M s p + Wt f g r p - 2 * ind r p := by
  unfold cfg
  have e : sumN n (fun i => up s r i * Wt f g i p) = sumN n (fun i => s i * Wt f g i p) + Wt f g r p := by
    have a : sumN n (fun i => up s r i * Wt f g i p) = sumN n (fun i => s i * Wt f g i p + if r = i then Wt f g i p else 0) := sumN_congr fun i _ => by
      unfold up ind
      split
      · rw [Int.add_mul]; omega
      · simp
    rw [a, sumN_add, sumN_pick, if_pos hr]
  rw [e]
  unfold up ind
  by_cases h : p < n
  · rw [if_pos h, if_pos h]; omega
  · rw [if_neg h, if_neg h, if_neg (by omega)]; omega
theorem cfg_lay (M : Int) (s : Nat → Int) (p : Nat) : cfg n f g (M + 1) s p = cfg n f g M s p + ind 0 p := by
  unfold cfg ind
  by_cases h : p = 0
  · subst h; simp; omega
  · have h' : ¬ 0 = p := fun e => h e.symm
    simp only [if_neg h, if_neg h']; omega
/-- the weight of a place -/
noncomputable def wt : Nat → Int | 0 => 15 | 1 => 14 | 2 => 12 | 3 => 8 | _ => 0
noncomputable def wn (n p : Nat) : Int := if p < n then wt p else 0
theorem wt_fact0 : (List.range 5).all (fun n => (List.range n).all fun r => (List.range (n + 2)).all fun a => (List.range (n + 2)).all fun b => !(decide (r < a) && decide (b ≠ r)) || decide (wn n a + wn n b + 1 ≤ 2 * wn n r)) = true := by decide +kernel
theorem wt_fact {n r a b : Nat} (hn : n < 5) (hr : r < n) (ha : a < n + 2) (hb : b < n + 2) (h1 : r < a) (h2 : b ≠ r) : wn n a + wn n b + 1 ≤ 2 * wn n r := by
  have q := wt_fact0
  simp only [List.all_eq_true, List.mem_range] at q
  have := q n hn r hr a ha b hb
  simp [h1, h2] at this
  exact this
theorem wn_fact : ∀ n < 5, ∀ p < 6, 0 ≤ wn n p ∧ wn n p ≤ 15 := by decide +kernel
theorem Arr.drop (A : Arr n f g) (h4 : n < 5) {r : Nat} (hr : r < n) : wn n (f r) + wn n (g r) + 1 ≤ 2 * wn n r :=
  wt_fact h4 hr (A.f1 r hr).2 (A.g1 r hr).2 (A.f1 r hr).1 (A.g1 r hr).1
noncomputable def phi (n : Nat) (f g : Nat → Nat) (M : Int) (s : Nat → Int) : Int := sumN n fun p => wn n p * cfg n f g M s p
theorem sum_ind (F : Nat → Int) (a : Nat) : sumN n (fun p => F p * ind a p) = if a < n then F a else 0 := by
  rw [← sumN_pick n F a]
  exact sumN_congr fun i _ => by unfold ind; split <;> simp
theorem wn_sum (a : Nat) : sumN n (fun p => wn n p * ind a p) = wn n a := by
  rw [sum_ind]
  unfold wn
  split <;> simp_all
theorem phi_fire (A : Arr n f g) (h4 : n < 5) {M : Int} {s : Nat → Int} {r : Nat} (hr : r < n) : phi n f g M (up s r) + 1 ≤ phi n f g M s := by
  unfold phi
  have e : sumN n (fun p => wn n p * cfg n f g M (up s r) p) = sumN n (fun p => wn n p * cfg n f g M s p) + (wn n (f r) + wn n (g r)) - 2 * wn n r := by
    have a : sumN n (fun p => wn n p * cfg n f g M (up s r) p) = sumN n (fun p => (wn n p * cfg n f g M s p + (wn n p * ind (f r) p + wn n p * ind (g r) p)) - 2 * (wn n p * ind r p)) := sumN_congr fun p _ => by
      rw [cfg_fire hr p]
      unfold Wt
      rw [Int.mul_sub, Int.mul_add, Int.mul_add, Int.mul_left_comm]
    rw [a, sumN_sub, sumN_add, sumN_add, sumN_mul, wn_sum, wn_sum, wn_sum]
  have := A.drop h4 hr
  omega
theorem phi_lay (hn : 0 < n) (M : Int) (s : Nat → Int) : phi n f g (M + 1) s = phi n f g M s + 15 := by
  unfold phi
  have a : sumN n (fun p => wn n p * cfg n f g (M + 1) s p) = sumN n (fun p => wn n p * cfg n f g M s p + wn n p * ind 0 p) := sumN_congr fun p _ => by rw [cfg_lay, Int.mul_add]
  rw [a, sumN_add, wn_sum]
  have : wn n 0 = 15 := by unfold wn; rw [if_pos hn]; rfl
  omega
theorem one_sum (a : Nat) : sumN n (fun p => ind a p) = if a < n then 1 else 0 := by
  have := sum_ind (n := n) (fun _ => 1) a
  simpa using this
end Mine
namespace Mine
variable {n : Nat} {f g : Nat → Nat}
/-- M chips laid and t sent leave one chip in every room -/
noncomputable def Solve (n : Nat) (f g : Nat → Nat) (M : Int) (t : Nat → Int) : Prop := ∀ p < n, cfg n f g M t p = 1
theorem flow_le {s t : Nat → Int} (h : ∀ p < n, s p ≤ t p) (p : Nat) : sumN n (fun r => s r * Wt f g r p) ≤ sumN n (fun r => t r * Wt f g r p) :=
  sumN_le fun r hr => Int.mul_le_mul_of_nonneg_right (h r hr) (Wt_nn f g r p)
/-- nobody sends more than a solution does -/
theorem least {M M' : Int} {s t : Nat → Int} (hs : Solve n f g M t) (hM : M' ≤ M) (hle : ∀ p < n, s p ≤ t p) {r : Nat} (hr : r < n) (h2 : 2 ≤ cfg n f g M' s r) : s r + 1 ≤ t r := by
  have a := hs r hr
  have b := flow_le (f := f) (g := g) hle r
  have c := hle r hr
  unfold cfg at a h2
  rw [if_pos hr] at a h2
  by_cases h0 : r = 0
  · rw [if_pos h0] at a h2; omega
  · rw [if_neg h0] at a h2; omega
theorem cfg_diff {M : Int} {s t : Nat → Int} {p : Nat} (hp : p < n) : cfg n f g M s p = cfg n f g M t p + 2 * (t p - s p) - sumN n (fun r => (t r - s r) * Wt f g r p) := by
  have e : sumN n (fun r => (t r - s r) * Wt f g r p) = sumN n (fun r => t r * Wt f g r p) - sumN n (fun r => s r * Wt f g r p) := by
    rw [← sumN_sub]
    exact sumN_congr fun r _ => Int.sub_mul _ _ _
  rw [e]
  unfold cfg
  rw [if_pos hp, if_pos hp]
  omega
theorem final (A : Arr n f g) (h4 : n < 5) {M : Int} {s t : Nat → Int} (hs : Solve n f g M t) (hle : ∀ p < n, s p ≤ t p) (st : ∀ p < n, cfg n f g M s p ≤ 1) : ∀ p < n, s p = t p := by
  have d : ∀ p < n, 2 * (t p - s p) - sumN n (fun r => (t r - s r) * Wt f g r p) ≤ 0 := fun p hp => by
    have a := cfg_diff (f := f) (g := g) (M := M) (s := s) (t := t) hp
    have b := st p hp
    have c := hs p hp
    omega
  have w : sumN n (fun p => wn n p * (2 * (t p - s p) - sumN n (fun r => (t r - s r) * Wt f g r p))) ≤ sumN n (fun _ => 0) := sumN_le fun p hp => by
    have a := d p hp
    have b := (wn_fact n h4 p (by omega)).1
    exact Int.mul_nonpos_of_nonneg_of_nonpos b a
  rw [sumN_zero] at w
  have e : sumN n (fun p => wn n p * (2 * (t p - s p) - sumN n (fun r => (t r - s r) * Wt f g r p))) = sumN n (fun r => (t r - s r) * (2 * wn n r - (wn n (f r) + wn n (g r)))) := by
    have e1 : sumN n (fun p => wn n p * (2 * (t p - s p) - sumN n (fun r => (t r - s r) * Wt f g r p))) = sumN n (fun p => (t p - s p) * (2 * wn n p)) - sumN n (fun p => sumN n (fun r => (t r - s r) * (wn n p * Wt f g r p))) := by
      rw [← sumN_sub]
      refine sumN_congr fun p _ => ?_
      rw [Int.mul_sub, ← sumN_mul]
      congr 1
      · rw [Int.mul_left_comm, Int.mul_comm (wn n p), Int.mul_left_comm]
      · exact sumN_congr fun r _ => Int.mul_left_comm _ _ _
    have e2 : sumN n (fun p => sumN n (fun r => (t r - s r) * (wn n p * Wt f g r p))) = sumN n (fun r => (t r - s r) * (wn n (f r) + wn n (g r))) := by
      rw [sumN_swap]
      refine sumN_congr fun r _ => ?_
      rw [sumN_mul]
      congr 1
      unfold Wt
      rw [← wn_sum (n := n) (f r), ← wn_sum (n := n) (g r), ← sumN_add]
      exact sumN_congr fun p _ => Int.mul_add _ _ _
    rw [e1, e2, ← sumN_sub]
    exact sumN_congr fun r _ => (Int.mul_sub _ _ _).symm
  rw [e] at w
  have low : sumN n (fun r => t r - s r) ≤ sumN n (fun r => (t r - s r) * (2 * wn n r - (wn n (f r) + wn n (g r)))) := sumN_le fun r hr => by
    have a := A.drop h4 hr
    have b := hle r hr
    have c := Int.mul_le_mul_of_nonneg_left (show (1 : Int) ≤ 2 * wn n r - (wn n (f r) + wn n (g r)) by omega) (show (0 : Int) ≤ t r - s r by omega)
    rw [Int.mul_one] at c
    exact c
  intro p hp
  have a := sumN_at (F := fun r => t r - s r) (fun r hr => by have := hle r hr; show (0 : Int) ≤ t r - s r; omega) hp
  have b := hle p hp
  have c : t p - s p ≤ sumN n (fun r => t r - s r) := a
  omega
theorem pigeon : ∀ (N : Nat) (F : Nat → Nat), (∀ k ≤ N, F k < N) → ∃ a b, a < b ∧ b ≤ N ∧ F a = F b
  | 0, F, h => absurd (h 0 (Nat.le_refl _)) (Nat.not_lt_zero _)
  | N + 1, F, h => by
    by_cases q : ∃ a, a ≤ N ∧ F a = F (N + 1)
    · obtain ⟨a, ha, e⟩ := q
      exact ⟨a, N + 1, by omega, Nat.le_refl _, e⟩
    · have nv : ∀ a ≤ N, F a ≠ F (N + 1) := fun a ha e => q ⟨a, ha, e⟩
      have hv := h (N + 1) (Nat.le_refl _)
      obtain ⟨a, b, hab, hb, e⟩ := pigeon N (fun k => if F k > F (N + 1) then F k - 1 else F k) fun k hk => by
        have h1 := h k (by omega)
        have h2 := nv k hk
        show (if F k > F (N + 1) then F k - 1 else F k) < N
        split <;> omega
      refine ⟨a, b, hab, by omega, ?_⟩
      have h1 := nv a (by omega)
      have h2 := nv b hb
      have e' : (if F a > F (N + 1) then F a - 1 else F a) = (if F b > F (N + 1) then F b - 1 else F b) := e
      split at e' <;> split at e' <;> omega
noncomputable def codeC : Nat → (Nat → Int) → Nat
  | 0, _ => 0
  | n + 1, c => codeC n c + (c n).toNat * 2 ^ n
theorem code_lt {c : Nat → Int} : ∀ n : Nat, (∀ p < n, 0 ≤ c p ∧ c p ≤ 1) → codeC n c < 2 ^ n
  | 0, _ => (by decide : (0 : Nat) < 1)
  | n + 1, h => by
    have a := code_lt n fun p hp => h p (by omega)
    have b := h n (by omega)
    have k : (c n).toNat * 2 ^ n ≤ 1 * 2 ^ n := Nat.mul_le_mul_right _ (by omega)
    rw [codeC, Nat.pow_succ]; omega
theorem code_inj {c d : Nat → Int} : ∀ n : Nat, (∀ p < n, 0 ≤ c p ∧ c p ≤ 1) → (∀ p < n, 0 ≤ d p ∧ d p ≤ 1) → codeC n c = codeC n d → ∀ p < n, c p = d p
  | 0, _, _, _ => fun p h => absurd h (Nat.not_lt_zero _)
  | n + 1, h, k, e => by
    have a := code_lt n fun p hp => h p (by omega)
    have b := code_lt n fun p hp => k p (by omega)
    have hn := h n (by omega)
    have kn := k n (by omega)
    rw [codeC, codeC] at e
    have ec : c n = 0 ∨ c n = 1 := by omega
    have ed : d n = 0 ∨ d n = 1 := by omega
    have z0 : (0 : Int).toNat * 2 ^ n = 0 := by simp
    have z1 : (1 : Int).toNat * 2 ^ n = 2 ^ n := by simp
    have en : c n = d n := by
      rcases ec with ec | ec <;> rcases ed with ed | ed <;> rw [ec, ed] at e ⊢ <;> simp only [z0, z1] at e <;> omega
    rw [en] at e
    have ih := code_inj n (fun p hp => h p (by omega)) (fun p hp => k p (by omega)) (by omega)
    intro p hp
    by_cases q : p = n
    · rw [q]; exact en
    · exact ih p (by omega)
theorem cfg_sub {a b : Int} {s t : Nat → Int} {p : Nat} (hp : p < n) : cfg n f g (b - a) (fun r => t r - s r) p = 1 + cfg n f g b t p - cfg n f g a s p := by
  have e : sumN n (fun r => (t r - s r) * Wt f g r p) = sumN n (fun r => t r * Wt f g r p) - sumN n (fun r => s r * Wt f g r p) := by
    rw [← sumN_sub]
    exact sumN_congr fun r _ => Int.sub_mul _ _ _
  unfold cfg
  rw [e, if_pos hp, if_pos hp, if_pos hp]
  dsimp only
  by_cases h0 : p = 0
  · rw [if_pos h0, if_pos h0, if_pos h0]; omega
  · rw [if_neg h0, if_neg h0, if_neg h0]; omega
/-- among 2^n + 1 quiet states two are alike -/
theorem exists_sol {S : Nat → Nat → Int} (st : ∀ k : Nat, k ≤ 2 ^ n → ∀ p < n, 0 ≤ cfg n f g (k : Int) (S k) p ∧ cfg n f g (k : Int) (S k) p ≤ 1) (mono : ∀ a b : Nat, a ≤ b → b ≤ 2 ^ n → ∀ p < n, S a p ≤ S b p) :
    ∃ (M : Nat) (t : Nat → Int), 1 ≤ M ∧ M ≤ 2 ^ n ∧ (∀ p < n, 0 ≤ t p) ∧ Solve n f g (M : Int) t := by
  obtain ⟨a, b, hab, hb, e⟩ := pigeon (2 ^ n) (fun k => codeC n (cfg n f g (k : Int) (S k))) fun k hk => code_lt n (st k hk)
  have q := code_inj n (st a (by omega)) (st b hb) e
  refine ⟨b - a, fun r => S b r - S a r, by omega, by omega, fun p hp => by have := mono a b (by omega) hb p hp; show (0 : Int) ≤ S b p - S a p; omega, fun p hp => ?_⟩
  rw [show ((b - a : Nat) : Int) = (b : Int) - (a : Int) by omega, cfg_sub hp, q p hp]
  omega
/-- a common divisor gives an earlier solution -/
theorem div_sol {M d : Int} {s t : Nat → Int} {N : Int} (hd : 0 < d) (hM : M = d * N) (hs : ∀ p < n, s p = d * t p) (h : Solve n f g M s) : Solve n f g N t := by
  intro p hp
  have a := h p hp
  unfold cfg at a ⊢
  rw [if_pos hp] at a ⊢
  have e : sumN n (fun r => s r * Wt f g r p) = d * sumN n (fun r => t r * Wt f g r p) := by
    rw [← sumN_mul]
    exact sumN_congr fun r hr => by rw [hs r hr, Int.mul_assoc]
  rw [e, hs p hp, hM] at a
  generalize sumN n (fun r => t r * Wt f g r p) = X at a ⊢
  by_cases h0 : p = 0
  · rw [if_pos h0] at a ⊢
    have k : d * (N + X - 2 * t p) = d * 0 := by
      rw [Int.mul_sub, Int.mul_add, Int.mul_left_comm, Int.mul_zero]; omega
    have := Int.eq_of_mul_eq_mul_left (by omega) k
    omega
  · rw [if_neg h0] at a ⊢
    have k : d * (X - 2 * t p) = d * 0 := by
      rw [Int.mul_sub, Int.mul_left_comm, Int.mul_zero]; omega
    have := Int.eq_of_mul_eq_mul_left (by omega) k
    omega
end Mine
namespace Mine
variable {n : Nat} {f g : Nat → Nat}
/-- the way on from room k, past itself -/
noncomputable def onw (V : Nat → Nat → Int) (k p : Nat) : Int := if p = k then 0 else V k p
noncomputable def whole (n : Nat) (V : Nat → Nat → Int) (k : Nat) : Int := sumN (n + 2) (onw V k)
noncomputable def elim (n : Nat) (V : Nat → Nat → Int) (k r p : Nat) : Int := if p = k then 0 else V r p * whole n V k + V r k * onw V k p
theorem sumN_but (m : Nat) (F : Nat → Int) {k : Nat} (hk : k < m) : sumN m (fun p => if p = k then 0 else F p) = sumN m F - F k := by
  have a := sumN_pick m F k
  rw [if_pos hk] at a
  rw [← a, ← sumN_sub]
  refine sumN_congr fun p _ => ?_
  by_cases h : p = k
  · rw [if_pos h, if_pos h.symm]; omega
  · rw [if_neg h, if_neg fun e => h e.symm]; omega
theorem whole_eq {V : Nat → Nat → Int} {k : Nat} (hk : k < n + 2) : whole n V k = sumN (n + 2) (V k) - V k k := sumN_but (n + 2) (V k) hk
/-- the rooms h .. n-1 are gone -/
structure Gone (n : Nat) (f : Nat → Nat) (M : Int) (s : Nat → Int) (D : Nat → Int) (h : Nat) (V : Nat → Nat → Int) (Z : Int) : Prop where
  pos : 0 < Z
  row : ∀ r < h, sumN (n + 2) (V r) = 2 * Z
  room : ∀ p < h, sumN h (fun r => s r * V r p) + (if p = 0 then Z * M else 0) = s p * (2 * Z)
  door : ∀ p, n ≤ p → p < n + 2 → sumN h (fun r => s r * V r p) = Z * D p
  nn : ∀ r < h, ∀ p < n + 2, 0 ≤ V r p
  live : ∀ r < h, f r < h → 0 < V r (f r)
  out : ∀ r < h, h ≤ f r → 0 < V r n + V r (n + 1)
theorem Gone.step {M : Int} {s D : Nat → Int} {k : Nat} {V : Nat → Nat → Int} {Z : Int} (G : Gone n f M s D (k + 1) V Z) (hk : 0 < k) (hkn : k < n) (hf : k < f k) : Gone n f M s D k (elim n V k) (Z * whole n V k) := by
  have hw : whole n V k = 2 * Z - V k k := by rw [whole_eq (by omega), G.row k (by omega)]
  have on : ∀ p < n + 2, 0 ≤ onw V k p := fun p hp => by
    unfold onw; split
    · exact Int.le_refl _
    · exact G.nn k (by omega) p hp
  have hwp : 0 < whole n V k := by
    have a := G.out k (by omega) hf
    have s1 : onw V k n + onw V k (n + 1) ≤ whole n V k := by
      have e : whole n V k = sumN n (onw V k) + onw V k n + onw V k (n + 1) := rfl
      have z : sumN n (fun _ => 0) ≤ sumN n (onw V k) := sumN_le fun p hp => on p (by omega)
      rw [sumN_zero] at z
      omega
    have e1 : onw V k n = V k n := if_neg (by omega)
    have e2 : onw V k (n + 1) = V k (n + 1) := if_neg (by omega)
    omega
  have into : sumN k (fun r => s r * V r k) = s k * whole n V k := by
    have a := G.room k (by omega)
    rw [if_neg (by omega)] at a
    have e : sumN (k + 1) (fun r => s r * V r k) = sumN k (fun r => s r * V r k) + s k * V k k := rfl
    rw [hw, Int.mul_sub]
    omega
  have flow : ∀ p, p ≠ k → sumN k (fun r => s r * elim n V k r p) = whole n V k * sumN (k + 1) (fun r => s r * V r p) := fun p hp => by
    have e1 : sumN k (fun r => s r * elim n V k r p) = sumN k (fun r => whole n V k * (s r * V r p)) + sumN k (fun r => V k p * (s r * V r k)) := by
      rw [← sumN_add]
      refine sumN_congr fun r _ => ?_
      unfold elim onw
      rw [if_neg hp, if_neg hp, Int.mul_add]
      congr 1
      · rw [Int.mul_comm (whole n V k), Int.mul_assoc]
      · rw [Int.mul_comm (V k p), Int.mul_assoc]
    rw [e1, sumN_mul, sumN_mul, into]
    show _ = whole n V k * (sumN k (fun r => s r * V r p) + s k * V k p)
    grind
  refine ⟨Int.mul_pos G.pos hwp, fun r hr => ?_, fun p hp => ?_, fun p h1 h2 => ?_, fun r hr p hp => ?_, fun r hr h => ?_, fun r hr h => ?_⟩
  · have e : sumN (n + 2) (elim n V k r) = sumN (n + 2) (fun p => (if p = k then 0 else V r p) * whole n V k) + sumN (n + 2) (fun p => V r k * onw V k p) := by
      rw [← sumN_add]
      refine sumN_congr fun p _ => ?_
      unfold elim onw
      by_cases h : p = k
      · simp [h]
      · simp [h]
    have e2 : sumN (n + 2) (fun p => (if p = k then 0 else V r p) * whole n V k) = whole n V k * (sumN (n + 2) (V r) - V r k) := by
      rw [← sumN_but (n + 2) (V r) (by omega), ← sumN_mul]
      exact sumN_congr fun p _ => Int.mul_comm _ _
    rw [e, e2, sumN_mul, G.row r (by omega)]
    show whole n V k * (2 * Z - V r k) + V r k * whole n V k = 2 * (Z * whole n V k)
    grind
  · rw [flow p (by omega)]
    have a := G.room p (by omega)
    by_cases h0 : p = 0
    · rw [if_pos h0] at a ⊢; grind
    · rw [if_neg h0] at a ⊢; grind
  · rw [flow p (by omega), G.door p h1 h2]; grind
  · unfold elim
    split
    · exact Int.le_refl _
    · exact Int.add_nonneg (Int.mul_nonneg (G.nn r (by omega) p hp) (Int.le_of_lt hwp)) (Int.mul_nonneg (G.nn r (by omega) k (by omega)) (on p hp))
  · have a := G.live r (by omega) (by omega)
    unfold elim
    rw [if_neg (by omega)]
    have b := Int.mul_pos a hwp
    have c := Int.mul_nonneg (G.nn r (by omega) k (by omega)) (on (f r) (by omega))
    omega
  · have on1 : onw V k n = V k n := if_neg (by omega)
    have on2 : onw V k (n + 1) = V k (n + 1) := if_neg (by omega)
    have e1 : elim n V k r n = V r n * whole n V k + V r k * V k n := by unfold elim; rw [if_neg (by omega), on1]
    have e2 : elim n V k r (n + 1) = V r (n + 1) * whole n V k + V r k * V k (n + 1) := by unfold elim; rw [if_neg (by omega), on2]
    have e : elim n V k r n + elim n V k r (n + 1) = (V r n + V r (n + 1)) * whole n V k + V r k * (V k n + V k (n + 1)) := by
      rw [e1, e2, Int.add_mul, Int.mul_add]; omega
    rw [e]
    have n1 := G.nn r (by omega) n (by omega)
    have n2 := G.nn r (by omega) (n + 1) (by omega)
    have n3 := G.nn k (by omega) n (by omega)
    have n4 := G.nn k (by omega) (n + 1) (by omega)
    have n5 := G.nn r (by omega) k (by omega)
    by_cases q : k = f r
    · have a := G.live r (by omega) (by omega)
      rw [← q] at a
      have b := Int.mul_pos a (G.out k (by omega) hf)
      have c := Int.mul_nonneg (show (0 : Int) ≤ V r n + V r (n + 1) by omega) (Int.le_of_lt hwp)
      omega
    · have b := Int.mul_pos (G.out r (by omega) (by omega)) hwp
      have c := Int.mul_nonneg n5 (show (0 : Int) ≤ V k n + V k (n + 1) by omega)
      omega
theorem Gone.start (hn : 0 < n) (A : Arr n f g) {M : Int} {s : Nat → Int} (h : Solve n f g M s) : Gone n f M s (cfg n f g M s) n (Wt f g) 1 := by
  refine ⟨by decide, fun r hr => ?_, fun p hp => ?_, fun p h1 h2 => ?_, fun r _ p _ => Wt_nn f g r p, fun r hr _ => ?_, fun r hr h => ?_⟩
  · have e : sumN (n + 2) (Wt f g r) = sumN (n + 2) (fun p => ind (f r) p + ind (g r) p) := rfl
    rw [e, sumN_add, one_sum, one_sum, if_pos (A.f1 r hr).2, if_pos (A.g1 r hr).2]; rfl
  · have a := h p hp
    unfold cfg at a
    rw [if_pos hp] at a
    by_cases h0 : p = 0
    · rw [if_pos h0] at a ⊢; omega
    · rw [if_neg h0] at a ⊢; omega
  · unfold cfg
    rw [if_neg (by omega)]
    rw [if_neg (by omega)]; omega
  · have := ind_nn (g r) (f r)
    unfold Wt
    rw [show ind (f r) (f r) = 1 from if_pos rfl]; omega
  · have a := (A.f1 r hr).2
    have b1 := ind_nn (g r) n
    have b2 := ind_nn (g r) (n + 1)
    unfold Wt
    by_cases q : f r = n
    · rw [q, show ind n n = 1 from if_pos rfl, show ind n (n + 1) = 0 from if_neg (by omega)]; omega
    · have q' : f r = n + 1 := by omega
      rw [q', show ind (n + 1) (n + 1) = 1 from if_pos rfl, show ind (n + 1) n = 0 from if_neg (by omega)]; omega
end Mine
namespace Mine
variable {n : Nat} {f g : Nat → Nat}
theorem door_law {M : Int} {s D : Nat → Int} {V : Nat → Nat → Int} {Z : Int} (G : Gone n f M s D 1 V Z) (hM : 0 < M) (hD : D n + D (n + 1) = M) (left : Int) : left * V 0 (n + 1) = (M - left) * V 0 n ↔ left = D n := by
  have e1 : s 0 * V 0 n = Z * D n := by
    have a := G.door n (by omega) (by omega)
    simpa [sumN] using a
  have e2 : s 0 * V 0 (n + 1) = Z * D (n + 1) := by
    have a := G.door (n + 1) (by omega) (by omega)
    simpa [sumN] using a
  have hZ := G.pos
  have hs : s 0 ≠ 0 := fun q => by
    rw [q, Int.zero_mul] at e1 e2
    have a : Z * M = 0 := by rw [← hD, Int.mul_add]; omega
    have b := Int.mul_pos hZ hM
    omega
  have hZM : Z * M ≠ 0 := by have b := Int.mul_pos hZ hM; omega
  constructor
  · intro h
    have a : (Z * M) * left = (Z * M) * D n := by
      have q := congrArg (fun y => s 0 * y) h
      grind
    exact Int.eq_of_mul_eq_mul_left hZM a
  · intro h
    subst h
    have a : s 0 * (D n * V 0 (n + 1)) = s 0 * ((M - D n) * V 0 n) := by grind
    exact Int.eq_of_mul_eq_mul_left hs a
/-- no common divisor: the first solution is not a multiple -/
theorem gcd_one {M : Int} {s : Nat → Int} (h : Solve n f g M s) (hM : 1 ≤ M) (s0 : ∀ p < n, 0 ≤ s p) (no : ∀ (M' : Int) (t : Nat → Int), 1 ≤ M' → M' < M → (∀ p < n, 0 ≤ t p) → ¬ Solve n f g M' t) {d : Int} (hd : 1 ≤ d) (d1 : d ∣ M) (d2 : ∀ p < n, d ∣ s p) : d = 1 := by
  by_cases q : d = 1
  · exact q
  obtain ⟨N, hN⟩ := d1
  have ex : ∀ p, ∃ t, p < n → s p = d * t := fun p => by
    by_cases hp : p < n
    · obtain ⟨t, ht⟩ := d2 p hp
      exact ⟨t, fun _ => ht⟩
    · exact ⟨0, fun h => absurd h hp⟩
  obtain ⟨t, ht⟩ := Classical.axiomOfChoice ex
  have hNp : 1 ≤ N := by
    have a : 0 < d * N := by omega
    rcases Int.lt_or_le N 1 with b | b
    · have c := Int.mul_nonpos_of_nonneg_of_nonpos (show (0 : Int) ≤ d by omega) (show N ≤ 0 by omega)
      omega
    · exact b
  have hlt : N < M := by
    have : 2 * N ≤ d * N := Int.mul_le_mul_of_nonneg_right (by omega) (by omega)
    omega
  refine absurd (div_sol (by omega) hN ht h) (no N t hNp hlt fun p hp => ?_)
  have a := s0 p hp
  rw [ht p hp] at a
  exact Int.le_of_mul_le_mul_left (a := d) (by rw [Int.mul_zero]; exact a) (by omega)
end Mine
namespace Mine
structure BoolP (r : Bool) (b : Heap) (L : Addr) (m : Str → Option Value) (news : List (Addr × Obj)) (s : Shared) (v : Bool) (s' : Shared) : Prop where
  ex : ∃ h' tk', v = r ∧ s' = { s with heap := h', toks := tk' } ∧ Fr b L h' m ∧ News b L h' news
theorem BoolP.intro {r v : Bool} {b : Heap} {L : Addr} {m : Str → Option Value} {news : List (Addr × Obj)} {s : Shared} {h' : Heap} {tk : Nat} (hv : v = r) (F : Fr b L h' m) (N : News b L h' news) : BoolP r b L m news s v { s with heap := h', toks := tk } := ⟨⟨h', tk, hv, rfl, F, N⟩⟩
section
variable {prog : Program} {w : World} {A : Around} {E : Value → Shared → Prop}
theorem take_one {β : Type} {xs : List β} {i : Nat} {b : β} (h : xs[i]? = some b) : xs.take (i + 1) = xs.take i ++ [b] := by rw [List.take_add_one, h]; rfl
/-- a list comprehension of one clause whose element leaves the ledger as it is -/
theorem lc_rel {β : Type} {env : Env} {scope : Scope} {cl : List (Str × Addr)} {elt iter : Expr} {x : Str} {px pos : Pos} {Q : Value → Shared → Prop} {xv : Value} {s₁ : Shared} {n : Nat} {P : Nat → Value → Prop} {B : List Addr} {h₀ : Heap} {L : Addr} {m : Str → Option Value} {news : List (Addr × Obj)}
    (R : β → Value → Prop) (xs : List β) (hn : xs.length = n) (hsz : n ≤ 1000) (hcell : ∀ y ∈ scope.names, y.2 ≠ .cell) (hkind : scope.kind = .function) (hx : scope.names.lookup x = some .local)
    (S : SrcZ prog w A n P B xv s₁) (F : Fr h₀ L s₁.heap m) (N : News h₀ L s₁.heap news) (hBL : L ∉ B) (hBD : ∀ a ∈ B, ∃ o, (a, o) ∈ news ∨ h₀.get? a = some o)
    (turn : ∀ i v b m₂ C oC rest h tk (E' : Value → Shared → Prop), P i v → xs[i]? = some b → m₂ x = some v → LCg.NsObj oC m₂ → (C, oC) ∈ rest → (∀ p ∈ news, p ∈ rest) → Fr h₀ L h m → News h₀ L h rest →
      wpAny (model prog w) A (eval elt (compEnvC scope cl C env)) (ValP (R b) h₀ L m rest { s₁ with heap := h, toks := tk }) E' { s₁ with heap := h, toks := tk })
    (done : ∀ D vs k h tk, Rels R xs vs → (∀ p ∈ news, p.1 < D) → Fr h₀ L h m → News h₀ L h ((D, W.listOf (List.toArray vs) k) :: news) → Q (.ref D) { s₁ with heap := h, toks := tk }) :
    OutZ prog w A env scope cl (.ListComp elt [⟨.Name x px, iter, [], 0⟩] scope pos) (newList []) (compPost (model prog w) A E none Q) E xv s₁ := by
  refine outZ_intro (x := x) (fun D i mC nw => ∃ ys k, nw = (D, W.listOf (List.toArray ys) k) :: news ∧ Rels R (xs.take i) ys) new_list rfl (by intro I D C; exact lt_list1) (by intro I D C R s hs h; exact start_Z rfl rfl rfl rfl hs h) hcell hkind hx S F N hBL (fun D => ⟨[], 0, rfl, trivial⟩) ?_ ?_
  · clear F N
    rintro D C I i v m₁ oC own news₁ h tk E' hi hP ⟨ys, k, rfl, hys⟩ hN hID off hown _ hns F N
    obtain ⟨b, hb⟩ : ∃ b, xs[i]? = some b := ⟨_, List.getElem?_eq_getElem (hn ▸ hi)⟩
    refine emitL_Z ?_
    refine wpAny_mono (turn i v b _ C oC (own ++ (C, oC) :: (D, W.listOf (List.toArray ys) k) :: news) h tk E' hP hb (if_pos rfl) hns (by simp) (fun p hp => by simp [hp]) F N) (fun y s' hq => ?_) fun _ _ e => e
    obtain ⟨h', tk', hR, rfl, F', N'⟩ := hq.ex
    have N5 : News h₀ L h' ((own ++ (C, oC) :: news) ++ [(D, W.listOf (List.toArray ys) k)]) := fun p hp => N' p (by simp at hp ⊢; rcases hp with h | h | h | h <;> simp [h])
    have hyl : ys.length = (xs.take i).length := by
      have aux : ∀ {xs : List β} {vs : List Value}, Rels R xs vs → vs.length = xs.length := by
        intro xs
        induction xs with
        | nil => intro vs h; cases vs with
          | nil => rfl
          | cons a r => exact h.elim
        | cons a r ih => intro vs h; cases vs with
          | nil => exact h.elim
          | cons a' r' => simp [ih h.2]
      exact aux hys
    refine append_use F' N5 (fun p hp => ?_) (by rw [hyl, List.length_take]; omega) ?_
    · rcases List.mem_append.mp hp with hp | hp
      · rcases hown p hp with e | e
        · rw [e]; exact Nat.ne_of_lt hID.1
        · obtain ⟨o, ho⟩ := hBD _ e
          rcases ho with ho | ho
          · exact Nat.ne_of_lt (hN _ ho).1
          · intro q
            have z := (N (D, W.listOf (List.toArray ys) k) (by simp)).2.2
            rw [show (D, W.listOf (List.toArray ys) k).1 = p.1 from q.symm, ho] at z
            cases z
      · rcases List.mem_cons.mp hp with rfl | hp
        · exact Nat.ne_of_gt hID.2
        · exact Nat.ne_of_lt (hN p hp).1
    intro h8 F8 N8
    refine ⟨h8, _, _, oC, (D, W.listOf (List.toArray (ys ++ [y])) (k + 1)) :: news, rfl, F8, hns, fun p hp => N8 p (by simp at hp ⊢; rcases hp with h | h | h | h <;> simp [h]), fun p hp => ?_, ys ++ [y], k + 1, rfl, ?_⟩
    · rcases List.mem_cons.mp hp with rfl | hp
      · exact off (D, W.listOf (List.toArray ys) k) (.head _)
      · exact off p (.tail _ hp)
    · rw [take_one hb]; exact hys.snoc hR
  · clear F N
    rintro D C m₁ news₁ h tk ⟨ys, k, rfl, hys⟩ hND hCN hCL hC₀ F hn' N
    refine rr_eval hCN hCL hC₀ F hn' N ?_
    intro h' F' N'
    rw [← hn, List.take_length] at hys
    exact done D ys k h' tk hys hND F' N'
theorem rels_len {β : Type} {R : β → Value → Prop} : ∀ {xs : List β} {vs : List Value}, Rels R xs vs → vs.length = xs.length
  | [], [], _ => rfl
  | _ :: _, _ :: _, h => by simp [rels_len h.2]
  | [], _ :: _, h => (show False from h).elim
  | _ :: _, [], h => (show False from h).elim
/-- the same with a test -/
theorem lc_test {β : Type} {env : Env} {scope : Scope} {cl : List (Str × Addr)} {elt iter test : Expr} {x : Str} {px pos : Pos} {Q : Value → Shared → Prop} {xv : Value} {s₁ : Shared} {n : Nat} {P : Nat → Value → Prop} {B : List Addr} {h₀ : Heap} {L : Addr} {m : Str → Option Value} {news : List (Addr × Obj)}
    (R : β → Value → Prop) (f : β → Bool) (xs : List β) (hn : xs.length = n) (hsz : n ≤ 1000) (hcell : ∀ y ∈ scope.names, y.2 ≠ .cell) (hkind : scope.kind = .function) (hx : scope.names.lookup x = some .local)
    (S : SrcZ prog w A n P B xv s₁) (F : Fr h₀ L s₁.heap m) (N : News h₀ L s₁.heap news) (hBL : L ∉ B) (hBD : ∀ a ∈ B, ∃ o, (a, o) ∈ news ∨ h₀.get? a = some o)
    (tst : ∀ i v b m₂ C oC rest h tk (E' : Value → Shared → Prop), P i v → xs[i]? = some b → m₂ x = some v → LCg.NsObj oC m₂ → (C, oC) ∈ rest → (∀ p ∈ news, p ∈ rest) → Fr h₀ L h m → News h₀ L h rest →
      wpAny (model prog w) A (isTrue test (compEnvC scope cl C env) (eval test (compEnvC scope cl C env))) (BoolP (f b) h₀ L m rest { s₁ with heap := h, toks := tk }) E' { s₁ with heap := h, toks := tk })
    (turn : ∀ i v b m₂ C oC rest h tk (E' : Value → Shared → Prop), P i v → xs[i]? = some b → m₂ x = some v → LCg.NsObj oC m₂ → (C, oC) ∈ rest → (∀ p ∈ news, p ∈ rest) → Fr h₀ L h m → News h₀ L h rest →
      wpAny (model prog w) A (eval elt (compEnvC scope cl C env)) (ValP (R b) h₀ L m rest { s₁ with heap := h, toks := tk }) E' { s₁ with heap := h, toks := tk })
    (done : ∀ D vs k h tk, Rels R (xs.filter f) vs → (∀ p ∈ news, p.1 < D) → Fr h₀ L h m → News h₀ L h ((D, W.listOf (List.toArray vs) k) :: news) → Q (.ref D) { s₁ with heap := h, toks := tk }) :
    OutZ prog w A env scope cl (.ListComp elt [⟨.Name x px, iter, [test], 0⟩] scope pos) (newList []) (compPost (model prog w) A E none Q) E xv s₁ := by
  refine outZ_intro (x := x) (fun D i mC nw => ∃ ys k, nw = (D, W.listOf (List.toArray ys) k) :: news ∧ Rels R ((xs.take i).filter f) ys) new_list rfl (by intro I D C; exact lt_listT) (by intro I D C R s hs h; exact start_Z rfl rfl rfl rfl hs h) hcell hkind hx S F N hBL (fun D => ⟨[], 0, rfl, trivial⟩) ?_ ?_
  · clear F N
    rintro D C I i v m₁ oC own news₁ h tk E' hi hP ⟨ys, k, rfl, hys⟩ hN hID off hown _ hns F N
    obtain ⟨b, hb⟩ : ∃ b, xs[i]? = some b := ⟨_, List.getElem?_eq_getElem (hn ▸ hi)⟩
    refine condT_Z ?_
    refine wpAny_mono (tst i v b _ C oC (own ++ (C, oC) :: (D, W.listOf (List.toArray ys) k) :: news) h tk E' hP hb (if_pos rfl) hns (by simp) (fun p hp => by simp [hp]) F N) (fun ok s' hq => ?_) fun _ _ e => e
    obtain ⟨h2, tk2, rfl, rfl, F2, N2⟩ := hq.ex
    by_cases hf : f b = true
    · rw [if_pos hf]
      refine emitL_Z ?_
      refine wpAny_mono (turn i v b _ C oC (own ++ (C, oC) :: (D, W.listOf (List.toArray ys) k) :: news) h2 tk2 E' hP hb (if_pos rfl) hns (by simp) (fun p hp => by simp [hp]) F2 N2) (fun y s' hq => ?_) fun _ _ e => e
      obtain ⟨h', tk', hR, rfl, F', N'⟩ := hq.ex
      have N5 : News h₀ L h' ((own ++ (C, oC) :: news) ++ [(D, W.listOf (List.toArray ys) k)]) := fun p hp => N' p (by simp at hp ⊢; rcases hp with h | h | h | h <;> simp [h])
      refine append_use F' N5 (fun p hp => ?_) (by
        have := List.length_filter_le f (xs.take i)
        rw [rels_len hys]
        rw [List.length_take] at this; omega) ?_
      · rcases List.mem_append.mp hp with hp | hp
        · rcases hown p hp with e | e
          · rw [e]; exact Nat.ne_of_lt hID.1
          · obtain ⟨o, ho⟩ := hBD _ e
            rcases ho with ho | ho
            · exact Nat.ne_of_lt (hN _ ho).1
            · intro q
              have z := (N (D, W.listOf (List.toArray ys) k) (by simp)).2.2
              rw [show (D, W.listOf (List.toArray ys) k).1 = p.1 from q.symm, ho] at z
              cases z
        · rcases List.mem_cons.mp hp with rfl | hp
          · exact Nat.ne_of_gt hID.2
          · exact Nat.ne_of_lt (hN p hp).1
      intro h8 F8 N8
      refine ⟨h8, _, _, oC, (D, W.listOf (List.toArray (ys ++ [y])) (k + 1)) :: news, rfl, F8, hns, fun p hp => N8 p (by simp at hp ⊢; rcases hp with h | h | h | h <;> simp [h]), fun p hp => ?_, ys ++ [y], k + 1, rfl, ?_⟩
      · rcases List.mem_cons.mp hp with rfl | hp
        · exact off (D, W.listOf (List.toArray ys) k) (.head _)
        · exact off p (.tail _ hp)
      · rw [take_one hb, List.filter_append, List.filter_cons, if_pos hf]; exact hys.snoc hR
    · rw [if_neg hf]
      refine ⟨h2, _, _, oC, (D, W.listOf (List.toArray ys) k) :: news, rfl, F2, hns, N2, off, ys, k, rfl, ?_⟩
      rw [take_one hb, List.filter_append, List.filter_cons, if_neg hf]; simpa using hys
  · clear F N
    rintro D C m₁ news₁ h tk ⟨ys, k, rfl, hys⟩ hND hCN hCL hC₀ F hn' N
    refine rr_eval hCN hCL hC₀ F hn' N ?_
    intro h' F' N'
    rw [← hn, List.take_length] at hys
    exact done D ys k h' tk hys hND F' N'
/-! lists of texts compared -/
theorem reads_strs {h : Heap} : ∀ {xs : List Str} {vs : List Value}, Rels IsStr xs vs → ReadsAll h vs (xs.map PyData.str) []
  | [], [], _ => .nil
  | x :: xs, v :: vs, q => by
    obtain ⟨⟨t, rfl⟩, r⟩ := q
    have := ReadsAll.cons (Reads.str (h := h) x t) (reads_strs (h := h) r)
    simpa using this
  | [], _ :: _, h => (show False from h).elim
  | _ :: _, [], h => (show False from h).elim
theorem lay_strs : ∀ {xs : List Str}, (∀ x ∈ xs, PySem.PyData.strOk x = true) → PyData.canLayAll0 (xs.map PyData.str) = true ∧ PyData.depthAll (xs.map PyData.str) = 0
  | [], _ => ⟨by simp [PyData.canLayAll0], by simp [PyData.depthAll]⟩
  | x :: r, h => by
    obtain ⟨a, b⟩ := lay_strs fun y hy => h y (.tail _ hy)
    simp only [List.map_cons, PyData.canLayAll0, PyData.canLay0, PyData.depthAll, PyData.depth, a, b, h x (.head _)]
    simp
theorem shaped_strs {xs : List Str} (h : ∀ x ∈ xs, PySem.PyData.strOk x = true) : PySem.SeqAt.shaped (.list (xs.map PyData.str)) = true := by
  obtain ⟨a, b⟩ := lay_strs h
  show (PyData.canLay0 (.list (xs.map PyData.str)) && decide (PyData.depth (.list (xs.map PyData.str)) ≤ 64)) = true
  simp only [PyData.canLay0, PyData.depth, a, b]
  decide
end
end Mine
namespace Mine
section
variable {w : World} {mean : ExcName → Option Value} {mg mb : Str → Option Value} {h₀ : Heap}
noncomputable def siz : Bool → Nat | false => 3 | true => 4
noncomputable def rms2 : Bool → Str | false => Str.ofString "jJk" | true => Str.ofString "jJkK"
noncomputable def lo (i : Nat) : Str := low6.getD i (Str.ofString "")
noncomputable def nm (i : Nat) (odd : Bool) : Str := if odd then Txt.lower (qs i) else qs i
theorem nm_fact : ∀ i < 6, ∀ b : Bool, Txt.lower (nm i b) = lo i ∧ (nm i b).length ≤ 20 ∧ lo i ∈ names10 ∧ nm i b ∈ names10 ∧ Txt.lower (lo i) = lo i := by decide +kernel
theorem qs_fact : ∀ i < 6, Txt.lower (qs i) = lo i ∧ (qs i).length ≤ 3 ∧ qs i ∈ names10 := by decide +kernel
theorem lo_inj0 : ∀ i < 6, ∀ k < 6, ¬ lo i = lo k ∨ i = k := by decide +kernel
theorem lo_inj {i k : Nat} (hi : i < 6) (hk : k < 6) (h : lo i = lo k) : i = k := (lo_inj0 i hi k hk).resolve_left fun q => q h
theorem nm_odd {turn : Int} (h : Int.fmod turn 2 ≠ 0) (i : Nat) : nm i (decide (turn % 2 = 1)) = Txt.lower (qs i) := by
  rw [Int.fmod_eq_emod_of_nonneg _ (by decide)] at h
  unfold nm; rw [decide_eq_true (by omega)]; rfl
theorem nm_even {turn : Int} (h : Int.fmod turn 2 = 0) (i : Nat) : nm i (decide (turn % 2 = 1)) = qs i := by
  rw [Int.fmod_eq_emod_of_nonneg _ (by decide)] at h
  unfold nm; rw [decide_eq_false (by omega)]; rfl
theorem letter_len : ∀ i < 6, (letter i).length ≤ 1 := by decide +kernel
theorem letter_ne : ∀ i < 6, ∀ k < 6, (letter i == letter k) = decide (i = k) := by decide +kernel
theorem letter_inj {i k : Nat} (hi : i < 6) (hk : k < 6) (h : letter i = letter k) : i = k := by
  have := letter_ne i hi k hk
  rw [h] at this
  simpa using this.symm
theorem siz_le (z : Bool) : siz z ≤ 4 := by cases z <;> decide
theorem siz_ge (z : Bool) : 3 ≤ siz z := by cases z <;> decide
theorem rms_fact : ∀ z : Bool, (rms2 z).cps.size = siz z ∧ (rms2 z).cps.all (· < 128) = true ∧ (rms2 z).length = siz z := by decide +kernel
theorem rms_item0 : ∀ z : Bool, ∀ i < siz z, (rms2 z).cps[i]?.map (fun c => (⟨#[c]⟩ : Str)) = some (letter i) := by decide +kernel
theorem rms_item {z : Bool} {i c : Nat} (h : (rms2 z).cps[i]? = some c) : i < siz z ∧ (⟨#[c]⟩ : Str) = letter i := by
  have hi : i < siz z := by
    have := (Array.getElem?_eq_some_iff.mp h).1
    rwa [(rms_fact z).1] at this
  have q := rms_item0 z i hi
  rw [h] at q
  exact ⟨hi, Option.some.inj q⟩
/-- the table: one header a room with c chips, one header a chip in a door -/
structure Wf2 (n : Nat) (kvs : List (Str × Str)) (c : Nat → Nat) : Prop where
  hit : ∀ i < n, ∃ k, kvs.filter (fun kv => decide (Txt.lower kv.1 = lo i)) = [(k, vstr (c i))]
  door : ∀ d, 4 ≤ d → d < 6 → (kvs.filter (fun kv => decide (Txt.lower kv.1 = lo d))).map (·.2) = List.replicate (c d) (vstr 1)
  len : kvs.length = n + c 4 + c 5
  klen : ∀ kv ∈ kvs, kv.1.length ≤ 20
theorem Wf2.klenR {n : Nat} {rows : List Row} {c : Nat → Nat} (W : Wf2 n (kvsOf rows) c) : ∀ r ∈ rows, r.k.length ≤ 20 := fun r h => W.klen (r.k, r.v) (List.mem_map.mpr ⟨r, h, rfl⟩)
theorem Wf2.lenR {n : Nat} {rows : List Row} {c : Nat → Nat} (W : Wf2 n (kvsOf rows) c) : rows.length = n + c 4 + c 5 := by rw [← W.len, kvsOf, List.length_map]
theorem find_filter {kvs : List (Str × Str)} {p : Str × Str → Bool} : kvs.find? p = (kvs.filter p).head? := by
  induction kvs with
  | nil => rfl
  | cons a r ih => 
    rw [List.find?_cons, List.filter_cons]
    cases p a with
    | true => rfl
    | false => exact ih
theorem filter_ne {kvs : List (Str × Str)} {y z : Str} (h : y ≠ z) : (kvs.filter (fun kv => decide (Txt.lower kv.1 ≠ y))).filter (fun kv => decide (Txt.lower kv.1 = z)) = kvs.filter (fun kv => decide (Txt.lower kv.1 = z)) := by
  rw [List.filter_filter]
  refine List.filter_congr fun kv _ => ?_
  by_cases e : Txt.lower kv.1 = z
  · have : Txt.lower kv.1 ≠ y := fun q => h (q.symm.trans e)
    simp [e, Ne.symm h]
  · simp [e]
theorem filter_len {kvs : List (Str × Str)} {y : Str} : (kvs.filter (fun kv => decide (Txt.lower kv.1 ≠ y))).length + (kvs.filter (fun kv => decide (Txt.lower kv.1 = y))).length = kvs.length := by
  induction kvs with
  | nil => rfl
  | cons a r ih =>
    rw [List.filter_cons, List.filter_cons]
    by_cases e : Txt.lower a.1 = y
    · simp only [e, ne_eq, not_true, decide_false, decide_true, if_true, Bool.false_eq_true, if_false, List.length_cons]; simp only [ne_eq] at ih; omega
    · simp only [e, ne_eq, not_false_eq_true, decide_true, decide_false, if_true, Bool.false_eq_true, if_false, List.length_cons]; simp only [ne_eq] at ih; omega
noncomputable def put1 (c : Nat → Nat) (i x : Nat) : Nat → Nat := fun k => if k = i then x else c k
theorem put1_eq (c : Nat → Nat) (i x : Nat) : put1 c i x i = x := if_pos rfl
theorem put1_ne {c : Nat → Nat} {i x k : Nat} (h : k ≠ i) : put1 c i x k = c k := if_neg h
theorem wf2_set {n : Nat} {rows rows' : List Row} {c : Nat → Nat} (W : Wf2 n (kvsOf rows) c) (hn : n ≤ 4) {i : Nat} (hi : i < n) {y : Str} (hx : Txt.lower y = lo i) (hxl : y.length ≤ 20) {x : Nat} {r : Row} (hk : r.k = y) (hv : r.v = vstr x)
    (e : rows' = (rows.filter fun r => decide (Txt.lower r.k ≠ Txt.lower y)) ++ [r]) : Wf2 n (kvsOf rows') (put1 c i x) ∧ rows'.length = rows.length := by
  have hkv : kvsOf rows' = (kvsOf rows).filter (fun kv => decide (Txt.lower kv.1 ≠ lo i)) ++ [(y, vstr x)] := by
    rw [e, kvsOf, List.map_append, kvsOf, List.filter_map, hx]
    rw [show [r].map (fun r => (r.k, r.v)) = [(y, vstr x)] by simp [hk, hv]]
    rfl
  obtain ⟨k0, h0⟩ := W.hit i hi
  have hl := filter_len (kvs := kvsOf rows) (y := lo i)
  rw [h0] at hl
  have hlen : rows'.length = rows.length := by
    have : (kvsOf rows').length = (kvsOf rows).length := by rw [hkv, List.length_append]; simpa using hl
    simpa [kvsOf] using this
  refine ⟨⟨fun j hj => ?_, fun d h4 h6 => ?_, ?_, fun kv h => ?_⟩, hlen⟩
  · rw [hkv, List.filter_append]
    by_cases q : j = i
    · subst q
      refine ⟨y, ?_⟩
      rw [List.filter_filter, List.filter_cons, decide_eq_true hx]
      have : (kvsOf rows).filter (fun kv => decide (Txt.lower kv.1 = lo j) && decide (Txt.lower kv.1 ≠ lo j)) = [] := by
        rw [List.filter_eq_nil_iff]; intro kv _; by_cases q : Txt.lower kv.1 = lo j <;> simp [q]
      rw [this, put1_eq]; rfl
    · obtain ⟨k, h⟩ := W.hit j hj
      have q' : lo i ≠ lo j := fun e => q (lo_inj (by omega) (by omega) e).symm
      refine ⟨k, ?_⟩
      rw [filter_ne q', h, List.filter_cons, decide_eq_false (fun e => q' (hx.symm.trans e)), put1_ne q]; rfl
  · have q' : lo i ≠ lo d := fun e => by have := lo_inj (by omega) (by omega) e; omega
    rw [hkv, List.filter_append, filter_ne q', List.map_append, W.door d h4 h6, List.filter_cons, decide_eq_false (fun e => q' (hx.symm.trans e)), put1_ne (by omega)]; simp
  · rw [show (kvsOf rows').length = rows'.length by simp [kvsOf], hlen, put1_ne (by omega), put1_ne (by omega), ← W.len]; simp [kvsOf]
  · rw [hkv] at h
    rcases List.mem_append.mp h with h | h
    · exact W.klen kv (List.mem_filter.mp h).1
    · rw [List.mem_singleton.mp h]; exact hxl
theorem wf2_add {n : Nat} {rows : List Row} {c : Nat → Nat} (W : Wf2 n (kvsOf rows) c) (hn : n ≤ 4) {d : Nat} (h4 : 4 ≤ d) (h6 : d < 6) {y : Str} (hx : Txt.lower y = lo d) (hxl : y.length ≤ 20) {r : Row} (hk : r.k = y) (hv : r.v = vstr 1) : Wf2 n (kvsOf (rows ++ [r])) (put1 c d (c d + 1)) := by
  have hkv : kvsOf (rows ++ [r]) = kvsOf rows ++ [(y, vstr 1)] := by
    rw [kvsOf, List.map_append, ← kvsOf, show [r].map (fun r => (r.k, r.v)) = [(y, vstr 1)] by simp [hk, hv]]
  refine ⟨fun j hj => ?_, fun d' h4' h6' => ?_, ?_, fun kv h => ?_⟩
  · obtain ⟨k, h⟩ := W.hit j hj
    have q' : lo d ≠ lo j := fun e => by have := lo_inj (by omega) (by omega) e; omega
    refine ⟨k, ?_⟩
    rw [hkv, List.filter_append, h, List.filter_cons, decide_eq_false (fun e => q' (hx.symm.trans e)), put1_ne (by omega)]; rfl
  · rw [hkv, List.filter_append, List.map_append, W.door d' h4' h6', List.filter_cons]
    by_cases q : d' = d
    · subst q
      rw [decide_eq_true hx, put1_eq, List.replicate_succ']
      rfl
    · have q' : lo d ≠ lo d' := fun e => q (lo_inj h6 h6' e).symm
      rw [decide_eq_false (fun e => q' (hx.symm.trans e)), put1_ne q]; simp
  · rw [hkv, List.length_append, W.len]
    unfold put1
    rcases (by omega : d = 4 ∨ d = 5) with rfl | rfl
    · simp; omega
    · simp; omega
  · rw [hkv] at h
    rcases List.mem_append.mp h with h | h
    · exact W.klen kv h
    · rw [List.mem_singleton.mp h]; exact hxl
theorem find_room {n : Nat} {kvs : List (Str × Str)} {c : Nat → Nat} (W : Wf2 n kvs c) {i : Nat} (hi : i < n) {y : Str} (hx : Txt.lower y = lo i) : ∃ k, kvs.find? (fun kv => decide (Txt.lower kv.1 = Txt.lower y)) = some (k, vstr (c i)) := by
  obtain ⟨k, h⟩ := W.hit i hi
  exact ⟨k, by rw [hx, find_filter, h]; rfl⟩
end
end Mine
namespace Mine
local macro_rules | `(tactic| walk_at "none") => `(tactic| fail "none")
section
variable {w : World} {mean : ExcName → Option Value} {mg mb : Str → Option Value} {h₀ : Heap}
theorem rows_at2 {b : Heap} {L : Addr} {h : Heap} {m : Str → Option Value} {l : Addr} {rows₀ rows : List Row} {n : Nat} {other tups : List (Addr × Obj)} (F : Fr b L h m) (N : News b L h (other ++ (l, lst rows n) :: tups)) (hr : ∀ r ∈ rows₀, b.get? r.a = some r.obj) (hT : InT rows₀ tups rows) : ∀ r ∈ rows, h.get? r.a = some r.obj := fun r h =>
  (hT r h).elim (fun q => F.keep _ _ (hr r q)) fun q => (N _ (List.mem_append_right _ (.tail _ q))).1
theorem dec_eq : ∀ n < 6, (decV n == Str.ofString "") = decide (n = 0) := by decide +kernel
local macro_rules | `(tactic| walk_at "call ref") => `(tactic| (k_here; (with_reducible show wpAny _ _ (call (Value.ref 216) _) _ _ _); (show wpAny _ _ (call (Value.ref 216) [Value.str (letter _) _]) _ _ _); refine use_str (quote_c (by assumption) (stays_fr (by assumption) (by assumption)) _ (by assumption) _) ⟨rfl, Nat.le_of_ble_eq_true rfl, Nat.le_of_ble_eq_true rfl⟩ (by k_asm) (by k_asm) ?_; intro tn' h' tk' F' N'))
theorem name_c (G : G3 w mean mg mb h₀) {s : Shared} (hs : h₀.StaysIn s.heap) {i : Nat} {ta : Tok} (hi : i < 6) (turn : Int) (t1 : Tok) :
    wpAny (model prog3 w) (Aq 3) (call (.ref 251) [.str (letter i) ta, .int turn t1]) (Post (IsStr (nm i (decide (turn % 2 = 1)))) s) noE s := by
  refine wpAny_call ?_
  refine enter0 (hid := []) (binds := [(Str.ofString "letter", .str (letter i) ta), (Str.ofString "turn", .int turn t1)]) G hs (fun _ h => nomatch h) (by k_is) (by k_is) (by rfl) (by exact Nat.le_of_ble_eq_true rfl) (BindsTo.of_eq rfl) (locs rfl) ?_ rfl rfl rfl (by decide)
  intro g L h₁ hg st F N X TT _
  subst hg
  have hq1 := (qs_fact i hi).2.1
  k_steps
  · rename Int.fmod _ _ = _ => he
    refine post_end (by assumption) ?_
    rw [nm_even he]; exact ⟨_, rfl⟩
  · rename Int.fmod _ _ ≠ _ => he
    refine post_end (by assumption) ?_
    rw [nm_odd he]; exact ⟨_, rfl⟩
theorem get_led {A : Around} {s : Shared} {b : Heap} {L t d l : Addr} {m : Str → Option Value} {other tups : List (Addr × Obj)} {rows₀ rows : List Row} {n nr y : Nat} {Q E : Value → Shared → Prop} {c : Nat → Nat} {i : Nat} {o : Bool} {tk : Tok} (G : G3 w mean mg mb h₀) (st : h₀.StaysIn b) (F : Fr b L s.heap m) (N : News b L s.heap (other ++ (l, lst rows n) :: tups)) (T : TabAt w b t d l)
    (hr : ∀ r ∈ rows₀, b.get? r.a = some r.obj) (hT : InT rows₀ tups rows) (W : Wf2 nr (kvsOf rows) c) (hn : nr ≤ 4) (hi : i < nr) (hy : c i = y) (hA : Fits A 3)
    (h : ∀ tt h' tk', Fr b L h' m → News b L h' (other ++ (l, lst rows n) :: tups) → Q (.str (vstr y) tt) { s with heap := h', toks := tk' }) : wpAny (model prog3 w) A (call (.ref 129) [.ref t, .str (nm i o) tk]) Q E s := by
  subst hy
  obtain ⟨f1, f2, f3, _⟩ := nm_fact i (by omega) o
  obtain ⟨kk, hk1⟩ := W.hit _ hi
  refine use_str (x := vstr (c i)) (wpAny_mono (get_c G (stays_fr st F) (T.at F.keep) (rows_of (N _ (List.mem_append_right _ (.head _))).1 (rows_at2 F N hr hT)) tk (f1 ▸ f3) f2 W.klen) (fun v s' p => ⟨?_, p.keeps⟩) fun _ _ e => e) hA F N h
  have q := p.val
  rw [f1, find_filter, hk1] at q
  exact q
theorem seti_led {A : Around} {s : Shared} {b : Heap} {L t d l : Addr} {m : Str → Option Value} {other tups : List (Addr × Obj)} {rows₀ rows : List Row} {n nr x : Nat} {Q E : Value → Shared → Prop} {c : Nat → Nat} {i : Nat} {o : Bool} {t1 t2 : Tok} (G : G3 w mean mg mb h₀) (st : h₀.StaysIn b) (F : Fr b L s.heap m) (N : News b L s.heap (other ++ (l, lst rows n) :: tups)) (T : TabAt w b t d l)
    (hr : ∀ r ∈ rows₀, b.get? r.a = some r.obj) (hT : InT rows₀ tups rows) (ho : ∀ p ∈ other, p.1 ≠ l) (htl : ∀ p ∈ tups, p.1 ≠ l) (W : Wf2 nr (kvsOf rows) c) (hn : nr ≤ 4) (hi : i < nr) (hrl : rows.length ≤ 40) (hx : x < 6) (hA : Fits A 5)
    (h : ∀ v' h' tk' n' rows' tups', Wf2 nr (kvsOf rows') (put1 c i x) → rows'.length = rows.length → InT rows₀ tups' rows' → (∀ p ∈ tups', p.1 ≠ l ∧ (p ∈ tups ∨ p.2.cls = .type "tuple")) → Fr b L h' m → News b L h' (other ++ (l, lst rows' n') :: tups') → Q v' { s with heap := h', toks := tk' }) :
    wpAny (model prog3 w) A (call (.ref 97) [.ref t, .str (nm i o) t1, .str (vstr x) t2]) Q E s := by
  obtain ⟨f1, f2, f3, f4, _⟩ := nm_fact i (by omega) o
  have hl₀ : h₀.get? l = none := by
    cases e : h₀.get? l with
    | none => rfl
    | some o => have y := (N (l, lst rows n) (List.mem_append_right _ (.head _))).2.2; rw [st _ _ e] at y; cases y
  have hv : vstr x ∈ vs6 := by
    have : ∀ x < 6, vstr x ∈ vs6 := by decide +kernel
    exact this x hx
  refine use_mut2 (seti_c G (stays_fr st F) (T.at F.keep) (N _ (List.mem_append_right _ (.head _))).1 hl₀ (rows_at2 F N hr hT) f4 (f1 ▸ f3) hv f2 W.klenR hrl t1 t2) hA F N ho hT htl ?_
  rintro v' h' tk' n' rows' tups' ⟨r, hrk, hrv, e⟩ hT' htl' F' N'
  obtain ⟨w1, w2⟩ := wf2_set W hn hi f1 f2 hrk hrv e
  exact h v' h' tk' n' rows' tups' w1 w2 hT' htl' F' N'
local macro_rules | `(tactic| walk_at "call ref") => `(tactic| (k_here; (with_reducible show wpAny _ _ (call (Value.ref 251) _) _ _ _); (show wpAny _ _ (call (Value.ref 251) [Value.str (letter _) _, Value.int _ _]) _ _ _); refine use_str (name_c (by assumption) (stays_fr (by assumption) (by k_asm)) (by assumption) _ _) ⟨rfl, Nat.le_of_ble_eq_true rfl, Nat.le_of_ble_eq_true rfl⟩ (by k_asm) (by k_asm) ?_; intro tn' h' tk' F' N'))
local macro_rules | `(tactic| walk_at "call ref") => `(tactic| (k_here; (with_reducible show wpAny _ _ (call (Value.ref 229) _) _ _ _); (show wpAny _ _ (call (Value.ref 229) [Value.str (vstr _) _]) _ _ _); refine use_str (enc_v (by assumption) (stays_fr (by assumption) (by k_asm)) _ (by assumption) _) ⟨rfl, Nat.le_of_ble_eq_true rfl, Nat.le_of_ble_eq_true rfl⟩ (by k_asm) (by k_asm) ?_; intro tn' h' tk' F' N'))
local macro_rules | `(tactic| walk_at "call ref") => `(tactic| (k_here; (with_reducible show wpAny _ _ (call (Value.ref 237) _) _ _ _); (show wpAny _ _ (call (Value.ref 237) [Value.str (vstr _) _]) _ _ _); refine use_str (dec_v (by assumption) (stays_fr (by assumption) (by k_asm)) (_ + 1) (by assumption) _) ⟨rfl, Nat.le_of_ble_eq_true rfl, Nat.le_of_ble_eq_true rfl⟩ (by k_asm) (by k_asm) ?_; intro tn' h' tk' F' N'))
local macro_rules | `(tactic| walk_at "call ref") => `(tactic| (k_here; (with_reducible show wpAny _ _ (call (Value.ref 129) _) _ _ _); (show wpAny _ _ (call (Value.ref 129) [Value.ref _, Value.str _ _]) _ _ _); refine get_led (other := []) (tups := []) (by assumption) (by assumption) (by k_asm) (by k_asm) (by assumption) (by assumption) (by assumption) (by assumption) (by assumption) (by assumption) (by assumption) ⟨rfl, Nat.le_of_ble_eq_true rfl, Nat.le_of_ble_eq_true rfl⟩ ?_; intro tn' h' tk' F' N'))
local macro_rules | `(tactic| walk_at "call ref") => `(tactic| (k_here; (with_reducible show wpAny _ _ (call (Value.ref 97) _) _ _ _); (show wpAny _ _ (call (Value.ref 97) [Value.ref _, Value.str _ _, Value.str (vstr _) _]) _ _ _); refine seti_led (other := []) (tups := []) (by assumption) (by assumption) (by k_asm) (by k_asm) (by assumption) (by assumption) (by assumption) (by exact fun p hp => nomatch hp) (by exact fun p hp => nomatch hp) (by assumption) (by assumption) (by assumption) (by assumption) (by assumption) ⟨rfl, Nat.le_of_ble_eq_true rfl, Nat.le_of_ble_eq_true rfl⟩ ?_; intro v' h' tk' n' rows' tups' W' hc' hT' htl' F' N'))
theorem put_c (G : G3 w mean mg mb h₀) {s : Shared} (hs : h₀.StaysIn s.heap) {t d l : Addr} {rows : List Row} {n nr : Nat} (T : TabAt w s.heap t d l) (hl : s.heap.get? l = some (lst rows n)) (hl₀ : h₀.get? l = none) (hr : ∀ r ∈ rows, s.heap.get? r.a = some r.obj)
    {c : Nat → Nat} (W : Wf2 nr (kvsOf rows) c) (hn : nr ≤ 4) {i : Nat} (hi : i < nr) (hrl : rows.length ≤ 40) (up : Bool) (hc : if up then c i < 5 else 2 ≤ c i ∧ c i < 6) (turn : Int) (t1 t2 t3 : Tok) :
    wpAny (model prog3 w) (Aq 8) (call (.ref 258) [.ref t, .str (letter i) t1, .int turn t2, .int (if up then 1 else 0) t3]) (PostM (fun v rows' => Wf2 nr (kvsOf rows') (put1 c i (if up then c i + 1 else c i - 2)) ∧ rows'.length = rows.length) l rows s) noE s := by
  refine wpAny_call ?_
  refine enter0 (hid := [(l, lst rows n)]) (binds := [(Str.ofString "table", .ref t), (Str.ofString "letter", .str (letter i) t1), (Str.ofString "turn", .int turn t2), (Str.ofString "times", .int (if up then 1 else 0) t3)]) G hs (fun p h => by cases List.mem_singleton.mp h; exact ⟨hl, hl₀⟩) (by k_is) (by k_is) (by rfl) (by exact Nat.le_of_ble_eq_true rfl) (BindsTo.of_eq rfl) (locs rfl) ?_ rfl rfl rfl (by decide)
  intro g L h₁ hgg st F N X TT hlt
  obtain ⟨hne, T', hr'⟩ := hide1 hgg T hl hr
  obtain ⟨tk0, hd⟩ := T'.dict
  have hi0 := T'.inst
  have hi6 : i < 6 := by omega
  have hT0 : InT rows [] rows := fun r h => .inl h
  cases up with
  | true =>
    obtain ⟨y, hy⟩ : ∃ y, c i = y := ⟨_, rfl⟩
    replace hc : c i < 5 := hc
    have hy5 : y < 5 := by omega
    have hy6 : y + 1 < 6 := by omega
    simp only [if_true] at F ⊢
    k_steps
    rename Fr _ _ _ _ => F3
    rename News _ _ _ _ => N3
    rename InT _ _ _ => hT1
    exact postM_end hne hr' F3 N3 (.head _) (fun r h => (hT1 r h).imp id fun q => .tail _ q) ⟨by rw [hy]; assumption, by assumption⟩
  | false =>
    replace hc : 2 ≤ c i ∧ c i < 6 := hc
    obtain ⟨y, hy⟩ : ∃ y, c i = y + 1 + 1 := ⟨c i - 2, by omega⟩
    have hy6 : y + 1 + 1 < 6 := by omega
    have hy5 : y + 1 < 6 := by omega
    have hy4 : y < 6 := by omega
    simp only [Bool.false_eq_true, if_false] at F ⊢
    k_steps
    rename Fr _ _ _ _ => F3
    rename News _ _ _ _ => N3
    rename InT _ _ _ => hT1
    exact postM_end hne hr' F3 N3 (.head _) (fun r h => (hT1 r h).imp id fun q => .tail _ q) ⟨by rw [show c i - 2 = y by omega]; assumption, by assumption⟩
end
end Mine
namespace Mine
section
variable {w : World} {mean : ExcName → Option Value} {mg mb : Str → Option Value} {h₀ : Heap}
theorem rr_assign2 {prog : Program} {A : Around} {E : Value → Shared → Prop} {Q : Shared → Prop} {h₀ h : Heap} {L C D : Addr} {m m₁ : Str → Option Value} {news : List (Addr × Obj)} {s₁ : Shared} {tk : Nat} {env : Env} {y : Str} {py : Pos} (hCN : ∀ p ∈ news, p.1 ≠ C) (hCL : C ≠ L) (hC₀ : h₀.get? C = none) (F : Fr h₀ L h m) (hn : h.Ns C m₁) (N : News h₀ L h news)
    (hL : env.locals = L) (hy : env.kindOf y = some .local) (hp : (env.scope.kind == .class || (env.scope.kind == .module && env.locals != env.globals)) = false)
    (q : ∀ h' tk', Fr h₀ L h' (fun z => if z = y then some (.ref D) else m z) → News h₀ L h' news → Q { s₁ with heap := h', toks := tk' }) : compPost (model prog w) A E (some (assign (.Name y py) env)) (fun _ s' => Q s') (.ref D) C (.ok .next) { s₁ with heap := h, toks := tk } :=
  rr_assign (Q := fun _ s' => Q s') hCN hCL hC₀ F hn N hL hy hp q
structure StopAt2 (P : Prop) : Prop where
  p : P
theorem get_some (G : G3 w mean mg mb h₀) {s : Shared} (hs : h₀.StaysIn s.heap) {t d l : Addr} {its : List Addr} {kvs : List (Str × Str)} (T : TabAt w s.heap t d l) (R : RowsAt s.heap l its kvs) {x : Str} (tk : Tok) (hx : Txt.lower x ∈ names10) (hlen : x.length ≤ 20) (hK : ∀ kv ∈ kvs, kv.1.length ≤ 20) {k y : Str} (hit : kvs.find? (fun kv => decide (Txt.lower kv.1 = Txt.lower x)) = some (k, y)) :
    wpAny (model prog3 w) (Aq 3) (call (.ref 129) [.ref t, .str x tk]) (Post (IsStr y) s) noE s := by
  refine wpAny_mono (get_c G hs T R tk hx hlen hK) (fun v s' p => ⟨?_, p.keeps⟩) fun _ _ x => x
  have q := p.val
  rw [hit] at q
  exact q
theorem rels_at {β : Type} {R : β → Value → Prop} : ∀ {xs : List β} {vs : List Value} {i : Nat} {v : Value}, Rels R xs vs → vs[i]? = some v → ∃ b, xs[i]? = some b ∧ R b v
  | [], [], _, _, _, h => nomatch h
  | b :: _, v :: _, 0, _, r, h => by cases h; exact ⟨b, rfl, r.1⟩
  | _ :: _, _ :: _, i + 1, _, r, h => rels_at (i := i) r.2 h
  | [], _ :: _, _, _, h, _ => (show False from h).elim
  | _ :: _, [], _, _, h, _ => (show False from h).elim
structure PostS (xs : List Str) (s : Shared) (v : Value) (s' : Shared) : Prop where
  ex : ∃ D h' tk n' vs, v = .ref D ∧ s' = { s with heap := h', toks := tk } ∧ (∀ b o, s.heap.get? b = some o → h'.get? b = some o) ∧ s.heap.get? D = none ∧ h'.get? D = some (W.listOf (List.toArray vs) n') ∧ Rels (fun (x : Str) v => ∃ t, v = .str x t) xs vs
theorem rels_map {α β : Type} {R : β → Value → Prop} {f : α → β} : ∀ {xs : List α} {vs : List Value}, Rels (fun a v => R (f a) v) xs vs → Rels R (xs.map f) vs
  | [], [], _ => trivial
  | _ :: _, _ :: _, h => ⟨h.1, rels_map h.2⟩
  | [], _ :: _, h => (show False from h).elim
  | _ :: _, [], h => (show False from h).elim
theorem getall_c (G : G3 w mean mg mb h₀) {s : Shared} (hs : h₀.StaysIn s.heap) {t d l : Addr} {rows : List Row} {n : Nat} (T : TabAt w s.heap t d l) (hl : s.heap.get? l = some (lst rows n)) (hr : ∀ r ∈ rows, s.heap.get? r.a = some r.obj)
    {x : Str} (hx : Txt.lower x ∈ names10) (hlen : x.length ≤ 20) (hK : ∀ r ∈ rows, r.k.length ≤ 20) (hc : rows.length ≤ 40) (t1 : Tok) :
    wpAny (model prog3 w) (Aq 3) (call (.ref 121) [.ref t, .str x t1]) (PostS ((rows.filter fun r => decide (Txt.lower r.k = Txt.lower x)).map (·.v)) s) noE s := by
  refine wpAny_call ?_
  refine enterC (hid := []) (binds := [(Str.ofString "self", .ref t), (Str.ofString "name", .str x t1)]) G hs (fun p h => nomatch h) (by k_is) (by k_is) (by rfl) (by exact Nat.le_of_ble_eq_true rfl) (BindsTo.of_eq rfl) rfl (by decide +kernel) ?_ rfl rfl rfl
  intro g L h₁ tk cells hg st F N Y X TT hlt
  subst hg
  replace T : TabAt w (hideAll s.heap (List.map (fun (x : Addr × Obj) => x.fst) [])) t d l := T
  obtain ⟨tk0, hd⟩ := T.dict
  have hi0 := T.inst
  have hl' : (hideAll s.heap (List.map (fun (x : Addr × Obj) => x.fst) [])).IsList l (rows.map (fun r => Value.ref r.a)).toArray := ⟨_, hl, rfl, _, rfl⟩
  have hr' : ∀ r ∈ rows, (hideAll s.heap (List.map (fun (x : Addr × Obj) => x.fst) [])).get? r.a = some r.obj := hr
  k_cells Y
  simp only [List.cons_append, List.nil_append] at N
  dsimp only
  k_steps
  rename Fr _ _ _ _ => F2
  rename News _ _ _ _ => N2
  refine LCt.CompSrcT.base rfl F2 N2 hl' (by simp only [List.size_toArray, List.length_map]; exact Nat.le_trans hc (by decide)) fun g' => ?_
  rw [List.size_toArray, List.length_map]
  refine restT_rel (xs := rows) (Rel := fun r v => v = .ref r.a) (Rel' := fun r v => ∃ t, v = .str r.v t) (p := fun r => decide (Txt.lower r.k = Txt.lower x)) (fun i v h => by
    have h' : (rows.map (fun r => Value.ref r.a))[i]? = some v := by simpa using h
    rw [List.getElem?_map] at h'
    obtain ⟨r, hr, e⟩ := Option.map_eq_some_iff.mp h'
    exact ⟨r, hr, e.symm⟩) (.inl hl') ?_ ?_ rows [] [] rfl trivial
  · intro r hrr v' I oI C oC D m₂ h tk ys E' hv hns hm F N off ne
    subst hv
    have hk := hK r hrr
    have hT : IsTup (hideAll s.heap (List.map (fun (x : Addr × Obj) => x.fst) [])) r.a #[.str r.k r.t1, .str r.v r.t2] := ⟨_, hr' r hrr, rfl, _, rfl⟩
    k_steps
    · exact ⟨_, _, rfl, by assumption, by assumption⟩
    · exact ⟨_, _, rfl, by assumption, by assumption⟩
  · intro ys hys D h tk F N off
    k_steps
    exact ⟨D, h, _, ys.length, ys, rfl, rfl, F.keep, (N _ (.head _)).2.2, (N _ (.head _)).1, rels_map hys⟩
end
end Mine
namespace Mine
section
variable {w : World} {mean : ExcName → Option Value} {mg mb : Str → Option Value} {h₀ : Heap}
local macro_rules | `(tactic| walk_at "eval ListComp") => `(tactic| (k_here; refine StopAt2.p ?_))
local macro_rules | `(tactic| walk_at "call ref") => `(tactic| (k_here; (with_reducible show wpAny _ _ (call (Value.ref 216) _) _ _ _); (show wpAny _ _ (call (Value.ref 216) [Value.str (letter _) _]) _ _ _); k_dflt (refine use_str (quote_c (by assumption) (stays_fr (by assumption) (by assumption)) _ (by assumption) _) ⟨rfl, Nat.le_of_ble_eq_true rfl, Nat.le_of_ble_eq_true rfl⟩ (by k_asm) (by k_asm) ?_); intro tn' h' tk' F' N'))
local macro_rules | `(tactic| walk_at "call ref") => `(tactic| (k_here; (with_reducible show wpAny _ _ (call (Value.ref 129) _) _ _ _); (show wpAny _ _ (call (Value.ref 129) [Value.ref _, Value.str _ _]) _ _ _); k_dflt (refine use_str (get_some (by assumption) (stays_fr (by assumption) (by assumption)) (TabAt.at (by assumption) (Fr.keep (by assumption))) (RowsAt.at (by assumption) (Fr.keep (by assumption))) _ (by assumption) (by assumption) (by assumption) (by assumption)) ⟨rfl, Nat.le_of_ble_eq_true rfl, Nat.le_of_ble_eq_true rfl⟩ (by k_asm) (by k_asm) ?_); intro tn' h' tk' F' N'))
local macro_rules | `(tactic| walk_at "call ref") => `(tactic| (k_here; (with_reducible show wpAny _ _ (call (Value.ref 237) _) _ _ _); (show wpAny _ _ (call (Value.ref 237) [Value.str (decV (_ + 1)) _]) _ _ _); k_dflt (refine use_str (dec_v (by assumption) (stays_fr (by assumption) (by assumption)) _ (by assumption) _) ⟨rfl, Nat.le_of_ble_eq_true rfl, Nat.le_of_ble_eq_true rfl⟩ (by k_asm) (by k_asm) ?_); intro tn' h' tk' F' N'))
local macro_rules | `(tactic| walk_at "call ref") => `(tactic| (k_here; (with_reducible show wpAny _ _ (call (Value.ref 237) _) _ _ _); (show wpAny _ _ (call (Value.ref 237) [Value.str (Str.ofString "") _]) _ _ _); k_dflt (refine use_str (dec_e (by assumption) (stays_fr (by assumption) (by assumption)) _) ⟨rfl, Nat.le_of_ble_eq_true rfl, Nat.le_of_ble_eq_true rfl⟩ (by k_asm) (by k_asm) ?_); intro tn' h' tk' F' N'))
theorem full_c (G : G3 w mean mg mb h₀) {s : Shared} (hs : h₀.StaysIn s.heap) {t d l : Addr} {rows : List Row} {n : Nat} (T : TabAt w s.heap t d l) (hl : s.heap.get? l = some (lst rows n)) (hr : ∀ r ∈ rows, s.heap.get? r.a = some r.obj)
    {c : Nat → Nat} {z : Bool} (W : Wf2 (siz z) (kvsOf rows) c) (hc : ∀ i < siz z, c i < 6) (t1 : Tok) :
    wpAny (model prog3 w) (Aq 6) (call (.ref 263) [.ref t, .str (rms2 z) t1]) (PostS (((List.range (siz z)).filter fun i => decide (2 ≤ c i)).map letter) s) noE s := by
  refine wpAny_call ?_
  refine enterC (hid := []) (binds := [(Str.ofString "table", .ref t), (Str.ofString "rooms", .str (rms2 z) t1)]) G hs (fun p h => nomatch h) (by k_is) (by k_is) (by rfl) (by exact Nat.le_of_ble_eq_true rfl) (BindsTo.of_eq rfl) rfl (by decide +kernel) ?_ rfl rfl rfl
  intro g L h₁ tk cells hg st F N Y X TT hlt
  subst hg
  replace T : TabAt w (hideAll s.heap (List.map (fun (x : Addr × Obj) => x.fst) [])) t d l := T
  have R : RowsAt (hideAll s.heap (List.map (fun (x : Addr × Obj) => x.fst) [])) l (rows.map (·.a)) (kvsOf rows) := rows_of hl hr
  obtain ⟨tk0, hd⟩ := T.dict
  have hi0 := T.inst
  k_cells Y
  simp only [List.cons_append, List.nil_append] at N
  dsimp only
  k_steps
  refine ⟨ListComp_Z (by with_unfolding_all rfl) (by rfl) (by decide) ?_⟩
  obtain ⟨hgs, hga, hgl⟩ := rms_fact z
  have h4 := siz_le z
  have hK := W.klen
  k_steps
  rename Fr _ _ _ _ => F2
  rename News _ _ _ _ => N2
  refine lc_test (fun i v => IsStr (letter i) v) (fun i => decide (2 ≤ c i)) (List.range (siz z)) (List.length_range.trans hgs.symm) (by rw [hgs]; omega) (by decide) (by rfl) (by rfl) (src_text rfl hga) F2 N2 (fun h => nomatch h) (fun _ h => nomatch h) ?_ ?_ ?_
  · rintro i v j m₂ C oC rst h tk E' ⟨ch, u, hcc, rfl⟩ hj hm hns hC hsub F N
    obtain ⟨hiz, hcl⟩ := rms_item hcc
    rw [hcl] at hm
    have hji : j = i := by
      rw [List.getElem?_range hiz] at hj
      exact (Option.some.inj hj).symm
    subst hji
    have hi6 : j < 6 := by omega
    have hcc' := hsub _ (.head _)
    obtain ⟨q1, q2, q3⟩ := qs_fact j hi6
    obtain ⟨_, hnl, hx, _, _⟩ := nm_fact j hi6 false
    rw [← q1] at hx
    have hnl : (qs j).length ≤ 20 := by omega
    obtain ⟨kk, hit⟩ := find_room W hiz q1
    have hc6 := hc j hiz
    generalize c j = x at hit hc6
    match x, hit, hc6 with
    | 0, hit, hc6 =>
      have hx2 : (Str.ofString "" != Str.ofString "") = false := by decide +kernel
      k_steps
      refine BoolP.intro ?_ (by assumption) (by assumption)
      with_unfolding_all rfl
    | 1, hit, hc6 =>
      have hx2 : (Str.ofString "" != Str.ofString "") = false := by decide +kernel
      have h06 : 0 < 6 := by decide
      k_steps
      refine BoolP.intro ?_ (by assumption) (by assumption)
      with_unfolding_all rfl
    | x + 2, hit, hc6 =>
      have h06 : x + 1 < 6 := by omega
      have hx2 : (decV (x + 1) != Str.ofString "") = true := by rw [bne, dec_eq _ h06]; rfl
      k_steps
      refine BoolP.intro ?_ (by assumption) (by assumption)
      exact hx2.trans (decide_eq_true (show 2 ≤ x + 2 by omega)).symm
  · rintro i v j m₂ C oC rst h tk E' ⟨ch, u, hcc, rfl⟩ hj hm hns hC hsub F N
    obtain ⟨hiz, hcl⟩ := rms_item hcc
    rw [hcl] at hm
    have hji : j = i := by
      rw [List.getElem?_range hiz] at hj
      exact (Option.some.inj hj).symm
    subst hji
    k_steps
    exact ValP.intro ⟨_, rfl⟩ (by assumption) (by assumption)
  · intro D vs k h tk hvs hD F N
    k_steps
    exact ⟨D, h, _, k, vs, rfl, rfl, F.keep, (N _ (.head _)).2.2, (N _ (.head _)).1, rels_map hvs⟩
end
end Mine
namespace Mine
section
variable {w : World} {mean : ExcName → Option Value} {mg mb : Str → Option Value} {h₀ : Heap}
/-- a def with **kw, called without such words -/
theorem enterK {A : Around} {s : Shared} {f : Addr} {args : Args} {R : Result → Shared → Prop} {name qual : Str} {params : Arguments} {body : List Stmt} {scope : Scope} {dV kV doc pm cdv ct oc : Value} {an od : Option Addr} {osl : Array (Option Value)} {ix : List Nat} {dec : List Expr} {ret : Option Expr} {tp : List TypeParam} {ts : Option Scope} {bnd : Str} {ps : Pos}
    {bf : Addr → List (Str × Value)} {hid : List (Addr × Obj)} (G : G3 w mean mg mb h₀) (hs : h₀.StaysIn s.heap) (hN : ∀ p ∈ hid, s.heap.get? p.1 = some p.2 ∧ h₀.get? p.1 = none)
    (ho : (MineX.hd.heap_39 w.params).lookup f = some ⟨oc, od, .func (fnOf (fName (stA MineX.P0 ix)) qual (fArgs (stA MineX.P0 ix)) (fBody (stA MineX.P0 ix)) (fScope (stA MineX.P0 ix)) dV kV doc pm an cdv ct), osl⟩) (hcd : codeIn (MineX.hd.heap_39 w.params) cdv qual = true) (hst : stA MineX.P0 ix = some (.FunctionDef name params body dec ret tp scope ts bnd ps)) (hroom : A.depth < recursionLimit)
    (hbind : bindArgs (fnOf name qual params body scope dV kV doc pm an cdv ct) args = (alloc dct0 >>= fun d => pure (bf d))) (hloc : ∀ d, ∀ y ∈ bf d, scope.names.lookup y.1 = some .local)
    (h : ∀ g L h₁ D, g = hideAll s.heap (hid.map (·.1)) → h₀.StaysIn g → Fr g L h₁ (fun y => (bf D).reverse.lookup y) → News g L h₁ ((D, dct0) :: hid) → (MineX.hd.heap_39 w.params).In g → Top MineX.hd.view_39 loose3 mean mg mb g → (∀ p ∈ hid, p.1 < D) → D < L → f < D →
      wpAny (model prog3 w) (A.deeper (envOf qual scope L f cdv)) (execs body (envOf qual scope L f cdv))
        (fun fl s' => R (.ok (.ret (match fl with | .ret v => v | _ => .none))) s') noE { s with heap := h₁, toks := s.toks + (bf D).length })
    (hco : scope.isCoroutine = false) (hgen : scope.isGenerator = false) (hk : scope.kind = .function)
    (hcell : ∀ x ∈ scope.names, x.2 ≠ .cell) : codeAny (model prog3 w) A (.call (.ref f) args) R s := by
  rw [hst] at ho
  replace ho : (MineX.hd.heap_39 w.params).lookup f = some ⟨oc, od, .func (fnOf name qual params body scope dV kV doc pm an cdv ct), osl⟩ := ho
  have X := G.X.keeps hs
  refine codeAny_call_function (fd := fnOf name qual params body scope dV kV doc pm an cdv ct) (body := body) hroom (X _ _ ho) rfl hco hgen rfl (codeRec_of X hcd) ?_
  rw [hbind]
  refine wpAny_bind (wpAny_alloc (wpAny_pure ?_))
  have up : ∀ b o, s.heap.get? b = some o → (s.heap.push dct0).get? b = some o := fun b o e => Heap.get?_push_of_some _ e
  refine wpAny_newFunctionEnv hcell (hloc _) (fun h₁ hns hsb => ?_) hk
  have hk₁ : ∀ b o, (s.heap.push dct0).get? b = some o → h₁.get? b = some o := fun b o e => hsb.extBut b o (Nat.ne_of_lt (Heap.lt_size e)) (Heap.get?_push_of_some _ e)
  refine ⟨((G.T.nolimit.keeps hs).keeps up).fresh _ hsb, codeAny_func ?_⟩
  have st := stays_hide hs (fun p hp => (hN p hp).2)
  have hsz : (s.heap.push dct0).objs.size = s.heap.objs.size + 1 := Heap.size_push _ _
  refine wpAny_mono (h (hideAll s.heap (hid.map Prod.fst)) (s.heap.push dct0).objs.size h₁ s.heap.objs.size rfl st ⟨hns, fun b o e => hk₁ b o (up b o (of_hideAll _ e)), by rw [hideAll_size, hsz]; exact Nat.le_succ _⟩
    (fun p hp => ?_) (G.X.keeps fun b o e => st b o e) (G.T.keeps fun b o e => st b o e) (fun p hp => Heap.lt_size (hN p hp).1) (by rw [hsz]; exact Nat.lt_succ_self _) (Heap.lt_size (X _ _ ho))) (fun _ _ x => x) fun _ _ x => x.elim
  rcases List.mem_cons.mp hp with rfl | hp
  · refine ⟨hk₁ _ _ (Heap.get?_push_size _ rfl), by rw [hsz]; exact Nat.ne_of_lt (Nat.lt_succ_self _), ?_⟩
    cases q : (hideAll s.heap (hid.map Prod.fst)).get? s.heap.objs.size with
    | none => rfl
    | some o => exact absurd (Heap.lt_size (of_hideAll _ q)) (Nat.lt_irrefl _)
  · exact ⟨hk₁ _ _ (up _ _ (hN p hp).1), Nat.ne_of_lt (Nat.lt_trans (Heap.lt_size (hN p hp).1) (by rw [hsz]; exact Nat.lt_succ_self _)), hideAll_none _ (List.mem_map_of_mem hp)⟩
theorem append_end3 {ok : Value → List Row → Prop} {l : Addr} {rows : List Row} {n' : Nat} {s : Shared} {g h' : Heap} {L : Addr} {m : Str → Option Value} {D : Addr} {x y : Str} {t1 t2 : Tok} {k : Nat} {v : Value} {tk : Nat} {b c d : Addr × Obj} (hne : ∀ a o, a ≠ l → s.heap.get? a = some o → g.get? a = some o)
    (hr : ∀ r ∈ rows, g.get? r.a = some r.obj) (F : Fr g L h' m) (N : News g L h' [(D, { cls := .type "tuple", data := .seq #[.str x t1, .str y t2] k }), b, c, d, (l, W.listOf ((rows.map (fun r => Value.ref r.a)) ++ [Value.ref D]).toArray n')]) (hok : ok v (rows ++ [⟨D, x, y, t1, t2, k⟩])) : PostM ok l rows s v { s with heap := h', toks := tk } :=
  append_end (x := x) (y := y) (n' := n') hne hr F (fun p hp => by
    rcases List.mem_cons.mp hp with rfl | hp
    · exact N _ (.head _)
    · rw [List.mem_singleton.mp hp]
      have := N _ (.tail _ (.tail _ (.tail _ (.tail _ (.head _)))))
      simpa using this) hok
theorem addh_c (G : G3 w mean mg mb h₀) {s : Shared} (hs : h₀.StaysIn s.heap) {t d l : Addr} {rows : List Row} {n : Nat} (T : TabAt w s.heap t d l) (hl : s.heap.get? l = some (lst rows n)) (hl₀ : h₀.get? l = none) (hr : ∀ r ∈ rows, s.heap.get? r.a = some r.obj)
    {x v : Str} (hx : x ∈ names10) (hv : v ∈ vs6) (hc : rows.length ≤ 40) (t1 t2 : Tok) :
    wpAny (model prog3 w) (Aq 5) (call (.ref 179) [.ref t, .str x t1, .str v t2]) (PostM (fun _ rows' => ∃ r, r.k = x ∧ r.v = v ∧ rows' = rows ++ [r]) l rows s) noE s := by
  refine wpAny_call ?_
  refine enterK (hid := [(l, lst rows n)]) (bf := fun D => [(Str.ofString "self", .ref t), (Str.ofString "_name", .str x t1), (Str.ofString "_value", .str v t2), (Str.ofString "_params", .ref D)]) G hs (fun p h => by cases List.mem_singleton.mp h; exact ⟨hl, hl₀⟩) (by k_is) (by k_is) (by rfl) (by exact Nat.le_of_ble_eq_true rfl) (by with_unfolding_all rfl) (fun d => locs rfl) ?_ rfl rfl rfl (by decide)
  intro g L h₁ D hgg st F N X TT hlt hDL hfD
  have hsys : (D == sysModules) = false := by
    rw [beq_eq_false_iff_ne]; intro e; rw [e] at hfD; exact absurd hfD (by decide)
  obtain ⟨hne, T', hr'⟩ := hide1 hgg T hl hr
  obtain ⟨tk0, hd⟩ := T'.dict
  have hi0 := T'.inst
  have hlD : l < D := hlt (l, lst rows n) (.head _)
  have hod : dct0.IsDictOf (PySem.strKind prog3 w) [] := dct0_is
  k_steps
  rename Fr _ _ _ _ => F2
  rename News _ _ _ _ => N2
  refine For_turns F2 ?_
  k_steps
  rename Fr _ _ _ _ => F3
  rename News _ _ _ _ => N3
  refine kta_items (knd := PySem.strKind prog3 w) (enc := PyData.str) (kvs := []) (xs := []) rfl F3 N3 ⟨_, (N3 _ (.head _)).1, rfl, rfl⟩ (.tail _ (.tail _ (.head _))) hod (fun _ _ h => Value.isStrOf_shape h) rfl (fun I hI => ?_)
  clear F2 N2 F3 N3
  intro h4 tk4 F4 N4
  have hvl : v.length ≤ 20 := by
    have : ∀ v ∈ vs6, v.length ≤ 20 := by decide +kernel
    exact this v hv
  k_steps
  rename Fr _ _ _ _ => F2
  rename News _ _ _ _ => N2
  have hjoin : Txt.join (Str.ofString "; ") [v] = v := rfl
  rw [hjoin] at N2
  unfold lst at N2
  refine append_use (other := [_, _, _, _]) (D := l) (ys := rows.map fun (r : Row) => Value.ref r.a) (n := n) F2 N2 (fun p hp => ?_) (by rw [List.length_map]; omega) ?_
  · simp only [List.mem_cons, List.not_mem_nil, or_false] at hp
    rcases hp with rfl | rfl | rfl | rfl <;> (apply Nat.ne_of_gt; dsimp only; omega)
  clear F2 N2
  intro h5 F5 N5
  k_steps
  rename Fr _ _ _ _ => F2
  rename News _ _ _ _ => N2
  exact append_end3 hne hr' F2 N2 (by exact ⟨_, rfl, rfl, rfl⟩)
end
end Mine
end
section
open Mine
local macro_rules | `(tactic| walk_at "exec For Name Call cons nil") => `(tactic| (k_here; (rename Fr _ _ _ _ => lF'); (with_unfolding_all refine For_V lF' (by rfl) (by rfl) ?_)))
namespace Mine
section
variable {w : World} {mean : ExcName → Option Value} {mg mb : Str → Option Value} {h₀ : Heap}
/-- what a dict with known keys holds -/
structure DS {ι : Type} (key : ι → Str) (idx : List ι) (kvs : List (Str × Value)) (R : ι → Value → Prop) : Prop where
  keys : kvs.map (·.1) = idx.map key
  val : ∀ i ∈ idx, ∃ v, valueAt kvs (key i) = some v ∧ R i v
section
variable {ι : Type} {key : ι → Str} {idx : List ι} {kvs : List (Str × Value)} {R R' : ι → Value → Prop}
theorem DS.nil : DS key [] [] R := ⟨rfl, fun _ h => nomatch h⟩
theorem DS.mono (d : DS key idx kvs R) (h : ∀ i ∈ idx, ∀ v, R i v → R' i v) : DS key idx kvs R' := ⟨d.keys, fun i hi => let ⟨v, e, r⟩ := d.val i hi; ⟨v, e, h i hi v r⟩⟩
theorem DS.len (d : DS key idx kvs R) : kvs.length = idx.length := by have := congrArg List.length d.keys; simpa using this
theorem DS.put (d : DS key idx kvs R) {i : ι} (hi : i ∈ idx) (inj : ∀ j ∈ idx, key j = key i → j = i) (v : Value) (h1 : R' i v) (h2 : ∀ j ∈ idx, j ≠ i → ∀ u, R j u → R' j u) : DS key idx (stored kvs (key i) v) R' := by
  refine ⟨(stored_old _ (d.keys ▸ List.mem_map_of_mem hi)).trans d.keys, fun j hj => ?_⟩
  rw [valueAt_stored]
  by_cases e : key j = key i
  · exact ⟨v, by rw [if_pos e], inj j hj e ▸ h1⟩
  · rw [if_neg e]
    obtain ⟨u, hu, r⟩ := d.val j hj
    exact ⟨u, hu, h2 j hj (fun q => e (q ▸ rfl)) u r⟩
theorem DS.add (d : DS key idx kvs R) {i : ι} (hi : key i ∉ idx.map key) {v : Value} (hv : R i v) : DS key (idx ++ [i]) (stored kvs (key i) v) R := by
  refine ⟨(stored_new _ (d.keys ▸ hi)).trans (by rw [d.keys, List.map_append]; rfl), fun j hj => ?_⟩
  rw [valueAt_stored]
  by_cases e : key j = key i
  · rw [if_pos e]
    rcases List.mem_append.mp hj with h | h
    · exact absurd (e ▸ List.mem_map_of_mem h) hi
    · exact ⟨v, rfl, by rw [List.mem_singleton.mp h]; exact hv⟩
  · rw [if_neg e]
    rcases List.mem_append.mp hj with h | h
    · exact d.val j h
    · rw [List.mem_singleton.mp h] at e; exact absurd rfl e
end
/-- the letter of a place -/
noncomputable def pl (n p : Nat) : Nat := if p < n then p else p - n + 4
noncomputable def plS (z : Bool) : Str := rms2 z ++ Str.ofString "lL"
theorem pl_lt {n p : Nat} (hn : n ≤ 4) (hp : p < n + 2) : pl n p < 6 := by unfold pl; split <;> omega
theorem pl_inj {n p q : Nat} (hn : n ≤ 4) (hp : p < n + 2) (hq : q < n + 2) (h : pl n p = pl n q) : p = q := by unfold pl at h; split at h <;> split at h <;> omega
theorem len_rms {A : Around} {E : Value → Shared → Prop} {s : Shared} {z : Bool} {t : Tok} {Q : Value → Shared → Prop} (h : ∀ t tk, Q (.int (siz z : Int) t) { s with toks := tk }) : wpAny (model prog3 w) A (call (.builtin "len") [.str (rms2 z) t]) Q E s := by
  obtain ⟨_, _, e⟩ := rms_fact z
  refine len_str (by rw [e]; cases z <;> decide) ?_
  rw [e]
  exact h _ _
structure PostD (z : Bool) (R : Nat → Value → Prop) (s : Shared) (v : Value) (s' : Shared) : Prop where
  ex : ∃ D od kvs h' tk, v = .ref D ∧ s' = { s with heap := h', toks := tk } ∧ (∀ b o, s.heap.get? b = some o → h'.get? b = some o) ∧ h'.get? D = some od ∧ s.heap.get? D = none ∧ od.IsDictOf (PySem.strKind prog3 w) kvs ∧ DS letter (List.range (siz z)) kvs R
noncomputable def arS (z : Bool) (f g : Nat → Nat) (k : Nat) : Str := letter (pl (siz z) (f k)) ++ letter (pl (siz z) (g k))
structure PostAr (w : World) (z : Bool) (s : Shared) (v : Value) (s' : Shared) : Prop where
  ex : ∃ f g, Arr (siz z) f g ∧ PostD (w := w) z (fun k => IsStr (arS z f g k)) s v s'
/-- what stands at a place of a text -/
structure ItemAt (x : Str) (q : Nat) (y : Str) : Prop where
  f : fitsSsize (q : Int) = true
  lt : (q : Int) < x.length
  e : Txt.item x (q : Int) = y
theorem item_at {A : Around} {E : Value → Shared → Prop} {s : Shared} {Q : Value → Shared → Prop} {value slice : Expr} {t u : Tok} {x y : Str} {i : Int} {q : Nat} (e : i = (q : Int)) (a : ItemAt x q y) (h : Q (.str y s.toks) { s with toks := s.toks + 1 })
    (hs : subscripted slice false (.str x t) (.int i u) = operate [.str x t, .int i u] (getItem (.str x t) (.int i u)) := by with_unfolding_all rfl)
    (ht : ∀ r, letTemporaryGo value (.str x t) r = pure () := by intro _; with_unfolding_all rfl) :
    wpAny (model prog3 w) A (subscriptTail value slice (.str x t) (.int i u)) Q E s := by
  subst e
  exact item_str a.f (by omega) a.lt (fun _ => by rw [a.e]; exact h) hs ht
theorem len_at {A : Around} {E : Value → Shared → Prop} {s : Shared} {x : Str} {n : Nat} {t : Tok} {Q : Value → Shared → Prop} (e : x.length = n) (hn : n ≤ 64) (h : ∀ t tk, Q (.int (n : Int) t) { s with toks := tk }) : wpAny (model prog3 w) A (call (.builtin "len") [.str x t]) Q E s := by
  subst e
  exact len_str (by omega) (h _ _)
theorem lat_len : ∀ z : Bool, ∀ k < siz z, (Txt.slice (plS z) (some ((k : Int) + 1)) none).length = siz z + 1 - k := by decide +kernel
theorem oth_len : ∀ z : Bool, ∀ k < siz z, (Txt.slice (plS z) none (some (k : Int)) ++ Txt.slice (plS z) (some ((k : Int) + 1)) none).length = siz z + 1 := by decide +kernel
theorem pre_len : ∀ z : Bool, ∀ k < siz z, (Txt.slice (plS z) none (some (k : Int))).length ≤ 6 := by decide +kernel
theorem lat_item0 : ∀ z : Bool, ∀ k < siz z, ∀ q < siz z + 1 - k, fitsSsize (q : Int) = true ∧ (q : Int) < (Txt.slice (plS z) (some ((k : Int) + 1)) none).length ∧ Txt.item (Txt.slice (plS z) (some ((k : Int) + 1)) none) (q : Int) = letter (pl (siz z) (k + 1 + q)) := by decide +kernel
theorem oth_item0 : ∀ z : Bool, ∀ k < siz z, ∀ q < siz z + 1, fitsSsize (q : Int) = true ∧ (q : Int) < (Txt.slice (plS z) none (some (k : Int)) ++ Txt.slice (plS z) (some ((k : Int) + 1)) none).length ∧ Txt.item (Txt.slice (plS z) none (some (k : Int)) ++ Txt.slice (plS z) (some ((k : Int) + 1)) none) (q : Int) = letter (pl (siz z) (if q < k then q else q + 1)) := by decide +kernel
theorem rms_item1 : ∀ z : Bool, ∀ k < siz z, fitsSsize (k : Int) = true ∧ (k : Int) < (rms2 z).length ∧ Txt.item (rms2 z) (k : Int) = letter k := by decide +kernel
theorem fmod_at (a : Int) {n : Nat} (h : 0 < n) : ∃ q, q < n ∧ Int.fmod a (n : Int) = (q : Int) := by
  have h1 := Int.emod_nonneg a (show (n : Int) ≠ 0 by omega)
  have h2 := Int.emod_lt_of_pos a (show (0 : Int) < (n : Int) by omega)
  rw [Int.fmod_eq_emod_of_nonneg _ (by omega)]
  exact ⟨(a % (n : Int)).toNat, by omega, by omega⟩
local macro_rules | `(tactic| walk_at "eval Name") => `(tactic| (k_here; refine ld (by k_asm) (by first | with_reducible assumption | ((try dsimp only); (repeat refine (if_neg (by decide +kernel)).trans ?_); with_reducible assumption)) ?_))
local macro_rules | `(tactic| walk_at "loadName") => `(tactic| (k_here; refine ldn (by k_asm) (by first | with_reducible assumption | ((try dsimp only); (repeat refine (if_neg (by decide +kernel)).trans ?_); with_reducible assumption)) ?_))
local macro_rules | `(tactic| walk_at "call builtin:len") => `(tactic| (k_here; (with_reducible show wpAny _ _ (call (Value.builtin "len") [Value.str (rms2 _) _]) _ _ _); refine len_rms ?_; intro tl' tkl'))
local macro_rules | `(tactic| walk_at "call builtin:len") => `(tactic| (k_here; (with_reducible show wpAny _ _ (call (Value.builtin "len") [Value.str _ _]) _ _ _); refine len_at (by assumption) (by assumption) ?_; intro tl' tkl'))
local macro_rules | `(tactic| walk_at "subscriptTail Name BinOp str int") => `(tactic| (k_here; refine item_at (by assumption) (by assumption) ?_))
local macro_rules | `(tactic| walk_at "subscriptTail Name Name str int") => `(tactic| (k_here; refine item_at rfl (by assumption) ?_))
local macro_rules | `(tactic| walk_at "setItem ref str") => `(tactic| (k_here; refine StopAt.p ?_))
theorem arrows_c (G : G3 w mean mg mb h₀) {s : Shared} (hs : h₀.StaysIn s.heap) {ls : Addr} {sv : List Value} {ns : List Int} (z : Bool) (hl : s.heap.IsList ls sv.toArray) (hi : IntsAre sv ns) (hnl : ns.length ≤ 63) (t1 : Tok) :
    wpAny (model prog3 w) (Aq 3) (call (.ref 244) [.ref ls, .str (rms2 z) t1]) (PostAr w z s) noE s := by
  refine wpAny_call ?_
  refine enter0 (hid := []) (binds := [(Str.ofString "script", .ref ls), (Str.ofString "rooms", .str (rms2 z) t1)]) G hs (fun _ h => nomatch h) (by k_is) (by k_is) (by rfl) (by exact Nat.le_of_ble_eq_true rfl) (BindsTo.of_eq rfl) (locs rfl) ?_ rfl rfl rfl (by decide)
  intro g L h₁ hg st F N X TT _
  subst hg
  have hl' : (hideAll s.heap (List.map (fun (x : Addr × Obj) => x.fst) [])).IsList ls sv.toArray := hl
  obtain ⟨hgs, hga, hgl⟩ := rms_fact z
  have h4 := siz_le z
  have hrl : (rms2 z).length ≤ 4 := by rw [hgl]; exact h4
  k_steps
  rename IsRange _ _ _ _ _ _ _ _ => hrg
  rename Fr _ _ _ _ => F2
  rename News _ _ _ _ => N2
  rename Obj.IsDictOf (PySem.strKind _ _) _ _ => hod
  rename _ = false => hsys
  unfold Lp
  refine loop_range (n := siz z) (fun k m news => ∃ od kvs f g num tn tp, news = [(_, od)] ∧ od.IsDictOf (PySem.strKind prog3 w) kvs ∧ DS letter (List.range k) kvs (fun i => IsStr (arS z f g i)) ∧ (∀ r < k, r < f r ∧ f r < siz z + 2 ∧ g r ≠ r ∧ g r < siz z + 2) ∧ m (Str.ofString "number") = some (.int num tn) ∧ m (Str.ofString "places") = some (.str (plS z) tp) ∧ m (Str.ofString "arrows") = some (.ref _) ∧ m (Str.ofString "rooms") = some (.str (rms2 z) t1)) rfl hrg (by cases z <;> decide) (by cases z <;> decide) F2 N2 ⟨_, _, fun _ => 0, fun _ => 0, _, _, _, rfl, hod, DS.nil, fun r h => absurd h (Nat.not_lt_zero _), rfl, rfl, rfl, rfl⟩ ?_ ?_
  · clear F2 N2 hrg hod
    rintro I k u m₁ news₁ h tk own hk ⟨od, kvs, f, g, num, tn, tp, rfl, hod, dv, har, hm1, hm2, hm3, hm4⟩ hI hlt' hown ⟨oI, hoI, hit⟩ F N
    replace F : Fr (hideAll s.heap (List.map (fun (x : Addr × Obj) => x.fst) [])) L h _ := F
    replace N : News (hideAll s.heap (List.map (fun (x : Addr × Obj) => x.fst) [])) L h _ := N
    have hpl : (plS z).length ≤ 6 := by cases z <;> decide
    have e1 := lat_len z k hk
    have e2 := oth_len z k hk
    have e3 := pre_len z k hk
    obtain ⟨n1, hn1⟩ : ∃ n1, n1 = siz z + 1 - k := ⟨_, rfl⟩
    obtain ⟨n2, hn2⟩ : ∃ n2, n2 = siz z + 1 := ⟨_, rfl⟩
    rw [← hn1] at e1
    rw [← hn2] at e2
    have l1 : n1 ≤ 64 := by omega
    have l2 : n2 ≤ 64 := by omega
    have p1 : 0 < n1 := by omega
    have p2 : 0 < n2 := by omega
    have z1 : (n1 : Int) ≠ 0 := by omega
    have z2 : (n2 : Int) ≠ 0 := by omega
    obtain ⟨q1, hq1, m1⟩ := fmod_at num p1
    obtain ⟨q2, hq2, m2⟩ := fmod_at (Int.fdiv num (n1 : Int)) p2
    have i1 : ItemAt _ q1 _ := let ⟨a, b, c⟩ := lat_item0 z k hk q1 (by omega); ⟨a, b, c⟩
    have i2 : ItemAt _ q2 _ := let ⟨a, b, c⟩ := oth_item0 z k hk q2 (by omega); ⟨a, b, c⟩
    have i3 : ItemAt _ k _ := let ⟨a, b, c⟩ := rms_item1 z k hk; ⟨a, b, c⟩
    have l3 := letter_len _ (pl_lt h4 (show k + 1 + q1 < siz z + 2 by omega))
    have l4 := letter_len _ (pl_lt h4 (show (if q2 < k then q2 else q2 + 1) < siz z + 2 by split <;> omega))
    k_steps
    rename Fr _ _ _ _ => F4
    rename News _ _ _ _ => N4
    have hkn : letter k ∉ (List.range k).map letter := fun q => by
      obtain ⟨j, hj, e⟩ := List.mem_map.mp q
      have hj' := List.mem_range.mp hj
      have := letter_inj (by omega) (by omega) e
      omega
    refine ⟨setItem_use (other := own) (rest := []) F4 N4 (fun p hp => ?_) (fun p hp => nomatch hp) hod (by rw [dv.len, List.length_range]; omega) ?_⟩
    · rw [hown p hp]; exact Ne.symm (hI _ (.head _))
    intro h5 o5 F5 N5 hd5
    k_steps
    rename Fr _ _ _ _ => F6
    rename News _ _ _ _ => N6
    refine TurnEnd.next F6 N6 (fun p hp => ?_) ⟨o5, _, fun r => if r = k then k + 1 + q1 else f r, fun r => if r = k then (if q2 < k then q2 else q2 + 1) else g r, _, _, _, rfl, hd5, ?_, fun r hr => ?_, rfl, hm2, hm3, hm4⟩
    · rw [List.mem_singleton.mp hp]; exact hI (_, od) (.head _)
    · rw [List.range_succ]
      refine (dv.mono fun i hi v hv => ?_).add hkn ?_
      · have hik : i ≠ k := Nat.ne_of_lt (List.mem_range.mp hi)
        unfold arS at hv ⊢
        simpa only [if_neg hik] using hv
      · unfold arS
        simp only [if_true]
        exact ⟨_, rfl⟩
    · by_cases e : r = k
      · subst e
        simp only [if_true]
        refine ⟨by omega, by omega, by split <;> omega, by split <;> omega⟩
      · simp only [if_neg e]; exact har r (by omega)
  · clear F2 N2 hrg
    rintro m₁ news₁ h tk ⟨od, kvs, f, g, num, tn, tp, rfl, hod, dv, har, hm1, hm2, hm3, hm4⟩ F N
    replace F : Fr (hideAll s.heap (List.map (fun (x : Addr × Obj) => x.fst) [])) L h _ := F
    replace N : News (hideAll s.heap (List.map (fun (x : Addr × Obj) => x.fst) [])) L h _ := N
    k_steps
    exact ⟨f, g, ⟨fun r hr => ⟨(har r hr).1, (har r hr).2.1⟩, fun r hr => (har r hr).2.2⟩, ⟨⟨_, od, kvs, h, _, rfl, rfl, F.keep, (N _ (.head _)).1, (N _ (.head _)).2.2, hod, dv⟩⟩⟩
end
end Mine
section
open Mine
local macro_rules | `(tactic| walk_at "call builtin:len") => `(tactic| (k_here; (with_reducible show wpAny _ _ (call (Value.builtin "len") [Value.str (rms2 _) _]) _ _ _); refine len_rms ?_; intro tl' tkl'))
namespace Mine
section
variable {w : World} {mean : ExcName → Option Value} {mg mb : Str → Option Value} {h₀ : Heap}
noncomputable def rs : Nat → (Nat → Nat) → Nat
  | 0, _ => 0
  | n + 1, c => rs n c + c n
theorem rs_at {n : Nat} {c : Nat → Nat} {i : Nat} (h : i < n) : c i ≤ rs n c := by
  induction n with
  | zero => exact absurd h (Nat.not_lt_zero _)
  | succ n ih =>
    unfold rs
    by_cases e : i = n
    · subst e; omega
    · have := ih (by omega); omega
theorem rs_off {n : Nat} {c : Nat → Nat} {i x : Nat} (h : n ≤ i) : rs n (put1 c i x) = rs n c := by
  induction n with
  | zero => rfl
  | succ n ih => unfold rs; rw [ih (by omega), put1_ne (by omega)]
theorem rs_put {n : Nat} {c : Nat → Nat} {i x : Nat} (h : i < n) : rs n (put1 c i x) + c i = rs n c + x := by
  induction n with
  | zero => exact absurd h (Nat.not_lt_zero _)
  | succ n ih =>
    unfold rs
    by_cases e : i = n
    · subst e
      rw [rs_off (Nat.le_refl _), put1_eq]; omega
    · rw [put1_ne (fun q => e q.symm)]
      have := ih (by omega); omega
theorem rs_quiet {n : Nat} {c : Nat → Nat} (h : ∀ i < n, c i ≤ 1) : rs n c ≤ n := by
  induction n with
  | zero => exact Nat.le_refl _
  | succ n ih => unfold rs; have := ih fun i hi => h i (by omega); have := h n (by omega); omega
noncomputable def add1 (c : Nat → Nat) (i : Nat) : Nat → Nat := put1 c i (c i + 1)
/-- the chips of all places together -/
noncomputable def tot (n : Nat) (c : Nat → Nat) : Nat := rs n c + c 4 + c 5
theorem tot_add {n : Nat} (hn : n ≤ 4) {c : Nat → Nat} {p : Nat} (hp : p < n + 2) : tot n (add1 c (pl n p)) = tot n c + 1 := by
  unfold tot add1
  by_cases h : p < n
  · have e : pl n p = p := by unfold pl; rw [if_pos h]
    rw [e]
    have := rs_put (c := c) (x := c p + 1) h
    rw [put1_ne (show 4 ≠ p by omega), put1_ne (show 5 ≠ p by omega)]
    omega
  · have e : pl n p = p - n + 4 := by unfold pl; rw [if_neg h]
    rw [e, rs_off (by omega)]
    rcases (show p = n ∨ p = n + 1 by omega) with q | q
    · rw [show p - n + 4 = 4 by omega, put1_eq, put1_ne (by decide)]; omega
    · rw [show p - n + 4 = 5 by omega, put1_eq, put1_ne (by decide)]; omega
theorem rs_add {n : Nat} (hn : n ≤ 4) {c : Nat → Nat} {p : Nat} : rs n (add1 c (pl n p)) ≤ rs n c + 1 := by
  unfold add1 pl
  split
  · rename_i h
    have := rs_put (c := c) (x := c p + 1) h
    omega
  · rw [rs_off (by omega)]; omega
theorem tot_take {n : Nat} (hn : n ≤ 4) {c : Nat → Nat} {r : Nat} (hr : r < n) (h2 : 2 ≤ c r) : tot n (put1 c r (c r - 2)) + 2 = tot n c ∧ rs n (put1 c r (c r - 2)) + 2 = rs n c := by
  have := rs_put (c := c) (x := c r - 2) hr
  unfold tot
  rw [put1_ne (show 4 ≠ r by omega), put1_ne (show 5 ≠ r by omega)]
  omega
theorem add1_at {n : Nat} (hn : n ≤ 4) {c : Nat → Nat} {a p : Nat} (ha : a < n + 2) (hp : p < n + 2) : ((add1 c (pl n a) (pl n p) : Nat) : Int) = c (pl n p) + ind a p := by
  unfold add1 ind
  by_cases e : a = p
  · subst e; rw [put1_eq, if_pos rfl]; omega
  · rw [put1_ne (fun q => e (pl_inj hn hp ha q).symm), if_neg e]; omega
theorem take_at {n : Nat} (hn : n ≤ 4) {c : Nat → Nat} {r p : Nat} (hr : r < n) (h2 : 2 ≤ c r) (hp : p < n + 2) : ((put1 c r (c r - 2) (pl n p) : Nat) : Int) = c (pl n p) - 2 * ind r p := by
  have er : pl n r = r := by unfold pl; rw [if_pos hr]
  unfold ind
  by_cases e : r = p
  · subst e; rw [er, put1_eq, if_pos rfl]; omega
  · rw [put1_ne (fun q => e (pl_inj hn hp (by omega) (q.trans er.symm)).symm), if_neg e]; omega
structure StP (n : Nat) (f g : Nat → Nat) (M : Nat) (s : Nat → Int) (c : Nat → Nat) : Prop where
  chips : ∀ p < n + 2, ((c (pl n p) : Nat) : Int) = cfg n f g (M : Int) s p
  s0 : ∀ p < n, 0 ≤ s p
  room : rs n c ≤ n + 1
  all : tot n c = n + M
  least : ∀ (M' : Int) (t : Nat → Int), (M : Int) ≤ M' → (∀ p < n, 0 ≤ t p) → Solve n f g M' t → ∀ p < n, s p ≤ t p
noncomputable def fire2 (n : Nat) (f g : Nat → Nat) (c : Nat → Nat) (r : Nat) : Nat → Nat := add1 (add1 (put1 c r (c r - 2)) (pl n (f r))) (pl n (g r))
section
variable {n : Nat} {f g : Nat → Nat} {M : Nat} {s : Nat → Int} {c : Nat → Nat}
theorem StP.roomAt (P : StP n f g M s c) {i : Nat} (hi : i < n) : (c i : Int) = cfg n f g M s i := by
  have := P.chips i (by omega)
  unfold pl at this; rw [if_pos hi] at this; exact this
theorem StP.fire (P : StP n f g M s c) (A : Arr n f g) (hn : n ≤ 4) {r : Nat} (hr : r < n) (h2 : 2 ≤ c r) : StP n f g M (up s r) (fire2 n f g c r) := by
  obtain ⟨t1, t2⟩ := tot_take hn hr h2
  have a1 := (A.f1 r hr).2
  have a2 := (A.g1 r hr).2
  refine ⟨fun p hp => ?_, fun p hp => ?_, ?_, ?_, fun M' t hM ht hS p hp => ?_⟩
  · unfold fire2
    rw [add1_at hn a2 hp, add1_at hn a1 hp, take_at hn hr h2 hp, P.chips p hp, cfg_fire hr p]
    unfold Wt; omega
  · have := P.s0 p hp
    have := ind_nn r p
    unfold up; omega
  · have b1 := rs_add hn (c := put1 c r (c r - 2)) (p := f r)
    have b2 := rs_add hn (c := add1 (put1 c r (c r - 2)) (pl n (f r))) (p := g r)
    have := P.room
    unfold fire2; omega
  · unfold fire2
    rw [tot_add hn a2, tot_add hn a1]
    have := P.all; omega
  · have le := P.least M' t hM ht hS
    have hk := Mine.least hS hM le hr (by rw [← P.roomAt hr]; omega)
    have := le p hp
    unfold up ind
    split
    · rename_i e; subst e; omega
    · omega
theorem StP.lay (P : StP n f g M s c) (hn : n ≤ 4) (h0 : 0 < n) (q : ∀ i < n, c i ≤ 1) : StP n f g (M + 1) s (add1 c 0) := by
  have e0 : pl n 0 = 0 := by unfold pl; rw [if_pos h0]
  refine ⟨fun p hp => ?_, P.s0, ?_, ?_, fun M' t hM ht hS => P.least M' t (by omega) ht hS⟩
  · have := add1_at hn (c := c) (show 0 < n + 2 by omega) hp
    rw [e0] at this
    rw [this, P.chips p hp, show ((M + 1 : Nat) : Int) = (M : Int) + 1 by omega, cfg_lay]
  · have b := rs_add hn (c := c) (p := 0)
    rw [e0] at b
    have := rs_quiet q
    omega
  · have := tot_add hn (c := c) (show 0 < n + 2 by omega)
    rw [e0] at this
    rw [this, P.all]; omega
theorem StP.phi_nn (P : StP n f g M s c) (hn : n ≤ 4) : 0 ≤ phi n f g M s := by
  unfold phi
  rw [← sumN_zero n]
  refine sumN_le fun p hp => ?_
  rw [← P.roomAt hp]
  exact Int.mul_nonneg (wn_fact n (by omega) p (by omega)).1 (by omega)
theorem StP.phi_quiet (P : StP n f g M s c) (hn : n ≤ 4) (q : ∀ i < n, c i ≤ 1) : phi n f g M s ≤ 49 := by
  unfold phi
  have a : sumN n (fun p => wn n p * cfg n f g M s p) ≤ sumN n (fun p => wn n p) := sumN_le fun p hp => by
    rw [← P.roomAt hp]
    have h1 := (wn_fact n (by omega) p (by omega)).1
    have h2 := q p hp
    have : (c p : Int) ≤ 1 := by omega
    have := Int.mul_le_mul_of_nonneg_left this h1
    omega
  have b : ∀ n ≤ 4, sumN n (fun p => wn n p) ≤ 49 := by decide +kernel
  exact Int.le_trans a (b n hn)
/-- before the next chip is laid -/
structure RunP (n : Nat) (f g : Nat → Nat) (M : Nat) (s : Nat → Int) (c : Nat → Nat) : Prop where
  P : StP n f g M s c
  q : ∀ i < n, c i ≤ 1
  no : ∀ (M' : Int) (t : Nat → Int), 1 ≤ M' → M' ≤ M → (∀ p < n, 0 ≤ t p) → ¬ Solve n f g M' t
  hist : ∃ S : Nat → Nat → Int, (∀ k : Nat, k ≤ M → ∀ p < n, 0 ≤ cfg n f g (k : Int) (S k) p ∧ cfg n f g (k : Int) (S k) p ≤ 1) ∧ (∀ a b : Nat, a ≤ b → b ≤ M → ∀ p < n, S a p ≤ S b p) ∧ S M = s
theorem cfg_start (p : Nat) : cfg n f g 0 (fun _ => 0) p = if p < n then 1 else 0 := by
  unfold cfg
  have : sumN n (fun r => (0 : Int) * Wt f g r p) = 0 := by
    rw [show (fun r => (0 : Int) * Wt f g r p) = fun _ => 0 from funext fun r => Int.zero_mul _]; exact sumN_zero n
  rw [this]
  split <;> split <;> rfl
noncomputable def c0 (n : Nat) : Nat → Nat := fun i => if i < n then 1 else 0
theorem run_start (hn : n ≤ 4) : RunP n f g 0 (fun _ => 0) (c0 n) := by
  have hq : ∀ i < n, c0 n i ≤ 1 := fun i hi => by unfold c0; rw [if_pos hi]; exact Nat.le_refl _
  refine ⟨⟨fun p hp => ?_, fun p hp => Int.le_refl _, Nat.le_succ_of_le (rs_quiet hq), ?_, fun M' t _ ht _ => ht⟩, hq, fun M' t h1 h2 => by omega, ⟨fun _ _ => 0, fun k hk p hp => ?_, fun _ _ _ _ _ _ => Int.le_refl _, rfl⟩⟩
  · rw [show ((0 : Nat) : Int) = 0 from rfl, cfg_start]
    unfold c0 pl
    by_cases h : p < n
    · rw [if_pos h, if_pos h, if_pos h]; rfl
    · rw [if_neg h, if_neg h, if_neg (by omega)]; rfl
  · have : ∀ n ≤ 4, tot n (c0 n) = n + 0 := by decide +kernel
    exact this n hn
  · obtain rfl : k = 0 := by omega
    rw [show ((0 : Nat) : Int) = 0 from rfl, cfg_start, if_pos hp]; decide
theorem RunP.no_next (R : RunP n f g M s c) (A : Arr n f g) (hn : n ≤ 4) {s' : Nat → Int} {c' : Nat → Nat} (P : StP n f g (M + 1) s' c') (q : ∀ i < n, c' i ≤ 1) (no : ∃ i, i < n ∧ c' i ≠ 1) (hle : ∀ p < n, s p ≤ s' p) : RunP n f g (M + 1) s' c' := by
  refine ⟨P, q, fun M' t h1 h2 ht hS => ?_, ?_⟩
  · by_cases e : M' ≤ M
    · exact R.no M' t h1 e ht hS
    · have eM : M' = ((M + 1 : Nat) : Int) := by omega
      subst eM
      have l := P.least _ t (Int.le_refl _) ht hS
      have fin := final A (by omega) hS l fun p hp => by rw [← P.roomAt hp]; have := q p hp; omega
      obtain ⟨i, hi, hne⟩ := no
      have a := P.roomAt hi
      have b := hS i hi
      have e : cfg n f g ((M + 1 : Nat) : Int) s' i = cfg n f g ((M + 1 : Nat) : Int) t i := by
        unfold cfg
        rw [if_pos hi, if_pos hi, fin i hi, sumN_congr fun r hr => by rw [fin r hr]]
      omega
  · obtain ⟨S, h1, h2, h3⟩ := R.hist
    refine ⟨fun k => if k = M + 1 then s' else S k, fun k hk p hp => ?_, fun a b hab hb p hp => ?_, by simp⟩
    · by_cases e : k = M + 1
      · subst e
        simp only [if_true]
        rw [← P.roomAt hp]
        have := q p hp
        omega
      · simp only [if_neg e]
        exact h1 k (by omega) p hp
    · by_cases e : b = M + 1
      · subst e
        simp only [if_true]
        by_cases e2 : a = M + 1
        · subst e2; simp
        · simp only [if_neg e2]
          have := h2 a M (by omega) (Nat.le_refl _) p hp
          rw [h3] at this
          have := hle p hp
          omega
      · simp only [if_neg e, if_neg (show ¬ a = M + 1 by omega)]
        exact h2 a b hab (by omega) p hp
theorem RunP.over (R : RunP n f g (2 ^ n) s c) : False := by
  obtain ⟨S, h1, h2, _⟩ := R.hist
  obtain ⟨M, t, a, b, c, d⟩ := exists_sol (n := n) (f := f) (g := g) (S := S) h1 h2
  exact R.no M t (by omega) (by omega) c d
end
end
end Mine
namespace Mine
section
variable {w : World} {mean : ExcName → Option Value} {mg mb : Str → Option Value} {h₀ : Heap}
noncomputable abbrev stR : Option Stmt := stA MineX.P0 [34]
noncomputable def runEnv (L fa : Addr) (cr : Value) : Env := envOfC (fName stR) (fScope stR) L fa cr
noncomputable def subB : List Stmt → List Nat → List Stmt
  | b, [] => b
  | b, i :: path => match b[i]? with
    | some (.For _ _ body _ _) => subB body path
    | _ => []
/-- the run's statements from the k-th on, in the loops' bodies that the path tells -/
noncomputable def RunGoal (path : List Nat) (k : Nat) (w : World) (L fa : Addr) (cr : Value) (Q : Flow → Shared → Prop) (s : Shared) : Prop :=
  wpAny (model prog3 w) ((Aq 9).deeper (runEnv L fa cr)) (execs ((subB (fBody stR) path).drop k) (runEnv L fa cr)) Q noE s
section
variable {L fa : Addr} {cr : Value} {Q : Flow → Shared → Prop} {s : Shared} {name : Str} {params : Arguments} {dec : List Expr} {ret : Option Expr} {tp : List TypeParam} {scope : Scope} {ts : Option Scope} {bind : Str} {pos : Pos} {body ss : List Stmt} {path : List Nat} {k : Nat}
theorem backR (hst : stA MineX.P0 [34] = some (.FunctionDef name params body dec ret tp scope ts bind pos)) (hb : (subB body path).drop k = ss) (h : RunGoal path k w L fa cr Q s) :
    wpAny (model prog3 w) ((Aq 9).deeper (envOfC name scope L fa cr)) (execs ss (envOfC name scope L fa cr)) Q noE s := by
  unfold RunGoal at h
  have e1 : runEnv L fa cr = envOfC name scope L fa cr := by unfold runEnv stR; rw [hst]; rfl
  have e2 : fBody stR = body := by unfold stR; rw [hst]; rfl
  rw [e1, e2, hb] at h
  exact h
theorem exposeR (hst : stA MineX.P0 [34] = some (.FunctionDef name params body dec ret tp scope ts bind pos)) (hb : (subB body path).drop k = ss)
    (h : wpAny (model prog3 w) ((Aq 9).deeper (envOfC name scope L fa cr)) (execs ss (envOfC name scope L fa cr)) Q noE s) : RunGoal path k w L fa cr Q s := by
  unfold RunGoal
  have e1 : runEnv L fa cr = envOfC name scope L fa cr := by unfold runEnv stR; rw [hst]; rfl
  have e2 : fBody stR = body := by unfold stR; rw [hst]; rfl
  rw [e1, e2, hb]
  exact h
theorem exposeR1 {a : Stmt} (hst : stA MineX.P0 [34] = some (.FunctionDef name params body dec ret tp scope ts bind pos)) (hb : (subB body path).drop k = [a]) (h : wpAny (model prog3 w) ((Aq 9).deeper (envOfC name scope L fa cr)) (execs [a] (envOfC name scope L fa cr)) Q noE s) : RunGoal path k w L fa cr Q s := exposeR hst hb h
theorem exposeR2 {a1 a2 : Stmt} (hst : stA MineX.P0 [34] = some (.FunctionDef name params body dec ret tp scope ts bind pos)) (hb : (subB body path).drop k = [a1, a2]) (h : wpAny (model prog3 w) ((Aq 9).deeper (envOfC name scope L fa cr)) (execs [a1, a2] (envOfC name scope L fa cr)) Q noE s) : RunGoal path k w L fa cr Q s := exposeR hst hb h
theorem exposeR3 {a1 a2 a3 : Stmt} (hst : stA MineX.P0 [34] = some (.FunctionDef name params body dec ret tp scope ts bind pos)) (hb : (subB body path).drop k = [a1, a2, a3]) (h : wpAny (model prog3 w) ((Aq 9).deeper (envOfC name scope L fa cr)) (execs [a1, a2, a3] (envOfC name scope L fa cr)) Q noE s) : RunGoal path k w L fa cr Q s := exposeR hst hb h
theorem exposeR7 {a1 a2 a3 a4 a5 a6 a7 : Stmt} (hst : stA MineX.P0 [34] = some (.FunctionDef name params body dec ret tp scope ts bind pos)) (hb : (subB body path).drop k = [a1, a2, a3, a4, a5, a6, a7]) (h : wpAny (model prog3 w) ((Aq 9).deeper (envOfC name scope L fa cr)) (execs [a1, a2, a3, a4, a5, a6, a7] (envOfC name scope L fa cr)) Q noE s) : RunGoal path k w L fa cr Q s := exposeR hst hb h
end
/-- what stays in the run: the table's cell, the table, the arrows -/
structure RunL (w : World) (L t d l S Ad : Addr) (od oc : Obj) (core : List (Addr × Obj)) : Prop where
  cm : (L + 1, oc) ∈ core
  cd : oc.data = .cell (some (.ref t))
  hi : (t, instObj 182 d) ∈ core
  hd : ∃ tk0, (d, hdrDict w l tk0) ∈ core
  ar : (Ad, od) ∈ core
  ol : ∀ p ∈ core, p.1 ≠ l
  oS : ∀ p ∈ core, p.1 ≠ S
  Sl : S ≠ l
theorem RunL.more {L t d l S Ad : Addr} {od oc : Obj} {core own : List (Addr × Obj)} (R : RunL w L t d l S Ad od oc core) (h1 : ∀ p ∈ own, p.1 ≠ l) (h2 : ∀ p ∈ own, p.1 ≠ S) : RunL w L t d l S Ad od oc (own ++ core) :=
  ⟨List.mem_append_right _ R.cm, R.cd, List.mem_append_right _ R.hi, let ⟨k, e⟩ := R.hd; ⟨k, List.mem_append_right _ e⟩, List.mem_append_right _ R.ar, fun p hp => (List.mem_append.mp hp).elim (h1 p) (R.ol p), fun p hp => (List.mem_append.mp hp).elim (h2 p) (R.oS p), R.Sl⟩
structure RunM (z : Bool) (Ad P S : Addr) (t1 : Tok) (lv : Option Value) (m : Str → Option Value) : Prop where
  rooms : m (Str.ofString "rooms") = some (.str (rms2 z) t1)
  arrows : m (Str.ofString "arrows") = some (.ref Ad)
  picks : m (Str.ofString "picks") = some (.ref P)
  sent : m (Str.ofString "sent") = some (.ref S)
  laid : m (Str.ofString "laid") = lv
/-- a change of the table's list, the list and its tuples anywhere in the ledger -/
theorem use_mutM {A : Around} {t : Sem Value} {ok : Value → List Row → Prop} {l : Addr} {rows : List Row} {k n : Nat} {s : Shared} {b : Heap} {L : Addr} {m : Str → Option Value} {news rest : List (Addr × Obj)} {Q E : Value → Shared → Prop}
    (spec : wpAny (model prog3 w) (Aq k) t (PostM ok l rows s) noE s) (hA : Fits A k) (F : Fr b L s.heap m) (N : News b L s.heap news) (hl : ∀ p ∈ led l n rows, p ∈ news) (hs : ∀ p ∈ rest, p ∈ news ∧ p.1 ≠ l)
    (h : ∀ v h' tk' n' rows', ok v rows' → Fr b L h' m → News b L h' (rest ++ led l n' rows') → Q v { s with heap := h', toks := tk' }) : wpAny (model prog3 w) A t Q E s :=
  use_mut (other := rest) spec hA F (fun p hp => (List.mem_append.mp hp).elim (fun q => N p (hs p q).1) fun q => N p (hl p q)) (fun p hp => (hs p hp).2) h
theorem bare_of {b : Heap} {s : Shared} {L l : Addr} {o : Obj} {news : List (Addr × Obj)} (st : h₀.StaysIn b) (N : News b L s.heap news) (hl : (l, o) ∈ news) : h₀.get? l = none := by
  cases e : h₀.get? l with
  | none => rfl
  | some o' => have y := (N _ hl).2.2; rw [st _ _ e] at y; cases y
theorem put_led {A : Around} {s : Shared} {b : Heap} {L t d l : Addr} {m : Str → Option Value} {news rest : List (Addr × Obj)} {rows : List Row} {n nr i : Nat} {Q E : Value → Shared → Prop} {c : Nat → Nat} {tk0 : Tok} {turn : Int} {t1 t2 t3 : Tok} (up : Bool) (G : G3 w mean mg mb h₀) (st : h₀.StaysIn b) (F : Fr b L s.heap m) (N : News b L s.heap news)
    (hi : (t, instObj 182 d) ∈ news) (hd : (d, hdrDict w l tk0) ∈ news) (hl : ∀ p ∈ led l n rows, p ∈ news) (hs : ∀ p ∈ rest, p ∈ news ∧ p.1 ≠ l) (W : Wf2 nr (kvsOf rows) c) (hn : nr ≤ 4) (hir : i < nr) (hrl : rows.length ≤ 40) (hc : if up then c i < 5 else 2 ≤ c i ∧ c i < 6) (hA : Fits A 8)
    (h : ∀ v h' tk' n' rows', Wf2 nr (kvsOf rows') (put1 c i (if up then c i + 1 else c i - 2)) → rows'.length = rows.length → Fr b L h' m → News b L h' (rest ++ led l n' rows') → Q v { s with heap := h', toks := tk' }) :
    wpAny (model prog3 w) A (call (.ref 258) [.ref t, .str (letter i) t1, .int turn t2, .int (if up then 1 else 0) t3]) Q E s := by
  have ll := hl (l, lst rows n) (.head _)
  refine use_mutM (put_c G (stays_fr st F) (tab_mem N hi hd) (N _ ll).1 (bare_of st N ll) (fun r h => (N (r.a, r.obj) (hl _ (.tail _ (List.mem_map.mpr ⟨r, h, rfl⟩)))).1) W hn hir hrl up hc turn t1 t2 t3) hA F N hl hs ?_
  rintro v h' tk' n' rows' ⟨w1, w2⟩ F' N'
  exact h v h' tk' n' rows' w1 w2 F' N'
theorem add_led {A : Around} {s : Shared} {b : Heap} {L t d l : Addr} {m : Str → Option Value} {news rest : List (Addr × Obj)} {rows : List Row} {n nr i : Nat} {Q E : Value → Shared → Prop} {c : Nat → Nat} {tk0 : Tok} {o : Bool} {t1 t2 : Tok} (G : G3 w mean mg mb h₀) (st : h₀.StaysIn b) (F : Fr b L s.heap m) (N : News b L s.heap news)
    (hi : (t, instObj 182 d) ∈ news) (hd : (d, hdrDict w l tk0) ∈ news) (hl : ∀ p ∈ led l n rows, p ∈ news) (hs : ∀ p ∈ rest, p ∈ news ∧ p.1 ≠ l) (W : Wf2 nr (kvsOf rows) c) (hn : nr ≤ 4) (h4 : 4 ≤ i) (h6 : i < 6) (hrl : rows.length ≤ 40) (hA : Fits A 5)
    (h : ∀ v h' tk' n' rows', Wf2 nr (kvsOf rows') (put1 c i (c i + 1)) → Fr b L h' m → News b L h' (rest ++ led l n' rows') → Q v { s with heap := h', toks := tk' }) :
    wpAny (model prog3 w) A (call (.ref 179) [.ref t, .str (nm i o) t1, .str (vstr 1) t2]) Q E s := by
  have ll := hl (l, lst rows n) (.head _)
  obtain ⟨f1, f2, f3, f4, _⟩ := nm_fact i h6 o
  refine use_mutM (addh_c G (stays_fr st F) (tab_mem N hi hd) (N _ ll).1 (bare_of st N ll) (fun r h => (N (r.a, r.obj) (hl _ (.tail _ (List.mem_map.mpr ⟨r, h, rfl⟩)))).1) f4 (by decide +kernel) hrl t1 t2) hA F N hl hs ?_
  rintro v h' tk' n' rows' ⟨r, hk, hv, rfl⟩ F' N'
  exact h v h' tk' n' _ (wf2_add W hn h4 h6 f1 f2 hk hv) F' N'
end
end Mine
section
open Mine
local macro_rules | `(tactic| walk_at "eval Name") => `(tactic| (k_here; refine ldLoc (by k_asm) (by assumption) ?_))
local macro_rules | `(tactic| walk_at "subscriptTail Name Name ref str") => `(tactic| (k_here; refine kda_item (knd := PySem.strKind _ _) (by k_asm) (by assumption) (by k_asm) (strKind_is _ _ _ _) (by assumption) ?_))
local macro_rules | `(tactic| walk_at "call ref") => `(tactic| (k_here; (with_reducible show wpAny _ _ (call (Value.ref 258) _) _ _ _); refine StopAt.p ?_))
namespace Mine
section
variable {w : World} {mean : ExcName → Option Value} {mg mb : Str → Option Value} {h₀ : Heap}
theorem two_fact : ∀ a < 6, ∀ b < 6, (letter a ++ letter b).cps.size = 2 ∧ (letter a ++ letter b).cps.all (· < 128) = true ∧ (letter a ++ letter b).cps[0]?.map (fun c => (⟨#[c]⟩ : Str)) = some (letter a) ∧ (letter a ++ letter b).cps[1]?.map (fun c => (⟨#[c]⟩ : Str)) = some (letter b) := by decide +kernel
theorem enc_0 (G : G3 w mean mg mb h₀) {s : Shared} (hs : h₀.StaysIn s.heap) (t : Tok) :
    wpAny (model prog3 w) (Aq 1) (call (.ref 229) [.str (Str.ofString "=") t]) (Post (IsStr (vstr 1)) s) noE s := enc_v G hs 0 (by decide) t
local macro_rules | `(tactic| walk_at "loadName") => `(tactic| (k_here; refine ldnLoc (by k_asm) (by assumption) ?_))
local macro_rules | `(tactic| walk_at "call ref") => `(tactic| (k_here; (with_reducible show wpAny _ _ (call (Value.ref 251) _) _ _ _); (show wpAny _ _ (call (Value.ref 251) [Value.str (letter _) _, Value.int _ _]) _ _ _); refine use_str (name_c (by assumption) (stays_fr (by assumption) (by k_asm)) (by assumption) _ _) ⟨rfl, Nat.le_of_ble_eq_true rfl, Nat.le_of_ble_eq_true rfl⟩ (by k_asm) (by k_asm) ?_; intro tn' h' tk' F' N'))
local macro_rules | `(tactic| walk_at "call ref") => `(tactic| (k_here; (with_reducible show wpAny _ _ (call (Value.ref 229) _) _ _ _); (show wpAny _ _ (call (Value.ref 229) [Value.str (Str.ofString "=") _]) _ _ _); refine use_str (enc_0 (by assumption) (stays_fr (by assumption) (by k_asm)) _) ⟨rfl, Nat.le_of_ble_eq_true rfl, Nat.le_of_ble_eq_true rfl⟩ (by k_asm) (by k_asm) ?_; intro tn' h' tk' F' N'))
local macro_rules | `(tactic| walk_at "call ref") => `(tactic| (k_here; (with_reducible show wpAny _ _ (call (Value.ref 179) _) _ _ _); refine StopAt.p ?_))
local macro_rules | `(tactic| walk_at "exec For Name Subscript cons nil") => `(tactic| (k_here; (rename Fr _ _ _ _ => lF'); (with_unfolding_all refine For_V lF' (by rfl) (by rfl) ?_)))
noncomputable def cA (n : Nat) (f g : Nat → Nat) (c : Nat → Nat) (r : Nat) : Nat → Nat → Nat
  | 0 => c
  | 1 => add1 c (pl n (f r))
  | _ => add1 (add1 c (pl n (f r))) (pl n (g r))
theorem off_led {b h : Heap} {L I l : Addr} {oI : Obj} {x : Addr × Obj} {own core : List (Addr × Obj)} {rows : List Row} {n : Nat} (N : News b L h (own ++ (core ++ x :: led l n rows))) (hoI : (I, oI) ∈ own) (hit : IterO oI) (h0 : ∀ p ∈ core ++ [x], p.1 ≠ I) : ∀ p ∈ core ++ x :: led l n rows, p.1 ≠ I := fun p hp => by
  rcases List.mem_append.mp hp with hq | hq
  · exact h0 p (List.mem_append_left _ hq)
  · rcases List.mem_cons.mp hq with rfl | hq
    · exact h0 p (List.mem_append_right _ (.head _))
    · refine iter_ne (o := p.2) N (List.mem_append_left _ hoI) hit (List.mem_append_right _ hp) ?_
      rcases List.mem_cons.mp hq with rfl | hq
      · exact .inr rfl
      · obtain ⟨r, _, rfl⟩ := List.mem_map.mp hq
        exact .inl rfl
theorem led_in {l S : Addr} {oS : Obj} {own core : List (Addr × Obj)} {rows : List Row} {n : Nat} : ∀ p ∈ led l n rows, p ∈ own ++ (core ++ (S, oS) :: led l n rows) := fun _ hp => List.mem_append_right _ (List.mem_append_right _ (.tail _ hp))
theorem rest_in {w : World} {L t d l S Ad : Addr} {od oc oS : Obj} {own core : List (Addr × Obj)} {rows : List Row} {n : Nat} (R : RunL w L t d l S Ad od oc core) (h : ∀ p ∈ own, p.1 ≠ l) : ∀ p ∈ own ++ (core ++ [(S, oS)]), p ∈ own ++ (core ++ (S, oS) :: led l n rows) ∧ p.1 ≠ l := fun p hp => by
  rcases List.mem_append.mp hp with hq | hq
  · exact ⟨List.mem_append_left _ hq, h p hq⟩
  · rcases List.mem_append.mp hq with hq | hq
    · exact ⟨List.mem_append_right _ (List.mem_append_left _ hq), R.ol p hq⟩
    · rw [List.mem_singleton.mp hq]; exact ⟨List.mem_append_right _ (List.mem_append_right _ (.head _)), R.Sl⟩
theorem news_re {b h : Heap} {L : Addr} {x : Addr × Obj} {own core ll : List (Addr × Obj)} (N : News b L h ((own ++ (core ++ [x])) ++ ll)) : News b L h (own ++ (core ++ x :: ll)) := fun p hp => N p (by simpa using hp)
theorem in_lL : ∀ i < 6, (Builtin.Str.occurrences (Str.ofString "lL") (letter i) 0 (Str.ofString "lL").length 1).isEmpty = decide (i < 4) := by decide +kernel
theorem pl_room {n p : Nat} (hn : n ≤ 4) (hp : p < n + 2) (h : pl n p < 4) : p < n ∧ pl n p = p := by unfold pl at h ⊢; split at h <;> (first | exact ⟨by assumption, if_pos (by assumption)⟩ | omega)
theorem find_rms : ∀ z : Bool, ∀ r < siz z, Txt.find (rms2 z) (letter r) = (r : Int) := by decide +kernel
theorem getS {A : Around} {E : Value → Shared → Prop} {s : Shared} {b : Heap} {L S : Addr} {news : List (Addr × Obj)} {ys : List Value} {ns : List Int} {n k : Nat} {i : Int} {u : Tok} {Q : Value → Shared → Prop} (N : News b L s.heap news) (hm : (S, W.listOf ys.toArray n) ∈ news) (hi : IntsAre ys ns) (e : i = (k : Int)) (hk : k < ns.length) (hfit : ns.length ≤ 64)
    (h : ∀ t, Q (.int (ns.getD k 0) t) s) : wpAny (model prog3 w) A (getItem (.ref S) (.int i u)) Q E s := by
  subst e
  have hl : s.heap.IsList S ys.toArray := ⟨_, (N _ hm).1, rfl, _, rfl⟩
  have hky : k < ys.length := hi.length ▸ hk
  obtain ⟨t, ht⟩ := hi.int_at k ys[k] (by simp [hky])
  refine wpAny_getItem_list hl (Int.natCast_nonneg k) (by omega) (x := .int (ns.getD k 0) t) ?_ (h t)
  rw [← ht]; simp [hky]
local macro_rules | `(tactic| walk_at "getItem ref int") => `(tactic| (k_here; refine getS (by k_asm) (by assumption) (by assumption) (by assumption) (by assumption) (by assumption) ?_; intro tg'))
local macro_rules | `(tactic| walk_at "setItem ref int") => `(tactic| (k_here; refine StopAt.p ?_))
theorem st_fire {b : Heap} (G : G3 w mean mg mb b) {L fa : Addr} {cr : Value} {Q : Flow → Shared → Prop} {s : Shared} {m : Str → Option Value} {core : List (Addr × Obj)} {z : Bool} {t d l S Ad P : Addr} {od oc : Obj} {t1 tr tn : Tok} {kvs : List (Str × Value)} {f g : Nat → Nat} {rows : List Row} {n k r : Nat} {c : Nat → Nat} {ys : List Value} {sn : Nat → Int} {turn : Int} {lv : Option Value}
    (R : RunL w L t d l S Ad od oc core) (A : Arr (siz z) f g) (hod : od.IsDictOf (PySem.strKind prog3 w) kvs) (dv : DS letter (List.range (siz z)) kvs (fun k => IsStr (arS z f g k)))
    (F : Fr b L s.heap m) (N : News b L s.heap (core ++ (S, W.listOf (List.toArray ys) k) :: led l n rows)) (M : RunM z Ad P S t1 lv m) (hroom : m (Str.ofString "room") = some (.str (letter r) tr)) (hturn : m (Str.ofString "turn") = some (.int turn tn))
    (hr : r < siz z) (V : Wf2 (siz z) (kvsOf rows) c) (hb : tot (siz z) c ≤ 20) (hrs : rs (siz z) c + 1 ≤ siz z) (hI : IntsAre ys ((List.range (siz z)).map sn))
    (next : ∀ h' tk' m' rows' n' ys' k' tn', RunM z Ad P S t1 lv m' → m' (Str.ofString "turn") = some (.int (turn + 1) tn') → Wf2 (siz z) (kvsOf rows') (add1 (add1 c (pl (siz z) (f r))) (pl (siz z) (g r))) → IntsAre ys' ((List.range (siz z)).map (up sn r)) → Fr b L h' m' → News b L h' (core ++ (S, W.listOf (List.toArray ys') k') :: led l n' rows') → Q .next { s with heap := h', toks := tk' }) : RunGoal [3, 1] 4 w L fa cr Q s := by
  refine exposeR3 (by rfl) (by rfl) ?_
  have X := G.X
  have TT := G.T
  have hst0 : b.StaysIn b := fun _ _ e => e
  obtain ⟨M1, M2, M3, M4, M5⟩ := M
  have h4 := siz_le z
  have hcm : (L + 1, oc) ∈ core ++ (S, W.listOf (List.toArray ys) k) :: led l n rows := List.mem_append_left _ R.cm
  have hcd := R.cd
  have har : (Ad, od) ∈ core ++ (S, W.listOf (List.toArray ys) k) :: led l n rows := List.mem_append_left _ R.ar
  obtain ⟨_, hva, ta, rfl⟩ := dv.val r (List.mem_range.mpr hr)
  k_steps
  rename Fr _ _ _ _ => F2
  rename News _ _ _ _ => N2
  obtain ⟨af1, af2⟩ := A.f1 r hr
  obtain ⟨ag1, ag2⟩ := A.g1 r hr
  obtain ⟨y1, y2, y3, y4⟩ := two_fact _ (pl_lt h4 af2) _ (pl_lt h4 ag2)
  unfold Lp
  refine loop_str (y := arS z f g r) (fun i m' news => ∃ rows' n', news = core ++ (S, W.listOf (List.toArray ys) k) :: led l n' rows' ∧ Wf2 (siz z) (kvsOf rows') (cA (siz z) f g c r i) ∧ RunM z Ad P S t1 lv m' ∧ m' (Str.ofString "turn") = some (.int turn tn) ∧ m' (Str.ofString "room") = some (.str (letter r) tr)) rfl y2 F2 N2 ⟨rows, n, rfl, V, ⟨M1, M2, M3, M4, M5⟩, hturn, hroom⟩ ?_ ?_
  · clear F2 N2 hturn hroom M1 M2 M3 M4 M5
    rintro I i ch v3 m₁ news₁ h tk own hch ⟨rows', n', rfl, V', ⟨M1, M2, M3, M4, M5⟩, hturn, hroom⟩ hI2 hlt' hown ⟨oI, hoI, hit⟩ F N
    replace F : Fr b L h _ := F
    replace N : News b L h _ := N
    obtain ⟨p, hp, hcl, hnx, hbt, hbr⟩ : ∃ p, p < siz z + 2 ∧ (⟨#[ch]⟩ : Str) = letter (pl (siz z) p) ∧ cA (siz z) f g c r (i + 1) = add1 (cA (siz z) f g c r i) (pl (siz z) p) ∧ tot (siz z) (cA (siz z) f g c r i) ≤ 21 ∧ rs (siz z) (cA (siz z) f g c r i) ≤ siz z := by
      have hi2 : i < 2 := by
        have := (Array.getElem?_eq_some_iff.mp hch).1
        unfold arS at this
        rwa [y1] at this
      rcases (show i = 0 ∨ i = 1 by omega) with rfl | rfl
      · unfold arS at hch
        rw [hch] at y3
        exact ⟨f r, af2, Option.some.inj y3, rfl, by show tot _ c ≤ 21; omega, by show rs _ c ≤ _; omega⟩
      · unfold arS at hch
        rw [hch] at y4
        refine ⟨g r, ag2, Option.some.inj y4, rfl, ?_, ?_⟩
        · show tot _ (add1 c _) ≤ 21
          rw [tot_add h4 af2]; omega
        · show rs _ (add1 c _) ≤ _
          have := rs_add h4 (c := c) (p := f r)
          omega
    rw [hcl] at F
    have hl40 : rows'.length ≤ 40 := by rw [V'.lenR]; unfold tot at hbt; omega
    have hp6 := pl_lt h4 hp
    obtain ⟨tk0, hdd⟩ := R.hd
    have hti : (t, instObj 182 d) ∈ own ++ (core ++ (S, W.listOf (List.toArray ys) k) :: led l n' rows') := List.mem_append_right _ (List.mem_append_left _ R.hi)
    have htd : (d, hdrDict w l tk0) ∈ own ++ (core ++ (S, W.listOf (List.toArray ys) k) :: led l n' rows') := List.mem_append_right _ (List.mem_append_left _ hdd)
    have hcm : (L + 1, oc) ∈ own ++ (core ++ (S, W.listOf (List.toArray ys) k) :: led l n' rows') := List.mem_append_right _ (List.mem_append_left _ R.cm)
    have hpl1 := letter_len _ hp6
    k_steps
    · rename List.isEmpty _ = true => he
      rename Fr _ _ _ _ => F2
      rename News _ _ _ _ => N2
      rw [in_lL _ hp6] at he
      obtain ⟨hpn, hpp⟩ := pl_room h4 hp (by simpa using he)
      have hcr : cA (siz z) f g c r i p < 5 := by have := rs_at (c := cA (siz z) f g c r i) hpn; omega
      rw [hpp] at hnx
      have hoff : ∀ q ∈ own, q.1 ≠ l := fun q hq => by rw [hown q hq]; exact Ne.symm (hI2 (l, lst rows' n') (List.mem_append_right _ (.tail _ (.head _))))
      rw [hpp]
      refine ⟨put_led true G hst0 F2 N2 (List.mem_append_right _ (List.mem_append_left _ R.hi)) (List.mem_append_right _ (List.mem_append_left _ hdd)) led_in (rest_in R hoff) V' h4 hpn hl40 hcr ⟨rfl, Nat.le_of_ble_eq_true rfl, Nat.le_of_ble_eq_true rfl⟩ ?_⟩
      clear F2 N2
      intro v' h5 tk5 n5 rows5 V5 hl5 F5 N5
      replace N5 := news_re N5
      k_steps
      rename Fr _ _ _ _ => F6
      rename News _ _ _ _ => N6
      refine TurnEnd.next F6 N6 (off_led N6 hoI hit fun q hq => hI2 q (by
        rcases List.mem_append.mp hq with hq | hq
        · exact List.mem_append_left _ hq
        · rw [List.mem_singleton.mp hq]; exact List.mem_append_right _ (.head _))) ⟨rows5, n5, rfl, ?_, ⟨M1, M2, M3, M4, M5⟩, hturn, hroom⟩
      rw [hnx]; exact V5
    · rename List.isEmpty _ = false => he
      rename Fr _ _ _ _ => F2
      rename News _ _ _ _ => N2
      rw [in_lL _ hp6] at he
      have hpp : 4 ≤ pl (siz z) p := by simpa using he
      have hoff : ∀ q ∈ own, q.1 ≠ l := fun q hq => by rw [hown q hq]; exact Ne.symm (hI2 (l, lst rows' n') (List.mem_append_right _ (.tail _ (.head _))))
      refine ⟨add_led G hst0 F2 N2 (List.mem_append_right _ (List.mem_append_left _ R.hi)) (List.mem_append_right _ (List.mem_append_left _ hdd)) led_in (rest_in R hoff) V' h4 hpp hp6 hl40 ⟨rfl, Nat.le_of_ble_eq_true rfl, Nat.le_of_ble_eq_true rfl⟩ ?_⟩
      clear F2 N2
      intro v' h5 tk5 n5 rows5 V5 F5 N5
      replace N5 := news_re N5
      k_steps
      rename Fr _ _ _ _ => F6
      rename News _ _ _ _ => N6
      refine TurnEnd.next F6 N6 (off_led N6 hoI hit fun q hq => hI2 q (by
        rcases List.mem_append.mp hq with hq | hq
        · exact List.mem_append_left _ hq
        · rw [List.mem_singleton.mp hq]; exact List.mem_append_right _ (.head _))) ⟨rows5, n5, rfl, ?_, ⟨M1, M2, M3, M4, M5⟩, hturn, hroom⟩
      rw [hnx]; exact V5
  · clear F2 N2
    rintro m₁ news₁ h tk ⟨rows', n', rfl, V', ⟨M1, M2, M3, M4, M5⟩, hturn, hroom⟩ F N
    replace F : Fr b L h _ := F
    replace N : News b L h _ := N
    have e2 : (arS z f g r).cps.size = 2 := y1
    rw [e2] at V'
    have hSm : (S, W.listOf (List.toArray ys) k) ∈ core ++ (S, W.listOf (List.toArray ys) k) :: led l n' rows' := List.mem_append_right _ (.head _)
    have hfr := find_rms z r hr
    have hrl : (rms2 z).length ≤ 4 := by rw [(rms_fact z).2.2]; exact h4
    have hnl : ((List.range (siz z)).map sn).length = siz z := by rw [List.length_map, List.length_range]
    have hrn : r < ((List.range (siz z)).map sn).length := by rw [hnl]; exact hr
    have hn64 : ((List.range (siz z)).map sn).length ≤ 64 := by rw [hnl]; omega
    have hget : ((List.range (siz z)).map sn).getD r 0 = sn r := by simp [List.getD, hr]
    k_steps
    rename Fr _ _ _ _ => F2
    rename News _ _ _ _ => N2
    refine ⟨?_⟩
    rw [hfr, hget]
    refine setI_use (other := core ++ led l n' rows') (n := k) F2 (fun p hp => N2 p (by simp at hp ⊢; rcases hp with h | h | h <;> simp [h])) (fun p hp => ?_) hI hrn hn64 ?_
    · rcases List.mem_append.mp hp with hq | hq
      · exact R.oS p hq
      · rcases List.mem_cons.mp hq with rfl | hq
        · exact Ne.symm R.Sl
        · obtain ⟨x, hx, rfl⟩ := List.mem_map.mp hq
          exact cls_off N2 (o := x.obj) (List.mem_append_right _ (.tail _ (.tail _ (List.mem_map.mpr ⟨x, hx, rfl⟩)))) hSm (ty_ne (by decide))
    clear F2 N2
    intro h5 ys5 hi5 F5 N5
    replace N5 : News b L h5 (core ++ (S, W.listOf (List.toArray ys5) k) :: led l n' rows') := fun p hp => N5 p (by simp at hp ⊢; rcases hp with h | h | h <;> simp [h])
    have hup : ((List.range (siz z)).map sn).set r (sn r + 1) = (List.range (siz z)).map (up sn r) := by
      apply List.ext_getElem?
      intro i
      rw [List.getElem?_set, List.getElem?_map, List.getElem?_map]
      by_cases e : r = i
      · subst e
        simp [up, ind, hr]
      · simp only [if_neg e]
        by_cases hi : i < siz z
        · simp [hi, up, ind, e]
        · simp [hi]
    rw [hup] at hi5
    k_steps
    rename Fr _ _ _ _ => F6
    rename News _ _ _ _ => N6
    refine next _ _ _ rows' n' ys5 k ?tn ?mm ?hh V' hi5 F6 N6
    case mm => exact ⟨M1, M2, M3, M4, M5⟩
    case hh => exact rfl
end
end Mine
section
open Mine
local macro_rules | `(tactic| walk_at "compareOp Eq ref ref") => `(tactic| (k_here; refine StopAt2.p ?_))
namespace Mine
section
variable {w : World} {mean : ExcName → Option Value} {mg mb : Str → Option Value} {h₀ : Heap}
theorem eqv_strs : ∀ xs ys : List Str, PyData.eqvAll (xs.map PyData.str) (ys.map PyData.str) = decide (xs = ys)
  | [], [] => by simp [PyData.eqvAll]
  | [], _ :: _ => by simp [PyData.eqvAll]
  | _ :: _, [] => by simp [PyData.eqvAll]
  | x :: xs, y :: ys => by
    simp only [List.map_cons, PyData.eqvAll, PyData.eqv, eqv_strs xs ys, List.cons.injEq, Bool.decide_and]
    by_cases h : x = y <;> simp [h]
theorem eq_strs {A : Around} {E : Value → Shared → Prop} {s : Shared} {a b : Addr} {xs ys : List Str} {vs us : List Value} {Q : Value → Shared → Prop} (ha : s.heap.IsList a vs.toArray) (hb : s.heap.IsList b us.toArray) (hv : Rels IsStr xs vs) (hu : Rels IsStr ys us) (hx : ∀ x ∈ xs, PyData.strOk x = true) (hy : ∀ x ∈ ys, PyData.strOk x = true) (hA : A.units + 64 < cLine)
    (h : Q (.bool (decide (xs = ys))) s) : wpAny (model prog3 w) A (compareOp .Eq (.ref a) (.ref b)) Q E s := by
  obtain ⟨o, ho, hc, n, hd⟩ := ha
  obtain ⟨o', ho', hc', n', hd'⟩ := hb
  refine PySem.SeqAt.compareEq_shaped (Reads.list ho hc hd (by simpa using reads_strs hv)) (Reads.list ho' hc' hd' (by simpa using reads_strs hu)) (shaped_strs hx) (shaped_strs hy) hA ?_
  have e : PyData.eqv (.list (xs.map PyData.str)) (.list (ys.map PyData.str)) = decide (xs = ys) := by
    show PyData.eqvAll _ _ = _
    exact eqv_strs xs ys
  rw [e]
  exact h
theorem freshF {b : Heap} {s : Shared} {L D : Addr} {m : Str → Option Value} (F : Fr b L s.heap m) (h : s.heap.get? D = none) : D ≠ L ∧ b.get? D = none := by
  refine ⟨fun e => ?_, ?_⟩
  · obtain ⟨o, _, _, hL, _⟩ := F.ns
    rw [← e, h] at hL; cases hL
  · cases e : b.get? D with
    | none => rfl
    | some o => have y := F.keep _ _ e; rw [h] at y; cases y
theorem full_led {A : Around} {s : Shared} {b : Heap} {L t d l : Addr} {m : Str → Option Value} {news : List (Addr × Obj)} {rows : List Row} {n : Nat} {Q E : Value → Shared → Prop} {c : Nat → Nat} {z : Bool} {tk0 : Tok} {t1 : Tok} (G : G3 w mean mg mb h₀) (st : h₀.StaysIn b) (F : Fr b L s.heap m) (N : News b L s.heap news)
    (hi : (t, instObj 182 d) ∈ news) (hd : (d, hdrDict w l tk0) ∈ news) (hl : ∀ p ∈ led l n rows, p ∈ news) (V : Wf2 (siz z) (kvsOf rows) c) (hc : ∀ i < siz z, c i < 6) (hA : Fits A 6)
    (h : ∀ D k vs h' tk', Rels IsStr (((List.range (siz z)).filter fun i => decide (2 ≤ c i)).map letter) vs → (∀ p ∈ news, p.1 ≠ D) → Fr b L h' m → News b L h' ((D, W.listOf (List.toArray vs) k) :: news) → Q (.ref D) { s with heap := h', toks := tk' }) :
    wpAny (model prog3 w) A (call (.ref 263) [.ref t, .str (rms2 z) t1]) Q E s := by
  have ll := hl (l, lst rows n) (.head _)
  refine wpAny_mono (weaken (full_c G (stays_fr st F) (tab_mem N hi hd) (N _ ll).1 (fun r h => (N (r.a, r.obj) (hl _ (.tail _ (List.mem_map.mpr ⟨r, h, rfl⟩)))).1) V hc t1) hA.h hA.d hA.u rfl rfl) (fun v s' p => ?_) fun _ _ x => x.elim
  obtain ⟨D, h', tk, n', vs, rfl, rfl, hk, hDn, hD, hv⟩ := p.ex
  refine h D n' vs h' tk hv (fun p hp e => by have y := (N p hp).1; rw [e, hDn] at y; cases y) (F.keeps hk) fun p hp => ?_
  rcases List.mem_cons.mp hp with rfl | hp
  · exact ⟨hD, freshF F hDn⟩
  · exact (N.keeps hk) p hp
theorem itemP {A : Around} {E : Value → Shared → Prop} {s : Shared} {b : Heap} {L : Addr} {m : Str → Option Value} {value slice : PySem.Expr} {D : Addr} {ys : List Value} {ns : List Int} {k : Nat} {i : Int} {u : Tok} {Q : Value → Shared → Prop}
    (F : Fr b L s.heap m) (hl₀ : b.IsList D ys.toArray) (hi : IntsAre ys ns) (e : i = (k : Int)) (hk : k < ns.length) (hfit : ns.length ≤ 64) (h : ∀ t, Q (.int (ns.getD k 0) t) s)
    (hs : subscripted slice false (.ref D) (.int i u) = operate [.ref D, .int i u] (getItem (.ref D) (.int i u)) := by with_unfolding_all rfl) :
    wpAny (model prog3 w) A (subscriptTail value slice (.ref D) (.int i u)) Q E s := by
  subst e
  exact itemB F hl₀ hi hk hfit h hs
theorem itemF {A : Around} {E : Value → Shared → Prop} {s : Shared} {b : Heap} {L : Addr} {value slice : PySem.Expr} {D : Addr} {news : List (Addr × Obj)} {vs : List Value} {n k : Nat} {i : Int} {u : Tok} {v : Value} {Q : Value → Shared → Prop}
    (N : News b L s.heap news) (hm : (D, W.listOf (List.toArray vs) n) ∈ news) (e : i = (k : Int)) (hx : vs[k]? = some v) (hfit : vs.length ≤ 64) (h : Q v s)
    (hs : subscripted slice false (.ref D) (.int i u) = operate [.ref D, .int i u] (getItem (.ref D) (.int i u)) := by with_unfolding_all rfl) :
    wpAny (model prog3 w) A (subscriptTail value slice (.ref D) (.int i u)) Q E s := by
  subst e
  have hk : k < vs.length := (List.getElem?_eq_some_iff.mp hx).1
  exact itemL (vs := vs) ⟨_, (N _ hm).1, rfl, _, rfl⟩ (by omega) hx h hs
theorem lenF {A : Around} {E : Value → Shared → Prop} {s : Shared} {b : Heap} {L : Addr} {D : Addr} {news : List (Addr × Obj)} {vs : List Value} {n k : Nat} {Q : Value → Shared → Prop} (N : News b L s.heap news) (hm : (D, W.listOf (List.toArray vs) n) ∈ news) (e : vs.length = k) (hk : k ≤ 64) (h : ∀ t tk, Q (.int (k : Int) t) { s with toks := tk }) : wpAny (model prog3 w) A (call (.builtin "len") [.ref D]) Q E s :=
  len_use (its := vs.toArray) ⟨_, (N _ hm).1, rfl, _, rfl⟩ (by simpa using e) (by omega) h
theorem mem2 {b h : Heap} {L : Addr} {x y : Addr × Obj} {ll : List (Addr × Obj)} (_ : News b L h (x :: y :: ll)) : y ∈ x :: y :: ll := .tail _ (.head _)
theorem mem_up {b h : Heap} {L : Addr} {x y p : Addr × Obj} {ll : List (Addr × Obj)} (_ : News b L h (x :: y :: ll)) (hp : p ∈ ll) : p ∈ x :: y :: ll := .tail _ (.tail _ hp)
theorem letters_ok : ∀ i < 6, PyData.strOk (letter i) = true := by decide +kernel
local macro_rules | `(tactic| walk_at "call ref") => `(tactic| (k_here; (with_reducible show wpAny _ _ (call (Value.ref 263) _) _ _ _); refine StopAt.p ?_))
local macro_rules | `(tactic| walk_at "call builtin:len") => `(tactic| (k_here; (with_reducible show wpAny _ _ (call (Value.builtin "len") [Value.ref _]) _ _ _); first | refine len_use (Heap.IsList.at (by assumption) fun o e => Fr.keep (by k_asm) _ o e) (by assumption) (by assumption) ?_ | refine lenF (by k_asm) (by assumption) (by assumption) (by assumption) ?_; intro tl' tkl'))
local macro_rules | `(tactic| walk_at "subscriptTail Name BinOp ref int") => `(tactic| (k_here; first | refine itemF (by k_asm) (by assumption) (by assumption) (by assumption) (by assumption) ?_ | (refine itemP (by k_asm) (by assumption) (by assumption) (by assumption) (by assumption) (by assumption) ?_; intro tg')))
theorem st_step {b : Heap} (G : G3 w mean mg mb b) {L fa : Addr} {cr : Value} {Q : Flow → Shared → Prop} {s : Shared} {m : Str → Option Value} {core : List (Addr × Obj)} {z : Bool} {t d l S Ad P : Addr} {od oc : Obj} {t1 tn : Tok} {kvs : List (Str × Value)} {f g : Nat → Nat} {rows : List Row} {n k M : Nat} {c : Nat → Nat} {ys pv : List Value} {ns : List Int} {sn : Nat → Int} {turn : Int} {lv : Option Value}
    (R : RunL w L t d l S Ad od oc core) (A : Arr (siz z) f g) (hod : od.IsDictOf (PySem.strKind prog3 w) kvs) (dv : DS letter (List.range (siz z)) kvs (fun k => IsStr (arS z f g k)))
    (F : Fr b L s.heap m) (N : News b L s.heap (core ++ (S, W.listOf (List.toArray ys) k) :: led l n rows)) (M0 : RunM z Ad P S t1 lv m) (hturn : m (Str.ofString "turn") = some (.int turn tn))
    (hpk : b.IsList P pv.toArray) (hpi : IntsAre pv ns) (hn1 : 0 < ns.length) (hn64 : ns.length ≤ 64)
    (V : Wf2 (siz z) (kvsOf rows) c) (SP : StP (siz z) f g M sn c) (hM : M ≤ 16) (hI : IntsAre ys ((List.range (siz z)).map sn))
    (brk : ∀ h' tk' m', (∀ i < siz z, c i ≤ 1) → RunM z Ad P S t1 lv m' → m' (Str.ofString "turn") = some (.int turn tn) → Fr b L h' m' → News b L h' (core ++ (S, W.listOf (List.toArray ys) k) :: led l n rows) → Q .brk { s with heap := h', toks := tk' })
    (next : ∀ r h' tk' m' rows' n' ys' k' tn', r < siz z → 2 ≤ c r → RunM z Ad P S t1 lv m' → m' (Str.ofString "turn") = some (.int (turn + 1) tn') → Wf2 (siz z) (kvsOf rows') (fire2 (siz z) f g c r) → IntsAre ys' ((List.range (siz z)).map (up sn r)) → Fr b L h' m' → News b L h' (core ++ (S, W.listOf (List.toArray ys') k') :: led l n' rows') → Q .next { s with heap := h', toks := tk' }) : RunGoal [3, 1] 0 w L fa cr Q s := by
  refine exposeR7 (by rfl) (by rfl) ?_
  have X := G.X
  have TT := G.T
  have hst0 : b.StaysIn b := fun _ _ e => e
  obtain ⟨M1, M2, M3, M4, M5⟩ := M0
  have h4 := siz_le z
  have hcm : (L + 1, oc) ∈ core ++ (S, W.listOf (List.toArray ys) k) :: led l n rows := List.mem_append_left _ R.cm
  have hcd := R.cd
  obtain ⟨tk0, hdd⟩ := R.hd
  have hc6 : ∀ i < siz z, c i < 6 := fun i hi => by have := rs_at (c := c) hi; have := SP.room; omega
  k_steps
  refine ⟨full_led G hst0 F N (List.mem_append_left _ R.hi) (List.mem_append_left _ hdd) (fun p hp => List.mem_append_right _ (.tail _ hp)) V hc6 ⟨rfl, Nat.le_of_ble_eq_true rfl, Nat.le_of_ble_eq_true rfl⟩ ?_⟩
  clear F N
  intro D kD vs h2 tk2 hvs hDn F N
  k_steps
  rename Fr _ _ _ _ => F2
  rename News _ _ _ _ => N2
  refine ⟨eq_strs (ys := []) (us := []) ⟨_, (N2 (D, W.listOf (List.toArray vs) kD) (.tail _ (.head _))).1, rfl, _, rfl⟩ ⟨_, (N2 _ (.head _)).1, rfl, _, rfl⟩ hvs trivial (fun x hx => ?_) (fun x hx => nomatch hx) (Nat.le_of_ble_eq_true rfl) ?_⟩
  · obtain ⟨i, hi, rfl⟩ := List.mem_map.mp hx
    exact letters_ok i (by have := List.mem_range.mp (List.mem_filter.mp hi).1; omega)
  by_cases hq : ((List.range (siz z)).filter fun i => decide (2 ≤ c i)) = []
  · have hdec : decide ((((List.range (siz z)).filter fun i => decide (2 ≤ c i)).map letter) = []) = true := by rw [hq]; rfl
    rw [hdec]
    k_steps
    rename Fr _ _ _ _ => F3
    rename News _ _ _ _ => N3
    refine brk _ _ _ (fun i hi => ?_) ?mm ?hh F3 fun p hp => N3 p (.tail _ (.tail _ hp))
    case mm => exact ⟨M1, M2, M3, M4, M5⟩
    case hh => exact hturn
    have := List.filter_eq_nil_iff.mp hq i (List.mem_range.mpr hi)
    simp at this; omega
  · have hdec : decide ((((List.range (siz z)).filter fun i => decide (2 ≤ c i)).map letter) = []) = false := by
      rw [decide_eq_false]; intro e; exact hq (List.map_eq_nil_iff.mp e)
    rw [hdec]
    have hfl : 0 < ((List.range (siz z)).filter fun i => decide (2 ≤ c i)).length := List.length_pos_iff.mpr hq
    have hfl2 : ((List.range (siz z)).filter fun i => decide (2 ≤ c i)).length ≤ siz z := by
      have := List.length_filter_le (fun i => decide (2 ≤ c i)) (List.range (siz z))
      rwa [List.length_range] at this
    have hvl : vs.length = ((List.range (siz z)).filter fun i => decide (2 ≤ c i)).length := by rw [rels_len hvs, List.length_map]
    generalize hfu : ((List.range (siz z)).filter fun i => decide (2 ≤ c i)) = fu at *
    generalize hnf : fu.length = nf at *
    have hnf64 : nf ≤ 64 := by omega
    have hvs64 : vs.length ≤ 64 := by omega
    have hnfz : (nf : Int) ≠ 0 := by omega
    have hpz : pv.toArray.size = ns.length := by rw [List.size_toArray]; exact hpi.length
    have hn1000 : ns.length ≤ 1000 := by omega
    have hnsz : (ns.length : Int) ≠ 0 := by omega
    obtain ⟨k1, hk1, e1⟩ := fmod_at turn hn1
    obtain ⟨k2, hk2, e2⟩ := fmod_at (ns.getD k1 0) hfl
    obtain ⟨v, hvk⟩ : ∃ v, vs[k2]? = some v := ⟨_, List.getElem?_eq_getElem (by omega)⟩
    obtain ⟨x, hx1, u, rfl⟩ := rels_at hvs hvk
    rw [List.getElem?_map] at hx1
    obtain ⟨r, hr1, rfl⟩ := Option.map_eq_some_iff.mp hx1
    have hrm : r ∈ fu := List.mem_of_getElem? hr1
    rw [← hfu] at hrm
    obtain ⟨hr2, hr3⟩ := List.mem_filter.mp hrm
    have hr : r < siz z := List.mem_range.mp hr2
    have h2c : 2 ≤ c r := by simpa using hr3
    have hDm := mem2 N2
    have hcm2 := mem_up N2 hcm
    k_steps
    rename Fr _ _ _ _ => F3
    rename News _ _ _ _ => N3
    refine ⟨put_led (rest := core ++ [(S, W.listOf (List.toArray ys) k)]) false G hst0 F3 N3 (.tail _ (.tail _ (List.mem_append_left _ R.hi))) (.tail _ (.tail _ (List.mem_append_left _ hdd))) (fun p hp => .tail _ (.tail _ (List.mem_append_right _ (.tail _ hp)))) (fun p hp => ?_) V h4 hr (by have := V.lenR; have := SP.all; unfold tot at this; omega) ⟨h2c, hc6 r hr⟩ ⟨rfl, Nat.le_of_ble_eq_true rfl, Nat.le_of_ble_eq_true rfl⟩ ?_⟩
    · rcases List.mem_append.mp hp with hq | hq
      · exact ⟨.tail _ (.tail _ (List.mem_append_left _ hq)), R.ol p hq⟩
      · rw [List.mem_singleton.mp hq]; exact ⟨.tail _ (.tail _ (List.mem_append_right _ (.head _))), R.Sl⟩
    clear F3 N3
    intro v' h5 tk5 n5 rows5 V5 hl5 F5 N5
    replace N5 : News b L h5 (core ++ (S, W.listOf (List.toArray ys) k) :: led l n5 rows5) := fun p hp => N5 p (by simpa using hp)
    obtain ⟨tt1, tt2⟩ := tot_take h4 hr h2c
    refine backR (path := [3, 1]) (k := 4) (by rfl) (by rfl) (st_fire (lv := lv) (turn := turn) (tn := tn) (tr := u) (t1 := t1) (P := P) (s := { s with heap := h5, toks := _ }) G R A hod dv F5 N5 ?mm ?h1 ?h2 hr V5 (by have := SP.all; show tot _ (put1 c r (c r - 2)) ≤ 20; omega) (by have := SP.room; show rs _ (put1 c r (c r - 2)) + 1 ≤ _; omega) hI ?nx)
    case mm => exact ⟨M1, M2, M3, M4, M5⟩
    case h1 => exact rfl
    case h2 => exact hturn
    case nx =>
      intro h' tk' m' rows' n' ys' k' tn' a1 a2 a3 a4 a5 a6
      exact next r h' tk' m' rows' n' ys' k' tn' hr h2c a1 a2 a3 a4 a5 a6
end
end Mine
namespace Mine
section
variable {w : World} {mean : ExcName → Option Value} {mg mb : Str → Option Value} {h₀ : Heap}
theorem off_own {b h : Heap} {L I : Addr} {own core : List (Addr × Obj)} {x : Addr × Obj} {l : Addr} {rows : List Row} {n : Nat} (_ : News b L h (own ++ (core ++ x :: led l n rows))) (hown : ∀ p ∈ own, p.1 = I) (hI : ∀ p ∈ core ++ x :: led l n rows, p.1 ≠ I) : (∀ p ∈ own, p.1 ≠ l) ∧ (∀ p ∈ own, p.1 ≠ x.1) :=
  ⟨fun p hp => by rw [hown p hp]; exact Ne.symm (hI (l, lst rows n) (List.mem_append_right _ (.tail _ (.head _)))), fun p hp => by rw [hown p hp]; exact Ne.symm (hI x (List.mem_append_right _ (.head _)))⟩
theorem st_loop {b : Heap} (G : G3 w mean mg mb b) {L fa : Addr} {cr : Value} {Q : Flow → Shared → Prop} {s : Shared} {m : Str → Option Value} {core : List (Addr × Obj)} {z : Bool} {t d l S Ad P : Addr} {od oc : Obj} {t1 tn : Tok} {kvs : List (Str × Value)} {f g : Nat → Nat} {rows : List Row} {n k M : Nat} {c : Nat → Nat} {ys pv : List Value} {ns : List Int} {sn : Nat → Int} {turn : Int} {lv : Option Value}
    (R : RunL w L t d l S Ad od oc core) (A : Arr (siz z) f g) (hod : od.IsDictOf (PySem.strKind prog3 w) kvs) (dv : DS letter (List.range (siz z)) kvs (fun k => IsStr (arS z f g k)))
    (F : Fr b L s.heap m) (N : News b L s.heap (core ++ (S, W.listOf (List.toArray ys) k) :: led l n rows)) (M0 : RunM z Ad P S t1 lv m) (hturn : m (Str.ofString "turn") = some (.int turn tn))
    (hpk : b.IsList P pv.toArray) (hpi : IntsAre pv ns) (hn1 : 0 < ns.length) (hn64 : ns.length ≤ 64)
    (V : Wf2 (siz z) (kvsOf rows) c) (SP : StP (siz z) f g M sn c) (hph : phi (siz z) f g M sn ≤ 64) (hM : M ≤ 16) (hI : IntsAre ys ((List.range (siz z)).map sn))
    (next : ∀ h' tk' m' rows' n' ys' k' turn' tn' sn' c', RunM z Ad P S t1 lv m' → m' (Str.ofString "turn") = some (.int turn' tn') → (∀ i < siz z, c' i ≤ 1) → StP (siz z) f g M sn' c' → (∀ p < siz z, sn p ≤ sn' p) → Wf2 (siz z) (kvsOf rows') c' → IntsAre ys' ((List.range (siz z)).map sn') → Fr b L h' m' → News b L h' (core ++ (S, W.listOf (List.toArray ys') k') :: led l n' rows') → RunGoal [3] 2 w L fa cr Q { s with heap := h', toks := tk' }) : RunGoal [3] 1 w L fa cr Q s := by
  refine exposeR2 (by rfl) (by rfl) ?_
  have X := G.X
  have TT := G.T
  have hst0 : b.StaysIn b := fun _ _ e => e
  obtain ⟨M1, M2, M3, M4, M5⟩ := M0
  have h4 := siz_le z
  k_steps
  rename IsRange _ _ _ _ _ _ _ _ => hrg
  rename Fr _ _ _ _ => F2
  rename News _ _ _ _ => N2
  unfold Lp
  refine loop_range (n := 999) (fun j m' news => ∃ rows' n' ys' k' turn' tn' sn' c', news = core ++ (S, W.listOf (List.toArray ys') k') :: led l n' rows' ∧ RunM z Ad P S t1 lv m' ∧ m' (Str.ofString "turn") = some (.int turn' tn') ∧ StP (siz z) f g M sn' c' ∧ phi (siz z) f g M sn' ≤ 64 - (j : Int) ∧ (∀ p < siz z, sn p ≤ sn' p) ∧ Wf2 (siz z) (kvsOf rows') c' ∧ IntsAre ys' ((List.range (siz z)).map sn')) rfl hrg (by decide) (by decide) F2 N2 ⟨rows, n, ys, k, turn, tn, sn, c, rfl, ⟨M1, M2, M3, M4, M5⟩, hturn, SP, by simpa using hph, fun p _ => Int.le_refl _, V, hI⟩ ?_ ?_
  · clear F2 N2 hrg hturn M1 M2 M3 M4 M5
    rintro I j u m₁ news₁ h tk own hj ⟨rows', n', ys', k', turn', tn', sn', c', rfl, ⟨M1, M2, M3, M4, M5⟩, hturn, SP', hph', hle, V', hI'⟩ hoff hlt' hown ⟨oI, hoI, hit⟩ F N
    replace F : Fr b L h _ := F
    replace N : News b L h _ := N
    obtain ⟨of1, of2⟩ := off_own N hown hoff
    have N' : News b L h ((own ++ core) ++ (S, W.listOf (List.toArray ys') k') :: led l n' rows') := by rw [List.append_assoc]; exact N
    refine backR (path := [3, 1]) (k := 0) (by rfl) (by rfl) (st_step (lv := lv) (turn := turn') (tn := tn') (t1 := t1) (P := P) (s := { s with heap := h, toks := tk }) G (R.more of1 of2) A hod dv F N' ⟨M1, M2, M3, M4, M5⟩ hturn hpk hpi hn1 hn64 V' SP' hM hI' ?_ ?_)
    · intro h2 tk2 m2 hq MM ht2 F2 N2
      refine backR (path := [3]) (k := 2) (by rfl) (by rfl) (next h2 tk2 m2 rows' n' ys' k' turn' tn' sn' c' MM ht2 hq SP' hle V' hI' F2 fun p hp => N2 p ?_)
      rw [List.append_assoc]; exact List.mem_append_right _ hp
    · intro r h2 tk2 m2 rows2 n2 ys2 k2 tn2 hr h2c MM ht2 V2 hI2 F2 N2
      rw [List.append_assoc] at N2
      have hp1 := phi_fire A (by omega) (M := (M : Int)) (s := sn') hr
      refine TurnEnd.next F2 N2 (off_led N2 hoI hit fun q hq => (List.mem_append.mp hq).elim (fun hq => hoff q (List.mem_append_left _ hq)) fun hq => by rw [List.mem_singleton.mp hq]; exact hoff (S, W.listOf (List.toArray ys') k') (List.mem_append_right _ (.head _))) ⟨rows2, n2, ys2, k2, turn' + 1, tn2, up sn' r, fire2 (siz z) f g c' r, rfl, MM, ht2, SP'.fire A h4 hr h2c, by omega, fun p hp => ?_, V2, hI2⟩
      have := hle p hp
      have := ind_nn r p
      unfold up; omega
  · clear F2 N2 hrg
    rintro m₁ news₁ h tk ⟨rows', n', ys', k', turn', tn', sn', c', rfl, MM, ht, SP', hph', hle, V', hI'⟩ F N
    exfalso
    have := SP'.phi_nn h4
    omega
end
end Mine
section
open Mine
local macro_rules | `(tactic| walk_at "eval ListComp") => `(tactic| (k_here; refine StopAt2.p ?_))
local macro_rules | `(tactic| walk_at "call builtin:list.append") => `(tactic| (k_here; refine StopAt2.p ?_))
local macro_rules | `(tactic| walk_at "call ref") => `(tactic| (k_here; (with_reducible show wpAny _ _ (call (Value.ref 216) _) _ _ _); (show wpAny _ _ (call (Value.ref 216) [Value.str (letter _) _]) _ _ _); k_dflt (refine use_str (quote_c (by assumption) (stays_fr (by assumption) (by assumption)) _ (by assumption) _) ⟨rfl, Nat.le_of_ble_eq_true rfl, Nat.le_of_ble_eq_true rfl⟩ (by k_asm) (by k_asm) ?_); intro tn' h' tk' F' N'))
namespace Mine
section
variable {w : World} {mean : ExcName → Option Value} {mg mb : Str → Option Value} {h₀ : Heap}
local macro_rules | `(tactic| walk_at "call ref") => `(tactic| (k_here; (with_reducible show wpAny _ _ (call (Value.ref 121) _) _ _ _); refine StopAt2.p ?_))
theorem vals_room {nr : Nat} {rows : List Row} {c : Nat → Nat} (V : Wf2 nr (kvsOf rows) c) {i : Nat} (hi : i < nr) {y : Str} (hy : Txt.lower y = lo i) : (rows.filter fun r => decide (Txt.lower r.k = Txt.lower y)).map (·.v) = [vstr (c i)] := by
  obtain ⟨k, h⟩ := V.hit i hi
  have q := congrArg (List.map (·.2)) h
  rw [kvsOf, List.filter_map, List.map_map] at q
  rw [hy]; exact q
theorem vals_door {nr : Nat} {rows : List Row} {c : Nat → Nat} (V : Wf2 nr (kvsOf rows) c) {i : Nat} (h4 : 4 ≤ i) (h6 : i < 6) {y : Str} (hy : Txt.lower y = lo i) : (rows.filter fun r => decide (Txt.lower r.k = Txt.lower y)).map (·.v) = List.replicate (c i) (vstr 1) := by
  have q := V.door i h4 h6
  rw [kvsOf, List.filter_map, List.map_map] at q
  rw [hy]; exact q
theorem getall_led {A : Around} {s : Shared} {b : Heap} {L t d l : Addr} {m : Str → Option Value} {news : List (Addr × Obj)} {rows : List Row} {n nr : Nat} {Q E : Value → Shared → Prop} {c : Nat → Nat} {tk0 : Tok} {t1 : Tok} {y : Str} {vals : List Str} (G : G3 w mean mg mb h₀) (st : h₀.StaysIn b) (F : Fr b L s.heap m) (N : News b L s.heap news)
    (hi : (t, instObj 182 d) ∈ news) (hd : (d, hdrDict w l tk0) ∈ news) (hl : ∀ p ∈ led l n rows, p ∈ news) (V : Wf2 nr (kvsOf rows) c) (hrl : rows.length ≤ 40) (hx : Txt.lower y ∈ names10) (hlen : y.length ≤ 20) (hvals : (rows.filter fun r => decide (Txt.lower r.k = Txt.lower y)).map (·.v) = vals) (hA : Fits A 3)
    (h : ∀ D k vs h' tk', Rels IsStr vals vs → (∀ p ∈ news, p.1 ≠ D) → Fr b L h' m → News b L h' ((D, W.listOf (List.toArray vs) k) :: news) → Q (.ref D) { s with heap := h', toks := tk' }) :
    wpAny (model prog3 w) A (call (.ref 121) [.ref t, .str y t1]) Q E s := by
  have ll := hl (l, lst rows n) (.head _)
  refine wpAny_mono (weaken (getall_c G (stays_fr st F) (tab_mem N hi hd) (N _ ll).1 (fun r h => (N (r.a, r.obj) (hl _ (.tail _ (List.mem_map.mpr ⟨r, h, rfl⟩)))).1) hx hlen V.klenR hrl t1) hA.h hA.d hA.u rfl rfl) (fun v s' p => ?_) fun _ _ x => x.elim
  obtain ⟨D, h', tk, n', vs, rfl, rfl, hk, hDn, hD, hv⟩ := p.ex
  rw [hvals] at hv
  refine h D n' vs h' tk hv (fun p hp e => by have y := (N p hp).1; rw [e, hDn] at y; cases y) (F.keeps hk) fun p hp => ?_
  rcases List.mem_cons.mp hp with rfl | hp
  · exact ⟨hD, freshF F hDn⟩
  · exact (N.keeps hk) p hp
theorem rels_rep {x : Str} {v : Value} (h : IsStr x v) : ∀ n, Rels IsStr (List.replicate n x) (List.replicate n v)
  | 0 => trivial
  | n + 1 => ⟨h, rels_rep h n⟩
theorem vstr_ok : ∀ n < 6, PyData.strOk (vstr n) = true := by decide +kernel
noncomputable def dobj (a : Addr × List Value × Nat) : Addr × Obj := (a.1, W.listOf (List.toArray a.2.1) a.2.2)
theorem lL_fact : (Str.ofString "lL").cps.size = 2 ∧ (Str.ofString "lL").cps.all (· < 128) = true := by decide +kernel
theorem lL_item0 : ∀ i < 2, (Str.ofString "lL").cps[i]?.map (fun c => (⟨#[c]⟩ : Str)) = some (letter (4 + i)) := by decide +kernel
theorem lL_item {i c : Nat} (h : (Str.ofString "lL").cps[i]? = some c) : i < 2 ∧ (⟨#[c]⟩ : Str) = letter (4 + i) := by
  have hi : i < 2 := by
    have := (Array.getElem?_eq_some_iff.mp h).1
    rwa [lL_fact.1] at this
  have q := lL_item0 i hi
  rw [h] at q
  exact ⟨hi, Option.some.inj q⟩
theorem st_cmp {b : Heap} (G : G3 w mean mg mb b) {L fa : Addr} {cr : Value} {Q : Flow → Shared → Prop} {s : Shared} {m : Str → Option Value} {core : List (Addr × Obj)} {z : Bool} {t d l S Ad P : Addr} {od oc : Obj} {t1 tl : Tok} {rows : List Row} {n k M : Nat} {c : Nat → Nat} {ys : List Value} {sn : Nat → Int}
    (R : RunL w L t d l S Ad od oc core) (F : Fr b L s.heap m) (N : News b L s.heap (core ++ (S, W.listOf (List.toArray ys) k) :: led l n rows)) (M0 : RunM z Ad P S t1 (some (.int (M : Int) tl)) m)
    (V : Wf2 (siz z) (kvsOf rows) c) (hq : ∀ i < siz z, c i ≤ 1) (hrl : rows.length ≤ 40) (hI : IntsAre ys ((List.range (siz z)).map sn))
    (ret : ∀ (T CL D5 : Addr) (us : List Value) (kU : Nat) (DL : List (Addr × List Value × Nat)) (kD : Nat) h' tk' news', (∀ i < siz z, c i = 1) → IntsAre us ([(M : Int)] ++ (List.range (siz z)).map sn) → DL.length = 2 → (∀ j a, DL[j]? = some a → Rels IsStr (List.replicate (c (4 + j)) (vstr 1)) a.2.1) → (∀ p ∈ (T, ({ cls := .type "tuple", data := .seq #[.ref CL, .ref D5] } : Obj)) :: (CL, W.listOf (List.toArray us) kU) :: (D5, W.listOf (List.toArray (DL.map fun (a : Addr × List Value × Nat) => Value.ref a.1)) kD) :: DL.map dobj, p ∈ news') → (∀ p ∈ core, p ∈ news') → Fr b L h' m → News b L h' news' → Q (.ret (.ref T)) { s with heap := h', toks := tk' })
    (next : ∀ h' tk', (∃ i, i < siz z ∧ c i ≠ 1) → Fr b L h' m → News b L h' (core ++ (S, W.listOf (List.toArray ys) k) :: led l n rows) → Q .next { s with heap := h', toks := tk' }) : RunGoal [3] 2 w L fa cr Q s := by
  refine exposeR1 (by rfl) (by rfl) ?_
  have X := G.X
  have TT := G.T
  have hst0 : b.StaysIn b := fun _ _ e => e
  obtain ⟨M1, M2, M3, M4, M5⟩ := M0
  have h4 := siz_le z
  obtain ⟨hgs, hga, hgl⟩ := rms_fact z
  have hcd := R.cd
  obtain ⟨tk0, hdd⟩ := R.hd
  generalize hnews : core ++ (S, W.listOf (List.toArray ys) k) :: led l n rows = news at *
  have hcm : (L + 1, oc) ∈ news := hnews ▸ List.mem_append_left _ R.cm
  have hti : (t, instObj 182 d) ∈ news := hnews ▸ List.mem_append_left _ R.hi
  have htd : (d, hdrDict w l tk0) ∈ news := hnews ▸ List.mem_append_left _ hdd
  have hll : ∀ p ∈ led l n rows, p ∈ news := fun p hp => hnews ▸ List.mem_append_right _ (.tail _ hp)
  have hSm : (S, W.listOf (List.toArray ys) k) ∈ news := hnews ▸ List.mem_append_right _ (.head _)
  k_steps
  refine ⟨ListComp_Z (by with_unfolding_all rfl) (by rfl) (by decide) ?_⟩
  k_steps
  refine outZ_intro (x := Str.ofString "room") (fun D i mC nw => ∃ vs kv, nw = (D, W.listOf (List.toArray vs) kv) :: news ∧ Rels IsStr ((List.range i).map fun j => vstr (c j)) vs) new_list rfl (fun I D C => lt_listO) (fun I D C R s hs h => start_Z rfl rfl rfl rfl hs h) (by decide) rfl rfl (src_text rfl hga) F N (fun h => nomatch h) (fun D => ⟨[], 0, rfl, trivial⟩) ?_ ?_
  · clear F N
    rintro D C I i v m₁ oC own news₁ h tk E' hi ⟨ch, u, hc, rfl⟩ ⟨vs, kv, rfl, hvs⟩ hN hID off hown ⟨oI, hoI, hit⟩ hns F N
    obtain ⟨hiz, hcl⟩ := rms_item hc
    rw [hcl] at hns
    obtain ⟨m₂, e2, hm⟩ : ∃ m₂ : Str → Option Value, m₂ = (fun y => if y = Str.ofString "room" then some (.str (letter i) u) else m₁ y) ∧ m₂ (Str.ofString "room") = some (.str (letter i) u) := ⟨_, rfl, if_pos rfl⟩
    rw [← e2] at hns
    have hi6 : i < 6 := by omega
    have hIC : I ≠ C := Nat.ne_of_lt (Nat.lt_trans hID.1 hID.2)
    have hownC : ∀ p ∈ own, p.1 ≠ C := fun p hp => (hown p hp).elim (fun e => e ▸ hIC) fun e => nomatch e
    have up : ∀ p ∈ news, p ∈ own ++ (C, oC) :: (D, W.listOf (List.toArray vs) kv) :: news := fun p hp => by simp [hp]
    have hcm2 := up _ hcm
    have hti2 := up _ hti
    have htd2 := up _ htd
    have hCm : (C, oC) ∈ own ++ (C, oC) :: (D, W.listOf (List.toArray vs) kv) :: news := by simp
    refine inner_Z (by intro _; rfl) ?_
    k_steps
    rename Fr _ _ _ _ => F2
    rename News _ _ _ _ => N2
    obtain ⟨q1, q2, q3⟩ := qs_fact i hi6
    obtain ⟨_, _, hx, _, _⟩ := nm_fact i hi6 false
    rw [← q1] at hx
    refine ⟨getall_led G hst0 F2 N2 hti2 htd2 (fun p hp => up p (hll p hp)) V hrl hx (by omega) (vals_room V hiz q1) ⟨rfl, Nat.le_of_ble_eq_true rfl, Nat.le_of_ble_eq_true rfl⟩ ?_⟩
    clear F2 N2 F N
    intro D2 k2 vs2 h2 tk2 hv2 hD2 F N
    have hs2 : vs2.toArray.size = 1 := by rw [List.size_toArray, rels_len hv2]; rfl
    have hD2m : (D2, W.listOf (List.toArray vs2) k2) ∈ (D2, W.listOf (List.toArray vs2) k2) :: (own ++ (C, oC) :: (D, W.listOf (List.toArray vs) kv) :: news) := .head _
    have hl2 : Heap.IsList h2 D2 vs2.toArray := ⟨_, (N _ hD2m).1, rfl, _, rfl⟩
    have hDD2 : D ≠ D2 := hD2 (D, W.listOf (List.toArray vs) kv) (by simp)
    have hCD2 : C ≠ D2 := hD2 (C, oC) (by simp)
    have hLD2 : L ≠ D2 := Ne.symm (N _ hD2m).2.1
    k_steps
    refine inZ_intro (x := Str.ofString "value") (C := C) (m₁ := m₂) (news := own ++ (D2, W.listOf (List.toArray vs2) k2) :: (D, W.listOf (List.toArray vs) kv) :: news) (fun j mC nw => ∃ vs kv, nw = own ++ (D2, W.listOf (List.toArray vs2) k2) :: (D, W.listOf (List.toArray vs) kv) :: news ∧ Rels IsStr (((List.range i).map fun j => vstr (c j)) ++ [vstr (c i)].take j) vs) (fun I => lt_listI) (fun I R s hs h => start_Z rfl rfl rfl rfl hs h) rfl (by rfl) (by rfl) (src_list rfl hl2) F hns (fun p hp => N p (by simp at hp ⊢; rcases hp with h | h | h | h | h <;> simp [h])) (fun p hp => ?_) (fun h => hLD2 (List.mem_singleton.mp h)) (fun h => hCD2 (List.mem_singleton.mp h)) ⟨vs, kv, rfl, by simpa using hvs⟩ ?_ ?_
    · rcases List.mem_append.mp hp with hp | hp
      · exact hownC p hp
      · rcases List.mem_cons.mp hp with rfl | hp
        · exact Ne.symm hCD2
        · exact (off p hp).2
    · clear F N hns hm hvs hl2 hD2m hcm2 hti2 htd2 hCm
      rintro I₂ j v m₃ oC₂ own₂ news₂ h3 tk3 E₂ hj hPv ⟨vs₃, kv₃, rfl, hvs⟩ hN₂ off₂ hown₂ ⟨oI₂, hoI₂, hit₂⟩ hns F N
      obtain rfl : j = 0 := by omega
      obtain ⟨x, hx1, u₂, rfl⟩ := rels_at (i := 0) (v := v) hv2 (by simpa using hPv)
      cases hx1
      obtain ⟨m₄, e4, hm4⟩ : ∃ m₄ : Str → Option Value, m₄ = (fun y => if y = Str.ofString "value" then some (.str (vstr (c i)) u₂) else m₃ y) ∧ m₄ (Str.ofString "value") = some (.str (vstr (c i)) u₂) := ⟨_, rfl, if_pos rfl⟩
      rw [← e4] at hns
      have N1 : News b L h3 ((own₂ ++ (C, oC₂) :: own ++ (D2, W.listOf (List.toArray vs2) k2) :: news) ++ [(D, W.listOf (List.toArray vs₃) kv₃)]) := fun p hp => N p (by simp at hp ⊢; rcases hp with h | h | h | h | h | h <;> simp [h])
      have hCm : (C, oC₂) ∈ (own₂ ++ (C, oC₂) :: own ++ (D2, W.listOf (List.toArray vs2) k2) :: news) ++ [(D, W.listOf (List.toArray vs₃) kv₃)] := by simp
      clear N
      refine emitL_Z ?_
      k_steps
      have hlen : vs₃.length ≤ 1000 := by
        rw [rels_len hvs, List.length_append, List.length_map, List.length_range]
        simp; omega
      refine ⟨append_use F N1 (fun p hp => ?_) hlen ?_⟩
      · rcases List.mem_append.mp hp with hp | hp
        · rcases List.mem_append.mp hp with hp | hp
          · rcases hown₂ p hp with e | e
            · rw [e]; exact Ne.symm (off₂ (D, W.listOf (List.toArray vs₃) kv₃) (by simp)).1
            · rw [List.mem_singleton.mp e]; exact Ne.symm hDD2
          · rcases List.mem_cons.mp hp with rfl | hp
            · exact Nat.ne_of_gt hID.2
            · rcases hown p hp with e | e
              · rw [e]; exact Nat.ne_of_lt hID.1
              · cases e
        · rcases List.mem_cons.mp hp with rfl | hp
          · exact Ne.symm hDD2
          · exact Nat.ne_of_lt (hN p hp).1
      intro h' F' N'
      refine ⟨h', _, m₄, oC₂, own ++ (D2, W.listOf (List.toArray vs2) k2) :: (D, W.listOf (List.toArray (vs₃ ++ [.str (vstr (c i)) u₂])) (kv₃ + 1)) :: news, rfl, F', hns, fun p hp => N' p (by simp at hp ⊢; rcases hp with h | h | h | h | h | h <;> simp [h]), fun p hp => ?_, _, _, rfl, ?_⟩
      · rcases List.mem_append.mp hp with hp' | hp'
        · exact off₂ p (List.mem_append_left _ hp')
        · rcases List.mem_cons.mp hp' with rfl | hp'
          · exact off₂ (D2, W.listOf (List.toArray vs2) k2) (by simp)
          · rcases List.mem_cons.mp hp' with rfl | hp'
            · exact off₂ (D, W.listOf (List.toArray vs₃) kv₃) (by simp)
            · exact off₂ p (by simp [hp'])
      · have := hvs.snoc (R := IsStr) (b := vstr (c i)) (v := .str (vstr (c i)) u₂) ⟨u₂, rfl⟩
        simpa using this
    · clear F N hns hm hvs
      rintro m₃ oC₂ news₂ h3 tk3 ⟨vs₃, kv₃, rfl, hvs⟩ off₂ F hns N
      rw [hs2] at hvs
      refine ⟨h3, _, m₃, oC₂, (D, W.listOf (List.toArray vs₃) kv₃) :: news, rfl, F, hns, fun p hp => N p (by simp at hp ⊢; rcases hp with h | h | h | h <;> simp [h]), fun p hp => ?_, vs₃, kv₃, rfl, ?_⟩
      · rcases List.mem_cons.mp hp with rfl | hp
        · exact off (D, W.listOf (List.toArray vs) kv) (.head _)
        · exact off p (.tail _ hp)
      · rw [List.range_succ, List.map_append]; exact hvs
  · clear F N
    rintro D C m₁ news₁ h tk ⟨vs, kv, rfl, hvs⟩ hND hCN hCL hC₀ F hn N
    refine rr_eval hCN hCL hC₀ F hn N ?_
    clear F hn N
    intro h2 F N
    rw [hgs] at hvs
    have hcm2 : (L + 1, oc) ∈ (D, W.listOf (List.toArray vs) kv) :: news := .tail _ hcm
    k_steps
    rename Heap.IsList _ _ _ => hEL
    rename Fr _ _ _ _ => F2
    rename News _ _ _ _ => N2
    simp only [Int.toNat_natCast, List.flatten_replicate_singleton] at hEL
    have hone : vstr 1 = Str.ofString "=3D" := by decide +kernel
    refine ⟨eq_strs (us := List.replicate (siz z) _) (ys := List.replicate (siz z) (vstr 1)) ⟨_, (N2 (D, W.listOf (List.toArray vs) kv) (.tail _ (.head _))).1, rfl, _, rfl⟩ hEL hvs ?_ (fun x hx => ?_) (fun x hx => ?_) (Nat.le_of_ble_eq_true rfl) ?_⟩
    · rw [hone]
      exact rels_rep ⟨_, rfl⟩ _
    · obtain ⟨i, hi, rfl⟩ := List.mem_map.mp hx
      exact vstr_ok _ (by have := hq i (List.mem_range.mp hi); omega)
    · rw [(List.mem_replicate.mp hx).2]; exact vstr_ok 1 (by decide)
    by_cases hall : ∀ i < siz z, c i = 1
    · have hdec : decide (((List.range (siz z)).map fun j => vstr (c j)) = List.replicate (siz z) (vstr 1)) = true := by
        rw [decide_eq_true]
        rw [List.eq_replicate_iff]
        refine ⟨by simp, fun x hx => ?_⟩
        obtain ⟨i, hi, rfl⟩ := List.mem_map.mp hx
        rw [hall i (List.mem_range.mp hi)]
      rw [hdec]
      k_steps
      rename Fr _ _ _ _ => F3
      rename News _ _ _ _ => N3
      refine kmk_add_ints (ms := (List.range (siz z)).map sn) (ns := [(M : Int)]) F3 N3 (vs := [Value.int (M : Int) tl]) ⟨_, (N3 _ (.head _)).1, rfl, _, rfl⟩ (ws := ys) ⟨_, (N3 _ (.tail _ (.tail _ (.tail _ hSm)))).1, rfl, _, rfl⟩ (.cons _ _ .nil) hI ?_ (by rw [List.length_map, List.length_range, sizeLine_eq]; simp; omega)
      clear F3 N3
      intro CL us h5 F5 N5 hCL hus
      generalize hn5 : (CL, W.listOf (List.toArray us) 0) :: _ = news5 at N5
      have sub5 : ∀ p ∈ news, p ∈ news5 := fun p hp => hn5 ▸ .tail _ (.tail _ (.tail _ (.tail _ hp)))
      have hCLm : (CL, W.listOf (List.toArray us) 0) ∈ news5 := hn5 ▸ .head _
      have hcm5 := sub5 _ hcm
      have hti5 := sub5 _ hti
      have htd5 := sub5 _ htd
      have hll5 : ∀ p ∈ led l n rows, p ∈ news5 := fun p hp => sub5 p (hll p hp)
      clear hn5
      k_steps
      refine ⟨ListComp_Z (by with_unfolding_all rfl) (by rfl) (by decide) ?_⟩
      k_steps
      refine outZ_intro (x := Str.ofString "door") (fun D i mC nw => ∃ DL : List (Addr × List Value × Nat), ∃ kv, nw = (D, W.listOf (List.toArray (DL.map fun a => Value.ref a.1)) kv) :: (DL.map dobj ++ news5) ∧ DL.length = i ∧ (∀ a ∈ DL, a.1 ≠ D) ∧ ∀ j a, DL[j]? = some a → Rels IsStr (List.replicate (c (4 + j)) (vstr 1)) a.2.1) new_list rfl (fun I D C => lt_list1) (fun I D C R s hs h => start_Z rfl rfl rfl rfl hs h) (by decide) rfl rfl (src_text rfl lL_fact.2) F5 N5 (fun h => nomatch h) (fun D => ⟨[], 0, rfl, rfl, (by intro a h; cases h), (by intro j a h; cases h)⟩) ?_ ?_
      · clear F5 N5
        rintro D5 C I i v m₁ oC own news₁ h tk E' hi ⟨ch, u, hc, rfl⟩ ⟨DL, kv5, rfl, hdl, hdo, hdv⟩ hN hID off hown ⟨oI, hoI, hit⟩ hns F N
        obtain ⟨hi2, hcl⟩ := lL_item hc
        rw [hcl] at hns
        obtain ⟨m₂, e2, hm⟩ : ∃ m₂ : Str → Option Value, m₂ = (fun y => if y = Str.ofString "door" then some (.str (letter (4 + i)) u) else m₁ y) ∧ m₂ (Str.ofString "door") = some (.str (letter (4 + i)) u) := ⟨_, rfl, if_pos rfl⟩
        rw [← e2] at hns
        have hi6 : 4 + i < 6 := by omega
        have up : ∀ p ∈ news5, p ∈ own ++ (C, oC) :: (D5, W.listOf (List.toArray (DL.map fun a => Value.ref a.1)) kv5) :: (DL.map dobj ++ news5) := fun p hp => by simp [hp]
        have hcm6 := up _ hcm5
        have hti6 := up _ hti5
        have htd6 := up _ htd5
        have hCm : (C, oC) ∈ own ++ (C, oC) :: (D5, W.listOf (List.toArray (DL.map fun a => Value.ref a.1)) kv5) :: (DL.map dobj ++ news5) := by simp
        obtain ⟨q1, q2, q3⟩ := qs_fact (4 + i) hi6
        obtain ⟨_, _, hx, _, _⟩ := nm_fact (4 + i) hi6 false
        rw [← q1] at hx
        refine emitL_Z ?_
        k_steps
        rename Fr _ _ _ _ => F6
        rename News _ _ _ _ => N6
        refine ⟨getall_led G hst0 F6 N6 hti6 htd6 (fun p hp => up p (hll5 p hp)) V hrl hx (by omega) (vals_door V (by omega) hi6 q1) ⟨rfl, Nat.le_of_ble_eq_true rfl, Nat.le_of_ble_eq_true rfl⟩ ?_⟩
        clear F6 N6 F N
        intro D7 k7 vs7 h7 tk7 hv7 hD7 F N
        k_steps
        have hDD7 : D5 ≠ D7 := hD7 (D5, W.listOf (List.toArray (DL.map fun a => Value.ref a.1)) kv5) (by simp)
        have N1 : News b L h7 (((D7, W.listOf (List.toArray vs7) k7) :: own ++ (C, oC) :: (DL.map dobj ++ news5)) ++ [(D5, W.listOf (List.toArray (DL.map fun a => Value.ref a.1)) kv5)]) := fun p hp => N p (by simp at hp ⊢; rcases hp with h | h | h | h | h | h <;> simp [h])
        refine ⟨append_use F N1 (fun p hp => ?_) (by rw [List.length_map]; omega) ?_⟩
        · rcases List.mem_append.mp hp with hp | hp
          · rcases List.mem_cons.mp hp with rfl | hp
            · exact Ne.symm hDD7
            · rcases hown p hp with e | e
              · rw [e]; exact Nat.ne_of_lt hID.1
              · cases e
          · rcases List.mem_cons.mp hp with rfl | hp
            · exact Nat.ne_of_gt hID.2
            · rcases List.mem_append.mp hp with hp | hp
              · obtain ⟨a, ha, rfl⟩ := List.mem_map.mp hp
                exact hdo a ha
              · exact Nat.ne_of_lt (hN p hp).1
        intro h' F' N'
        have hIm : (I, oI) ∈ own ++ (C, oC) :: (D5, W.listOf (List.toArray (DL.map fun a => Value.ref a.1)) kv5) :: (DL.map dobj ++ news5) := List.mem_append_left _ hoI
        refine ⟨h', _, m₂, oC, (D5, W.listOf (List.toArray ((DL ++ [(D7, vs7, k7)]).map fun a => Value.ref a.1)) (kv5 + 1)) :: ((DL ++ [(D7, vs7, k7)]).map dobj ++ news5), rfl, F', hns, fun p hp => N' p (by simp [dobj] at hp ⊢; rcases hp with h | h | h | h | h | h <;> simp [h]), fun p hp => ?_, DL ++ [(D7, vs7, k7)], kv5 + 1, rfl, by simp [hdl], fun a ha => ?_, fun j a hj => ?_⟩
        · rcases List.mem_cons.mp hp with rfl | hp
          · exact off (D5, W.listOf (List.toArray (DL.map fun a => Value.ref a.1)) kv5) (.head _)
          · rcases List.mem_append.mp hp with hp' | hp'
            · rw [List.map_append] at hp'
              rcases List.mem_append.mp hp' with hp2 | hp2
              · exact off p (.tail _ (List.mem_append_left _ hp2))
              · rw [List.mem_singleton.mp hp2]
                exact ⟨Ne.symm (hD7 _ hIm), Ne.symm (hD7 _ hCm)⟩
            · exact off p (.tail _ (List.mem_append_right _ hp'))
        · rcases List.mem_append.mp ha with ha | ha
          · exact hdo a ha
          · rw [List.mem_singleton.mp ha]; exact Ne.symm hDD7
        · by_cases e : j < DL.length
          · rw [List.getElem?_append_left e] at hj
            exact hdv j a hj
          · rw [List.getElem?_append_right (by omega)] at hj
            have hj0 : j - DL.length = 0 := by
              have := (List.getElem?_eq_some_iff.mp hj).1
              simp at this; omega
            rw [hj0] at hj
            cases hj
            rw [show j = i by omega]
            exact hv7
      · clear F5 N5
        rintro D5 C m₁ news₁ h tk ⟨DL, kv5, rfl, hdl, hdo, hdv⟩ hND hCN hCL5 hC₀ F hn N
        refine rr_eval hCN hCL5 hC₀ F hn N ?_
        clear F hn N
        intro h2 F N
        rw [lL_fact.1] at hdl
        k_steps
        rename Fr _ _ _ _ => F7
        rename News _ _ _ _ => N7
        refine ret _ CL D5 us 0 DL kv5 _ _ _ hall hus hdl hdv (fun p hp => ?_) (fun p hp => .tail _ (.tail _ (List.mem_append_right _ (sub5 p (hnews ▸ List.mem_append_left _ hp))))) F7 N7
        rcases List.mem_cons.mp hp with rfl | hp
        · exact .head _
        · rcases List.mem_cons.mp hp with rfl | hp
          · exact .tail _ (.tail _ (List.mem_append_right _ hCLm))
          · rcases List.mem_cons.mp hp with rfl | hp
            · exact .tail _ (.head _)
            · exact .tail _ (.tail _ (List.mem_append_left _ hp))
    · have hne : ∃ i, i < siz z ∧ c i ≠ 1 := by
        refine Classical.byContradiction fun h => hall fun i hi => Classical.byContradiction fun hc => h ⟨i, hi, hc⟩
      have hdec : decide (((List.range (siz z)).map fun j => vstr (c j)) = List.replicate (siz z) (vstr 1)) = false := by
        rw [decide_eq_false]
        intro e
        obtain ⟨i, hi, hc⟩ := hne
        have e2 := (List.eq_replicate_iff.mp e).2 (vstr (c i)) (List.mem_map.mpr ⟨i, List.mem_range.mpr hi, rfl⟩)
        have hc0 : c i = 0 := by have := hq i hi; omega
        rw [hc0] at e2
        exact absurd e2 (by decide +kernel)
      rw [hdec]
      k_steps
      rename Fr _ _ _ _ => F3
      rename News _ _ _ _ => N3
      exact next _ _ hne F3 fun p hp => N3 p (.tail _ (.tail _ (hnews ▸ hp)))
end
end Mine
namespace Mine
section
variable {w : World} {mean : ExcName → Option Value} {mg mb : Str → Option Value} {h₀ : Heap}
/-- what the run answers, in a ledger -/
structure RetL (z : Bool) (f g : Nat → Nat) (T CL D5 : Addr) (us : List Value) (kU : Nat) (DL : List (Addr × List Value × Nat)) (kD M : Nat) (sn : Nat → Int) (c : Nat → Nat) (news' : List (Addr × Obj)) : Prop where
  P : StP (siz z) f g M sn c
  one : ∀ i < siz z, c i = 1
  pos : 1 ≤ M
  top : M ≤ 16
  no : ∀ (M' : Int) (t : Nat → Int), 1 ≤ M' → M' < M → (∀ p < siz z, 0 ≤ t p) → ¬ Solve (siz z) f g M' t
  nums : IntsAre us ([(M : Int)] ++ (List.range (siz z)).map sn)
  len : DL.length = 2
  vals : ∀ j a, DL[j]? = some a → Rels IsStr (List.replicate (c (4 + j)) (vstr 1)) a.2.1
  mem : ∀ p ∈ (T, ({ cls := .type "tuple", data := .seq #[.ref CL, .ref D5] } : Obj)) :: (CL, W.listOf (List.toArray us) kU) :: (D5, W.listOf (List.toArray (DL.map fun (a : Addr × List Value × Nat) => Value.ref a.1)) kD) :: DL.map dobj, p ∈ news'
theorem st_body {b : Heap} (G : G3 w mean mg mb b) {L fa : Addr} {cr : Value} {Q : Flow → Shared → Prop} {s : Shared} {m : Str → Option Value} {core : List (Addr × Obj)} {z : Bool} {t d l S Ad P : Addr} {od oc : Obj} {t1 tn tl : Tok} {kvs : List (Str × Value)} {f g : Nat → Nat} {rows : List Row} {n k M : Nat} {c : Nat → Nat} {ys pv : List Value} {ns : List Int} {sn : Nat → Int} {turn : Int}
    (R : RunL w L t d l S Ad od oc core) (A : Arr (siz z) f g) (hod : od.IsDictOf (PySem.strKind prog3 w) kvs) (dv : DS letter (List.range (siz z)) kvs (fun k => IsStr (arS z f g k)))
    (F : Fr b L s.heap m) (N : News b L s.heap (core ++ (S, W.listOf (List.toArray ys) k) :: led l n rows)) (M0 : RunM z Ad P S t1 (some (.int ((M + 1 : Nat) : Int) tl)) m) (hturn : m (Str.ofString "turn") = some (.int turn tn))
    (hpk : b.IsList P pv.toArray) (hpi : IntsAre pv ns) (hn1 : 0 < ns.length) (hn64 : ns.length ≤ 64)
    (V : Wf2 (siz z) (kvsOf rows) c) (RP : RunP (siz z) f g M sn c) (hM : M + 1 ≤ 16) (hI : IntsAre ys ((List.range (siz z)).map sn))
    (ret : ∀ (T CL D5 : Addr) (us : List Value) (kU : Nat) (DL : List (Addr × List Value × Nat)) (kD : Nat) h' tk' m' news' sn' c', RetL z f g T CL D5 us kU DL kD (M + 1) sn' c' news' → (∀ p ∈ core, p ∈ news') → Fr b L h' m' → News b L h' news' → Q (.ret (.ref T)) { s with heap := h', toks := tk' })
    (next : ∀ h' tk' m' rows' n' ys' k' turn' tn' sn' c', RunM z Ad P S t1 (some (.int ((M + 1 : Nat) : Int) tl)) m' → m' (Str.ofString "turn") = some (.int turn' tn') → RunP (siz z) f g (M + 1) sn' c' → Wf2 (siz z) (kvsOf rows') c' → IntsAre ys' ((List.range (siz z)).map sn') → Fr b L h' m' → News b L h' (core ++ (S, W.listOf (List.toArray ys') k') :: led l n' rows') → Q .next { s with heap := h', toks := tk' }) : RunGoal [3] 0 w L fa cr Q s := by
  refine exposeR3 (by rfl) (by rfl) ?_
  have X := G.X
  have TT := G.T
  have hst0 : b.StaysIn b := fun _ _ e => e
  obtain ⟨M1, M2, M3, M4, M5⟩ := M0
  have h4 := siz_le z
  have h3 := siz_ge z
  have hcd := R.cd
  obtain ⟨tk0, hdd⟩ := R.hd
  have hcm : (L + 1, oc) ∈ core ++ (S, W.listOf (List.toArray ys) k) :: led l n rows := List.mem_append_left _ R.cm
  have hrl : rows.length ≤ 40 := by have := V.lenR; have := RP.P.all; unfold tot at this; omega
  k_steps
  refine ⟨put_led (i := 0) (rest := core ++ [(S, W.listOf (List.toArray ys) k)]) true G hst0 F N (List.mem_append_left _ R.hi) (List.mem_append_left _ hdd) (fun p hp => List.mem_append_right _ (.tail _ hp)) (fun p hp => ?_) V h4 (by omega) hrl (by have := RP.q 0 (by omega); show c 0 < 5; omega) ⟨rfl, Nat.le_of_ble_eq_true rfl, Nat.le_of_ble_eq_true rfl⟩ ?_⟩
  · rcases List.mem_append.mp hp with hq | hq
    · exact ⟨List.mem_append_left _ hq, R.ol p hq⟩
    · rw [List.mem_singleton.mp hq]; exact ⟨List.mem_append_right _ (.head _), R.Sl⟩
  clear N
  intro v' h5 tk5 n5 rows5 V5 hl5 F5 N5
  replace N5 : News b L h5 (core ++ (S, W.listOf (List.toArray ys) k) :: led l n5 rows5) := fun p hp => N5 p (by simpa using hp)
  have SP5 := RP.P.lay h4 (by omega) RP.q
  have hph : phi (siz z) f g ((M + 1 : Nat) : Int) sn ≤ 64 := by
    have := RP.P.phi_quiet h4 RP.q
    rw [show ((M + 1 : Nat) : Int) = (M : Int) + 1 by omega, phi_lay (by omega)]; omega
  refine backR (path := [3]) (k := 1) (by rfl) (by rfl) (st_loop (lv := some (.int ((M + 1 : Nat) : Int) tl)) (turn := turn) (tn := tn) (t1 := t1) (P := P) (s := { s with heap := h5, toks := _ }) G R A hod dv F5 N5 ⟨M1, M2, M3, M4, M5⟩ hturn hpk hpi hn1 hn64 V5 SP5 hph hM hI ?_)
  intro h6 tk6 m6 rows6 n6 ys6 k6 turn6 tn6 sn6 c6 MM6 ht6 hq6 SP6 hle6 V6 hI6 F6 N6
  have hrl6 : rows6.length ≤ 40 := by have := V6.lenR; have := SP6.all; unfold tot at this; omega
  refine st_cmp (t1 := t1) (tl := tl) (P := P) (M := M + 1) (s := { s with heap := h6, toks := _ }) G R F6 N6 MM6 V6 hq6 hrl6 hI6 ?_ ?_
  · intro T CL D5 us kU DL kD h7 tk7 news7 hone hus hdl hdv hmem hco F7 N7
    refine ret T CL D5 us kU DL kD h7 tk7 m6 news7 sn6 c6 ⟨SP6, hone, by omega, hM, fun M' t h1 h2 ht => RP.no M' t h1 (by omega) ht, hus, hdl, hdv, hmem⟩ hco F7 N7
  · intro h7 tk7 hne F7 N7
    exact next h7 tk7 m6 rows6 n6 ys6 k6 turn6 tn6 sn6 c6 MM6 ht6 (RP.no_next A h4 SP6 hq6 hne hle6) V6 hI6 F7 N7
theorem st_laids {b : Heap} (G : G3 w mean mg mb b) {L fa : Addr} {cr : Value} {Q : Flow → Shared → Prop} {s : Shared} {m : Str → Option Value} {core : List (Addr × Obj)} {z : Bool} {t d l S Ad P : Addr} {od oc : Obj} {t1 tn : Tok} {kvs : List (Str × Value)} {f g : Nat → Nat} {rows : List Row} {n k : Nat} {c : Nat → Nat} {ys pv : List Value} {ns : List Int} {sn : Nat → Int} {turn : Int} {lv : Option Value}
    (R : RunL w L t d l S Ad od oc core) (A : Arr (siz z) f g) (hod : od.IsDictOf (PySem.strKind prog3 w) kvs) (dv : DS letter (List.range (siz z)) kvs (fun k => IsStr (arS z f g k)))
    (F : Fr b L s.heap m) (N : News b L s.heap (core ++ (S, W.listOf (List.toArray ys) k) :: led l n rows)) (M0 : RunM z Ad P S t1 lv m) (hturn : m (Str.ofString "turn") = some (.int turn tn))
    (hpk : b.IsList P pv.toArray) (hpi : IntsAre pv ns) (hn1 : 0 < ns.length) (hn64 : ns.length ≤ 64)
    (V : Wf2 (siz z) (kvsOf rows) c) (RP : RunP (siz z) f g 0 sn c) (hI : IntsAre ys ((List.range (siz z)).map sn))
    (ret : ∀ (T CL D5 : Addr) (us : List Value) (kU : Nat) (DL : List (Addr × List Value × Nat)) (kD M : Nat) h' tk' m' news' sn' c', RetL z f g T CL D5 us kU DL kD M sn' c' news' → (∀ p ∈ core, p ∈ news') → Fr b L h' m' → News b L h' news' → Q (.ret (.ref T)) { s with heap := h', toks := tk' }) : RunGoal [] 3 w L fa cr Q s := by
  refine exposeR2 (by rfl) (by rfl) ?_
  have X := G.X
  have TT := G.T
  have hst0 : b.StaysIn b := fun _ _ e => e
  obtain ⟨M1, M2, M3, M4, M5⟩ := M0
  have h4 := siz_le z
  k_steps
  rename IsRange _ _ _ _ _ _ _ _ => hrg
  rename Fr _ _ _ _ => F2
  rename News _ _ _ _ => N2
  unfold Lp
  have hsm : ∀ z : Bool, Builtin.Range.small 1 (2 ^ ((siz z : Nat) : Int).toNat + 1) 1 = true ∧ Builtin.Range.rangeSize 1 (2 ^ ((siz z : Nat) : Int).toNat + 1) 1 = ((2 ^ siz z : Nat) : Int) ∧ 2 ^ siz z ≤ 16 := by decide +kernel
  obtain ⟨hs1, hs2, hs3⟩ := hsm z
  refine loop_rangeA (n := 2 ^ siz z) (fun i m' news => ∃ rows' n' ys' k' turn' tn' sn' c' lv', news = core ++ (S, W.listOf (List.toArray ys') k') :: led l n' rows' ∧ RunM z Ad P S t1 lv' m' ∧ m' (Str.ofString "turn") = some (.int turn' tn') ∧ RunP (siz z) f g i sn' c' ∧ Wf2 (siz z) (kvsOf rows') c' ∧ IntsAre ys' ((List.range (siz z)).map sn')) rfl hrg hs1 hs2 F2 N2 ⟨rows, n, ys, k, turn, tn, sn, c, lv, rfl, ⟨M1, M2, M3, M4, M5⟩, hturn, RP, V, hI⟩ ?_ ?_
  · clear F2 N2 hrg hturn M1 M2 M3 M4 M5
    rintro I i u m₁ news₁ h tk own hi ⟨rows', n', ys', k', turn', tn', sn', c', lv', rfl, ⟨M1, M2, M3, M4, M5⟩, hturn, RP', V', hI'⟩ hoff hlt' hown ⟨oI, hoI, hit⟩ F N
    replace F : Fr b L h _ := F
    replace N : News b L h _ := N
    obtain ⟨of1, of2⟩ := off_own N hown hoff
    rw [show (1 : Int) + (i : Int) = ((i + 1 : Nat) : Int) by omega] at F
    have N' : News b L h ((own ++ core) ++ (S, W.listOf (List.toArray ys') k') :: led l n' rows') := by rw [List.append_assoc]; exact N
    refine backR (path := [3]) (k := 0) (by rfl) (by rfl) (st_body (turn := turn') (tn := tn') (t1 := t1) (tl := u) (P := P) (s := { s with heap := h, toks := tk }) G (R.more of1 of2) A hod dv F N' ⟨M1, M2, M3, M4, rfl⟩ hturn hpk hpi hn1 hn64 V' RP' (by omega) hI' ?_ ?_)
    · intro T CL D5 us kU DL kD h2 tk2 m2 news2 sn2 c2 RL hco F2 N2
      exact ret T CL D5 us kU DL kD (i + 1) h2 tk2 m2 news2 sn2 c2 RL (fun p hp => hco p (List.mem_append_right _ hp)) F2 N2
    · intro h2 tk2 m2 rows2 n2 ys2 k2 turn2 tn2 sn2 c2 MM ht2 RP2 V2 hI2 F2 N2
      rw [List.append_assoc] at N2
      exact TurnEnd.next F2 N2 (off_led N2 hoI hit fun q hq => (List.mem_append.mp hq).elim (fun hq => hoff q (List.mem_append_left _ hq)) fun hq => by rw [List.mem_singleton.mp hq]; exact hoff (S, W.listOf (List.toArray ys') k') (List.mem_append_right _ (.head _))) ⟨rows2, n2, ys2, k2, turn2, tn2, sn2, c2, _, rfl, MM, ht2, RP2, V2, hI2⟩
  · clear F2 N2 hrg
    rintro m₁ news₁ h tk ⟨rows', n', ys', k', turn', tn', sn', c', lv', rfl, MM, ht, RP', V', hI'⟩ F N
    exact RP'.over.elim
end
end Mine
namespace Mine
section
variable {w : World} {mean : ExcName → Option Value} {mg mb : Str → Option Value} {h₀ : Heap}
local macro_rules | `(tactic| walk_at "exec Assign cons ListComp") => `(tactic| (k_here; refine StopAt2.p ?_))
local macro_rules | `(tactic| walk_at "storeName") => `(tactic| (k_here; (with_reducible show wpAny _ _ (storeName _ (Str.ofString "table") _) _ _ _); refine StopAt2.p ?_))
local macro_rules | `(tactic| walk_at "call ref") => `(tactic| (k_here; (with_reducible show wpAny _ _ (call (Value.ref 182) _) _ _ _); refine StopAt2.p ?_))
local macro_rules | `(tactic| walk_at "call ref") => `(tactic| (k_here; (with_reducible show wpAny _ _ (call (Value.ref 229) _) _ _ _); (show wpAny _ _ (call (Value.ref 229) [Value.str (Str.ofString "=") _]) _ _ _); k_dflt (refine use_str (enc_0 (by assumption) (stays_fr (by assumption) (by k_asm)) _) ⟨rfl, Nat.le_of_ble_eq_true rfl, Nat.le_of_ble_eq_true rfl⟩ (by k_asm) (by k_asm) ?_); intro tn' h' tk' F' N'))
noncomputable def kv0 (n : Nat) : List (Str × Str) := (List.range n).map fun i => (qs i, vstr 1)
theorem wf0 : ∀ z : Bool, Wf2 (siz z) (kv0 (siz z)) (c0 (siz z)) := fun z => by
  have h1 : ∀ z : Bool, ∀ i < siz z, (kv0 (siz z)).filter (fun kv => decide (Txt.lower kv.1 = lo i)) = [(qs i, vstr (c0 (siz z) i))] := by decide +kernel
  have h2 : ∀ z : Bool, ∀ d < 6, 4 ≤ d → ((kv0 (siz z)).filter (fun kv => decide (Txt.lower kv.1 = lo d))).map (·.2) = List.replicate (c0 (siz z) d) (vstr 1) := by decide +kernel
  have h3 : ∀ z : Bool, (kv0 (siz z)).length = siz z + c0 (siz z) 4 + c0 (siz z) 5 := by decide +kernel
  have h4 : ∀ z : Bool, ∀ kv ∈ kv0 (siz z), kv.1.length ≤ 20 := by decide +kernel
  exact ⟨fun i hi => ⟨_, h1 z i hi⟩, fun d h4 h6 => h2 z d h6 h4, h3 z, h4 z⟩
noncomputable def rtups (rows : List Row) : List (Addr × Obj) := rows.map fun r => (r.a, r.obj)
theorem row_of {b h : Heap} {L T : Addr} {x y : Str} {t1 t2 : Tok} {ll : List (Addr × Obj)} (N : News b L h ((T, ({ cls := .type "tuple", data := .seq #[.str x t1, .str y t2] } : Obj)) :: ll)) : ∃ r : Row, r.k = x ∧ r.v = y ∧ r.a = T ∧ News b L h ((r.a, r.obj) :: ll) := ⟨⟨T, x, y, t1, t2, 0⟩, rfl, rfl, rfl, N⟩
structure PostRun (z : Bool) (f g : Nat → Nat) (s : Shared) (v : Value) (s' : Shared) : Prop where
  ex : ∃ (T CL D5 : Addr) (us : List Value) (kU : Nat) (DL : List (Addr × List Value × Nat)) (kD M : Nat) (sn : Nat → Int) (c : Nat → Nat) (news' : List (Addr × Obj)) (h' : Heap) (tk : Nat), v = .ref T ∧ s' = { s with heap := h', toks := tk } ∧ (∀ b o, s.heap.get? b = some o → h'.get? b = some o) ∧ RetL z f g T CL D5 us kU DL kD M sn c news' ∧ ∀ p ∈ news', h'.get? p.1 = some p.2 ∧ (s.heap.get? p.1 = none ∨ p.2.cls = .type "dict")
theorem run_c (G : G3 w mean mg mb h₀) {s : Shared} (hs : h₀.StaysIn s.heap) {z : Bool} {Ad P : Addr} {od : Obj} {t1 : Tok} {kvs : List (Str × Value)} {f g : Nat → Nat} {pv : List Value} {ns : List Int}
    (A : Arr (siz z) f g) (had : s.heap.get? Ad = some od) (had0 : h₀.get? Ad = none) (hod : od.IsDictOf (PySem.strKind prog3 w) kvs) (dv : DS letter (List.range (siz z)) kvs (fun k => IsStr (arS z f g k)))
    (hpk : s.heap.IsList P pv.toArray) (hPA : P ≠ Ad) (hpi : IntsAre pv ns) (hn1 : 0 < ns.length) (hn64 : ns.length ≤ 64) :
    wpAny (model prog3 w) (Aq 9) (call (.ref 268) [.str (rms2 z) t1, .ref Ad, .ref P]) (PostRun z f g s) noE s := by
  refine wpAny_call ?_
  refine enterC (hid := [(Ad, od)]) (binds := [(Str.ofString "rooms", .str (rms2 z) t1), (Str.ofString "arrows", .ref Ad), (Str.ofString "picks", .ref P)]) G hs (fun p h => by cases List.mem_singleton.mp h; exact ⟨had, had0⟩) (by k_is) (by k_is) (by rfl) (by exact Nat.le_of_ble_eq_true rfl) (BindsTo.of_eq rfl) rfl (by decide +kernel) ?_ rfl rfl rfl
  intro gb L h₁ tk cells hg st F N Y X TT hlt
  have G' : G3 w mean mg mb gb := ⟨X, TT⟩
  have hpk' : gb.IsList P pv.toArray := by
    obtain ⟨o, ho, r⟩ := hpk
    exact ⟨o, hg ▸ hideAll_get _ ho fun q => hPA (List.mem_singleton.mp q), r⟩
  have hst0 : gb.StaysIn gb := fun _ _ e => e
  have h4 := siz_le z
  obtain ⟨hgs, hga, hgl⟩ := rms_fact z
  k_cells Y
  simp only [List.cons_append, List.nil_append] at N
  dsimp only
  k_steps
  refine ⟨ListComp_Z (by with_unfolding_all rfl) (by rfl) (by decide) ?_⟩
  k_steps
  rename Fr _ _ _ _ => F2
  rename News _ _ _ _ => N2
  rename_i oc d1
  refine outZ_intro (x := Str.ofString "room") (fun D i mC nw => ∃ rows kv, nw = (D, lst rows kv) :: (rtups rows ++ [(L + 1, oc), (Ad, od)]) ∧ kvsOf rows = kv0 i ∧ ∀ r ∈ rows, r.a ≠ D) new_list rfl (fun I D C => lt_list1) (fun I D C R s hs h => start_Z rfl rfl rfl rfl hs h) (by decide) rfl rfl (src_text rfl hga) F2 N2 (fun h => nomatch h) (fun D => ⟨[], 0, rfl, rfl, (by intro r h; cases h)⟩) ?_ ?_
  · clear F2 N2
    rintro D C I i v m₁ oC own news₁ h tk E' hi ⟨ch, u, hc, rfl⟩ ⟨rows, kv, rfl, hkv, hro⟩ hN hID off hown ⟨oI, hoI, hit⟩ hns F N
    obtain ⟨hiz, hcl⟩ := rms_item hc
    rw [hcl] at hns
    obtain ⟨m₂, e2, hm⟩ : ∃ m₂ : Str → Option Value, m₂ = (fun y => if y = Str.ofString "room" then some (.str (letter i) u) else m₁ y) ∧ m₂ (Str.ofString "room") = some (.str (letter i) u) := ⟨_, rfl, if_pos rfl⟩
    rw [← e2] at hns
    have hi6 : i < 6 := by omega
    have hCm : (C, oC) ∈ own ++ (C, oC) :: (D, lst rows kv) :: (rtups rows ++ [(L + 1, oc), (Ad, od)]) := by simp
    have hrlen : rows.length = i := by
      have := congrArg List.length hkv
      simpa [kvsOf, kv0] using this
    refine emitL_Z ?_
    k_steps
    rename Fr _ _ _ _ => F6
    rename News _ _ _ _ => N6
    rename_i l1
    obtain ⟨r, hrk, hrv, hra, N7⟩ := row_of N6
    rw [← hra]
    rw [← hra] at l1
    have hDr : D ≠ r.a := Nat.ne_of_lt (l1 (D, lst rows kv) (by simp))
    have N1 : News gb L _ (((r.a, r.obj) :: own ++ (C, oC) :: (rtups rows ++ [(L + 1, oc), (Ad, od)])) ++ [(D, W.listOf (List.toArray (rows.map fun (r : Row) => Value.ref r.a)) kv)]) := fun p hp => N7 p (by
      show p ∈ (r.a, r.obj) :: (own ++ (C, oC) :: (D, W.listOf (List.toArray (rows.map fun (r : Row) => Value.ref r.a)) kv) :: (rtups rows ++ [(L + 1, oc), (Ad, od)]))
      simp at hp ⊢
      rcases hp with h | h | h | h | h | h | h <;> simp [h])
    refine ⟨append_use F6 N1 (fun p hp => ?_) (by rw [List.length_map]; omega) ?_⟩
    · rcases List.mem_append.mp hp with hp | hp
      · rcases List.mem_cons.mp hp with rfl | hp
        · exact Ne.symm hDr
        · rcases hown p hp with e | e
          · rw [e]; exact Nat.ne_of_lt hID.1
          · cases e
      · rcases List.mem_cons.mp hp with rfl | hp
        · exact Nat.ne_of_gt hID.2
        · rcases List.mem_append.mp hp with hp | hp
          · obtain ⟨x, hx, rfl⟩ := List.mem_map.mp hp
            exact hro x hx
          · exact Nat.ne_of_lt (hN p hp).1
    intro h' F' N'
    have hIm : (I, oI) ∈ own ++ (C, oC) :: (D, lst rows kv) :: (rtups rows ++ [(L + 1, oc), (Ad, od)]) := List.mem_append_left _ hoI
    refine ⟨h', _, m₂, oC, (D, lst (rows ++ [r]) (kv + 1)) :: (rtups (rows ++ [r]) ++ [(L + 1, oc), (Ad, od)]), rfl, F', hns, fun p hp => N' p ?_, fun p hp => ?_, rows ++ [r], kv + 1, rfl, ?_, fun x hx => ?_⟩
    · unfold lst rtups at hp
      unfold rtups
      rw [List.map_append, List.map_append] at hp
      simp at hp ⊢
      rcases hp with h | h | h | h | h | h | h <;> simp [h]
    · rcases List.mem_cons.mp hp with rfl | hp
      · exact off (D, lst rows kv) (.head _)
      · rcases List.mem_append.mp hp with hp' | hp'
        · unfold rtups at hp'
          rw [List.map_append] at hp'
          rcases List.mem_append.mp hp' with hp2 | hp2
          · exact off p (.tail _ (List.mem_append_left _ hp2))
          · rw [List.mem_singleton.mp hp2]
            exact ⟨Nat.ne_of_gt (l1 _ hIm), Nat.ne_of_gt (l1 _ hCm)⟩
        · exact off p (.tail _ (List.mem_append_right _ hp'))
    · unfold kvsOf kv0 at hkv ⊢
      rw [List.map_append, hkv, List.range_succ, List.map_append]
      simp [hrk, hrv]
    · rcases List.mem_append.mp hx with hx | hx
      · exact hro x hx
      · rw [List.mem_singleton.mp hx]; exact Ne.symm hDr
  · clear F2 N2
    rintro l C m₁ news₁ h tk2 ⟨rows, kv, rfl, hkv, hro⟩ hND hCN hCL5 hC₀ F hn N
    refine rr_eval hCN hCL5 hC₀ F hn N ?_
    clear F hn N
    intro h2 F N
    rw [hgs] at hkv
    k_steps
    rename Fr _ _ _ _ => F2
    rename News _ _ _ _ => N2
    have hrin : ∀ r ∈ rows, (r.a, r.obj) ∈ (l, lst rows kv) :: (rtups rows ++ [(L + 1, oc), (Ad, od)]) := fun r hr => .tail _ (List.mem_append_left _ (List.mem_map.mpr ⟨r, hr, rfl⟩))
    have hknames : ∀ p ∈ kvsOf rows, p.1 ∈ names10 ∧ p.2 ∈ vs6 := by
      rw [hkv]
      have : ∀ z : Bool, ∀ p ∈ kv0 (siz z), p.1 ∈ names10 ∧ p.2 ∈ vs6 := by decide +kernel
      exact this z
    refine ⟨new_use (kvs := kvsOf rows) (its := rows.map (·.a)) G' hst0 F2 X N2 (fun h' _ N' => rows_of (N' _ (.head _)).1 fun r hr => (N' _ (hrin r hr)).1) hknames ⟨rfl, Nat.le_of_ble_eq_true rfl, Nat.le_of_ble_eq_true rfl⟩ ?_⟩
    clear F2 N2
    intro t d h3 tk3 tk0 F N hlt1 hlt2
    k_steps
    have Nc : News gb L h3 (((t, instObj 182 d) :: (d, hdrDict w l tk0) :: (l, lst rows kv) :: rtups rows) ++ (L + 1, oc) :: [(Ad, od)]) := fun p hp => N p (by simp at hp ⊢; rcases hp with h | h | h | h | h | h <;> simp [h])
    have hlL : L + 1 < l := hND (L + 1, oc) (.head _)
    have hlA : Ad < l := hND (Ad, od) (.tail _ (.head _))
    have hld : l < d := hlt1 (l, lst rows kv) (.head _)
    have hLm : (L + 1, oc) ∈ (t, instObj 182 d) :: (d, hdrDict w l tk0) :: (l, lst rows kv) :: (rtups rows ++ [(L + 1, oc), (Ad, od)]) := by simp
    refine ⟨stCN F Nc (by rfl) d1 (fun p hp => ?_) (fun p hp => ?_) ?_⟩
    · rcases List.mem_cons.mp hp with rfl | hp
      · exact Nat.ne_of_gt (Nat.lt_trans hlL (Nat.lt_trans hld hlt2))
      · rcases List.mem_cons.mp hp with rfl | hp
        · exact Nat.ne_of_gt (Nat.lt_trans hlL hld)
        · rcases List.mem_cons.mp hp with rfl | hp
          · exact Nat.ne_of_gt hlL
          · obtain ⟨r, hr, rfl⟩ := List.mem_map.mp hp
            intro e
            have a1 := (N (r.a, r.obj) (.tail _ (.tail _ (.tail _ (List.mem_append_left _ hp))))).1
            have a2 := (N _ hLm).1
            rw [show (r.a, r.obj).1 = L + 1 from e] at a1
            rw [a1] at a2
            have a3 := congrArg Obj.data (Option.some.inj a2)
            rw [show (L + 1, oc).2.data = _ from d1] at a3
            cases a3
    · rw [List.mem_singleton.mp hp]
      exact Nat.ne_of_lt (Nat.lt_succ_of_lt (hlt _ (.head _)))
    clear F N Nc
    intro h5 oc' F N d1'
    replace N : News gb L h5 ([(t, instObj 182 d), (d, hdrDict w l tk0), (L + 1, oc'), (Ad, od)] ++ led l kv rows) := fun p hp => N p (by unfold led at hp; unfold rtups; simp at hp ⊢; rcases hp with h | h | h | h | h | h <;> simp [h])
    have hcoreL : ∀ p ∈ [(t, instObj 182 d), (d, hdrDict w l tk0), (L + 1, oc'), (Ad, od)], p.1 ≠ l := fun p hp => by
      rcases List.mem_cons.mp hp with rfl | hp
      · exact Nat.ne_of_gt (Nat.lt_trans hld hlt2)
      · rcases List.mem_cons.mp hp with rfl | hp
        · exact Nat.ne_of_gt hld
        · rcases List.mem_cons.mp hp with rfl | hp
          · exact Nat.ne_of_lt hlL
          · rw [List.mem_singleton.mp hp]; exact Nat.ne_of_lt hlA
    generalize hcore : [(t, instObj 182 d), (d, hdrDict w l tk0), (L + 1, oc'), (Ad, od)] = core at N hcoreL
    have hc1 : (L + 1, oc') ∈ core := hcore ▸ .tail _ (.tail _ (.head _))
    have hc2 : (t, instObj 182 d) ∈ core := hcore ▸ .head _
    have hc3 : (d, hdrDict w l tk0) ∈ core := hcore ▸ .tail _ (.head _)
    have hc4 : (Ad, od) ∈ core := hcore ▸ .tail _ (.tail _ (.tail _ (.head _)))
    clear hcore hLm hrin
    k_steps
    refine ⟨Assign_ListZ (by rfl) (by with_unfolding_all rfl) (by rfl) (by decide) ?_⟩
    k_steps
    rename Fr _ _ _ _ => F2
    rename News _ _ _ _ => N2
    refine outZ_intro (x := Str.ofString "room") (fun D i mC nw => ∃ ys ky, nw = (D, W.listOf (List.toArray ys) ky) :: (core ++ led l kv rows) ∧ IntsAre ys ((List.range i).map fun _ => (0 : Int))) new_list rfl (fun I D C => lt_list1) (fun I D C R s hs h => start_Z rfl rfl rfl rfl hs h) (by decide) rfl rfl (src_text rfl hga) F2 N2 (fun h => nomatch h) (fun D => ⟨[], 0, rfl, .nil⟩) ?_ ?_
    · clear F2 N2
      rintro D C I i v m₁ oC own news₁ h tk E' hi ⟨ch, u, hc, rfl⟩ ⟨ys, ky, rfl, hys⟩ hN hID off hown ⟨oI, hoI, hit⟩ hns F N
      have hyl : ys.length = i := by have := hys.length; simpa using this
      have N1 : News gb L h ((own ++ (C, oC) :: (core ++ led l kv rows)) ++ [(D, W.listOf (List.toArray ys) ky)]) := fun p hp => N p (by simp at hp ⊢; rcases hp with h | h | h | h | h <;> simp [h])
      clear N
      refine emitL_Z ?_
      k_steps
      refine ⟨append_use F N1 (fun p hp => ?_) (by rw [hyl]; omega) ?_⟩
      · rcases List.mem_append.mp hp with hp | hp
        · rcases hown p hp with e | e
          · rw [e]; exact Nat.ne_of_lt hID.1
          · cases e
        · rcases List.mem_cons.mp hp with rfl | hp
          · exact Nat.ne_of_gt hID.2
          · exact Nat.ne_of_lt (hN p hp).1
      intro h' F' N'
      refine ⟨h', _, _, oC, (D, W.listOf (List.toArray (ys ++ [.int 0 tk])) (ky + 1)) :: (core ++ led l kv rows), rfl, F', hns, fun p hp => N' p (by simp at hp ⊢; rcases hp with h | h | h | h | h <;> simp [h]), fun p hp => ?_, _, _, rfl, ?_⟩
      · rcases List.mem_cons.mp hp with rfl | hp
        · exact off (D, W.listOf (List.toArray ys) ky) (.head _)
        · exact off p (.tail _ hp)
      · rw [List.range_succ, List.map_append]
        exact ints_snoc hys 0 _
    · clear F2 N2
      rintro S C m₁ news₁ h tk ⟨ys, ky, rfl, hys⟩ hND hCN hCL hC₀ F hn N
      refine rr_assign2 hCN hCL hC₀ F hn N rfl (by rfl) (by rfl) ?_
      clear F hn N
      intro h2 tk2 F N
      rw [hgs] at hys
      walk1
      walk1
      walk1
      walk1
      rename Fr _ _ _ _ => F2
      rename News _ _ _ _ => N2
      have hwf := wf0 z
      rw [← hkv] at hwf
      have R : RunL w L t d l S Ad od oc' core := ⟨hc1, d1', hc2, ⟨tk0, hc3⟩, hc4, hcoreL, fun p hp => Nat.ne_of_lt (hND p (List.mem_append_left _ hp)), Nat.ne_of_gt (hND (l, lst rows kv) (List.mem_append_right _ (.head _)))⟩
      refine backR (path := []) (k := 3) (by rfl) (by rfl) (st_laids (lv := none) (turn := 0) (tn := _) (t1 := t1) (P := P) (rows := rows) (n := kv) (k := ky) (ys := ys) (c := c0 (siz z)) (sn := fun _ => 0) (s := { s with heap := _, toks := _ }) G' R A hod dv F2 (fun p hp => N2 p ?_) ⟨rfl, rfl, rfl, rfl, rfl⟩ rfl hpk' hpi hn1 hn64 hwf (run_start h4) hys ?_)
      · simp at hp ⊢
        rcases hp with h | h | h <;> simp [h]
      intro T CL D5 us kU DL kD M h' tk' m' news' sn' c' RL hco F' N'
      have hAm := hco _ hc4
      have hne : ∀ a o, a ≠ Ad → s.heap.get? a = some o → gb.get? a = some o := fun a o n e => hg ▸ hideAll_get _ e fun q => n (List.mem_singleton.mp q)
      refine ⟨T, CL, D5, us, kU, DL, kD, M, sn', c', news', h', tk', rfl, rfl, fun b o e => ?_, RL, fun p hp => ⟨(N' p hp).1, ?_⟩⟩
      · by_cases q : b = Ad
        · rw [q, had] at e
          rw [q, ← e]; exact (N' _ hAm).1
        · exact F'.keep _ _ (hne b o q e)
      · by_cases q : p.1 = Ad
        · right
          have a1 := (N' p hp).1
          have a2 := (N' _ hAm).1
          rw [q] at a1
          rw [a1] at a2
          rw [← Option.some.inj a2.symm]; exact dict_cls hod
        · left
          cases e : s.heap.get? p.1 with
          | none => rfl
          | some o => have y := (N' p hp).2.2; rw [hne _ _ q e] at y; cases y
end
end Mine
namespace Mine
section
variable {w : World} {mean : ExcName → Option Value} {mg mb : Str → Option Value} {h₀ : Heap}
/-- the frame's eight cells -/
structure CS (L : Addr) (cv : Nat → Option Value) (cells : List (Addr × Obj)) : Prop where
  at' : ∀ i < 8, ∃ o, (L + 1 + i, o) ∈ cells ∧ o.data = .cell (cv i)
  adr : ∀ p ∈ cells, ∃ i, i < 8 ∧ p.1 = L + 1 + i
noncomputable def cvPut (cv : Nat → Option Value) (i : Nat) (v : Value) : Nat → Option Value := fun j => if j = i then some v else cv j
theorem CS.put {L : Addr} {cv : Nat → Option Value} {cells : List (Addr × Obj)} (C : CS L cv cells) {i : Nat} (hi : i < 8) {o : Obj} {v : Value} (ho : o.data = .cell (some v)) : CS L (cvPut cv i v) ((L + 1 + i, o) :: cells.filter fun p => decide (p.1 ≠ L + 1 + i)) := by
  refine ⟨fun j hj => ?_, fun p hp => ?_⟩
  · by_cases e : j = i
    · subst e
      exact ⟨o, .head _, by rw [ho]; unfold cvPut; rw [if_pos rfl]⟩
    · obtain ⟨o', h1, h2⟩ := C.at' j hj
      refine ⟨o', .tail _ (List.mem_filter.mpr ⟨h1, ?_⟩), by rw [h2]; unfold cvPut; rw [if_neg e]⟩
      exact decide_eq_true (fun e' => e (Nat.add_left_cancel e'))
  · rcases List.mem_cons.mp hp with rfl | hp
    · exact ⟨i, hi, rfl⟩
    · exact C.adr p (List.mem_filter.mp hp).1
noncomputable def offC (L : Addr) (rest : List (Addr × Obj)) : Prop := ∀ p ∈ rest, ∀ i < 8, p.1 ≠ L + 1 + i
section
variable {M : Model} {A : Around} {E : Value → Shared → Prop} {s : Shared} {name : Str} {scope : Scope} {L a : Addr} {cd : Value} {b : Heap} {m : Str → Option Value}
theorem stCS {x : Str} {i : Nat} {v : Value} {cv : Nat → Option Value} {cells rest : List (Addr × Obj)} {Q : Unit → Shared → Prop} (hi : i < 8) (F : Fr b L s.heap m) (N : News b L s.heap (cells ++ rest)) (C : CS L cv cells) (off : offC L rest)
    (hc : (cellsFrom (L + 1) scope.names []).lookup x = some (L + 1 + i))
    (h : ∀ h' cells', CS L (cvPut cv i v) cells' → Fr b L h' m → News b L h' (cells' ++ rest) → Q () { s with heap := h' })
    (hk : scope.kind = .function := by rfl) (hl : (envOfC name scope L a cd).kindOf x = some .cell := by rfl) :
    wpAny M A (storeName (envOfC name scope L a cd) x v) Q E s := by
  obtain ⟨o, ho, hd⟩ := C.at' i hi
  refine stCN (own := []) (rest := (cells.filter fun p => decide (p.1 ≠ L + 1 + i)) ++ rest) F (fun p hp => N p ?_) hc hd (fun _ h => nomatch h) (fun p hp => ?_) ?_ hk hl
  · rcases List.mem_cons.mp hp with rfl | hp
    · exact List.mem_append_left _ ho
    · rcases List.mem_append.mp hp with hp | hp
      · exact List.mem_append_left _ (List.mem_filter.mp hp).1
      · exact List.mem_append_right _ hp
  · rcases List.mem_append.mp hp with hp | hp
    · exact of_decide_eq_true (List.mem_filter.mp hp).2
    · exact off p hp i hi
  · intro h' o' F' N' hd'
    exact h h' _ (C.put hi hd') F' N'
end
/-- a dict comprehension of one clause whose value leaves the ledger as it is -/
theorem dc_rel {A : Around} {E : Value → Shared → Prop} {β : Type} {env : Env} {scope : Scope} {cl : List (Str × Addr)} {kx vx iter : Expr} {x : Str} {px pos : Pos} {Q : Value → Shared → Prop} {xv : Value} {s₁ : Shared} {n : Nat} {P : Nat → Value → Prop} {B : List Addr} {h₀ : Heap} {L : Addr} {m : Str → Option Value} {news : List (Addr × Obj)}
    (key : β → Str) (R : β → Value → Prop) (xs : List β) (hn : xs.length = n) (hsz : n ≤ 1000) (hnd : (xs.map key).Nodup) (hcell : ∀ y ∈ scope.names, y.2 ≠ .cell) (hkind : scope.kind = .function) (hx : scope.names.lookup x = some .local)
    (S : SrcZ prog3 w A n P B xv s₁) (F : Fr h₀ L s₁.heap m) (N : News h₀ L s₁.heap news) (hBL : L ∉ B) (hBD : ∀ a ∈ B, ∃ o, (a, o) ∈ news ∨ h₀.get? a = some o)
    (turn : ∀ i v b m₂ C oC rest h tk (E' : Value → Shared → Prop), P i v → xs[i]? = some b → m₂ x = some v → LCg.NsObj oC m₂ → (C, oC) ∈ rest → (∀ p ∈ news, p ∈ rest) → Fr h₀ L h m → News h₀ L h rest →
      wpAny (model prog3 w) A (eval kx (compEnvC scope cl C env)) (fun kv s₂ => ∃ t, kv = .str (key b) t ∧ wpAny (model prog3 w) A (eval vx (compEnvC scope cl C env)) (ValP (R b) h₀ L m rest { s₁ with heap := h, toks := tk }) E' s₂) E' { s₁ with heap := h, toks := tk })
    (done : ∀ D oD kvs h tk, oD.IsDictOf (PySem.strKind prog3 w) kvs → DS key xs kvs R → (∀ p ∈ news, p.1 < D) → Fr h₀ L h m → News h₀ L h ((D, oD) :: news) → Q (.ref D) { s₁ with heap := h, toks := tk }) :
    OutZ prog3 w A env scope cl (.DictComp kx vx [⟨.Name x px, iter, [], 0⟩] scope pos) newDict (compPost (model prog3 w) A E none Q) E xv s₁ := by
  refine outZ_intro (x := x) (fun D i mC nw => ∃ oD kvs, nw = (D, oD) :: news ∧ oD.IsDictOf (PySem.strKind prog3 w) kvs ∧ DS key (xs.take i) kvs R) new_dict rfl (by intro I D C; exact lt_dict1) (by intro I D C R s hs h; exact start_Z rfl rfl rfl rfl hs h) hcell hkind hx S F N hBL (fun D => ⟨dct0, [], rfl, dct0_is, DS.nil⟩) ?_ ?_
  · clear F N
    rintro D C I i v m₁ oC own news₁ h tk E' hi hP ⟨oD, kvs, rfl, hd, dv⟩ hN hID off hown _ hns F N
    obtain ⟨b, hb⟩ : ∃ b, xs[i]? = some b := ⟨_, List.getElem?_eq_getElem (hn ▸ hi)⟩
    refine emitD_Z ?_
    refine wpAny_mono (turn i v b _ C oC (own ++ (C, oC) :: (D, oD) :: news) h tk E' hP hb (if_pos rfl) hns (by simp) (fun p hp => by simp [hp]) F N) (fun y s' hq => ?_) fun _ _ e => e
    obtain ⟨t, rfl, hq⟩ := hq
    refine wpAny_mono hq (fun y s' hq => ?_) fun _ _ e => e
    obtain ⟨h', tk', hR, rfl, F', N'⟩ := hq.ex
    have N5 : News h₀ L h' ((own ++ [(C, oC)]) ++ (D, oD) :: news) := fun p hp => N' p (by simpa using hp)
    have hkn : key b ∉ (xs.take i).map key := by
      intro q
      have : (xs.take (i + 1)).map key = (xs.take i).map key ++ [key b] := by rw [take_one hb, List.map_append]; rfl
      have nd : ((xs.take (i + 1)).map key).Nodup := by
        rw [List.map_take]
        exact hnd.sublist (List.take_sublist _ _)
      rw [this, List.nodup_append] at nd
      exact nd.2.2 _ q _ (.head _) rfl
    refine dictSet_use F' N5 (fun p hp => ?_) (fun p hp => Nat.ne_of_lt (hN p hp).1) hd (by rw [dv.len, List.length_take]; omega) ?_
    · rcases List.mem_append.mp hp with hp | hp
      · rcases hown p hp with e | e
        · rw [e]; exact Nat.ne_of_lt hID.1
        · obtain ⟨o, ho⟩ := hBD _ e
          rcases ho with ho | ho
          · exact Nat.ne_of_lt (hN _ ho).1
          · intro q
            have z := (N (D, oD) (by simp)).2.2
            rw [show (D, oD).1 = p.1 from q.symm, ho] at z
            cases z
      · rw [List.mem_singleton.mp hp]; exact Nat.ne_of_gt hID.2
    intro h8 o8 F8 N8 hd8
    refine ⟨h8, _, _, oC, (D, o8) :: news, rfl, F8, hns, fun p hp => N8 p (by simpa using hp), fun p hp => ?_, o8, _, rfl, hd8, ?_⟩
    · rcases List.mem_cons.mp hp with rfl | hp
      · exact off (D, oD) (.head _)
      · exact off p (.tail _ hp)
    · rw [take_one hb]; exact dv.add hkn hR
  · clear F N
    rintro D C m₁ news₁ h tk ⟨oD, kvs, rfl, hd, dv⟩ hND hCN hCL hC₀ F hn' N
    refine rr_eval hCN hCL hC₀ F hn' N ?_
    intro h' F' N'
    rw [← hn, List.take_length] at dv
    exact done D oD kvs h' tk hd dv hND F' N'
/-! a loop over a text into a cell -/
section
variable {A : Around} {E : Value → Shared → Prop} {s : Shared} {env : Env} {x : Str} {px pos : Pos} {iter : Expr} {body : List Stmt} {Q : Flow → Shared → Prop}
noncomputable def LpN (w : World) (A : Around) (b : Heap) (env : Env) (x : Str) (px : Pos) (body : List Stmt) (Q : Flow → Shared → Prop) (E : Value → Shared → Prop) (xv : Value) (s₁ : Shared) : Prop := wpAny (model prog3 w) A (pyIter xv) (fun it s₂ => LoopAtT prog3 w A b env (.Name x px) body Q E it s₂) E s₁
theorem For_N {m : Str → Option Value} (_F : Fr h₀ env.locals s.heap m)
    (h : wpAny (model prog3 w) A (eval iter env) (fun xv s₁ => LpN w A h₀ env x px body Q E xv s₁) E s)
    (hs : ∀ x, foldedSetIterable iter env x = pure x := by intro _; rfl) (hE : PassesOwn (model prog3 w) A env E := by passes_own) :
    wpAny (model prog3 w) A (exec (.For (.Name x px) iter body [] pos) env) Q E s := For_invT h₀ h hs
theorem loop_nstr {y : Str} {t : Tok} {m₀ : Str → Option Value} {news : List (Addr × Obj)} (J : Nat → (Str → Option Value) → List (Addr × Obj) → Prop)
    (hh : A.handled = none) (hasc : y.cps.all (· < 128) = true) (F : Fr h₀ env.locals s.heap m₀) (N : News h₀ env.locals s.heap news) (hj : J 0 m₀ news)
    (turn : ∀ I i c u m₁ news₁ (s₁ : Shared) own, y.cps[i]? = some c → J i m₁ news₁ → (∀ p ∈ news₁, p.1 ≠ I) → (∀ p ∈ news, p.1 < I) → (∀ p ∈ own, p.1 = I) → (∃ oI, (I, oI) ∈ own ∧ IterZ oI) → Fr h₀ env.locals s₁.heap m₁ → News h₀ env.locals s₁.heap (own ++ news₁) →
      wpAny (model prog3 w) A (assign (.Name x px) env (.str ⟨#[c]⟩ u)) (fun _ s₃ => wpAny (model prog3 w) A (execs body env) (TurnT h₀ env.locals I own (J (i + 1)) s₁) E s₃) E s₁)
    (done : ∀ m₁ news₁ h tk, J y.cps.size m₁ news₁ → Fr h₀ env.locals h m₁ → News h₀ env.locals h news₁ → Q .next { s with heap := h, toks := tk }) :
    LpN w A h₀ env x px body Q E (.str y t) s := by
  have hlt : ∀ p ∈ news, p.1 < s.heap.objs.size := fun p hp => Heap.lt_size (N p hp).1
  refine wpAny_pyIter_ascii hasc ?_
  generalize hI : s.heap.objs.size = I at *
  have W := Walks.strAscii (prog := prog3) (w := w) (A := A) hh I y t
  have hI₀ : h₀.get? I = none := by
    cases e : h₀.get? I with
    | none => rfl
    | some o => exact absurd (Heap.lt_size (F.keep _ _ e)) (hI ▸ Nat.lt_irrefl _)
  refine ⟨I, [I], [I], y.cps.size, _, _, m₀, news, J, rfl, W, ?_, fun b hb => List.mem_singleton.mp hb ▸ hI₀, fun p hp hm => absurd (List.mem_singleton.mp hm) (Nat.ne_of_lt (hlt p hp)), ⟨_, by subst hI; exact Heap.get?_push_size _ rfl, rfl, rfl⟩, F.push _, fun p hp => ⟨Heap.get?_push_of_some _ (N p hp).1, (N p hp).2⟩, ?_, hj, ?_, ?_⟩
  · intro hm
    exact absurd F.ns.lt (by rw [hI, List.mem_singleton.mp hm]; exact Nat.lt_irrefl _)
  · intro i s' v Q' st q
    exact wpAny_of_eq (by rfl) q
  · rintro i v m₁ news₁ s₁ own hi hP hJ hoff hown hget hall hst₁ F₁ N₁
    obtain ⟨o, ho, hc, hr⟩ := hst₁
    obtain ⟨c, u, hcc, rfl⟩ := hP
    refine turn I i c u m₁ news₁ s₁ own hcc hJ (fun p hp e => hoff p hp (List.mem_singleton.mpr e)) hlt (fun p hp => List.mem_singleton.mp (hown p hp)) ⟨o, hall I (.head _) hI₀ o ho, ?_⟩ F₁ N₁
    exact ⟨by rw [hc]; exact fun e => absurd (Value.type.inj e) (by decide), by rw [hc]; exact fun e => absurd (Value.type.inj e) (by decide), by rw [hc]; exact fun e => absurd (Value.type.inj e) (by decide)⟩
  · intro h' tk m' news' F' N' hoff hJ
    exact done m' news' h' tk hJ F' N'
end
end
end Mine
section
open Mine
local macro_rules | `(tactic| walk_at "eval DictComp") => `(tactic| (k_here; refine StopAt2.p ?_))
local macro_rules | `(tactic| walk_at "storeName") => `(tactic| (k_here; refine StopAt2.p ?_))
namespace Mine
section
variable {w : World} {mean : ExcName → Option Value} {mg mb : Str → Option Value} {h₀ : Heap}
noncomputable abbrev stC : Option Stmt := stA MineX.P0 [35]
noncomputable def chEnv (L fa : Addr) (cr : Value) : Env := envOfC (fName stC) (fScope stC) L fa cr
/-- the chances' statements from the k-th on, in the loops' bodies that the path tells -/
noncomputable def ChGoal (path : List Nat) (k : Nat) (w : World) (L fa : Addr) (cr : Value) (Q : Flow → Shared → Prop) (s : Shared) : Prop :=
  wpAny (model prog3 w) ((Aq 9).deeper (chEnv L fa cr)) (execs ((subB (fBody stC) path).drop k) (chEnv L fa cr)) Q noE s
section
variable {L fa : Addr} {cr : Value} {Q : Flow → Shared → Prop} {s : Shared} {name : Str} {params : Arguments} {dec : List Expr} {ret : Option Expr} {tp : List TypeParam} {scope : Scope} {ts : Option Scope} {bind : Str} {pos : Pos} {body ss : List Stmt} {path : List Nat} {k : Nat}
theorem backC (hst : stA MineX.P0 [35] = some (.FunctionDef name params body dec ret tp scope ts bind pos)) (hb : (subB body path).drop k = ss) (h : ChGoal path k w L fa cr Q s) :
    wpAny (model prog3 w) ((Aq 9).deeper (envOfC name scope L fa cr)) (execs ss (envOfC name scope L fa cr)) Q noE s := by
  unfold ChGoal at h
  have e1 : chEnv L fa cr = envOfC name scope L fa cr := by unfold chEnv stC; rw [hst]; rfl
  have e2 : fBody stC = body := by unfold stC; rw [hst]; rfl
  rw [e1, e2, hb] at h
  exact h
theorem exposeC (hst : stA MineX.P0 [35] = some (.FunctionDef name params body dec ret tp scope ts bind pos)) (hb : (subB body path).drop k = ss)
    (h : wpAny (model prog3 w) ((Aq 9).deeper (envOfC name scope L fa cr)) (execs ss (envOfC name scope L fa cr)) Q noE s) : ChGoal path k w L fa cr Q s := by
  unfold ChGoal
  have e1 : chEnv L fa cr = envOfC name scope L fa cr := by unfold chEnv stC; rw [hst]; rfl
  have e2 : fBody stC = body := by unfold stC; rw [hst]; rfl
  rw [e1, e2, hb]
  exact h
theorem exposeC1 {a : Stmt} (hst : stA MineX.P0 [35] = some (.FunctionDef name params body dec ret tp scope ts bind pos)) (hb : (subB body path).drop k = [a]) (h : wpAny (model prog3 w) ((Aq 9).deeper (envOfC name scope L fa cr)) (execs [a] (envOfC name scope L fa cr)) Q noE s) : ChGoal path k w L fa cr Q s := exposeC hst hb h
theorem exposeC2 {a1 a2 : Stmt} (hst : stA MineX.P0 [35] = some (.FunctionDef name params body dec ret tp scope ts bind pos)) (hb : (subB body path).drop k = [a1, a2]) (h : wpAny (model prog3 w) ((Aq 9).deeper (envOfC name scope L fa cr)) (execs [a1, a2] (envOfC name scope L fa cr)) Q noE s) : ChGoal path k w L fa cr Q s := exposeC hst hb h
theorem exposeC3 {a1 a2 a3 : Stmt} (hst : stA MineX.P0 [35] = some (.FunctionDef name params body dec ret tp scope ts bind pos)) (hb : (subB body path).drop k = [a1, a2, a3]) (h : wpAny (model prog3 w) ((Aq 9).deeper (envOfC name scope L fa cr)) (execs [a1, a2, a3] (envOfC name scope L fa cr)) Q noE s) : ChGoal path k w L fa cr Q s := exposeC hst hb h
theorem exposeC4 {a1 a2 a3 a4 : Stmt} (hst : stA MineX.P0 [35] = some (.FunctionDef name params body dec ret tp scope ts bind pos)) (hb : (subB body path).drop k = [a1, a2, a3, a4]) (h : wpAny (model prog3 w) ((Aq 9).deeper (envOfC name scope L fa cr)) (execs [a1, a2, a3, a4] (envOfC name scope L fa cr)) Q noE s) : ChGoal path k w L fa cr Q s := exposeC hst hb h
end
noncomputable def plk (z : Bool) (p : Nat) : Str := letter (pl (siz z) p)
theorem plS_fact : ∀ z : Bool, (plS z).cps.size = siz z + 2 ∧ (plS z).cps.all (· < 128) = true := by decide +kernel
theorem plS_item0 : ∀ z : Bool, ∀ i < siz z + 2, (plS z).cps[i]?.map (fun c => (⟨#[c]⟩ : Str)) = some (plk z i) := by decide +kernel
theorem plS_item {z : Bool} {i c : Nat} (h : (plS z).cps[i]? = some c) : i < siz z + 2 ∧ (⟨#[c]⟩ : Str) = plk z i := by
  have hi : i < siz z + 2 := by
    have := (Array.getElem?_eq_some_iff.mp h).1
    rwa [(plS_fact z).1] at this
  have q := plS_item0 z i hi
  rw [h] at q
  exact ⟨hi, Option.some.inj q⟩
theorem plk_nodup : ∀ z : Bool, ((List.range (siz z + 2)).map (plk z)).Nodup := by decide +kernel
theorem plk_room {z : Bool} {r : Nat} (h : r < siz z) : plk z r = letter r := by unfold plk pl; rw [if_pos h]
/-- a row of ways -/
noncomputable def RowIn (w : World) (z : Bool) (led : List (Addr × Obj)) (V : Nat → Nat → Int) (r : Nat) (v : Value) : Prop :=
  ∃ a o kv, v = .ref a ∧ (a, o) ∈ led ∧ o.IsDictOf (PySem.strKind prog3 w) kv ∧ DS (plk z) (List.range (siz z + 2)) kv (fun p v => ∃ t, v = .int (V r p) t)
theorem RowIn.mono {z : Bool} {led led' : List (Addr × Obj)} {V V' : Nat → Nat → Int} {r : Nat} {v : Value} (h : RowIn w z led V r v) (hs : ∀ p ∈ led, p ∈ led') (hV : ∀ p < siz z + 2, V r p = V' r p) : RowIn w z led' V' r v := by
  obtain ⟨a, o, kv, e, hm, hd, dv⟩ := h
  exact ⟨a, o, kv, e, hs _ hm, hd, dv.mono fun i hi v hv => by rw [← hV i (List.mem_range.mp hi)]; exact hv⟩
theorem count_fact : ∀ a < 6, ∀ b < 6, ∀ p < 6, Txt.count (letter a ++ letter b) (letter p) = (if a = p then 1 else 0) + (if b = p then 1 else 0) := by decide +kernel
theorem cell_lt {L a i : Nat} (h : L + 8 < a) (hi : i < 8) : L + 1 + i < a := by omega
theorem st_ways {b : Heap} (G : G3 w mean mg mb b) {L fa : Addr} {cr : Value} {Q : Flow → Shared → Prop} {s : Shared} {m : Str → Option Value} {z : Bool} {Ad : Addr} {od : Obj} {t1 : Tok} {kvs : List (Str × Value)} {f g : Nat → Nat} {cells : List (Addr × Obj)} {cv : Nat → Option Value}
    (A : Arr (siz z) f g) (hod : od.IsDictOf (PySem.strKind prog3 w) kvs) (dv : DS letter (List.range (siz z)) kvs (fun k => IsStr (arS z f g k)))
    (F : Fr b L s.heap m) (N : News b L s.heap (cells ++ [(Ad, od)])) (C : CS L cv cells) (off : offC L [(Ad, od)]) (h0 : cv 0 = some (.ref Ad)) (hrooms : m (Str.ofString "rooms") = some (.str (rms2 z) t1))
    (next : ∀ h' tk' cells' rest tp Wd ow kw, CS L (cvPut (cvPut cv 1 (.str (plS z) tp)) 3 (.ref Wd)) cells' → offC L ((Wd, ow) :: rest) → ow.IsDictOf (PySem.strKind prog3 w) kw → DS letter (List.range (siz z)) kw (RowIn w z rest (Wt f g)) → (∀ p ∈ rest, p.1 ≠ Wd) → (Ad, od) ∈ rest → Fr b L h' m → News b L h' (cells' ++ (Wd, ow) :: rest) → ChGoal [] 2 w L fa cr Q { s with heap := h', toks := tk' }) : ChGoal [] 0 w L fa cr Q s := by
  refine exposeC4 (by rfl) (by rfl) ?_
  have X := G.X
  have TT := G.T
  have hst0 : b.StaysIn b := fun _ _ e => e
  have h4 := siz_le z
  obtain ⟨hgs, hga, hgl⟩ := rms_fact z
  have hrl : (rms2 z).length ≤ 4 := by rw [hgl]; exact h4
  k_steps
  refine ⟨stCS (i := 1) (by decide) F N C off (by rfl) ?_⟩
  clear F N C
  intro h1 cells C F N
  refine wpAny_execs_cons ?_
  refine wpAny_Assign_Name ?_
  refine DictComp_Z (by with_unfolding_all rfl) (by rfl) (by decide) ?_
  k_steps
  rename Fr _ _ _ _ => F2
  rename News _ _ _ _ => N2
  obtain ⟨o0, m0, d0⟩ := C.at' 0 (by decide)
  rw [show cvPut cv 1 _ 0 = some (.ref Ad) from h0] at d0
  obtain ⟨o1, m1, d1⟩ := C.at' 1 (by decide)
  replace d1 : o1.data = .cell (some (.str (plS z) _)) := d1
  refine outC_intro (x := Str.ofString "room") (fun D i nw => ∃ oD kw ins, nw = (D, oD) :: (ins ++ (cells ++ [(Ad, od)])) ∧ oD.IsDictOf (PySem.strKind prog3 w) kw ∧ DS letter (List.range i) kw (RowIn w z ins (Wt f g)) ∧ ∀ p ∈ ins, p.1 ≠ D ∧ L + 8 < p.1) new_dict rfl (by intro n; rfl) (by intro h; rfl) (fun I D C K => lt_dict1) (by intro I D C K R s hs h; exact start_Z rfl rfl rfl rfl hs h) (by rfl) (by intro C K; rfl) (src_text rfl hga) F2 N2 (fun h => nomatch h) (fun D => ⟨dct0, [], [], rfl, dct0_is, DS.nil, (by intro p h; cases h)⟩) ?_ ?_
  · clear F2 N2
    rintro D2 C2 K I i v mC oC oK own news₁ h6 tk6 E' hi ⟨ch, u, hc, rfl⟩ ⟨oD, kw, ins, rfl, hd, dw, hio⟩ hN hID offn hown ⟨oI, hoI, hit⟩ hnsC hoK F N
    obtain ⟨hiz, hcl⟩ := rms_item hc
    rw [hcl] at hoK
    obtain ⟨_, hva, ta, rfl⟩ := dv.val i (List.mem_range.mpr hiz)
    have mK : (K, oK) ∈ own ++ (K, oK) :: (C2, oC) :: (D2, oD) :: (ins ++ (cells ++ [(Ad, od)])) := by simp
    have mk1 : ∀ p ∈ cells, p ∈ own ++ (K, oK) :: (C2, oC) :: (D2, oD) :: (ins ++ (cells ++ [(Ad, od)])) := fun p hp => by simp [hp]
    refine emitD_Z ?_
    refine kcf_cell (c := K) (o := oK) N (by rfl) mK hoK ?_
    k_steps
    refine ⟨DictComp_Z (by with_unfolding_all rfl) (by rfl) (by decide) ?_⟩
    refine kcf_cell (c := L + 1 + 1) (o := o1) N (by rfl) (mk1 _ m1) d1 ?_
    have hszp : (plS z).cps.size ≤ 1000 := by rw [(plS_fact z).1]; omega
    refine dc_rel (plk z) (fun p v => ∃ t, v = .int (Wt f g i p) t) (List.range (siz z + 2)) (List.length_range.trans (plS_fact z).1.symm) hszp (plk_nodup z) (by decide) (by rfl) (by rfl) (src_text rfl (plS_fact z).2) F N (fun h => nomatch h) (fun _ h => nomatch h) ?_ ?_
    · clear F N
      rintro j v p m₂ C4 oC4 rst h7 tk7 E7 ⟨c4, u4, hc4, rfl⟩ hj hm hns hC4 hsub F N
      obtain ⟨hjz, hcl4⟩ := plS_item hc4
      rw [hcl4] at hm
      have hpj : p = j := by
        rw [List.getElem?_range hjz] at hj
        exact (Option.some.inj hj).symm
      subst hpj
      have mK2 := hsub _ mK
      have m02 : (L + 1, o0) ∈ rst := hsub _ (mk1 _ m0)
      have mA2 : (Ad, od) ∈ rst := hsub _ (by simp)
      have hpl6 := pl_lt h4 hjz
      have hpl1 : (plk z p).length ≤ 1 := letter_len _ hpl6
      have hcnt : Txt.count (arS z f g i) (plk z p) = Wt f g i p := by
        have a1 := (A.f1 i hiz).2
        have a2 := (A.g1 i hiz).2
        unfold arS plk Wt ind
        rw [count_fact _ (pl_lt h4 a1) _ (pl_lt h4 a2) _ hpl6]
        have e1 : (pl (siz z) (f i) = pl (siz z) p) = (f i = p) := propext ⟨fun h => pl_inj h4 a1 hjz h, fun h => by rw [h]⟩
        have e2 : (pl (siz z) (g i) = pl (siz z) p) = (g i = p) := propext ⟨fun h => pl_inj h4 a2 hjz h, fun h => by rw [h]⟩
        simp only [e1, e2]
      k_steps
      refine ValP.intro ⟨tk7 + 1, ?_⟩ (by assumption) (by assumption)
      rw [hcnt]
    · clear F N
      intro D4 o4 kv4 h7 tk7 hd4 dv4 hD4 F N
      have hkn : letter i ∉ (List.range i).map letter := fun q => by
        obtain ⟨j, hj, e⟩ := List.mem_map.mp q
        have hj' := List.mem_range.mp hj
        have := letter_inj (by omega) (by omega) e
        omega
      have hD2D4 : D2 < D4 := hD4 (D2, oD) (by simp)
      have hC2D4 : C2 < D4 := hD4 (C2, oC) (by simp)
      have hKD4 : K < D4 := hD4 (K, oK) (by simp)
      have N1 : News b L h7 (((D4, o4) :: own ++ [(K, oK), (C2, oC)]) ++ (D2, oD) :: (ins ++ (cells ++ [(Ad, od)]))) := fun p hp => N p (by simp at hp ⊢; rcases hp with h | h | h | h | h | h | h | h <;> simp [h])
      refine dictSet_use F N1 (fun p hp => ?_) (fun p hp => ?_) hd (by rw [dw.len, List.length_range]; omega) ?_
      · rcases List.mem_append.mp hp with hp | hp
        · rcases List.mem_cons.mp hp with rfl | hp
          · exact Nat.ne_of_gt hD2D4
          · rcases hown p hp with e | e
            · rw [e]; exact Nat.ne_of_lt hID.1
            · cases e
        · rcases List.mem_cons.mp hp with rfl | hp
          · exact Nat.ne_of_gt (Nat.lt_trans hID.2.1 hID.2.2)
          · rw [List.mem_singleton.mp hp]; exact Nat.ne_of_gt hID.2.1
      · rcases List.mem_append.mp hp with hp | hp
        · exact (hio p hp).1
        · exact Nat.ne_of_lt (hN p hp).1
      intro h8 o8 F8 N8 hd8
      have hL8 : L + 8 < D4 := by
        obtain ⟨o7, m7, _⟩ := C.at' 7 (by decide)
        exact hD4 (L + 1 + 7, o7) (mk1 _ m7)
      refine ⟨h8, _, mC, oC, oK, _, (D2, o8) :: (((D4, o4) :: ins) ++ (cells ++ [(Ad, od)])), rfl, F8, hnsC, hoK, fun p hp => N8 p (by simp at hp ⊢; rcases hp with h | h | h | h | h | h | h | h <;> simp [h]), fun p hp => ?_, o8, _, (D4, o4) :: ins, rfl, hd8, ?_, fun p hp => ?_⟩
      · rcases List.mem_cons.mp hp with rfl | hp
        · exact offn (D2, oD) (.head _)
        · rcases List.mem_cons.mp hp with rfl | hp
          · exact ⟨Nat.ne_of_gt (hD4 (I, oI) (by simp [hoI])), Nat.ne_of_gt hC2D4, Nat.ne_of_gt hKD4⟩
          · exact offn p (.tail _ hp)
      · rw [List.range_succ]
        refine (dw.mono fun r hr v hv => hv.mono (fun p hp => .tail _ hp) fun _ _ => rfl).add hkn ?_
        exact ⟨D4, o4, kv4, rfl, .head _, hd4, dv4⟩
      · rcases List.mem_cons.mp hp with rfl | hp
        · exact ⟨Nat.ne_of_gt hD2D4, hL8⟩
        · exact hio p hp
  · clear F2 N2
    rintro Wd C2 m₁ news₁ h tk ⟨ow, kw, ins, rfl, hd, dw, hio⟩ hND hCN hCL5 hC₀ F hn N
    refine rr_eval hCN hCL5 hC₀ F hn N ?_
    clear F hn N
    intro h2 F N
    rw [hgs] at dw
    have hWL : L + 8 < Wd := by
      obtain ⟨o7, m7, _⟩ := C.at' 7 (by decide)
      exact hND (L + 1 + 7, o7) (List.mem_append_left _ m7)
    have off2 : offC L ((Wd, ow) :: (ins ++ [(Ad, od)])) := fun p hp i hi => by
      rcases List.mem_cons.mp hp with rfl | hp
      · exact Nat.ne_of_gt (cell_lt hWL hi)
      · rcases List.mem_append.mp hp with hp | hp
        · exact Nat.ne_of_gt (cell_lt (hio p hp).2 hi)
        · exact off p hp i hi
    have N' : News b L h2 (cells ++ ((Wd, ow) :: (ins ++ [(Ad, od)]))) := fun p hp => N p (by simp at hp ⊢; rcases hp with h | h | h | h <;> simp [h])
    k_steps
    refine ⟨stCS (i := 3) (by decide) F N' C off2 (by rfl) ?_⟩
    clear F N N'
    intro h3 cells3 C3 F N
    exact backC (path := []) (k := 2) (by rfl) (by rfl) (next h3 _ cells3 (ins ++ [(Ad, od)]) _ Wd ow kw C3 off2 hd (dw.mono fun r hr v hv => hv.mono (fun p hp => List.mem_append_left _ hp) fun _ _ => rfl) (fun p hp => (List.mem_append.mp hp).elim (fun h => (hio p h).1) fun h => Nat.ne_of_lt (hND p (List.mem_append_right _ h))) (by simp) F N)
end
end Mine
namespace Mine
section
variable {w : World} {mean : ExcName → Option Value} {mg mb : Str → Option Value} {h₀ : Heap}
local macro_rules | `(tactic| walk_at "setItem ref str") => `(tactic| (k_here; refine StopAt2.p ?_))
local macro_rules | `(tactic| walk_at "exec For Name Name cons nil") => `(tactic| (k_here; (rename Fr _ _ _ _ => lF'); (with_unfolding_all refine For_N lF' ?_)))
structure CvOK (z : Bool) (Wd Od : Addr) (k : Nat) (wh : Int) (cv : Nat → Option Value) : Prop where
  p : ∃ t, cv 1 = some (.str (plS z) t)
  w : cv 3 = some (.ref Wd)
  g : ∃ t, cv 4 = some (.str (letter k) t)
  o : cv 5 = some (.ref Od)
  h : ∃ t, cv 6 = some (.int wh t)
theorem CvOK.put {z : Bool} {Wd Od : Addr} {k : Nat} {wh : Int} {cv : Nat → Option Value} (c : CvOK z Wd Od k wh cv) {i : Nat} (hi : i = 2 ∨ i = 7) (v : Value) : CvOK z Wd Od k wh (cvPut cv i v) := by
  have e : ∀ j, j ≠ i → cvPut cv i v j = cv j := fun j h => if_neg h
  exact ⟨by rw [e 1 (by omega)]; exact c.p, by rw [e 3 (by omega)]; exact c.w, by rw [e 4 (by omega)]; exact c.g, by rw [e 5 (by omega)]; exact c.o, by rw [e 6 (by omega)]; exact c.h⟩
noncomputable def Vi (n : Nat) (V : Nat → Nat → Int) (k i r : Nat) : Nat → Int := fun p => if r < i then elim n V k r p else V r p
theorem off_cells {L I : Addr} {cv : Nat → Option Value} {cells own rest : List (Addr × Obj)} (C : CS L cv cells) (off : offC L rest) (hown : ∀ p ∈ own, p.1 = I) (hI : ∀ p ∈ cells ++ rest, p.1 ≠ I) : offC L (own ++ rest) := fun p hp i hi => by
  rcases List.mem_append.mp hp with hp | hp
  · obtain ⟨o, m, _⟩ := C.at' i hi
    rw [hown p hp]; exact Ne.symm (hI _ (List.mem_append_left _ m))
  · exact off p hp i hi
theorem onw_le {z : Bool} {V : Nat → Nat → Int} {B : Int} (hB : ∀ r < siz z, ∀ p < siz z + 2, 0 ≤ V r p ∧ V r p ≤ B) {k p : Nat} (hk : k < siz z) (hp : p < siz z + 2) : 0 ≤ onw V k p ∧ onw V k p ≤ B := by
  have := hB k hk p hp
  unfold onw
  split
  · omega
  · exact this
theorem sum_le {F : Nat → Int} {B : Int} (hB : 0 ≤ B) : ∀ m, (∀ p < m, 0 ≤ F p ∧ F p ≤ B) → 0 ≤ sumN m F ∧ sumN m F ≤ m * B
  | 0, _ => ⟨Int.le_refl _, by simp [sumN]⟩
  | m + 1, h => by
    have a := sum_le hB m fun p hp => h p (by omega)
    have c := h m (by omega)
    unfold sumN
    refine ⟨by omega, ?_⟩
    have e : ((m + 1 : Nat) : Int) * B = m * B + B := by rw [Int.natCast_add, Int.add_mul]; omega
    rw [e]; omega
theorem whole_le {z : Bool} (h4 : siz z ≤ 4) {V : Nat → Nat → Int} (hB : ∀ r < siz z, ∀ p < siz z + 2, 0 ≤ V r p ∧ V r p ≤ 5488) {k : Nat} (hk : k < siz z) : 0 ≤ whole (siz z) V k ∧ whole (siz z) V k ≤ 32928 := by
  have a := sum_le (F := onw V k) (B := 5488) (by decide) (siz z + 2) fun p hp => onw_le hB hk hp
  unfold whole
  omega
theorem st_rooms {b : Heap} (G : G3 w mean mg mb b) {L fa : Addr} {cr : Value} {Q : Flow → Shared → Prop} {s : Shared} {m : Str → Option Value} {z : Bool} {Wd Od : Addr} {ow oo : Obj} {t1 : Tok} {kw ko : List (Str × Value)} {cells rest : List (Addr × Obj)} {cv : Nat → Option Value} {V : Nat → Nat → Int} {k : Nat}
    (hk : k < siz z) (hB : ∀ r < siz z, ∀ p < siz z + 2, 0 ≤ V r p ∧ V r p ≤ 5488) (F : Fr b L s.heap m) (N : News b L s.heap (cells ++ (Wd, ow) :: rest)) (C : CS L cv cells) (off : offC L ((Wd, ow) :: rest)) (ok : CvOK z Wd Od k (whole (siz z) V k) cv) (hrooms : m (Str.ofString "rooms") = some (.str (rms2 z) t1))
    (hd : ow.IsDictOf (PySem.strKind prog3 w) kw) (dw : DS letter (List.range (siz z)) kw (RowIn w z rest V)) (hWr : ∀ p ∈ rest, p.1 ≠ Wd)
    (hOm : (Od, oo) ∈ rest) (hod : oo.IsDictOf (PySem.strKind prog3 w) ko) (dvo : DS (plk z) (List.range (siz z + 2)) ko (fun p v => ∃ t, v = .int (onw V k p) t))
    (next : ∀ h' tk' m' cells' cv' ow' kw' rest', CS L cv' cells' → CvOK z Wd Od k (whole (siz z) V k) cv' → offC L ((Wd, ow') :: rest') → ow'.IsDictOf (PySem.strKind prog3 w) kw' → DS letter (List.range (siz z)) kw' (RowIn w z rest' (elim (siz z) V k)) → (∀ p ∈ rest', p.1 ≠ Wd) → (∀ p ∈ rest, p ∈ rest') → m' (Str.ofString "rooms") = some (.str (rms2 z) t1) → Fr b L h' m' → News b L h' (cells' ++ (Wd, ow') :: rest') → Q .next { s with heap := h', toks := tk' }) : ChGoal [2] 2 w L fa cr Q s := by
  refine exposeC1 (by rfl) (by rfl) ?_
  have X := G.X
  have TT := G.T
  have hst0 : b.StaysIn b := fun _ _ e => e
  have h4 := siz_le z
  obtain ⟨hgs, hga, hgl⟩ := rms_fact z
  k_steps
  rename Fr _ _ _ _ => F2
  rename News _ _ _ _ => N2
  refine loop_nstr (y := rms2 z) (fun i m' news => ∃ cells' cv' ow' kw' rest', news = cells' ++ (Wd, ow') :: rest' ∧ CS L cv' cells' ∧ CvOK z Wd Od k (whole (siz z) V k) cv' ∧ offC L ((Wd, ow') :: rest') ∧ ow'.IsDictOf (PySem.strKind prog3 w) kw' ∧ DS letter (List.range (siz z)) kw' (RowIn w z rest' (fun r => Vi (siz z) V k i r)) ∧ (∀ p ∈ rest', p.1 ≠ Wd) ∧ (∀ p ∈ rest, p ∈ rest') ∧ m' (Str.ofString "rooms") = some (.str (rms2 z) t1)) rfl hga F2 N2 ⟨cells, cv, ow, kw, rest, rfl, C, ok, off, hd, dw.mono fun r hr v hv => hv.mono (fun _ h => h) fun p hp => (by unfold Vi; rw [if_neg (Nat.not_lt_zero _)]), hWr, fun _ h => h, hrooms⟩ ?_ ?_
  · clear F2 N2 C off ok hd dw hrooms hWr
    rintro I i ch u m₁ news₁ s₁ own hc ⟨cells, cv, ow, kw, rest', rfl, C, ok, off, hd, dw, hWr, hsub, hrooms⟩ hI hlt' hown ⟨oI, hoI, hit⟩ F N
    obtain ⟨hiz, hcl⟩ := rms_item hc
    rw [hcl]
    have offo := off_cells C off hown hI
    have N2 : News b L s₁.heap (cells ++ (own ++ (Wd, ow) :: rest')) := fun p hp => N p (by simp at hp ⊢; rcases hp with h | h | h | h <;> simp [h])
    refine wpAny_assign_Name ?_
    refine stCS (i := 2) (by decide) F N2 C offo (by rfl) ?_
    clear F N N2
    have Cold := C
    clear C
    intro h2 cells C F N
    replace ok := ok.put (.inl rfl) (.str (letter i) u)
    generalize hcv : cvPut cv 2 (.str (letter i) u) = cv2 at C ok
    have hroom : cv2 2 = some (.str (letter i) u) := by rw [← hcv]; exact if_pos rfl
    clear hcv
    obtain ⟨o2, m2, d2⟩ := C.at' 2 (by decide)
    obtain ⟨o3, m3, d3⟩ := C.at' 3 (by decide)
    obtain ⟨o4, m4, d4⟩ := C.at' 4 (by decide)
    obtain ⟨tg, eg⟩ := ok.g
    rw [hroom] at d2
    rw [ok.w] at d3
    rw [eg] at d4
    have n2 : (L + 1 + 1 + 1, o2) ∈ cells ++ (own ++ (Wd, ow) :: rest') := List.mem_append_left _ m2
    have n3 : (L + 1 + 1 + 1 + 1, o3) ∈ cells ++ (own ++ (Wd, ow) :: rest') := List.mem_append_left _ m3
    have n4 : (L + 1 + 1 + 1 + 1 + 1, o4) ∈ cells ++ (own ++ (Wd, ow) :: rest') := List.mem_append_left _ m4
    have nW : (Wd, ow) ∈ cells ++ (own ++ (Wd, ow) :: rest') := by simp
    obtain ⟨_, hva, ra, ro, rkv, rfl, rm, rd, rv⟩ := dw.val i (List.mem_range.mpr hiz)
    have nr : (ra, ro) ∈ cells ++ (own ++ (Wd, ow) :: rest') := by simp [rm]
    obtain ⟨_, hvk, tv, rfl⟩ := rv.val k (List.mem_range.mpr (by omega))
    rw [plk_room hk] at hvk
    have hVi : ∀ p, Vi (siz z) V k i i p = V i p := fun p => by unfold Vi; rw [if_neg (Nat.lt_irrefl _)]
    simp only [hVi] at hvk
    k_steps
    refine ⟨stCS (i := 7) (by decide) F N C offo (by rfl) ?_⟩
    clear F N C d2 d3 d4 n2 n3 n4 m2 m3 m4 nW nr
    intro h3 cells C F N
    replace ok := ok.put (.inr rfl) (.int (V i k) tv)
    generalize hcv : cvPut cv2 7 (.int (V i k) tv) = cv3 at C ok
    have hroom : cv3 2 = some (.str (letter i) u) := by rw [← hcv]; exact hroom
    have hinto : cv3 7 = some (.int (V i k) tv) := by rw [← hcv]; exact if_pos rfl
    clear hcv
    obtain ⟨o1, m1, d1⟩ := C.at' 1 (by decide)
    obtain ⟨o2, m2, d2⟩ := C.at' 2 (by decide)
    obtain ⟨o3, m3, d3⟩ := C.at' 3 (by decide)
    obtain ⟨o4, m4, d4⟩ := C.at' 4 (by decide)
    obtain ⟨o5, m5, d5⟩ := C.at' 5 (by decide)
    obtain ⟨o6, m6, d6⟩ := C.at' 6 (by decide)
    obtain ⟨o7, m7, d7⟩ := C.at' 7 (by decide)
    obtain ⟨tp, ep⟩ := ok.p
    obtain ⟨tg, eg⟩ := ok.g
    obtain ⟨th, eh⟩ := ok.h
    rw [ep] at d1
    rw [hroom] at d2
    rw [ok.w] at d3
    rw [eg] at d4
    rw [ok.o] at d5
    rw [eh] at d6
    rw [hinto] at d7
    have inl : ∀ p ∈ cells, p ∈ cells ++ (own ++ (Wd, ow) :: rest') := fun p hp => List.mem_append_left _ hp
    have n1 : (L + 1 + 1, o1) ∈ cells ++ (own ++ (Wd, ow) :: rest') := inl _ m1
    have nW : (Wd, ow) ∈ cells ++ (own ++ (Wd, ow) :: rest') := by simp
    have nr : (ra, ro) ∈ cells ++ (own ++ (Wd, ow) :: rest') := by simp [rm]
    have nO : (Od, oo) ∈ cells ++ (own ++ (Wd, ow) :: rest') := by simp [hsub _ hOm]
    k_steps
    refine ⟨DictComp_Z (by with_unfolding_all rfl) (by rfl) (by decide) ?_⟩
    k_steps
    rename Fr _ _ _ _ => F4
    rename News _ _ _ _ => N4
    have hszp : (plS z).cps.size ≤ 1000 := by rw [(plS_fact z).1]; omega
    refine dc_rel (plk z) (fun p v => ∃ t, v = .int (elim (siz z) V k i p) t) (List.range (siz z + 2)) (List.length_range.trans (plS_fact z).1.symm) hszp (plk_nodup z) (by decide) (by rfl) (by rfl) (src_text rfl (plS_fact z).2) F4 N4 (fun h => nomatch h) (fun _ h => nomatch h) ?_ ?_
    · clear F4 N4
      rintro j v p m₂ C4 oC4 rst h7 tk7 E7 ⟨c4, u4, hc4, rfl⟩ hj hm hns hC4 hsub2 F N
      obtain ⟨hjz, hcl4⟩ := plS_item hc4
      rw [hcl4] at hm
      have hpj : p = j := by
        rw [List.getElem?_range hjz] at hj
        exact (Option.some.inj hj).symm
      subst hpj
      have q2 : (L + 1 + 1 + 1, o2) ∈ rst := hsub2 _ (inl _ m2)
      have q3 : (L + 1 + 1 + 1 + 1, o3) ∈ rst := hsub2 _ (inl _ m3)
      have q4 : (L + 1 + 1 + 1 + 1 + 1, o4) ∈ rst := hsub2 _ (inl _ m4)
      have q5 : (L + 1 + 1 + 1 + 1 + 1 + 1, o5) ∈ rst := hsub2 _ (inl _ m5)
      have q6 : (L + 1 + 1 + 1 + 1 + 1 + 1 + 1, o6) ∈ rst := hsub2 _ (inl _ m6)
      have q7 : (L + 1 + 1 + 1 + 1 + 1 + 1 + 1 + 1, o7) ∈ rst := hsub2 _ (inl _ m7)
      have qW := hsub2 _ nW
      have qr := hsub2 _ nr
      have qO := hsub2 _ nO
      have hpl6 := pl_lt h4 hjz
      have hpl1 : (plk z p).length ≤ 1 := letter_len _ hpl6
      have hlk1 : (letter k).length ≤ 1 := letter_len _ (by omega)
      obtain ⟨_, hvp, tv2, rfl⟩ := rv.val p (List.mem_range.mpr hjz)
      simp only [hVi] at hvp
      obtain ⟨_, hvo, tv3, rfl⟩ := dvo.val p (List.mem_range.mpr hjz)
      have hbeq : (plk z p == letter k) = decide (p = k) := by
        rw [← plk_room hk]
        unfold plk
        rw [letter_ne _ hpl6 _ (pl_lt h4 (show k < siz z + 2 by omega))]
        exact decide_eq_decide.mpr ⟨fun h => pl_inj h4 hjz (by omega) h, fun h => by rw [h]⟩
      by_cases hpk : p = k
      · have hx : (plk z p == letter k) = true := by rw [hbeq, decide_eq_true hpk]
        k_steps
        exact ValP.intro ⟨_, by unfold elim; rw [if_pos hpk]⟩ (by assumption) (by assumption)
      · have hx : (plk z p == letter k) = false := by rw [hbeq, decide_eq_false hpk]
        obtain ⟨b1, b2⟩ := hB i hiz p hjz
        obtain ⟨b3, b4⟩ := hB i hiz k (by omega)
        obtain ⟨b5, b6⟩ := whole_le h4 hB hk
        obtain ⟨b7, b8⟩ := onw_le hB hk hjz
        have he : elim (siz z) V k i p = V i p * whole (siz z) V k + V i k * onw V k p := by unfold elim; rw [if_neg hpk]
        k_steps
        exact ValP.intro ⟨_, by rw [he]⟩ (by assumption) (by assumption)
    · clear F4 N4
      intro D o4 kv4 h7 tk7 hd4 dv4 hD4 F N
      have hWD : Wd < D := hD4 (Wd, ow) nW
      have hcD : ∀ p ∈ cells, p.1 < D := fun p hp => hD4 p (inl p hp)
      have nW2 := List.mem_cons_of_mem (D, o4) nW
      have q2 : (L + 1 + 1 + 1, o2) ∈ (D, o4) :: (cells ++ (own ++ (Wd, ow) :: rest')) := .tail _ (inl _ m2)
      have q3 : (L + 1 + 1 + 1 + 1, o3) ∈ (D, o4) :: (cells ++ (own ++ (Wd, ow) :: rest')) := .tail _ (inl _ m3)
      k_steps
      have hcW : ∀ p ∈ cells, p.1 ≠ Wd := fun p hp => by
        obtain ⟨j, hj, e⟩ := C.adr p hp
        rw [e]; exact Ne.symm (off (Wd, ow) (.head _) j hj)
      have hIW : Wd ≠ I := hI (Wd, ow) (List.mem_append_right _ (.head _))
      have N5 : News b L h7 ((((D, o4) :: cells) ++ own) ++ (Wd, ow) :: rest') := fun p hp => N p (by simp at hp ⊢; rcases hp with h | h | h | h | h <;> simp [h])
      refine ⟨setItem_use F N5 (fun p hp => ?_) (fun p hp => hWr p hp) hd (by rw [dw.len, List.length_range]; omega) ?_⟩
      · rcases List.mem_append.mp hp with hp | hp
        · rcases List.mem_cons.mp hp with rfl | hp
          · exact Nat.ne_of_gt hWD
          · exact hcW p hp
        · rw [hown p hp]; exact Ne.symm hIW
      intro h8 ow8 F8 N8 hd8
      k_steps
      rename Fr _ _ _ _ => F9
      rename News _ _ _ _ => N9
      have hID : I < D := hD4 (I, oI) (by simp [hoI])
      refine TurnT.next (news' := cells ++ (Wd, ow8) :: ((D, o4) :: rest')) F9 (fun p hp => N9 p (by simp at hp ⊢; rcases hp with h | h | h | h | h <;> simp [h])) (fun p hp => ?_) ⟨cells, cv3, ow8, _, (D, o4) :: rest', rfl, C, ok, fun p hp j hj => ?_, hd8, ?_, fun p hp => ?_, fun p hp => .tail _ (hsub p hp), hrooms⟩
      · rcases List.mem_append.mp hp with hp | hp
        · obtain ⟨j, hj, e⟩ := C.adr p hp
          obtain ⟨o, mo, _⟩ := Cold.at' j hj
          rw [e]; exact hI (L + 1 + j, o) (List.mem_append_left _ mo)
        · rcases List.mem_cons.mp hp with rfl | hp
          · exact hIW
          · rcases List.mem_cons.mp hp with rfl | hp
            · exact Nat.ne_of_gt hID
            · exact hI p (List.mem_append_right _ (.tail _ hp))
      · rcases List.mem_cons.mp hp with rfl | hp
        · exact off (Wd, ow) (.head _) j hj
        · rcases List.mem_cons.mp hp with rfl | hp
          · obtain ⟨o, mo, _⟩ := C.at' j hj
            exact Nat.ne_of_gt (hcD (L + 1 + j, o) mo)
          · exact off p (.tail _ hp) j hj
      · refine dw.put (List.mem_range.mpr hiz) (fun j hj e => letter_inj (by have := List.mem_range.mp hj; omega) (by omega) e) _ ⟨D, o4, kv4, rfl, .head _, hd4, dv4.mono fun p hp v hv => ?_⟩ fun j hj hji v hv => hv.mono (fun p hp => .tail _ hp) fun p hp => ?_
        · obtain ⟨t, rfl⟩ := hv
          exact ⟨t, by simp [Vi]⟩
        · unfold Vi
          by_cases e : j < i
          · rw [if_pos e, if_pos (by omega)]
          · rw [if_neg e, if_neg (by omega)]
      · rcases List.mem_cons.mp hp with rfl | hp
        · exact Nat.ne_of_gt hWD
        · exact hWr p hp
  · clear F2 N2
    rintro m₁ news₁ h tk ⟨cells', cv', ow', kw', rest', rfl, C', ok', off', hd', dw', hWr', hsub, hrooms'⟩ F N
    rw [hgs] at dw'
    k_steps
    exact next _ _ _ cells' cv' ow' kw' rest' C' ok' off' hd' (dw'.mono fun r hr v hv => hv.mono (fun _ h => h) fun p hp => by unfold Vi; rw [if_pos (List.mem_range.mp hr)]) hWr' hsub hrooms' F N
end
end Mine
namespace Mine
section
variable {w : World} {mean : ExcName → Option Value} {mg mb : Str → Option Value} {h₀ : Heap}
local macro_rules | `(tactic| walk_at "call builtin:sum") => `(tactic| (k_here; refine StopAt2.p ?_))
theorem plk_beq {z : Bool} {p k : Nat} (hp : p < siz z + 2) (hk : k < siz z) : (plk z p == letter k) = decide (p = k) := by
  have h4 := siz_le z
  rw [← plk_room hk]
  unfold plk
  rw [letter_ne _ (pl_lt h4 hp) _ (pl_lt h4 (show k < siz z + 2 by omega))]
  exact decide_eq_decide.mpr ⟨fun h => pl_inj h4 hp (by omega) h, fun h => by rw [h]⟩
theorem sum_range (F : Nat → Int) : ∀ m, ((List.range m).map F).sum = sumN m F
  | 0 => rfl
  | m + 1 => by rw [List.range_succ, List.map_append, List.sum_append, sum_range F m]; simp [sumN]
theorem st_gbody {b : Heap} (G : G3 w mean mg mb b) {L fa : Addr} {cr : Value} {Q : Flow → Shared → Prop} {s : Shared} {m : Str → Option Value} {z : Bool} {Wd : Addr} {ow : Obj} {t1 tp tg : Tok} {kw : List (Str × Value)} {cells rest : List (Addr × Obj)} {cv : Nat → Option Value} {V : Nat → Nat → Int} {k : Nat}
    (hk : k < siz z) (hB : ∀ r < siz z, ∀ p < siz z + 2, 0 ≤ V r p ∧ V r p ≤ 5488) (F : Fr b L s.heap m) (N : News b L s.heap (cells ++ (Wd, ow) :: rest)) (C : CS L cv cells) (off : offC L ((Wd, ow) :: rest)) (e1 : cv 1 = some (.str (plS z) tp)) (e3 : cv 3 = some (.ref Wd)) (e4 : cv 4 = some (.str (letter k) tg)) (hrooms : m (Str.ofString "rooms") = some (.str (rms2 z) t1))
    (hd : ow.IsDictOf (PySem.strKind prog3 w) kw) (dw : DS letter (List.range (siz z)) kw (RowIn w z rest V)) (hWr : ∀ p ∈ rest, p.1 ≠ Wd)
    (next : ∀ h' tk' m' cells' cv' ow' kw' rest' tp', CS L cv' cells' → cv' 1 = some (.str (plS z) tp') → cv' 3 = some (.ref Wd) → offC L ((Wd, ow') :: rest') → ow'.IsDictOf (PySem.strKind prog3 w) kw' → DS letter (List.range (siz z)) kw' (RowIn w z rest' (elim (siz z) V k)) → (∀ p ∈ rest', p.1 ≠ Wd) → (∀ p ∈ rest, p ∈ rest') → m' (Str.ofString "rooms") = some (.str (rms2 z) t1) → Fr b L h' m' → News b L h' (cells' ++ (Wd, ow') :: rest') → Q .next { s with heap := h', toks := tk' }) : ChGoal [2] 0 w L fa cr Q s := by
  refine exposeC3 (by rfl) (by rfl) ?_
  have X := G.X
  have TT := G.T
  have hst0 : b.StaysIn b := fun _ _ e => e
  have h4 := siz_le z
  obtain ⟨o1, m1, d1⟩ := C.at' 1 (by decide)
  obtain ⟨o3, m3, d3⟩ := C.at' 3 (by decide)
  obtain ⟨o4, m4, d4⟩ := C.at' 4 (by decide)
  rw [e1] at d1
  rw [e3] at d3
  rw [e4] at d4
  have inl : ∀ p ∈ cells, p ∈ cells ++ (Wd, ow) :: rest := fun p hp => List.mem_append_left _ hp
  have n1 : (L + 1 + 1, o1) ∈ cells ++ (Wd, ow) :: rest := inl _ m1
  obtain ⟨_, hva, ra, ro, rkv, rfl, rm, rd, rv⟩ := dw.val k (List.mem_range.mpr hk)
  have nr : (ra, ro) ∈ cells ++ (Wd, ow) :: rest := by simp [rm]
  have nW : (Wd, ow) ∈ cells ++ (Wd, ow) :: rest := by simp
  have hszp : (plS z).cps.size ≤ 1000 := by rw [(plS_fact z).1]; omega
  refine wpAny_execs_cons ?_
  refine wpAny_Assign_Name ?_
  refine DictComp_Z (by with_unfolding_all rfl) (by rfl) (by decide) ?_
  k_steps
  rename Fr _ _ _ _ => F2
  rename News _ _ _ _ => N2
  refine dc_rel (plk z) (fun p v => ∃ t, v = .int (onw V k p) t) (List.range (siz z + 2)) (List.length_range.trans (plS_fact z).1.symm) hszp (plk_nodup z) (by decide) (by rfl) (by rfl) (src_text rfl (plS_fact z).2) F2 N2 (fun h => nomatch h) (fun _ h => nomatch h) ?_ ?_
  · clear F2 N2
    rintro j v p m₂ C4 oC4 rst h7 tk7 E7 ⟨c4, u4, hc4, rfl⟩ hj hm hns hC4 hsub2 F N
    obtain ⟨hjz, hcl4⟩ := plS_item hc4
    rw [hcl4] at hm
    have hpj : p = j := by
      rw [List.getElem?_range hjz] at hj
      exact (Option.some.inj hj).symm
    subst hpj
    have q3 : (L + 1 + 1 + 1 + 1, o3) ∈ rst := hsub2 _ (inl _ m3)
    have q4 : (L + 1 + 1 + 1 + 1 + 1, o4) ∈ rst := hsub2 _ (inl _ m4)
    have qW := hsub2 _ nW
    have qr := hsub2 _ nr
    have hpl6 := pl_lt h4 hjz
    have hpl1 : (plk z p).length ≤ 1 := letter_len _ hpl6
    have hlk1 : (letter k).length ≤ 1 := letter_len _ (by omega)
    obtain ⟨_, hvp, tv2, rfl⟩ := rv.val p (List.mem_range.mpr hjz)
    have hbeq := plk_beq hjz hk
    by_cases hpk : p = k
    · have hx : (plk z p == letter k) = true := by rw [hbeq, decide_eq_true hpk]
      k_steps
      exact ValP.intro ⟨_, by unfold onw; rw [if_pos hpk]⟩ (by assumption) (by assumption)
    · have hx : (plk z p == letter k) = false := by rw [hbeq, decide_eq_false hpk]
      k_steps
      exact ValP.intro ⟨_, by unfold onw; rw [if_neg hpk]⟩ (by assumption) (by assumption)
  · clear F2 N2
    intro Od oo ko h2 tk2 hod dvo hDo F N
    have hcD : ∀ p ∈ cells, p.1 < Od := fun p hp => hDo p (inl p hp)
    have hWO : Wd < Od := hDo (Wd, ow) nW
    have off2 : offC L ((Wd, ow) :: (Od, oo) :: rest) := fun p hp j hj => by
      rcases List.mem_cons.mp hp with rfl | hp
      · exact off (Wd, ow) (.head _) j hj
      · rcases List.mem_cons.mp hp with rfl | hp
        · obtain ⟨o, mo, _⟩ := C.at' j hj
          exact Nat.ne_of_gt (hcD (L + 1 + j, o) mo)
        · exact off p (.tail _ hp) j hj
    have N' : News b L h2 (cells ++ (Wd, ow) :: (Od, oo) :: rest) := fun p hp => N p (by simp at hp ⊢; rcases hp with h | h | h | h <;> simp [h])
    clear N
    k_steps
    refine ⟨stCS (i := 5) (by decide) F N' C off2 (by rfl) ?_⟩
    clear F N' d1 d3 d4 n1 nr nW m1 m3 m4 hcD inl hDo
    intro h3 cells C F N
    generalize hcv : cvPut cv 5 (.ref Od) = cv2 at C
    replace e1 : cv2 1 = some (.str (plS z) tp) := by rw [← hcv]; exact e1
    replace e3 : cv2 3 = some (.ref Wd) := by rw [← hcv]; exact e3
    replace e4 : cv2 4 = some (.str (letter k) tg) := by rw [← hcv]; exact e4
    have e5 : cv2 5 = some (.ref Od) := by rw [← hcv]; rfl
    clear hcv
    obtain ⟨o1, m1, d1⟩ := C.at' 1 (by decide)
    obtain ⟨o5, m5, d5⟩ := C.at' 5 (by decide)
    rw [e1] at d1
    rw [e5] at d5
    have inl : ∀ p ∈ cells, p ∈ cells ++ (Wd, ow) :: (Od, oo) :: rest := fun p hp => List.mem_append_left _ hp
    have n1 : (L + 1 + 1, o1) ∈ cells ++ (Wd, ow) :: (Od, oo) :: rest := inl _ m1
    have nO : (Od, oo) ∈ cells ++ (Wd, ow) :: (Od, oo) :: rest := by simp
    k_steps
    refine ⟨ListComp_Z (by with_unfolding_all rfl) (by rfl) (by decide) ?_⟩
    k_steps
    rename Fr _ _ _ _ => F4
    rename News _ _ _ _ => N4
    refine lc_rel (fun p v => ∃ t, v = .int (onw V k p) t) (List.range (siz z + 2)) (List.length_range.trans (plS_fact z).1.symm) hszp (by decide) (by rfl) (by rfl) (src_text rfl (plS_fact z).2) F4 N4 (fun h => nomatch h) (fun _ h => nomatch h) ?_ ?_
    · clear F4 N4
      rintro j v p m₂ C4 oC4 rst h7 tk7 E7 ⟨c4, u4, hc4, rfl⟩ hj hm hns hC4 hsub2 F N
      obtain ⟨hjz, hcl4⟩ := plS_item hc4
      rw [hcl4] at hm
      have hpj : p = j := by
        rw [List.getElem?_range hjz] at hj
        exact (Option.some.inj hj).symm
      subst hpj
      have q5 : (L + 1 + 1 + 1 + 1 + 1 + 1, o5) ∈ rst := hsub2 _ (inl _ m5)
      have qO := hsub2 _ nO
      obtain ⟨_, hvp, tv2, rfl⟩ := dvo.val p (List.mem_range.mpr hjz)
      k_steps
      exact ValP.intro ⟨_, rfl⟩ (by assumption) (by assumption)
    · clear F4 N4
      intro D vs kv h4' tk4 hvs hD F N
      have hints := rels_ints hvs
      k_steps
      rename Fr _ _ _ _ => F5
      rename News _ _ _ _ => N5
      refine ⟨sumK rfl F5 N5 ⟨_, (N5 (D, W.listOf (List.toArray vs) kv) (by first | exact .head _ | exact .tail _ (.head _))).1, rfl, _, rfl⟩ hints ?_⟩
      clear F5 N5
      intro h6 tk6 t6 F6 N6
      rw [sum_range]
      replace N6 : News b L h6 (cells ++ (Wd, ow) :: (Od, oo) :: rest) := fun p hp => N6 p (.tail _ hp)
      k_steps
      refine ⟨stCS (i := 6) (by decide) F6 N6 C off2 (by rfl) ?_⟩
      clear F6 N6 C d1 d5 n1 nO m1 m5 inl hD
      intro h8 cells C F N
      refine backC (path := [2]) (k := 2) (by rfl) (by rfl) (st_rooms (t1 := t1) (s := { s with heap := h8, toks := _ }) G hk hB F N C off2 ⟨⟨tp, e1⟩, e3, ⟨tg, e4⟩, e5, ⟨t6, rfl⟩⟩ hrooms hd (dw.mono fun r hr v hv => hv.mono (fun p hp => .tail _ hp) fun _ _ => rfl) (fun p hp => ?_) (.head _) hod dvo ?_)
      · rcases List.mem_cons.mp hp with rfl | hp
        · exact Nat.ne_of_gt hWO
        · exact hWr p hp
      · intro h9 tk9 m9 cells9 cv9 ow9 kw9 rest9 C9 ok9 off9 hd9 dw9 hWr9 hsub9 hr9 F9 N9
        obtain ⟨tp9, ep9⟩ := ok9.p
        exact next h9 tk9 m9 cells9 cv9 ow9 kw9 rest9 tp9 C9 ep9 ok9.w off9 hd9 dw9 hWr9 (fun p hp => hsub9 p (.tail _ hp)) hr9 F9 N9
end
end Mine
end
namespace Mine
section
variable {w : World} {mean : ExcName → Option Value} {mg mb : Str → Option Value} {h₀ : Heap}
local macro_rules | `(tactic| walk_at "subscriptTail Name Constant ref str") => `(tactic| (k_here; refine kda_item (knd := PySem.strKind _ _) (by k_asm) (by assumption) (by k_asm) (strKind_is _ _ _ _) (by assumption) ?_))
local macro_rules | `(tactic| walk_at "exec For Name Subscript cons nil") => `(tactic| (k_here; (rename Fr _ _ _ _ => lF'); (with_unfolding_all refine For_N lF' ?_)))
noncomputable def Vs (n : Nat) (f g : Nat → Nat) : Nat → Nat → Nat → Int
  | 0 => Wt f g
  | i + 1 => elim n (Vs n f g i) (n - 1 - i)
theorem Wt_le (f g : Nat → Nat) (r p : Nat) : 0 ≤ Wt f g r p ∧ Wt f g r p ≤ 2 := by
  unfold Wt ind
  split <;> split <;> decide
theorem elim_le {n : Nat} (h4 : n ≤ 4) {V : Nat → Nat → Int} {B : Int} (hB0 : 0 ≤ B) (hB : ∀ r < n, ∀ p < n + 2, 0 ≤ V r p ∧ V r p ≤ B) {k : Nat} (hk : k < n) : ∀ r < n, ∀ p < n + 2, 0 ≤ elim n V k r p ∧ elim n V k r p ≤ B * (6 * B) + B * B := fun r hr p hp => by
  have on : ∀ p < n + 2, 0 ≤ onw V k p ∧ onw V k p ≤ B := fun p hp => by
    have := hB k hk p hp
    unfold onw; split
    · omega
    · exact this
  have wl := sum_le (F := onw V k) hB0 (n + 2) on
  have w1 : 0 ≤ whole n V k := wl.1
  have w2 : whole n V k ≤ 6 * B := by
    refine Int.le_trans wl.2 ?_
    exact Int.mul_le_mul_of_nonneg_right (by omega) hB0
  have nnB : 0 ≤ B * (6 * B) := Int.mul_nonneg hB0 (by omega)
  have nnB2 : 0 ≤ B * B := Int.mul_nonneg hB0 hB0
  unfold elim
  split
  · omega
  · obtain ⟨a1, a2⟩ := hB r hr p hp
    obtain ⟨c1, c2⟩ := hB r hr k (by omega)
    obtain ⟨d1, d2⟩ := on p hp
    have x1 := Int.mul_nonneg a1 w1
    have x2 := Int.mul_nonneg c1 d1
    have x3 : V r p * whole n V k ≤ B * (6 * B) := Int.mul_le_mul a2 w2 w1 hB0
    have x4 : V r k * onw V k p ≤ B * B := Int.mul_le_mul c2 d2 d1 hB0
    omega
theorem Vs_le {z : Bool} {f g : Nat → Nat} {i : Nat} (hi : i < 3) (hz : i < siz z - 1) : ∀ r < siz z, ∀ p < siz z + 2, 0 ≤ Vs (siz z) f g i r p ∧ Vs (siz z) f g i r p ≤ 5488 := by
  have h4 := siz_le z
  have b0 : ∀ r < siz z, ∀ p < siz z + 2, 0 ≤ Vs (siz z) f g 0 r p ∧ Vs (siz z) f g 0 r p ≤ 2 := fun r _ p _ => Wt_le f g r p
  have b1 := elim_le h4 (by decide) b0 (k := siz z - 1 - 0) (by omega)
  have b2 := elim_le (V := Vs (siz z) f g 1) h4 (by decide) b1 (k := siz z - 1 - 1) (by omega)
  intro r hr p hp
  rcases (show i = 0 ∨ i = 1 ∨ i = 2 by omega) with rfl | rfl | rfl
  · exact ⟨(b0 r hr p hp).1, Int.le_trans (b0 r hr p hp).2 (by decide)⟩
  · exact ⟨(b1 r hr p hp).1, Int.le_trans (b1 r hr p hp).2 (by decide)⟩
  · exact ⟨(b2 r hr p hp).1, Int.le_trans (b2 r hr p hp).2 (by decide)⟩
noncomputable def rvS : Bool → Str | false => Str.ofString "kJ" | true => Str.ofString "KkJ"
theorem rv_fact (z : Bool) (t u : Tok) : Txt.sliceBy (rms2 z) none (some (0, t)) (-1, u) = rvS z := by cases z <;> rfl
theorem rvS_fact : ∀ z : Bool, (rvS z).cps.size = siz z - 1 ∧ (rvS z).cps.all (· < 128) = true := by decide +kernel
theorem rvS_item0 : ∀ z : Bool, ∀ i < siz z - 1, (rvS z).cps[i]?.map (fun c => (⟨#[c]⟩ : Str)) = some (letter (siz z - 1 - i)) := by decide +kernel
theorem rvS_item {z : Bool} {i c : Nat} (h : (rvS z).cps[i]? = some c) : i < siz z - 1 ∧ (⟨#[c]⟩ : Str) = letter (siz z - 1 - i) := by
  have hi : i < siz z - 1 := by
    have := (Array.getElem?_eq_some_iff.mp h).1
    rwa [(rvS_fact z).1] at this
  have q := rvS_item0 z i hi
  rw [h] at q
  exact ⟨hi, Option.some.inj q⟩
theorem plk_l (z : Bool) : plk z (siz z) = Str.ofString "l" := by cases z <;> rfl
theorem plk_L (z : Bool) : plk z (siz z + 1) = Str.ofString "L" := by cases z <;> rfl
theorem RowIn.filt {b h : Heap} {L I : Addr} {oI : Obj} {z : Bool} {all led : List (Addr × Obj)} {V : Nat → Nat → Int} {r : Nat} {v : Value} (h' : RowIn w z led V r v) (N : News b L h all) (hIm : (I, oI) ∈ all) (hit : IterZ oI) (hs : ∀ p ∈ led, p ∈ all) : RowIn w z (led.filter fun p => decide (p.1 ≠ I)) V r v := by
  obtain ⟨a, o, kv, e, hm, hd, dv⟩ := h'
  refine ⟨a, o, kv, e, List.mem_filter.mpr ⟨hm, decide_eq_true ?_⟩, hd, dv⟩
  exact cls_off N (hs _ hm) hIm (by rw [dict_cls hd]; exact Ne.symm hit.2.2)
theorem st_gones {b : Heap} (G : G3 w mean mg mb b) {L fa : Addr} {cr : Value} {Q : Flow → Shared → Prop} {s : Shared} {m : Str → Option Value} {z : Bool} {Wd : Addr} {ow : Obj} {t1 tp : Tok} {kw : List (Str × Value)} {cells rest : List (Addr × Obj)} {cv : Nat → Option Value} {f g : Nat → Nat}
    (F : Fr b L s.heap m) (N : News b L s.heap (cells ++ (Wd, ow) :: rest)) (C : CS L cv cells) (off : offC L ((Wd, ow) :: rest)) (e1 : cv 1 = some (.str (plS z) tp)) (e3 : cv 3 = some (.ref Wd)) (hrooms : m (Str.ofString "rooms") = some (.str (rms2 z) t1))
    (hd : ow.IsDictOf (PySem.strKind prog3 w) kw) (dw : DS letter (List.range (siz z)) kw (RowIn w z rest (Wt f g))) (hWr : ∀ p ∈ rest, p.1 ≠ Wd)
    (ret : ∀ h' tk' m' T x1 x2 news', (T, ({ cls := .type "tuple", data := .seq #[.int (Vs (siz z) f g (siz z - 1) 0 (siz z)) x1, .int (Vs (siz z) f g (siz z - 1) 0 (siz z + 1)) x2] } : Obj)) ∈ news' → (∀ p ∈ rest, p ∈ news') → Fr b L h' m' → News b L h' news' → Q (.ret (.ref T)) { s with heap := h', toks := tk' }) : ChGoal [] 2 w L fa cr Q s := by
  refine exposeC2 (by rfl) (by rfl) ?_
  have X := G.X
  have TT := G.T
  have hst0 : b.StaysIn b := fun _ _ e => e
  have h4 := siz_le z
  obtain ⟨hgs, hga, hgl⟩ := rms_fact z
  have hrl : (rms2 z).length ≤ 4 := by rw [hgl]; exact h4
  k_steps
  rename Fr _ _ _ _ => F2
  rename News _ _ _ _ => N2
  rw [rv_fact]
  refine loop_nstr (y := rvS z) (fun i m' news => ∃ cells' cv' ow' kw' rest' tp', news = cells' ++ (Wd, ow') :: rest' ∧ CS L cv' cells' ∧ cv' 1 = some (.str (plS z) tp') ∧ cv' 3 = some (.ref Wd) ∧ offC L ((Wd, ow') :: rest') ∧ ow'.IsDictOf (PySem.strKind prog3 w) kw' ∧ DS letter (List.range (siz z)) kw' (RowIn w z rest' (Vs (siz z) f g i)) ∧ (∀ p ∈ rest', p.1 ≠ Wd) ∧ (∀ p ∈ rest, p ∈ rest') ∧ m' (Str.ofString "rooms") = some (.str (rms2 z) t1)) rfl (rvS_fact z).2 F2 N2 ⟨cells, cv, ow, kw, rest, tp, rfl, C, e1, e3, off, hd, dw, hWr, fun _ h => h, hrooms⟩ ?_ ?_
  · clear F2 N2 C off e1 e3 hd dw hrooms hWr
    rintro I i ch u m₁ news₁ s₁ own hc ⟨cells, cv, ow, kw, rest', tp, rfl, C, e1, e3, off, hd, dw, hWr, hsub, hrooms⟩ hI hlt' hown ⟨oI, hoI, hit⟩ F N
    obtain ⟨hiz, hcl⟩ := rvS_item hc
    rw [hcl]
    have h3 := siz_ge z
    have offo := off_cells C off hown hI
    have N2 : News b L s₁.heap (cells ++ (own ++ (Wd, ow) :: rest')) := fun p hp => N p (by simp at hp ⊢; rcases hp with h | h | h | h <;> simp [h])
    refine wpAny_assign_Name ?_
    refine stCS (i := 4) (by decide) F N2 C offo (by rfl) ?_
    have Cold := C
    clear F N N2 C
    intro h2 cells2 C F N
    have hWI : Wd ≠ I := hI (Wd, ow) (List.mem_append_right _ (.head _))
    have N3 : News b L h2 (cells2 ++ (Wd, ow) :: (own ++ rest')) := fun p hp => N p (by simp at hp ⊢; rcases hp with h | h | h | h <;> simp [h])
    have off3 : offC L ((Wd, ow) :: (own ++ rest')) := fun p hp j hj => offo p (by simp at hp ⊢; rcases hp with h | h | h <;> simp [h]) j hj
    refine backC (path := [2]) (k := 0) (by rfl) (by rfl) (st_gbody (t1 := t1) (V := Vs (siz z) f g i) (k := siz z - 1 - i) (s := { s₁ with heap := h2 }) G (by omega) (Vs_le (by omega) (by omega)) F N3 C off3 (tp := tp) e1 e3 (tg := u) rfl hrooms hd (dw.mono fun r hr v hv => hv.mono (fun p hp => List.mem_append_right _ hp) fun _ _ => rfl) (fun p hp => ?_) ?_)
    · rcases List.mem_append.mp hp with hp | hp
      · rw [hown p hp]; exact Ne.symm hWI
      · exact hWr p hp
    · intro h9 tk9 m9 cells9 cv9 ow9 kw9 rest9 tp9 C9 e19 e39 off9 hd9 dw9 hWr9 hsub9 hr9 F9 N9
      have hIm : (I, oI) ∈ cells9 ++ (Wd, ow9) :: rest9 := List.mem_append_right _ (.tail _ (hsub9 _ (List.mem_append_left _ hoI)))
      refine TurnT.next (news' := cells9 ++ (Wd, ow9) :: rest9.filter fun p => decide (p.1 ≠ I)) F9 (fun p hp => ?_) (fun p hp => ?_) ⟨cells9, cv9, ow9, kw9, rest9.filter fun p => decide (p.1 ≠ I), tp9, rfl, C9, e19, e39, fun p hp j hj => ?_, hd9, dw9.mono fun r hr v hv => hv.filt N9 hIm hit fun p hp => List.mem_append_right _ (.tail _ hp), fun p hp => hWr9 p (List.mem_filter.mp hp).1, fun p hp => ?_, hr9⟩
      · rcases List.mem_append.mp hp with hp | hp
        · exact N9 p (List.mem_append_right _ (.tail _ (hsub9 p (List.mem_append_left _ hp))))
        · refine N9 p ?_
          rcases List.mem_append.mp hp with hp | hp
          · exact List.mem_append_left _ hp
          · rcases List.mem_cons.mp hp with rfl | hp
            · exact List.mem_append_right _ (.head _)
            · exact List.mem_append_right _ (.tail _ (List.mem_filter.mp hp).1)
      · rcases List.mem_append.mp hp with hp | hp
        · obtain ⟨j, hj, e⟩ := C9.adr p hp
          obtain ⟨o, mo, _⟩ := Cold.at' j hj
          rw [e]; exact hI (L + 1 + j, o) (List.mem_append_left _ mo)
        · rcases List.mem_cons.mp hp with rfl | hp
          · exact hWI
          · exact of_decide_eq_true (List.mem_filter.mp hp).2
      · rcases List.mem_cons.mp hp with rfl | hp
        · exact off9 (Wd, ow9) (.head _) j hj
        · exact off9 p (.tail _ (List.mem_filter.mp hp).1) j hj
      · exact List.mem_filter.mpr ⟨hsub9 p (List.mem_append_right _ (hsub p hp)), decide_eq_true (hI p (List.mem_append_right _ (.tail _ (hsub p hp))))⟩
  · clear F2 N2
    rintro m₁ news₁ h tk ⟨cells', cv', ow', kw', rest', tp', rfl, C', e1', e3', off', hd', dw', hWr', hsub, hrooms'⟩ F N
    rw [(rvS_fact z).1] at dw'
    have h3 := siz_ge z
    obtain ⟨o3, m3, d3⟩ := C'.at' 3 (by decide)
    rw [e3'] at d3
    have n3 : (L + 1 + 1 + 1 + 1, o3) ∈ cells' ++ (Wd, ow') :: rest' := List.mem_append_left _ m3
    have nW : (Wd, ow') ∈ cells' ++ (Wd, ow') :: rest' := by simp
    obtain ⟨_, hva, ra, ro, rkv, rfl, rm, rd, rv⟩ := dw'.val 0 (List.mem_range.mpr (by omega))
    have nr : (ra, ro) ∈ cells' ++ (Wd, ow') :: rest' := by simp [rm]
    obtain ⟨_, hv1, x1, rfl⟩ := rv.val (siz z) (List.mem_range.mpr (by omega))
    obtain ⟨_, hv2, x2, rfl⟩ := rv.val (siz z + 1) (List.mem_range.mpr (by omega))
    replace hva : valueAt kw' (Str.ofString "j") = some (.ref ra) := hva
    rw [plk_l] at hv1
    rw [plk_L] at hv2
    k_steps
    rename Fr _ _ _ _ => F9
    rename News _ _ _ _ => N9
    exact ret _ _ _ _ x1 x2 _ (.head _) (fun p hp => .tail _ (List.mem_append_right _ (.tail _ (hsub p hp)))) F9 N9
end
end Mine
end
end
end
end
end
namespace Mine
section
variable {w : World} {mean : ExcName → Option Value} {mg mb : Str → Option Value} {h₀ : Heap}
structure PostCh (z : Bool) (f g : Nat → Nat) (s : Shared) (v : Value) (s' : Shared) : Prop where
  ex : ∃ (T : Addr) (x1 x2 : Tok) (h' : Heap) (tk : Nat), v = .ref T ∧ s' = { s with heap := h', toks := tk } ∧ (∀ b o, s.heap.get? b = some o → h'.get? b = some o) ∧ h'.get? T = some ({ cls := .type "tuple", data := .seq #[.int (Vs (siz z) f g (siz z - 1) 0 (siz z)) x1, .int (Vs (siz z) f g (siz z - 1) 0 (siz z + 1)) x2] } : Obj) ∧ s.heap.get? T = none
theorem chances_c (G : G3 w mean mg mb h₀) {s : Shared} (hs : h₀.StaysIn s.heap) {z : Bool} {Ad : Addr} {od : Obj} {t1 : Tok} {kvs : List (Str × Value)} {f g : Nat → Nat}
    (A : Arr (siz z) f g) (had : s.heap.get? Ad = some od) (had0 : h₀.get? Ad = none) (hod : od.IsDictOf (PySem.strKind prog3 w) kvs) (dv : DS letter (List.range (siz z)) kvs (fun k => IsStr (arS z f g k))) :
    wpAny (model prog3 w) (Aq 9) (call (.ref 273) [.str (rms2 z) t1, .ref Ad]) (PostCh z f g s) noE s := by
  refine wpAny_call ?_
  refine enterC (hid := [(Ad, od)]) (binds := [(Str.ofString "rooms", .str (rms2 z) t1), (Str.ofString "arrows", .ref Ad)]) G hs (fun p h => by cases List.mem_singleton.mp h; exact ⟨had, had0⟩) (by k_is) (by k_is) (by rfl) (by exact Nat.le_of_ble_eq_true rfl) (BindsTo.of_eq rfl) rfl (by decide +kernel) ?_ rfl rfl rfl
  intro gb L h₁ tk cells hg st F N Y X TT hlt
  have G' : G3 w mean mg mb gb := ⟨X, TT⟩
  k_cells Y
  simp only [List.cons_append, List.nil_append] at N
  rename_i ob8 ob7 ob6 ob5 ob4 ob3 ob2 ob1 e8 e7 e6 e5 e4 e3 e2 e1
  have hAL : Ad < L := hlt (Ad, od) (.head _)
  have C : CS L (fun i => if i = 0 then some (.ref Ad) else none) [(L + 1 + 1 + 1 + 1 + 1 + 1 + 1 + 1, ob8), (L + 1 + 1 + 1 + 1 + 1 + 1 + 1, ob7), (L + 1 + 1 + 1 + 1 + 1 + 1, ob6), (L + 1 + 1 + 1 + 1 + 1, ob5), (L + 1 + 1 + 1 + 1, ob4), (L + 1 + 1 + 1, ob3), (L + 1 + 1, ob2), (L + 1, ob1)] := by
    refine ⟨fun i hi => ?_, fun p hp => ?_⟩
    · exact match i, hi with
      | 0, _ => ⟨ob1, .tail _ (.tail _ (.tail _ (.tail _ (.tail _ (.tail _ (.tail _ (.head _))))))), e1⟩
      | 1, _ => ⟨ob2, .tail _ (.tail _ (.tail _ (.tail _ (.tail _ (.tail _ (.head _)))))), e2⟩
      | 2, _ => ⟨ob3, .tail _ (.tail _ (.tail _ (.tail _ (.tail _ (.head _))))), e3⟩
      | 3, _ => ⟨ob4, .tail _ (.tail _ (.tail _ (.tail _ (.head _)))), e4⟩
      | 4, _ => ⟨ob5, .tail _ (.tail _ (.tail _ (.head _))), e5⟩
      | 5, _ => ⟨ob6, .tail _ (.tail _ (.head _)), e6⟩
      | 6, _ => ⟨ob7, .tail _ (.head _), e7⟩
      | 7, _ => ⟨ob8, .head _, e8⟩
    · simp only [List.mem_cons, List.not_mem_nil, or_false] at hp
      rcases hp with rfl | rfl | rfl | rfl | rfl | rfl | rfl | rfl
      · exact ⟨7, by decide, rfl⟩
      · exact ⟨6, by decide, rfl⟩
      · exact ⟨5, by decide, rfl⟩
      · exact ⟨4, by decide, rfl⟩
      · exact ⟨3, by decide, rfl⟩
      · exact ⟨2, by decide, rfl⟩
      · exact ⟨1, by decide, rfl⟩
      · exact ⟨0, by decide, rfl⟩
  have off : offC L [(Ad, od)] := fun p hp i hi => by
    rw [List.mem_singleton.mp hp]
    exact Nat.ne_of_lt (Nat.lt_of_lt_of_le hAL (by rw [Nat.add_assoc]; exact Nat.le_add_right _ _))
  generalize hcl : [(L + 1 + 1 + 1 + 1 + 1 + 1 + 1 + 1, ob8), (L + 1 + 1 + 1 + 1 + 1 + 1 + 1, ob7), (L + 1 + 1 + 1 + 1 + 1 + 1, ob6), (L + 1 + 1 + 1 + 1 + 1, ob5), (L + 1 + 1 + 1 + 1, ob4), (L + 1 + 1 + 1, ob3), (L + 1 + 1, ob2), (L + 1, ob1)] = cl at C
  replace N : News gb L h₁ (cl ++ [(Ad, od)]) := by rw [← hcl]; exact N
  have hne : ∀ a o, a ≠ Ad → s.heap.get? a = some o → gb.get? a = some o := fun a o n e => hg ▸ hideAll_get _ e fun q => n (List.mem_singleton.mp q)
  refine backC (path := []) (k := 0) (by rfl) (by rfl) (st_ways (t1 := t1) (s := { s with heap := h₁, toks := _ }) G' A hod dv F N C off rfl rfl ?_)
  intro h2 tk2 cells2 rest tp Wd ow kw C2 off2 hd2 dw2 hWr hAm F2 N2
  refine st_gones (t1 := t1) (tp := tp) (s := { s with heap := h2, toks := tk2 }) G' F2 N2 C2 off2 rfl rfl rfl hd2 dw2 hWr ?_
  intro h3 tk3 m3 T x1 x2 news' hT hsub F3 N3
  refine ⟨T, x1, x2, h3, tk3, rfl, rfl, fun b o e => ?_, (N3 _ hT).1, ?_⟩
  · by_cases q : b = Ad
    · rw [q, had] at e
      rw [q, ← e]; exact (N3 _ (hsub _ hAm)).1
    · exact F3.keep _ _ (hne b o q e)
  · cases e : s.heap.get? T with
    | none => rfl
    | some o =>
      by_cases q : T = Ad
      · have a1 := (N3 _ hT).1
        have a2 := (N3 _ (hsub _ hAm)).1
        have a3 := dict_cls hod
        rw [show (T, _).1 = Ad from q] at a1
        rw [a1] at a2
        have := congrArg Obj.cls (Option.some.inj a2)
        rw [a3] at this
        exact absurd (Value.type.inj this) (by decide)
      · have y := (N3 _ hT).2.2
        rw [hne _ _ q e] at y; cases y
end
end Mine
namespace Mine
section
variable {w : World} {mean : ExcName → Option Value} {mg mb : Str → Option Value} {h₀ : Heap}
noncomputable abbrev stL : Option Stmt := stA MineX.P0 [36]
noncomputable def lawEnv (L fa : Addr) (cr : Value) : Env := envOf (fName stL) (fScope stL) L fa cr
/-- the law's statements from the k-th on, in the loops' bodies that the path tells -/
noncomputable def LawG (path : List Nat) (k : Nat) (w : World) (L fa : Addr) (cr : Value) (Q : Flow → Shared → Prop) (E : Value → Shared → Prop) (s : Shared) : Prop :=
  wpAny (model prog3 w) (callerA.deeper (lawEnv L fa cr)) (execs ((subB (fBody stL) path).drop k) (lawEnv L fa cr)) Q E s
section
variable {L fa : Addr} {cr : Value} {Q : Flow → Shared → Prop} {E : Value → Shared → Prop} {s : Shared} {name : Str} {params : Arguments} {dec : List Expr} {ret : Option Expr} {tp : List TypeParam} {scope : Scope} {ts : Option Scope} {bind : Str} {pos : Pos} {body ss : List Stmt} {path : List Nat} {k : Nat}
noncomputable def LawE (w : World) (L fa : Addr) (cr : Value) (E : Value → Shared → Prop) : Prop := PassesOwn (model prog3 w) (callerA.deeper (lawEnv L fa cr)) (lawEnv L fa cr) E
theorem backL (hst : stA MineX.P0 [36] = some (.FunctionDef name params body dec ret tp scope ts bind pos)) (hb : (subB body path).drop k = ss) (h : LawG path k w L fa cr Q E s) :
    wpAny (model prog3 w) (callerA.deeper (envOf name scope L fa cr)) (execs ss (envOf name scope L fa cr)) Q E s := by
  unfold LawG at h
  have e1 : lawEnv L fa cr = envOf name scope L fa cr := by unfold lawEnv stL; rw [hst]; rfl
  have e2 : fBody stL = body := by unfold stL; rw [hst]; rfl
  rw [e1, e2, hb] at h
  exact h
theorem exposeL (hst : stA MineX.P0 [36] = some (.FunctionDef name params body dec ret tp scope ts bind pos)) (hb : (subB body path).drop k = ss) (hE : LawE w L fa cr E)
    (h : PassesOwn (model prog3 w) (callerA.deeper (envOf name scope L fa cr)) (envOf name scope L fa cr) E → wpAny (model prog3 w) (callerA.deeper (envOf name scope L fa cr)) (execs ss (envOf name scope L fa cr)) Q E s) : LawG path k w L fa cr Q E s := by
  unfold LawG
  unfold LawE at hE
  have e1 : lawEnv L fa cr = envOf name scope L fa cr := by unfold lawEnv stL; rw [hst]; rfl
  have e2 : fBody stL = body := by unfold stL; rw [hst]; rfl
  rw [e1] at hE ⊢
  rw [e2, hb]
  exact h hE
variable {a1 a2 a3 a4 a5 a6 a7 a8 a9 : Stmt}
theorem exposeL4 (hst : stA MineX.P0 [36] = some (.FunctionDef name params body dec ret tp scope ts bind pos)) (hb : (subB body path).drop k = [a1, a2, a3, a4]) (hE : LawE w L fa cr E) (h : PassesOwn (model prog3 w) (callerA.deeper (envOf name scope L fa cr)) (envOf name scope L fa cr) E → wpAny (model prog3 w) (callerA.deeper (envOf name scope L fa cr)) (execs [a1, a2, a3, a4] (envOf name scope L fa cr)) Q E s) : LawG path k w L fa cr Q E s := exposeL hst hb hE h
theorem exposeL9 (hst : stA MineX.P0 [36] = some (.FunctionDef name params body dec ret tp scope ts bind pos)) (hb : (subB body path).drop k = [a1, a2, a3, a4, a5, a6, a7, a8, a9]) (hE : LawE w L fa cr E) (h : PassesOwn (model prog3 w) (callerA.deeper (envOf name scope L fa cr)) (envOf name scope L fa cr) E → wpAny (model prog3 w) (callerA.deeper (envOf name scope L fa cr)) (execs [a1, a2, a3, a4, a5, a6, a7, a8, a9] (envOf name scope L fa cr)) Q E s) : LawG path k w L fa cr Q E s := exposeL hst hb hE h
end
noncomputable def zOf (ns : List Int) : Bool := decide (2 ≤ ns.length)
theorem arrows_led {A : Around} {s : Shared} {b : Heap} {L : Addr} {m : Str → Option Value} {news : List (Addr × Obj)} {Q E : Value → Shared → Prop} {z : Bool} {ls : Addr} {sv : List Value} {ns : List Int} {t1 : Tok} (G : G3 w mean mg mb b) (F : Fr b L s.heap m) (N : News b L s.heap news) (hl : b.IsList ls sv.toArray) (hi : IntsAre sv ns) (hnl : ns.length ≤ 63) (hA : Fits A 3)
    (h : ∀ D od kvs f g h' tk', Arr (siz z) f g → od.IsDictOf (PySem.strKind prog3 w) kvs → DS letter (List.range (siz z)) kvs (fun k => IsStr (arS z f g k)) → (∀ p ∈ news, p.1 ≠ D) → Fr b L h' m → News b L h' ((D, od) :: news) → Q (.ref D) { s with heap := h', toks := tk' }) :
    wpAny (model prog3 w) A (call (.ref 244) [.ref ls, .str (rms2 z) t1]) Q E s := by
  refine wpAny_mono (weaken (arrows_c G F.keep z (hl.at fun o e => F.keep _ o e) hi hnl t1) hA.h hA.d hA.u rfl rfl) (fun v s' p => ?_) fun _ _ x => x.elim
  obtain ⟨f, g, A, p⟩ := p.ex
  obtain ⟨D, od, kvs, h', tk, rfl, rfl, hk, hD, hDn, hod, dv⟩ := p.ex
  refine h D od kvs f g h' tk A hod dv (fun p hp e => by have y := (N p hp).1; rw [e, hDn] at y; cases y) (F.keeps hk) fun p hp => ?_
  rcases List.mem_cons.mp hp with rfl | hp
  · exact ⟨hD, freshF F hDn⟩
  · exact (N.keeps hk) p hp
theorem run_led {A : Around} {s : Shared} {b : Heap} {L : Addr} {m : Str → Option Value} {news : List (Addr × Obj)} {Q E : Value → Shared → Prop} {z : Bool} {Ad P : Addr} {od : Obj} {kvs : List (Str × Value)} {f g : Nat → Nat} {pv : List Value} {ns : List Int} {kP : Nat} {t1 : Tok} (G : G3 w mean mg mb b) (F : Fr b L s.heap m) (N : News b L s.heap news) (Ar : Arr (siz z) f g)
    (had : (Ad, od) ∈ news) (hod : od.IsDictOf (PySem.strKind prog3 w) kvs) (dv : DS letter (List.range (siz z)) kvs (fun k => IsStr (arS z f g k))) (hP : (P, W.listOf (List.toArray pv) kP) ∈ news) (hPA : P ≠ Ad) (hpi : IntsAre pv ns) (hn1 : 0 < ns.length) (hn64 : ns.length ≤ 64) (hA : Fits A 9)
    (h : ∀ (T CL D5 : Addr) (us : List Value) (kU : Nat) (DL : List (Addr × List Value × Nat)) (kD M : Nat) (sn : Nat → Int) (c : Nat → Nat) (news' : List (Addr × Obj)) (h' : Heap) (tk' : Nat), RetL z f g T CL D5 us kU DL kD M sn c news' → Fr b L h' m → News b L h' (news' ++ news) → Q (.ref T) { s with heap := h', toks := tk' }) :
    wpAny (model prog3 w) A (call (.ref 268) [.str (rms2 z) t1, .ref Ad, .ref P]) Q E s := by
  refine wpAny_mono (weaken (run_c G F.keep (t1 := t1) Ar (N _ had).1 (N _ had).2.2 hod dv ⟨_, (N _ hP).1, rfl, _, rfl⟩ hPA hpi hn1 hn64) hA.h hA.d hA.u rfl rfl) (fun v s' p => ?_) fun _ _ x => x.elim
  obtain ⟨T, CL, D5, us, kU, DL, kD, M, sn, c, news', h', tk, rfl, rfl, hk, RL, hn⟩ := p.ex
  have key : ∀ p ∈ (T, ({ cls := .type "tuple", data := .seq #[.ref CL, .ref D5] } : Obj)) :: (CL, W.listOf (List.toArray us) kU) :: (D5, W.listOf (List.toArray (DL.map fun (a : Addr × List Value × Nat) => Value.ref a.1)) kD) :: DL.map dobj, h'.get? p.1 = some p.2 ∧ s.heap.get? p.1 = none := fun p hp => by
    have q := hn p (RL.mem p hp)
    refine ⟨q.1, q.2.resolve_right fun e => ?_⟩
    have hc : p.2.cls = .type "tuple" ∨ p.2.cls = .type "list" := by
      rcases List.mem_cons.mp hp with rfl | hp
      · exact .inl rfl
      · rcases List.mem_cons.mp hp with rfl | hp
        · exact .inr rfl
        · rcases List.mem_cons.mp hp with rfl | hp
          · exact .inr rfl
          · obtain ⟨a, _, rfl⟩ := List.mem_map.mp hp
            exact .inr rfl
    rcases hc with hc | hc
    · rw [hc] at e; exact absurd (Value.type.inj e) (by decide)
    · rw [hc] at e; exact absurd (Value.type.inj e) (by decide)
  refine h T CL D5 us kU DL kD M sn c _ h' tk ⟨RL.P, RL.one, RL.pos, RL.top, RL.no, RL.nums, RL.len, RL.vals, fun p hp => hp⟩ (F.keeps hk) fun p hp => ?_
  rcases List.mem_append.mp hp with hp | hp
  · exact ⟨(key p hp).1, freshF F (key p hp).2⟩
  · exact (N.keeps hk) p hp
theorem chances_led {A : Around} {s : Shared} {b : Heap} {L : Addr} {m : Str → Option Value} {news : List (Addr × Obj)} {Q E : Value → Shared → Prop} {z : Bool} {Ad : Addr} {od : Obj} {kvs : List (Str × Value)} {f g : Nat → Nat} {t1 : Tok} (G : G3 w mean mg mb b) (F : Fr b L s.heap m) (N : News b L s.heap news) (Ar : Arr (siz z) f g)
    (had : (Ad, od) ∈ news) (hod : od.IsDictOf (PySem.strKind prog3 w) kvs) (dv : DS letter (List.range (siz z)) kvs (fun k => IsStr (arS z f g k))) (hA : Fits A 9)
    (h : ∀ (T : Addr) (x1 x2 : Tok) (h' : Heap) (tk' : Nat), Fr b L h' m → News b L h' ((T, ({ cls := .type "tuple", data := .seq #[.int (Vs (siz z) f g (siz z - 1) 0 (siz z)) x1, .int (Vs (siz z) f g (siz z - 1) 0 (siz z + 1)) x2] } : Obj)) :: news) → Q (.ref T) { s with heap := h', toks := tk' }) :
    wpAny (model prog3 w) A (call (.ref 273) [.str (rms2 z) t1, .ref Ad]) Q E s := by
  refine wpAny_mono (weaken (chances_c G F.keep (t1 := t1) Ar (N _ had).1 (N _ had).2.2 hod dv) hA.h hA.d hA.u rfl rfl) (fun v s' p => ?_) fun _ _ x => x.elim
  obtain ⟨T, x1, x2, h', tk, rfl, rfl, hk, hT, hTn⟩ := p.ex
  refine h T x1 x2 h' tk (F.keeps hk) fun p hp => ?_
  rcases List.mem_cons.mp hp with rfl | hp
  · exact ⟨hT, freshF F hTn⟩
  · exact (N.keeps hk) p hp
end
end Mine
namespace Mine
section
variable {w : World} {mean : ExcName → Option Value} {mg mb : Str → Option Value} {h₀ : Heap}
local macro_rules | `(tactic| walk_at "call ref") => `(tactic| (k_here; (with_reducible show wpAny _ _ (call (Value.ref 244) _) _ _ _); refine StopAt2.p ?_))
local macro_rules | `(tactic| walk_at "call ref") => `(tactic| (k_here; (with_reducible show wpAny _ _ (call (Value.ref 268) _) _ _ _); refine StopAt2.p ?_))
local macro_rules | `(tactic| walk_at "binaryOp Add ref ref") => `(tactic| (k_here; refine StopAt2.p ?_))
local macro_rules | `(tactic| walk_at "exec For Name Name cons nil") => `(tactic| (k_here; (rename Fr _ _ _ _ => lF'); (with_unfolding_all refine For_V lF' (by rfl) (by rfl) ?_ (hE := by assumption))))
local macro_rules | `(tactic| walk_at "exec While Compare cons nil") => `(tactic| (k_here; refine StopAt2.p ?_))
/-- the names that stay in the law -/
structure LawV (z : Bool) (Ad CL D5 : Addr) (t1 : Tok) (m : Str → Option Value) : Prop where
  rooms : m (Str.ofString "rooms") = some (.str (rms2 z) t1)
  arrows : m (Str.ofString "arrows") = some (.ref Ad)
  counts : m (Str.ofString "counts") = some (.ref CL)
  doors : m (Str.ofString "doors") = some (.ref D5)
theorem fold_gcd : ∀ (l : List Nat) (a : Nat), l.foldl Nat.gcd a ∣ a ∧ ∀ c ∈ l, l.foldl Nat.gcd a ∣ c
  | [], a => ⟨Nat.dvd_refl _, fun _ h => nomatch h⟩
  | x :: r, a => by
    obtain ⟨h1, h2⟩ := fold_gcd r (Nat.gcd a x)
    refine ⟨Nat.dvd_trans h1 (Nat.gcd_dvd_left _ _), fun c hc => ?_⟩
    rcases List.mem_cons.mp hc with rfl | hc
    · exact Nat.dvd_trans h1 (Nat.gcd_dvd_right _ _)
    · exact h2 c hc
theorem st_start {b : Heap} (G : G3 w mean mg mb b) {L fa : Addr} {cr : Value} {Q : Flow → Shared → Prop} {E : Value → Shared → Prop} (hE : LawE w L fa cr E) {s : Shared} {m : Str → Option Value} {ls : Addr} {sv : List Value} {ns : List Int}
    (F : Fr b L s.heap m) (N : News b L s.heap []) (hls : b.IsList ls sv.toArray) (hI : IntsAre sv ns) (hn : ns.length ≤ 63) (hms : m (Str.ofString "script") = some (.ref ls))
    (next : ∀ (h' : Heap) (tk' : Nat) m' Ad od kvs f g t1 T CL D5 us kU DL kD M sn c news td, Arr (siz (zOf ns)) f g → od.IsDictOf (PySem.strKind prog3 w) kvs → DS letter (List.range (siz (zOf ns))) kvs (fun k => IsStr (arS (zOf ns) f g k)) → (Ad, od) ∈ news → RetL (zOf ns) f g T CL D5 us kU DL kD M sn c news → LawV (zOf ns) Ad CL D5 t1 m' → m' (Str.ofString "divisor") = some (.int 1 td) → Fr b L h' m' → News b L h' news → LawG [] 5 w L fa cr Q E { s with heap := h', toks := tk' }) : LawG [] 0 w L fa cr Q E s := by
  refine exposeL9 (by rfl) (by rfl) hE ?_
  intro hP
  have X := G.X
  have TT := G.T
  have hszv : sv.toArray.size = ns.length := by rw [List.size_toArray]; exact hI.length
  have hn2 : ns.length ≤ 1000 := by omega
  refine wpAny_execs_cons ?_
  refine wpAny_Assign_Name ?_
  refine eval_toV (fun v => ∃ t, v = .str (rms2 (zOf ns)) t) F N ?_ ?_
  · k_steps
    · have hz : zOf ns = false := decide_eq_false (by omega)
      exact ValP.intro ⟨_, by rw [hz]; rfl⟩ F N
    · have hz : zOf ns = true := decide_eq_true (by omega)
      exact ValP.intro ⟨_, by rw [hz]; rfl⟩ F N
  · clear F N
    rintro v h1 tk1 ⟨t1, rfl⟩ F N
    generalize hz : zOf ns = z at *
    k_steps
    rename Fr _ _ _ _ => F2
    rename News _ _ _ _ => N2
    refine ⟨arrows_led G F2 N2 hls hI hn ⟨rfl, Nat.le_of_ble_eq_true rfl, Nat.le_of_ble_eq_true rfl⟩ ?_⟩
    clear F2 N2
    intro Ad od kvs f g h2 tk2 A hod dv hAf F N
    k_steps
    rename Fr _ _ _ _ => F2
    rename News _ _ _ _ => N2
    refine ⟨kmk_add_ints (vs := sv) (ns := ns) (ms := [0]) (ws := [_]) F2 N2 (hls.at fun o e => F2.keep _ o e) ⟨_, (N2 _ (.head _)).1, rfl, _, rfl⟩ hI (.cons _ _ .nil) ?_ (by rw [sizeLine_eq]; simp; omega)⟩
    clear F2
    intro P pv h3 F3 N3 hPl hpi
    have hPA : P ≠ Ad := Nat.ne_of_gt (hPl (Ad, od) (.tail _ (.head _)))
    k_steps
    rename Fr _ _ _ _ => F4
    rename News _ _ _ _ => N4
    refine ⟨run_led (z := z) G F4 N4 A (.tail _ (.tail _ (.head _))) hod dv (.head _) hPA hpi (by simp) (by simp; omega) ⟨rfl, Nat.le_of_ble_eq_true rfl, Nat.le_of_ble_eq_true rfl⟩ ?_⟩
    clear F4 N4
    intro T CL D5 us kU DL kD M sn c news' h4 tk4 RL F N
    obtain ⟨nn, hA4, RL, N⟩ : ∃ nn, (Ad, od) ∈ nn ∧ RetL z f g T CL D5 us kU DL kD M sn c nn ∧ News b L h4 nn := ⟨_, List.mem_append_right _ (.tail _ (.tail _ (.head _))), ⟨RL.P, RL.one, RL.pos, RL.top, RL.no, RL.nums, RL.len, RL.vals, fun p hp => List.mem_append_left _ (RL.mem p hp)⟩, N⟩
    have hTm : (T, ({ cls := .type "tuple", data := .seq #[.ref CL, .ref D5] } : Obj)) ∈ nn := RL.mem _ (.head _)
    have hTT : IsTup h4 T #[.ref CL, .ref D5] := ⟨_, (N _ hTm).1, rfl, _, rfl⟩
    k_steps
    rename Fr _ _ _ _ => F5
    rename News _ _ _ _ => N5
    have hCm : (CL, W.listOf (List.toArray us) kU) ∈ nn := RL.mem _ (.tail _ (.head _))
    have hCL : CL ≠ L := (N5 _ hCm).2.1
    obtain ⟨cs, hcs, hcl⟩ : ∃ cs : List Nat, IntsAre us (cs.map fun (c : Nat) => (c : Int)) ∧ cs = M :: (List.range (siz z)).map fun p => (sn p).toNat := by
      refine ⟨_, ?_, rfl⟩
      have e : (M :: (List.range (siz z)).map fun p => (sn p).toNat).map (fun c : Nat => (c : Int)) = [(M : Int)] ++ (List.range (siz z)).map sn := by
        rw [List.map_cons, List.map_map]
        refine congrArg ((M : Int) :: ·) (List.map_congr_left fun p hp => ?_)
        have := RL.P.s0 p (List.mem_range.mp hp)
        show (((sn p).toNat : Nat) : Int) = sn p
        omega
      rw [e]; exact RL.nums
    unfold Lp
    refine loop_list (ax := CL) (items := us.toArray) (fun i m news => news = nn ∧ LawV z Ad CL D5 t1 m ∧ ∃ td, m (Str.ofString "divisor") = some (.int ((((cs.take i).foldl Nat.gcd 0 : Nat)) : Int) td)) rfl ⟨_, (N5 _ hCm).1, rfl, _, rfl⟩ hCL F5 N5 ⟨rfl, ⟨rfl, rfl, rfl, rfl⟩, _, rfl⟩ ?_ ?_
    · clear F5 N5
      rintro I i v m₁ news₁ h tk own hiv ⟨rfl, ⟨V1, V2, V3, V4⟩, td, hdv⟩ hI hlt' hown ⟨oI, hoI, hit⟩ F N
      replace F : Fr b L h _ := F
      replace N : News b L h _ := N
      have hil : i < cs.length := by
        have := (Array.getElem?_eq_some_iff.mp hiv).1
        have q := hcs.length
        simp at this q; omega
      obtain ⟨tq, rfl⟩ := hcs.int_at i v (by simpa using hiv)
      have hget : (cs.map fun (c : Nat) => (c : Int)).getD i 0 = ((cs[i] : Nat) : Int) := by simp [List.getD, hil]
      rw [hget] at F
      have hnx : (cs.take (i + 1)).foldl Nat.gcd 0 = Nat.gcd ((cs.take i).foldl Nat.gcd 0) cs[i] := by
        rw [take_one (List.getElem?_eq_getElem hil), List.foldl_append]
        rfl
      generalize hgd : (cs.take i).foldl Nat.gcd 0 = dd at hdv hnx
      generalize hci : cs[i] = cc at F hnx
      k_steps
      rename Fr _ _ _ _ => F6
      rename News _ _ _ _ => N6
      refine ⟨While_inv (fun q m news => ∃ (d c : Nat) (td tc : Tok), q = c ∧ news = own ++ news₁ ∧ Nat.gcd d c = Nat.gcd dd cc ∧ LawV z Ad CL D5 t1 m ∧ m (Str.ofString "divisor") = some (.int (d : Int) td) ∧ m (Str.ofString "count") = some (.int (c : Int) tc)) F6 N6 ⟨dd, cc, _, _, rfl, rfl, rfl, ⟨V1, V2, V3, V4⟩, hdv, rfl⟩ ?_ hP⟩
      clear F6 N6 hdv V1 V2 V3 V4
      rintro q m₂ news₂ h3 tk3 F N ⟨d, c, td, tc, rfl, rfl, hg, ⟨V1, V2, V3, V4⟩, hdv, hcv⟩
      by_cases hc0 : q = 0
      · have hc1 : ¬ 0 < (q : Int) := by omega
        k_steps
        rename Fr _ _ _ _ => F7
        rename News _ _ _ _ => N7
        refine TurnEnd.next F7 N7 hI ⟨rfl, ⟨V1, V2, V3, V4⟩, td, ?_⟩
        rw [hnx, ← hg, hc0, Nat.gcd_zero_right]; exact hdv
      · have hc1 : 0 < (q : Int) := by omega
        have hcz : (q : Int) ≠ 0 := by omega
        have hmod : Int.fmod (d : Int) (q : Int) = ((d % q : Nat) : Int) := by
          rw [Int.fmod_eq_emod_of_nonneg _ (by omega)]; rfl
        k_steps
        rename Fr _ _ _ _ => F7
        rename News _ _ _ _ => N7
        rw [hmod] at F7
        refine WhileStep.intro F7 (fun p hp => N7 p (.tail _ hp)) (Nat.mod_lt d (Nat.pos_of_ne_zero hc0)) ⟨q, d % q, tc, _, rfl, rfl, ?_, ⟨V1, V2, V3, V4⟩, rfl, rfl⟩
        rw [← hg, Nat.gcd_comm q, ← Nat.gcd_rec, Nat.gcd_comm]
    · clear F5 N5
      rintro m₁ news₁ h tk ⟨e, VV, td, hdv⟩ F N
      replace F : Fr b L h _ := F
      replace N : News b L h _ := N
      rw [e] at N
      have hsz : us.toArray.size = cs.length := by
        have q := hcs.length
        rw [List.length_map] at q
        simpa using q
      rw [hsz, List.take_length] at hdv
      obtain ⟨-, hdvd⟩ := fold_gcd cs 0
      have hS : Solve (siz z) f g (M : Int) sn := fun p hp => by rw [← RL.P.roomAt hp, RL.one p hp]; rfl
      have hdM : cs.foldl Nat.gcd 0 ∣ M := hdvd M (by rw [hcl]; exact .head _)
      have hd1 : 1 ≤ cs.foldl Nat.gcd 0 := by
        rcases Nat.eq_zero_or_pos (cs.foldl Nat.gcd 0) with e0 | e0
        · rw [e0] at hdM
          have := Nat.eq_zero_of_zero_dvd hdM
          have := RL.pos
          omega
        · exact e0
      have hone := gcd_one hS (by have := RL.pos; omega) RL.P.s0 RL.no (d := ((cs.foldl Nat.gcd 0 : Nat) : Int)) (by omega) (Int.natCast_dvd_natCast.mpr hdM) fun p hp => by
        have h1 := hdvd (sn p).toNat (by rw [hcl]; exact .tail _ (List.mem_map.mpr ⟨p, List.mem_range.mpr hp, rfl⟩))
        have h2 := RL.P.s0 p hp
        have h3 : (((sn p).toNat : Nat) : Int) = sn p := by omega
        rw [← h3]; exact Int.natCast_dvd_natCast.mpr h1
      rw [hone] at hdv
      exact backL (path := []) (k := 5) (by rfl) (by rfl) (next h tk m₁ Ad od kvs f g t1 T CL D5 us kU DL kD M sn c nn td A hod dv hA4 RL VV hdv F N)
end
end Mine
namespace Mine
local macro_rules | `(tactic| walk_at "none") => `(tactic| fail "none")
section
variable {w : World} {mean : ExcName → Option Value} {mg mb : Str → Option Value} {h₀ : Heap}
local macro_rules | `(tactic| walk_at "call ref") => `(tactic| (k_here; (with_reducible show wpAny _ _ (call (Value.ref 273) _) _ _ _); refine StopAt2.p ?_))
theorem itemM {A : Around} {E : Value → Shared → Prop} {s : Shared} {b : Heap} {L : Addr} {news : List (Addr × Obj)} {value slice : PySem.Expr} {D : Addr} {ys : List Value} {ns : List Int} {n : Nat} {x : Int} {u : Tok} {Q : Value → Shared → Prop}
    (N : News b L s.heap news) (hm : (D, W.listOf (List.toArray ys) n) ∈ news) (hi : IntsAre ys ([x] ++ ns)) (hfit : ns.length ≤ 60) (h : ∀ t, Q (.int x t) s)
    (hs : subscripted slice false (.ref D) (.int 0 u) = operate [.ref D, .int 0 u] (getItem (.ref D) (.int 0 u)) := by with_unfolding_all rfl) :
    wpAny (model prog3 w) A (subscriptTail value slice (.ref D) (.int 0 u)) Q E s :=
  itemI (k := 0) N hm hi rfl (by simp) (by simp; omega) h hs
local macro_rules | `(tactic| walk_at "subscriptTail Name Constant ref int") => `(tactic| (k_here; first | (refine itemM (by k_asm) (by assumption) (by assumption) (by assumption) ?_; intro tg') | refine StopAt2.p ?_))
local macro_rules | `(tactic| walk_at "exec For Name Call cons nil") => `(tactic| (k_here; (rename Fr _ _ _ _ => lF'); (with_unfolding_all refine For_V lF' (by rfl) (by rfl) ?_ (hE := by assumption))))
local macro_rules | `(tactic| walk_at "binaryOp Mult ref int") => `(tactic| (k_here; refine StopAt2.p ?_))
local macro_rules | `(tactic| walk_at "compareOp Eq ref ref") => `(tactic| (k_here; refine StopAt2.p ?_))
theorem Vs_fin {z : Bool} {f g : Nat → Nat} : ∀ p < siz z + 2, 0 ≤ Vs (siz z) f g (siz z - 1) 0 p ∧ Vs (siz z) f g (siz z - 1) 0 p ≤ 210827008 := fun p hp => by
  have h4 := siz_le z
  have h3 := siz_ge z
  obtain ⟨i, hi⟩ : ∃ i, siz z - 1 = i + 1 := ⟨siz z - 2, by omega⟩
  have := elim_le h4 (by decide) (Vs_le (z := z) (f := f) (g := g) (i := i) (by omega) (by omega)) (k := siz z - 1 - i) (by omega) 0 (by omega) p hp
  rw [hi]
  exact ⟨this.1, Int.le_trans this.2 (by decide)⟩
/-- the chances tell the doors -/
theorem door_iff {z : Bool} {f g : Nat → Nat} (A : Arr (siz z) f g) {M : Nat} {sn : Nat → Int} {c : Nat → Nat} (P : StP (siz z) f g M sn c) (one : ∀ i < siz z, c i = 1) (pos : 1 ≤ M) (left : Int) :
    left * Vs (siz z) f g (siz z - 1) 0 (siz z + 1) = ((M : Int) - left) * Vs (siz z) f g (siz z - 1) 0 (siz z) ↔ left = (c 4 : Int) := by
  have h4 := siz_le z
  have h3 := siz_ge z
  have hS : Solve (siz z) f g (M : Int) sn := fun p hp => by rw [← P.roomAt hp, one p hp]; rfl
  have step : ∀ i, i ≤ siz z - 1 → ∃ Z, Gone (siz z) f (M : Int) sn (cfg (siz z) f g (M : Int) sn) (siz z - i) (Vs (siz z) f g i) Z := by
    intro i
    induction i with
    | zero => intro _; exact ⟨1, Gone.start (by omega) A hS⟩
    | succ i ih =>
      intro hi
      obtain ⟨Z, G⟩ := ih (by omega)
      have e : siz z - i = (siz z - 1 - i) + 1 := by omega
      rw [e] at G
      have := G.step (by omega) (by omega) (A.f1 _ (by omega)).1
      rw [show siz z - (i + 1) = siz z - 1 - i by omega]
      exact ⟨_, this⟩
  obtain ⟨Z, G⟩ := step (siz z - 1) (Nat.le_refl _)
  rw [show siz z - (siz z - 1) = 1 by omega] at G
  have c4 : ((c 4 : Nat) : Int) = cfg (siz z) f g (M : Int) sn (siz z) := by
    have := P.chips (siz z) (by omega)
    unfold pl at this
    rwa [if_neg (Nat.lt_irrefl _), Nat.sub_self] at this
  have c5 : ((c 5 : Nat) : Int) = cfg (siz z) f g (M : Int) sn (siz z + 1) := by
    have := P.chips (siz z + 1) (by omega)
    unfold pl at this
    rwa [if_neg (by omega), show siz z + 1 - siz z + 4 = 5 by omega] at this
  have hrs : rs (siz z) c = siz z := by
    have : ∀ n, (∀ i < n, c i = 1) → rs n c = n := fun n => by
      induction n with
      | zero => intro _; rfl
      | succ n ih => intro h; unfold rs; rw [ih fun i hi => h i (by omega), h n (by omega)]
    exact this _ one
  have hsum : cfg (siz z) f g (M : Int) sn (siz z) + cfg (siz z) f g (M : Int) sn (siz z + 1) = (M : Int) := by
    have := P.all
    unfold tot at this
    rw [hrs] at this
    rw [← c4, ← c5]; omega
  rw [c4]
  exact door_law G (by omega) hsum left
theorem doors_sum {z : Bool} {f g : Nat → Nat} {M : Nat} {sn : Nat → Int} {c : Nat → Nat} (P : StP (siz z) f g M sn c) (one : ∀ i < siz z, c i = 1) : c 4 + c 5 = M := by
  have hrs : rs (siz z) c = siz z := by
    have : ∀ n, (∀ i < n, c i = 1) → rs n c = n := fun n => by
      induction n with
      | zero => intro _; rfl
      | succ n ih => intro h; unfold rs; rw [ih fun i hi => h i (by omega), h n (by omega)]
    exact this _ one
  have := P.all
  unfold tot at this
  omega
theorem lay_two {xs ys : List Str} (hx : ∀ x ∈ xs, PyData.strOk x = true) (hy : ∀ x ∈ ys, PyData.strOk x = true) : PySem.SeqAt.shaped (.list [.list (xs.map PyData.str), .list (ys.map PyData.str)]) = true := by
  obtain ⟨a, b⟩ := lay_strs hx
  obtain ⟨c, d⟩ := lay_strs hy
  show (PyData.canLay0 (.list [.list (xs.map PyData.str), .list (ys.map PyData.str)]) && decide (PyData.depth (.list [.list (xs.map PyData.str), .list (ys.map PyData.str)]) ≤ 64)) = true
  simp [PyData.canLay0, PyData.canLayAll0, PyData.depth, PyData.depthAll, a, b, c, d]
theorem eq_nest {A : Around} {E : Value → Shared → Prop} {s : Shared} {a a1 a2 b b1 b2 : Addr} {n n1 n2 k k1 k2 : Nat} {vs1 vs2 us1 us2 : List Value} {xs ys : List Str} {Q : Value → Shared → Prop} (ha : s.heap.get? a = some (W.listOf #[.ref a1, .ref a2] n)) (h1 : s.heap.get? a1 = some (W.listOf (List.toArray vs1) n1)) (h2 : s.heap.get? a2 = some (W.listOf (List.toArray vs2) n2)) (v1 : Rels IsStr xs vs1) (v2 : Rels IsStr ys vs2)
    (hb : s.heap.get? b = some (W.listOf #[.ref b1, .ref b2] k)) (g1 : s.heap.get? b1 = some (W.listOf (List.toArray us1) k1)) (g2 : s.heap.get? b2 = some (W.listOf (List.toArray us2) k2)) (u1 : Rels IsStr xs us1) (u2 : Rels IsStr ys us2)
    (hx : ∀ x ∈ xs, PyData.strOk x = true) (hy : ∀ x ∈ ys, PyData.strOk x = true) (hA : A.units + 64 < cLine) (h : Q (.bool true) s) : wpAny (model prog3 w) A (compareOp .Eq (.ref a) (.ref b)) Q E s := by
  have r1 : Reads s.heap (.ref a1) (.list (xs.map PyData.str)) [a1] := Reads.list h1 rfl rfl (by simpa using reads_strs v1)
  have r2 : Reads s.heap (.ref a2) (.list (ys.map PyData.str)) [a2] := Reads.list h2 rfl rfl (by simpa using reads_strs v2)
  have q1 : Reads s.heap (.ref b1) (.list (xs.map PyData.str)) [b1] := Reads.list g1 rfl rfl (by simpa using reads_strs u1)
  have q2 : Reads s.heap (.ref b2) (.list (ys.map PyData.str)) [b2] := Reads.list g2 rfl rfl (by simpa using reads_strs u2)
  refine PySem.SeqAt.compareEq_shaped (Reads.list ha rfl rfl (.cons r1 (.cons r2 .nil))) (Reads.list hb rfl rfl (.cons q1 (.cons q2 .nil))) (lay_two hx hy) (lay_two hx hy) hA ?_
  rw [PySem.SeqAt.eqv_refl _ (PySem.SeqAt.canLay_of_shaped (lay_two hx hy))]
  exact h
/-- the due list stands -/
structure DueOK (c : Nat → Nat) (m : Str → Option Value) (news : List (Addr × Obj)) : Prop where
  ex : ∃ (E1 D1 D2 : Addr) (vs1 vs2 : List Value) (k k1 k2 : Nat), m (Str.ofString "due") = some (.ref E1) ∧ (E1, W.listOf #[.ref D1, .ref D2] k) ∈ news ∧ (D1, W.listOf (List.toArray vs1) k1) ∈ news ∧ (D2, W.listOf (List.toArray vs2) k2) ∈ news ∧ Rels IsStr (List.replicate (c 4) (vstr 1)) vs1 ∧ Rels IsStr (List.replicate (c 5) (vstr 1)) vs2
theorem vstr_one : vstr 1 = Str.ofString "=3D" := by decide +kernel
theorem rels_flat {x : Str} {v : Value} {n n' : Nat} (h : IsStr x v) (e : n' = n) : Rels IsStr (List.replicate n x) ((List.replicate n' [v]).flatten) := by
  subst e; rw [List.flatten_replicate_singleton]; exact rels_rep h n'
theorem two_of {α : Type} : ∀ {l : List α}, l.length = 2 → ∃ a b, l = [a, b]
  | [a, b], _ => ⟨a, b, rfl⟩
  | [], h => by cases h
  | [_], h => by cases h
  | _ :: _ :: _ :: _, h => by simp at h
theorem is_one (t : Tok) : IsStr (vstr 1) (.str (Str.ofString "=3D") t) := ⟨t, by rw [vstr_one]⟩
theorem due_end {b h' : Heap} {L I E1 D1 D2 : Addr} {oI : Obj} {k k1 k2 : Nat} {vs1 vs2 : List Value} {x y : Addr × Obj} {own news₁ nn : List (Addr × Obj)} {c : Nat → Nat} {m' : Str → Option Value} (_F : Fr b L h' m') (N : News b L h' ((E1, W.listOf #[.ref D1, .ref D2] k) :: (D2, W.listOf (List.toArray vs2) k2) :: x :: (D1, W.listOf (List.toArray vs1) k1) :: y :: (own ++ news₁))) (hoI : (I, oI) ∈ own) (hit : IterO oI) (hI : ∀ p ∈ news₁, p.1 ≠ I) (hsub : ∀ p ∈ nn, p ∈ news₁)
    (hdue : m' (Str.ofString "due") = some (.ref E1)) (r1 : Rels IsStr (List.replicate (c 4) (vstr 1)) vs1) (r2 : Rels IsStr (List.replicate (c 5) (vstr 1)) vs2) : ∃ news', News b L h' (own ++ news') ∧ (∀ p ∈ news', p.1 ≠ I) ∧ (∀ p ∈ nn, p ∈ news') ∧ DueOK c m' news' := by
  have hIm : (I, oI) ∈ (E1, W.listOf #[.ref D1, .ref D2] k) :: (D2, W.listOf (List.toArray vs2) k2) :: x :: (D1, W.listOf (List.toArray vs1) k1) :: y :: (own ++ news₁) := by simp [hoI]
  refine ⟨(E1, W.listOf #[.ref D1, .ref D2] k) :: (D2, W.listOf (List.toArray vs2) k2) :: (D1, W.listOf (List.toArray vs1) k1) :: news₁, fun p hp => N p (by simp at hp ⊢; rcases hp with h | h | h | h | h <;> simp [h]), fun p hp => ?_, fun p hp => .tail _ (.tail _ (.tail _ (hsub p hp))), ⟨E1, D1, D2, vs1, vs2, k, k1, k2, hdue, .head _, .tail _ (.tail _ (.head _)), .tail _ (.head _), r1, r2⟩⟩
  rcases List.mem_cons.mp hp with rfl | hp
  · exact iter_ne N hIm hit (.head _) (.inr rfl)
  · rcases List.mem_cons.mp hp with rfl | hp
    · exact iter_ne (o := W.listOf (List.toArray vs2) k2) N hIm hit (.tail _ (.head _)) (.inr rfl)
    · rcases List.mem_cons.mp hp with rfl | hp
      · exact iter_ne (o := W.listOf (List.toArray vs1) k1) N hIm hit (.tail _ (.tail _ (.tail _ (.head _)))) (.inr rfl)
      · exact hI p hp
theorem st_due {b : Heap} (G : G3 w mean mg mb b) {L fa : Addr} {cr : Value} {Q : Flow → Shared → Prop} {E : Value → Shared → Prop} (hE : LawE w L fa cr E) {s : Shared} {m : Str → Option Value} {z : Bool} {Ad : Addr} {od : Obj} {kvs : List (Str × Value)} {f g : Nat → Nat} {t1 td : Tok} {T CL D5 : Addr} {us : List Value} {kU : Nat} {DL : List (Addr × List Value × Nat)} {kD M : Nat} {sn : Nat → Int} {c : Nat → Nat} {nn : List (Addr × Obj)}
    (A : Arr (siz z) f g) (hod : od.IsDictOf (PySem.strKind prog3 w) kvs) (dv : DS letter (List.range (siz z)) kvs (fun k => IsStr (arS z f g k))) (hA : (Ad, od) ∈ nn) (RL : RetL z f g T CL D5 us kU DL kD M sn c nn) (VV : LawV z Ad CL D5 t1 m) (hdv : m (Str.ofString "divisor") = some (.int 1 td)) (F : Fr b L s.heap m) (N : News b L s.heap nn)
    (fin : ∀ (h' : Heap) (tk' : Nat) m' news', Fr b L h' m' → News b L h' news' → Q (.ret (.bool true)) { s with heap := h', toks := tk' }) : LawG [] 5 w L fa cr Q E s := by
  refine exposeL4 (by rfl) (by rfl) hE ?_
  intro hP
  have X := G.X
  have TT := G.T
  obtain ⟨V1, V2, V3, V4⟩ := VV
  have h4 := siz_le z
  k_steps
  refine ⟨chances_led (t1 := t1) G F N A hA hod dv ⟨rfl, Nat.le_of_ble_eq_true rfl, Nat.le_of_ble_eq_true rfl⟩ ?_⟩
  clear F N
  intro T2 x1 x2 h2 tk2 F N
  obtain ⟨o1, o2⟩ := Vs_fin (z := z) (f := f) (g := g) (siz z) (by omega)
  obtain ⟨o3, o4⟩ := Vs_fin (z := z) (f := f) (g := g) (siz z + 1) (by omega)
  have hdoor := door_iff A RL.P RL.one RL.pos
  have hsum := doors_sum RL.P RL.one
  generalize Vs (siz z) f g (siz z - 1) 0 (siz z) = one at F N o1 o2 hdoor
  generalize Vs (siz z) f g (siz z - 1) 0 (siz z + 1) = other at F N o3 o4 hdoor
  have hnums := RL.nums
  have hnl : ((List.range (siz z)).map sn).length ≤ 60 := by rw [List.length_map, List.length_range]; omega
  have hCm : (CL, W.listOf (List.toArray us) kU) ∈ nn := RL.mem _ (.tail _ (.head _))
  have hTT : IsTup h2 T2 #[.int one x1, .int other x2] := ⟨_, (N _ (.head _)).1, rfl, _, rfl⟩
  k_steps
  rename Fr _ _ _ _ => F3
  rename News _ _ _ _ => N3
  refine ⟨itemM N3 (.tail _ (.tail _ hCm)) hnums hnl ?_⟩
  intro tg
  obtain ⟨nn2, hsub, N3⟩ : ∃ nn2, (∀ p ∈ nn, p ∈ nn2) ∧ News b L _ nn2 := ⟨_, (by exact fun p hp => .tail _ (.tail _ hp)), N3⟩
  have hCm2 := hsub _ hCm
  have htop := RL.top
  k_steps
  rename IsRange _ _ _ _ _ _ _ _ => hrg
  rename Fr _ _ _ _ => F4
  rename News _ _ _ _ => N4
  unfold Lp
  have hsm : ∀ k < 17, Builtin.Range.small 0 ((k : Nat) + 1 : Int) 1 = true ∧ Builtin.Range.rangeSize 0 ((k : Nat) + 1 : Int) 1 = ((k + 1 : Nat) : Int) := by decide +kernel
  refine loop_range (n := M + 1) (fun i m' news => (∀ p ∈ nn, p ∈ news) ∧ LawV z Ad CL D5 t1 m' ∧ m' (Str.ofString "divisor") = some (.int 1 td) ∧ m' (Str.ofString "one") = some (.int one x1) ∧ m' (Str.ofString "other") = some (.int other x2) ∧ (c 4 < i → DueOK c m' news)) rfl hrg (hsm M (by omega)).1 (hsm M (by omega)).2 F4 N4 ⟨hsub, ⟨V1, V2, V3, V4⟩, hdv, rfl, rfl, fun h => absurd h (Nat.not_lt_zero _)⟩ ?_ ?_
  · clear F4 N4 hrg
    rintro I i u m₁ news₁ h tk own hi ⟨hsub1, ⟨V1, V2, V3, V4⟩, hdv1, h1, h2', hdue⟩ hI hlt' hown ⟨oI, hoI, hit⟩ F N
    replace F : Fr b L h _ := F
    replace N : News b L h _ := N
    have hCm3 : (CL, W.listOf (List.toArray us) kU) ∈ own ++ news₁ := List.mem_append_right _ (hsub1 _ hCm)
    have hi16 : i ≤ 16 := by omega
    k_steps
    · rename (_ * _ : Int) = _ => he
      have hic : i = c 4 := by have := (hdoor (i : Int)).mp he; omega
      rename Fr _ _ _ _ => F5
      rename News _ _ _ _ => N5
      refine ⟨KMa.mul (vs := [_]) F5 N5 ⟨_, (N5 _ (.head _)).1, rfl, _, rfl⟩ (by omega) (by omega) (by simp; omega) rfl ?_⟩
      clear F5 N5
      intro D1 h5 F5 N5 hD1
      k_steps
      rename Fr _ _ _ _ => F6
      rename News _ _ _ _ => N6
      refine ⟨itemM N6 (.tail _ (.tail _ (.tail _ hCm3))) hnums hnl ?_⟩
      intro tg2
      k_steps
      rename Fr _ _ _ _ => F7
      rename News _ _ _ _ => N7
      refine ⟨KMa.mul (vs := [_]) F7 N7 ⟨_, (N7 _ (.head _)).1, rfl, _, rfl⟩ (by omega) (by omega) (by simp; omega) rfl ?_⟩
      clear F7 N7
      intro D2 h6 F6 N6 hD2
      k_steps
      rename Fr _ _ _ _ => F8
      rename News _ _ _ _ => N8
      obtain ⟨news', Na, Nb, Nc, Nd⟩ := due_end (c := c) F8 N8 hoI hit hI hsub1 rfl (rels_flat (is_one _) (by omega)) (rels_flat (is_one _) (by omega))
      exact TurnEnd.next F8 Na Nb ⟨Nc, ⟨V1, V2, V3, V4⟩, hdv1, h1, h2', fun _ => Nd⟩
    · rename (_ * _ : Int) ≠ _ => he
      rename Fr _ _ _ _ => F5
      rename News _ _ _ _ => N5
      have hic : i ≠ c 4 := fun e => he ((hdoor (i : Int)).mpr (by omega))
      refine TurnEnd.next F5 N5 hI ⟨hsub1, ⟨V1, V2, V3, V4⟩, hdv1, h1, h2', fun hlt => ?_⟩
      obtain ⟨E1, D1, D2, vs1, vs2, k, k1, k2, e1, r⟩ := (hdue (by omega)).ex
      exact ⟨E1, D1, D2, vs1, vs2, k, k1, k2, e1, r⟩
  · clear F4 N4
    rintro m₁ news₁ h tk ⟨hsub1, ⟨V1, V2, V3, V4⟩, hdv1, h1, h2', hdue⟩ F N
    replace F : Fr b L h _ := F
    replace N : News b L h _ := N
    obtain ⟨E1, D1, D2, vs1, vs2, k, k1, k2, e1, q1, q2, q3, q4, q5⟩ := (hdue (by omega)).ex
    obtain ⟨a1, a2, hDL⟩ := two_of RL.len
    have w1 : Rels IsStr (List.replicate (c 4) (vstr 1)) a1.2.1 := RL.vals 0 a1 (by rw [hDL]; rfl)
    have w2 : Rels IsStr (List.replicate (c 5) (vstr 1)) a2.2.1 := RL.vals 1 a2 (by rw [hDL]; rfl)
    have hD5 : (D5, W.listOf #[.ref a1.1, .ref a2.1] kD) ∈ news₁ := hsub1 _ (RL.mem _ (.tail _ (.tail _ (by rw [hDL]; exact .head _))))
    have hb1 : (a1.1, W.listOf (List.toArray a1.2.1) a1.2.2) ∈ news₁ := hsub1 _ (RL.mem _ (.tail _ (.tail _ (.tail _ (by rw [hDL]; exact .head _)))))
    have hb2 : (a2.1, W.listOf (List.toArray a2.2.1) a2.2.2) ∈ news₁ := hsub1 _ (RL.mem _ (.tail _ (.tail _ (.tail _ (by rw [hDL]; exact .tail _ (.head _))))))
    have hok : ∀ n, ∀ x ∈ List.replicate n (vstr 1), PyData.strOk x = true := fun n x hx => by rw [(List.mem_replicate.mp hx).2]; exact vstr_ok 1 (by decide)
    k_steps
    rename Fr _ _ _ _ => F5
    rename News _ _ _ _ => N5
    refine ⟨eq_nest (N5 _ hD5).1 (N5 _ hb1).1 (N5 _ hb2).1 w1 w2 (N5 _ q1).1 (N5 _ q2).1 (N5 _ q3).1 q4 q5 (hok _) (hok _) (Nat.le_of_ble_eq_true rfl) ?_⟩
    k_steps
    rename Fr _ _ _ _ => F6
    rename News _ _ _ _ => N6
    exact fin _ _ _ _ F6 N6
end
end Mine
end
namespace Mine
theorem back_0 {w : World} {L fa : Addr} {cr : Value} {Q : Flow → Shared → Prop} {E : Value → Shared → Prop} {s : Shared} {name : Str} {params : Arguments} {body : List Stmt} {dec : List Expr} {ret : Option Expr} {tp : List TypeParam} {scope : Scope} {ts : Option Scope} {bind : Str} {pos : Pos}
    (hst : stA MineX.P0 [36] = some (.FunctionDef name params body dec ret tp scope ts bind pos)) (hE : PassesOwn (model prog3 w) (callerA.deeper (envOf name scope L fa cr)) (envOf name scope L fa cr) E)
    (h : LawE w L fa cr E → LawG [] 0 w L fa cr Q E s) : wpAny (model prog3 w) (callerA.deeper (envOf name scope L fa cr)) (execs body (envOf name scope L fa cr)) Q E s := by
  have e1 : lawEnv L fa cr = envOf name scope L fa cr := by unfold lawEnv stL; rw [hst]; rfl
  exact backL (path := []) (k := 0) hst rfl (h (by unfold LawE; rw [e1]; exact hE))
end Mine
open Mine
local macro_rules | `(tactic| k_qdec) => `(tactic| decide +kernel)
theorem PySem.Challenge.cw_rl0125_02_holds : PySem.Challenge.rw_rl0125_02.Holds := by
  refine MineX.hd (by rfl) ?_
  k_go0
  rename IntsAre _ _ => hI0
  rename List Int => ns0
  rename Frag.In _ _ => KX0
  rename Top _ _ _ _ _ _ => T0
  have G0 := G3.mk KX0 T0
  rename Fr _ _ _ _ => F0
  rename News _ _ _ _ => N0
  rename Heap.IsList _ _ _ => hL0
  refine back_0 (by rfl) (by passes_own) ?_
  intro hE
  refine st_start G0 hE F0 N0 hL0 hI0 (by omega) (by rfl) ?_
  clear F0 N0
  intro h1 tk1 m1 Ad od kvs f g t1 T CL D5 us kU DL kD M sn c nn td A hod dv hAm RL VV hdv F N
  refine st_due G0 hE A hod dv hAm RL VV hdv F N ?_
  clear hE F N
  intro h9 tk9 m9 nw9 F9 N9
  dsimp only
  k_steps
