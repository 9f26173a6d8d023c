import PyProof.Rows.All
import Wide.All
import OpenK.AllK
import Wide.FinOn
import PySem.Challenge.RW_rl0125_01
open PySem PySem.W PyProof.Rows
set_option Elab.async false
set_option compiler.extract_closed false
set_option maxRecDepth 100000
set_option maxHeartbeats 0
set_option linter.unusedVariables false
namespace Mine
/-! the top's run as one look of the kernel's: over a tree of objects, by the library's fast twins -/
noncomputable abbrev denH : Code → Sem Fin := PySem.W.Fast.tw11892475500146522536 PySem.W.Fast.tw14364793385576792824
theorem denH_eq : denote treeTable = denH := by rw [PySem.W.Fast.te14364793385576792824, PySem.W.Fast.te11892475500146522536]
noncomputable abbrev stepH : Program → World → SharedT → Thread → Option (SharedT × Thread) := PySem.W.Fast.tw10156331382660048174 denH
theorem stepH_eq (p : Program) (w : World) (s : SharedT) (t : Thread) : stepH p w s t = stepT (denote treeTable) p w s t := by rw [denH_eq, PySem.W.Fast.te10156331382660048174]
noncomputable abbrev okH : Nat → Option Value → Thread → Bool := PySem.W.Fast.tw6613529449190102663
theorem okH_eq : stepOk = okH := by rw [PySem.W.Fast.te6613529449190102663]
noncomputable def impH (p : Program) (w : World) : Nat → SharedT → Thread → Option SharedT
  | 0, _, _ => none
  | n + 1, s, t => match t.atExitBegin with
    | some [] => some s
    | some (_ :: _) => none
    | none => match stepH p w s t with
      | some (s', t') => impH p w n s' t'
      | none => none
theorem impH_of {p : Program} {w : World} : ∀ {n : Nat} {s s' : SharedT} {t : Thread}, impH p w n s t = some s' → importEnds treeTable p w n s.abs t = some s'.abs
  | 0, _, _, _, h => by cases h
  | n + 1, s, s', t, h => by
    unfold impH at h
    unfold importEnds
    cases ht : t.atExitBegin with
    | some l =>
      rw [ht] at h
      cases l with
      | nil => cases h; rfl
      | cons => cases h
    | none =>
      rw [ht] at h
      rw [stepH_eq] at h
      cases hs : stepT (denote treeTable) p w s t with
      | none => rw [hs] at h; cases h
      | some r =>
        obtain ⟨s₂, t₂⟩ := r
        rw [hs] at h
        rw [stepT_spec hs]
        exact impH_of h
/-- a step's check, its tree looked at once -/
noncomputable def okC (n₀ : Nat) (ann : Option Value) (t : Thread) : Bool := match t.cur with
  | .pure (.again (.builtin _ _)) => okH n₀ ann t
  | .update _ _ _ _ => okH n₀ ann t
  | .os _ _ _ => false
  | .yield _ _ _ _ => false
  | .fork _ _ => false
  | .await _ _ _ _ _ => false
  | .register _ _ => false
  | _ => true
theorem okC_of {n₀ : Nat} {ann : Option Value} {t : Thread} (h : okC n₀ ann t = true) : stepOk n₀ ann t = true := by
  obtain ⟨cur, code, pos, stack⟩ := t
  rw [okH_eq]
  unfold okC at h
  split at h
  · exact h
  · exact h
  · cases h
  · cases h
  · cases h
  · cases h
  · cases h
  · rename_i h1 h2 h3 h4 h5 h6 h7
    rw [← okH_eq]
    unfold stepOk
    rw [Thread.calm_eq]
    dsimp only at h1 h2 h3 h4 h5 h6 h7
    cases cur with
    | update a p f k => exact absurd rfl (h2 a p f k)
    | os a b c => exact absurd rfl (h3 a b c)
    | yield a b c d => exact absurd rfl (h4 a b c d)
    | fork a b => exact absurd rfl (h5 a b)
    | await a b c d e => exact absurd rfl (h6 a b c d e)
    | register a b => exact absurd rfl (h7 a b)
    | _ => simp_all [Thread.loud, Thread.refused, Thread.atCollectorCode, Thread.yieldsInsideHandler]
noncomputable def topH (p : Program) (w : World) (n₀ : Nat) (ann : Option Value) : Nat → SharedT → Thread → Option SharedT
  | 0, _, _ => none
  | n + 1, s, t => match through t with
    | true => some s
    | false => match okC n₀ ann t with
      | false => none
      | true => match stepH p w s t with
        | some (s', t') => topH p w n₀ ann n s' t'
        | none => none
theorem topH_of {p : Program} {w : World} {n₀ : Nat} {ann : Option Value} : ∀ {n : Nat} {s s' : SharedT} {t : Thread}, topH p w n₀ ann n s t = some s' → topRun treeTable p w n₀ ann n s.abs t = some s'.abs
  | 0, _, _, _, h => by cases h
  | n + 1, s, s', t, h => by
    unfold topH at h
    unfold topRun
    cases ht : through t with
    | true => rw [ht] at h; cases h; rfl
    | false =>
      rw [ht] at h
      cases hk : okC n₀ ann t with
      | false => rw [hk] at h; cases h
      | true =>
        rw [hk] at h
        rw [stepH_eq] at h
        cases hs : stepT (denote treeTable) p w s t with
        | none => rw [hs] at h; cases h
        | some r =>
          obtain ⟨s₂, t₂⟩ := r
          rw [hs] at h
          show (match stepOk n₀ ann t with | false => none | true => _) = _
          rw [okC_of hk]
          show (match step (denote treeTable) p w s.abs t with | .go s' t' => topRun treeTable p w n₀ ann n s' t' | .halt _ _ => none) = _
          rw [stepT_spec hs]
          exact topH_of h
/-- a heap as a tree -/
noncomputable def insAll : List Obj → Nat → BT → BT
  | [], _, T => T
  | o :: r, n, T => insAll r (n + 1) (T.ins n o)
noncomputable def okAll : List Obj → Nat → BT → Bool
  | [], _, _ => true
  | o :: r, n, T => ((T.ins n o).get n).isSome && okAll r (n + 1) (T.ins n o)
theorem insAll_abs (life : Life) : ∀ (l : List Obj) (n : Nat) (T : BT), okAll l n T = true → absHeap (insAll l n T) (n + l.length) life = ⟨(absHeap T n life).objs ++ l.toArray, life⟩
  | [], n, T, _ => by show absHeap T n life = _; simp; rfl
  | o :: r, n, T, h => by
    unfold okAll at h
    obtain ⟨h1, h2⟩ := Bool.and_eq_true_iff.mp h
    have ih := insAll_abs life r (n + 1) (T.ins n o) h2
    rw [show n + (o :: r).length = n + 1 + r.length by rw [List.length_cons]; omega]
    show absHeap (insAll r (n + 1) (T.ins n o)) _ life = _
    rw [ih, absHeap_ins h1]
    show Heap.mk (((absHeap T n life).push o).objs ++ r.toArray) life = _
    congr 1
    show ((absHeap T n life).objs.push o) ++ r.toArray = _
    apply Array.ext'
    simp
noncomputable def toTree (s : Shared) : SharedT := ⟨insAll s.heap.objs.toList 0 .nil, s.heap.objs.toList.length, s.heap.life, s.gens, s.drawn, s.toks, s.os⟩
theorem toTree_abs {s : Shared} (h : okAll s.heap.objs.toList 0 .nil = true) : (toTree s).abs = s := by
  obtain ⟨⟨objs, life⟩, gens, drawn, toks, os⟩ := s
  have := insAll_abs life objs.toList 0 .nil h
  rw [Nat.zero_add] at this
  show Shared.mk (absHeap (insAll objs.toList 0 BT.nil) objs.toList.length life) gens drawn toks os = _
  rw [this]
  have e : (absHeap BT.nil 0 life).objs = #[] := rfl
  rw [e]
  simp
/-- a fragment's objects, those between its addresses left open -/
noncomputable def fill (g : Nat → Obj) : Nat → Nat → Frag → List Obj
  | 0, _, _ => []
  | n + 1, i, [] => g i :: fill g n (i + 1) []
  | n + 1, i, (a, o) :: k => match Nat.beq a i with
    | true => o :: fill g n (i + 1) k
    | false => g i :: fill g n (i + 1) ((a, o) :: k)
theorem fill_is (L : List Obj) : ∀ (n i : Nat) (k : Frag), L.length = i + n → (∀ p ∈ k, L[p.1]? = some p.2) → fill (fun j => L[j]?.getD default) n i k = L.drop i
  | 0, i, _, h, _ => by unfold fill; rw [List.drop_eq_nil_of_le (by omega)]
  | n + 1, i, k, h, hk => by
    have hi : i < L.length := by omega
    have e : L.drop i = L[i] :: L.drop (i + 1) := List.drop_eq_getElem_cons hi
    have e1 : L[i]? = some L[i] := List.getElem?_eq_getElem hi
    rw [e]
    cases k with
    | nil =>
      unfold fill
      rw [fill_is L n (i + 1) [] (by omega) hk]
      show L[i]?.getD default :: _ = _
      rw [e1]; rfl
    | cons p k =>
      obtain ⟨a, o⟩ := p
      unfold fill
      cases hb : Nat.beq a i with
      | true =>
        have ha : a = i := Nat.eq_of_beq_eq_true hb
        have ho : L[a]? = some o := hk _ (.head _)
        rw [ha, e1] at ho
        show o :: fill _ n (i + 1) k = _
        rw [fill_is L n (i + 1) k (by omega) fun p h => hk p (.tail _ h), Option.some.inj ho]
      | false =>
        show L[i]?.getD default :: fill _ n (i + 1) ((a, o) :: k) = _
        rw [fill_is L n (i + 1) _ (by omega) hk, e1]; rfl
/-- the state behind the top, what lies between the fragment's addresses left open -/
noncomputable def fillS (K : Params → Frag) (n tk : Nat) (g : Nat → Obj) (P : Params) : Shared := { heap := ⟨(fill g n 0 (K P)).toArray, {}⟩, gens := #[], drawn := {}, toks := tk, os := {} }
/-- the way, each step of it checked, and the state behind it at the fragment's addresses -/
noncomputable def lookC (p : Program) (as : List Addr) (w : World) (N M : Nat) : Option (List (Option Obj) × Nat × Life × Array GenState × Drawn × Nat × OsState) :=
  match okAll (start (opening p)).1.heap.objs.toList 0 .nil with
  | false => none
  | true => match impH (opening p) w N (toTree (start (opening p)).1) (start (opening p)).2 with
    | none => none
    | some s => match fenceModules? p s.abs with
      | none => none
      | some s₀ => match okAll s₀.heap.objs.toList 0 .nil with
        | false => none
        | true => match s₀.heap.isNs mainGlobals && s₀.gens.size == 0 with
          | false => none
          | true => (topH p w s₀.heap.objs.size (s₀.heap.nsMap mainGlobals "__annotations__") M (toTree s₀) (topStub p)).map fun s => (as.map s.abs.heap.get?, s.n, s.life, s.gens, s.drawn, s.toks, s.os)
/-- what is seen of that state beside the opening's -/
noncomputable def lookD (p : Program) (S : Params → Shared) (w : World) (N : Nat) : Bool :=
  match impH (opening p) w N (toTree (start (opening p)).1) (start (opening p)).2 with
  | none => false
  | some s => match fenceModules? p s.abs with
    | none => false
    | some s₀ => staticsOk (importedModules p.main.body) s₀.heap (S w.params).heap && namesBound p (S w.params).heap && gensDone (S w.params) && laidKept s₀.heap (S w.params).heap
theorem left_of {p q : Program} {loose : List Str} {Xt : Shared → Bool} {Kf : Params → Frag} {as : List Addr} {e : ∀ P, as = (Kf P).map (·.1)} {g0 : Bool} {N M K n tk : Nat} (hN : Nat.ble N K = true) (hM : Nat.ble M K = true)
    (hC : ∀ w, lookC p as w N M = some ((Kf w.params).map (fun p => some p.2), n, {}, #[], {}, tk, {})) (hD : ∀ g w, lookD p (fillS Kf n tk g) w N = true)
    (hE : ∀ g w, (PySem.W.Fast.tw4187177175401517315 q loose (importedModules p.main.body) Xt g0 (fillS Kf n tk g w.params), (kHook Kf as e).obs (fillS Kf n tk g w.params)) = (openGood q loose, (kHook Kf as e).val w)) :
    LeftO p q loose Xt (kHook Kf as e).obs (kHook Kf as e).val K g0 := fun w => by
  have h := hC w
  unfold lookC at h
  split at h
  · cases h
  rename_i k1
  split at h
  · cases h
  rename_i s hs
  split at h
  · cases h
  rename_i s₀ h0
  split at h
  · cases h
  rename_i k2
  split at h
  · cases h
  rename_i k3
  obtain ⟨s₁, h1, e1s⟩ := Option.map_eq_some_iff.mp h
  -- the state told by the fragment
  have eS : s₁.abs = fillS Kf n tk (fun j => (s₁.tree.list s₁.n)[j]?.getD default) w.params := by
    obtain ⟨a1, a2⟩ := Prod.mk.inj e1s
    obtain ⟨a2, a3⟩ := Prod.mk.inj a2
    obtain ⟨a3, a4⟩ := Prod.mk.inj a3
    obtain ⟨a4, a5⟩ := Prod.mk.inj a4
    obtain ⟨a5, a6⟩ := Prod.mk.inj a5
    obtain ⟨a6, a7⟩ := Prod.mk.inj a6
    have hl : (s₁.tree.list s₁.n).length = 0 + n := by unfold BT.list; rw [List.length_map, List.length_range, a2, Nat.zero_add]
    rw [e w.params, List.map_map] at a1
    have hk : ∀ p ∈ Kf w.params, (s₁.tree.list s₁.n)[p.1]? = some p.2 := fun p hp => by
      have := List.map_inj_left.mp a1 p hp
      replace this : s₁.abs.heap.get? p.1 = some p.2 := this
      have hx : s₁.abs.heap.objs[p.1]? = some p.2 := by
        unfold Heap.get? at this
        split at this
        · cases this
        · exact this
      rw [← hx]
      show _ = (s₁.tree.list s₁.n).toArray[p.1]?
      rw [List.getElem?_toArray]
    have := fill_is (s₁.tree.list s₁.n) n 0 (Kf w.params) hl hk
    rw [List.drop_zero] at this
    show Shared.mk ⟨(s₁.tree.list s₁.n).toArray, s₁.life⟩ s₁.gens s₁.drawn s₁.toks s₁.os = Shared.mk ⟨(fill _ n 0 (Kf w.params)).toArray, {}⟩ #[] {} tk {}
    rw [this, a3, a4, a5, a6, a7]
  have hD := hD (fun j => (s₁.tree.list s₁.n)[j]?.getD default) w
  have hE := hE (fun j => (s₁.tree.list s₁.n)[j]?.getD default) w
  unfold lookD at hD
  simp only [hs, h0] at hD
  rw [← eS] at hD hE
  have e1 := impH_of hs
  rw [toTree_abs k1] at e1
  have e1' := importEnds_mono (K - N) _ _ _ _ e1
  rw [show N + (K - N) = K by have := Nat.le_of_ble_eq_true hN; omega] at e1'
  have e2 := topH_of h1
  rw [toTree_abs k2] at e2
  have e2' := topRun_mono (K - M) _ _ _ _ e2
  rw [show M + (K - M) = K by have := Nat.le_of_ble_eq_true hM; omega] at e2'
  have e3 : openEnds treeTable p w K = some s₁.abs := by
    unfold openEnds fencedOpening
    rw [e1']
    show ((fenceModules? p s.abs).bind (topFrom treeTable p w K)) = _
    rw [h0]
    show topFrom treeTable p w K s₀ = _
    unfold topFrom
    rw [k3, e2']
    show (match _ with | true => _ | false => _) = _
    rw [hD]
  rw [e3]
  show some (openSeen q loose (importedModules p.main.body) Xt g0 s₁.abs, (kHook Kf as e).obs s₁.abs) = _
  rw [PySem.W.Fast.te4187177175401517315]
  exact congrArg some hE
/-! the defs of the text, as they stand in the row -/
noncomputable def stA (p : Program) : List Nat → Option Stmt
  | [i] => p.main.body[i]?
  | [i, j] => match p.main.body[i]? with
    | some (.ClassDef _ _ _ b _ _ _ _ _ _ _) => b[j]?
    | _ => none
  | _ => none
noncomputable def fName : Option Stmt → Str
  | some (.FunctionDef n _ _ _ _ _ _ _ _ _) => n
  | _ => Str.ofString ""
noncomputable def fArgs : Option Stmt → Arguments
  | some (.FunctionDef _ a _ _ _ _ _ _ _ _) => a
  | _ => { posonlyargs := [], args := [], vararg := none, kwonlyargs := [], kw_defaults := [], kwarg := none, defaults := [] }
noncomputable def fBody : Option Stmt → List Stmt
  | some (.FunctionDef _ _ b _ _ _ _ _ _ _) => b
  | _ => []
noncomputable def fScope : Option Stmt → Scope
  | some (.FunctionDef _ _ _ _ _ _ s _ _ _) => s
  | _ => { kind := .function, names := [], isGenerator := false, isCoroutine := false, more := [] }
noncomputable def fRec : Option Stmt → DefRec
  | some (.FunctionDef n a b _ _ _ s _ _ q) => ⟨n, a, b, s, q⟩
  | _ => ⟨Str.ofString "", { posonlyargs := [], args := [], vararg := none, kwonlyargs := [], kw_defaults := [], kwarg := none, defaults := [] }, [], { kind := .function, names := [], isGenerator := false, isCoroutine := false, more := [] }, ⟨0, 0, 0, 0⟩⟩
@[reducible] def viewOf (p : Program) (keep : List Nat) {b : List Stmt} (_h : (keep.map fun i => p.main.body[i]?) = b.map some) : Program := { p with main := { p.main with body := b } }
end Mine
namespace MineX
open Mine
noncomputable abbrev P0 : Program := PySem.Challenge.rw_rl0125_01.prog
/-- the objects that the top leaves, a def's text told by its place in the row -/
noncomputable def hd.heap_39 : Params → Frag := fun P =>
  ((nat_lit 0), (Obj.mk (Value.type "dict") none (Data.dict #[(DictEntry.mk (PyData.keyHash P (Str.ofString "__name__")) (Value.str (Str.ofString "__name__") 1) (Value.str (Str.ofString "builtins") 160)), (DictEntry.mk (PyData.keyHash P (Str.ofString "__doc__")) (Value.str (Str.ofString "__doc__") 2) (Value.builtin "builtins.__doc__:str#opaque")), (DictEntry.mk (PyData.keyHash P (Str.ofString "__package__")) (Value.str (Str.ofString "__package__") 3) (Value.builtin "builtins.__package__:str#opaque")), (DictEntry.mk (PyData.keyHash P (Str.ofString "__loader__")) (Value.str (Str.ofString "__loader__") 4) (Value.builtin "builtins.__loader__:shared#opaque")), (DictEntry.mk (PyData.keyHash P (Str.ofString "__spec__")) (Value.str (Str.ofString "__spec__") 5) (Value.builtin "builtins.__spec__#opaque")), (DictEntry.mk (PyData.keyHash P (Str.ofString "__build_class__")) (Value.str (Str.ofString "__build_class__") 6) (Value.builtin "__build_class__")), (DictEntry.mk (PyData.keyHash P (Str.ofString "__import__")) (Value.str (Str.ofString "__import__") 7) (Value.builtin "__import__")), (DictEntry.mk (PyData.keyHash P (Str.ofString "abs")) (Value.str (Str.ofString "abs") 8) (Value.builtin "abs")), (DictEntry.mk (PyData.keyHash P (Str.ofString "all")) (Value.str (Str.ofString "all") 9) (Value.builtin "all")), (DictEntry.mk (PyData.keyHash P (Str.ofString "any")) (Value.str (Str.ofString "any") 10) (Value.builtin "any")), (DictEntry.mk (PyData.keyHash P (Str.ofString "ascii")) (Value.str (Str.ofString "ascii") 11) (Value.builtin "ascii")), (DictEntry.mk (PyData.keyHash P (Str.ofString "bin")) (Value.str (Str.ofString "bin") 12) (Value.builtin "bin")), (DictEntry.mk (PyData.keyHash P (Str.ofString "breakpoint")) (Value.str (Str.ofString "breakpoint") 13) (Value.builtin "breakpoint")), (DictEntry.mk (PyData.keyHash P (Str.ofString "callable")) (Value.str (Str.ofString "callable") 14) (Value.builtin "callable")), (DictEntry.mk (PyData.keyHash P (Str.ofString "chr")) (Value.str (Str.ofString "chr") 15) (Value.builtin "chr")), (DictEntry.mk (PyData.keyHash P (Str.ofString "compile")) (Value.str (Str.ofString "compile") 16) (Value.builtin "compile")), (DictEntry.mk (PyData.keyHash P (Str.ofString "delattr")) (Value.str (Str.ofString "delattr") 17) (Value.builtin "delattr")), (DictEntry.mk (PyData.keyHash P (Str.ofString "dir")) (Value.str (Str.ofString "dir") 18) (Value.builtin "dir")), (DictEntry.mk (PyData.keyHash P (Str.ofString "divmod")) (Value.str (Str.ofString "divmod") 19) (Value.builtin "divmod")), (DictEntry.mk (PyData.keyHash P (Str.ofString "eval")) (Value.str (Str.ofString "eval") 20) (Value.builtin "eval")), (DictEntry.mk (PyData.keyHash P (Str.ofString "exec")) (Value.str (Str.ofString "exec") 21) (Value.builtin "exec")), (DictEntry.mk (PyData.keyHash P (Str.ofString "format")) (Value.str (Str.ofString "format") 22) (Value.builtin "format")), (DictEntry.mk (PyData.keyHash P (Str.ofString "getattr")) (Value.str (Str.ofString "getattr") 23) (Value.builtin "getattr")), (DictEntry.mk (PyData.keyHash P (Str.ofString "globals")) (Value.str (Str.ofString "globals") 24) (Value.builtin "globals")), (DictEntry.mk (PyData.keyHash P (Str.ofString "hasattr")) (Value.str (Str.ofString "hasattr") 25) (Value.builtin "hasattr")), (DictEntry.mk (PyData.keyHash P (Str.ofString "hash")) (Value.str (Str.ofString "hash") 26) (Value.builtin "hash")), (DictEntry.mk (PyData.keyHash P (Str.ofString "hex")) (Value.str (Str.ofString "hex") 27) (Value.builtin "hex")), (DictEntry.mk (PyData.keyHash P (Str.ofString "id")) (Value.str (Str.ofString "id") 28) (Value.builtin "id")), (DictEntry.mk (PyData.keyHash P (Str.ofString "input")) (Value.str (Str.ofString "input") 29) (Value.builtin "input")), (DictEntry.mk (PyData.keyHash P (Str.ofString "isinstance")) (Value.str (Str.ofString "isinstance") 30) (Value.builtin "isinstance")), (DictEntry.mk (PyData.keyHash P (Str.ofString "issubclass")) (Value.str (Str.ofString "issubclass") 31) (Value.builtin "issubclass")), (DictEntry.mk (PyData.keyHash P (Str.ofString "iter")) (Value.str (Str.ofString "iter") 32) (Value.builtin "iter")), (DictEntry.mk (PyData.keyHash P (Str.ofString "aiter")) (Value.str (Str.ofString "aiter") 33) (Value.builtin "aiter")), (DictEntry.mk (PyData.keyHash P (Str.ofString "len")) (Value.str (Str.ofString "len") 34) (Value.builtin "len")), (DictEntry.mk (PyData.keyHash P (Str.ofString "locals")) (Value.str (Str.ofString "locals") 35) (Value.builtin "locals")), (DictEntry.mk (PyData.keyHash P (Str.ofString "max")) (Value.str (Str.ofString "max") 36) (Value.builtin "max")), (DictEntry.mk (PyData.keyHash P (Str.ofString "min")) (Value.str (Str.ofString "min") 37) (Value.builtin "min")), (DictEntry.mk (PyData.keyHash P (Str.ofString "next")) (Value.str (Str.ofString "next") 38) (Value.builtin "next")), (DictEntry.mk (PyData.keyHash P (Str.ofString "anext")) (Value.str (Str.ofString "anext") 39) (Value.builtin "anext")), (DictEntry.mk (PyData.keyHash P (Str.ofString "oct")) (Value.str (Str.ofString "oct") 40) (Value.builtin "oct")), (DictEntry.mk (PyData.keyHash P (Str.ofString "ord")) (Value.str (Str.ofString "ord") 41) (Value.builtin "ord")), (DictEntry.mk (PyData.keyHash P (Str.ofString "pow")) (Value.str (Str.ofString "pow") 42) (Value.builtin "pow")), (DictEntry.mk (PyData.keyHash P (Str.ofString "print")) (Value.str (Str.ofString "print") 43) (Value.builtin "print")), (DictEntry.mk (PyData.keyHash P (Str.ofString "repr")) (Value.str (Str.ofString "repr") 44) (Value.builtin "repr")), (DictEntry.mk (PyData.keyHash P (Str.ofString "round")) (Value.str (Str.ofString "round") 45) (Value.builtin "round")), (DictEntry.mk (PyData.keyHash P (Str.ofString "setattr")) (Value.str (Str.ofString "setattr") 46) (Value.builtin "setattr")), (DictEntry.mk (PyData.keyHash P (Str.ofString "sorted")) (Value.str (Str.ofString "sorted") 47) (Value.builtin "sorted")), (DictEntry.mk (PyData.keyHash P (Str.ofString "sum")) (Value.str (Str.ofString "sum") 48) (Value.builtin "sum")), (DictEntry.mk (PyData.keyHash P (Str.ofString "vars")) (Value.str (Str.ofString "vars") 49) (Value.builtin "vars")), (DictEntry.mk (PyData.keyHash P (Str.ofString "None")) (Value.str (Str.ofString "None") 50) Value.none), (DictEntry.mk (PyData.keyHash P (Str.ofString "Ellipsis")) (Value.str (Str.ofString "Ellipsis") 51) Value.ellipsis), (DictEntry.mk (PyData.keyHash P (Str.ofString "NotImplemented")) (Value.str (Str.ofString "NotImplemented") 52) Value.notImplemented), (DictEntry.mk (PyData.keyHash P (Str.ofString "False")) (Value.str (Str.ofString "False") 53) (Value.bool Bool.false)), (DictEntry.mk (PyData.keyHash P (Str.ofString "True")) (Value.str (Str.ofString "True") 54) (Value.bool Bool.true)), (DictEntry.mk (PyData.keyHash P (Str.ofString "bool")) (Value.str (Str.ofString "bool") 55) (Value.type "bool")), (DictEntry.mk (PyData.keyHash P (Str.ofString "memoryview")) (Value.str (Str.ofString "memoryview") 56) (Value.type "memoryview")), (DictEntry.mk (PyData.keyHash P (Str.ofString "bytearray")) (Value.str (Str.ofString "bytearray") 57) (Value.type "bytearray")), (DictEntry.mk (PyData.keyHash P (Str.ofString "bytes")) (Value.str (Str.ofString "bytes") 58) (Value.type "bytes")), (DictEntry.mk (PyData.keyHash P (Str.ofString "classmethod")) (Value.str (Str.ofString "classmethod") 59) (Value.type "classmethod")), (DictEntry.mk (PyData.keyHash P (Str.ofString "complex")) (Value.str (Str.ofString "complex") 60) (Value.type "complex")), (DictEntry.mk (PyData.keyHash P (Str.ofString "dict")) (Value.str (Str.ofString "dict") 61) (Value.type "dict")), (DictEntry.mk (PyData.keyHash P (Str.ofString "enumerate")) (Value.str (Str.ofString "enumerate") 62) (Value.type "enumerate")), (DictEntry.mk (PyData.keyHash P (Str.ofString "filter")) (Value.str (Str.ofString "filter") 63) (Value.type "filter")), (DictEntry.mk (PyData.keyHash P (Str.ofString "float")) (Value.str (Str.ofString "float") 64) (Value.type "float")), (DictEntry.mk (PyData.keyHash P (Str.ofString "frozenset")) (Value.str (Str.ofString "frozenset") 65) (Value.type "frozenset")), (DictEntry.mk (PyData.keyHash P (Str.ofString "property")) (Value.str (Str.ofString "property") 66) (Value.type "property")), (DictEntry.mk (PyData.keyHash P (Str.ofString "int")) (Value.str (Str.ofString "int") 67) (Value.type "int")), (DictEntry.mk (PyData.keyHash P (Str.ofString "list")) (Value.str (Str.ofString "list") 68) (Value.type "list")), (DictEntry.mk (PyData.keyHash P (Str.ofString "map")) (Value.str (Str.ofString "map") 69) (Value.type "map")), (DictEntry.mk (PyData.keyHash P (Str.ofString "object")) (Value.str (Str.ofString "object") 70) (Value.type "object")), (DictEntry.mk (PyData.keyHash P (Str.ofString "range")) (Value.str (Str.ofString "range") 71) (Value.type "range")), (DictEntry.mk (PyData.keyHash P (Str.ofString "reversed")) (Value.str (Str.ofString "reversed") 72) (Value.type "reversed")), (DictEntry.mk (PyData.keyHash P (Str.ofString "set")) (Value.str (Str.ofString "set") 73) (Value.type "set")), (DictEntry.mk (PyData.keyHash P (Str.ofString "slice")) (Value.str (Str.ofString "slice") 74) (Value.type "slice")), (DictEntry.mk (PyData.keyHash P (Str.ofString "staticmethod")) (Value.str (Str.ofString "staticmethod") 75) (Value.type "staticmethod")), (DictEntry.mk (PyData.keyHash P (Str.ofString "str")) (Value.str (Str.ofString "str") 76) (Value.type "str")), (DictEntry.mk (PyData.keyHash P (Str.ofString "super")) (Value.str (Str.ofString "super") 77) (Value.type "super")), (DictEntry.mk (PyData.keyHash P (Str.ofString "tuple")) (Value.str (Str.ofString "tuple") 78) (Value.type "tuple")), (DictEntry.mk (PyData.keyHash P (Str.ofString "type")) (Value.str (Str.ofString "type") 79) (Value.type "type")), (DictEntry.mk (PyData.keyHash P (Str.ofString "zip")) (Value.str (Str.ofString "zip") 80) (Value.type "zip")), (DictEntry.mk (PyData.keyHash P (Str.ofString "__debug__")) (Value.str (Str.ofString "__debug__") 81) (Value.bool Bool.true)), (DictEntry.mk (PyData.keyHash P (Str.ofString "BaseException")) (Value.str (Str.ofString "BaseException") 82) (Value.type "BaseException")), (DictEntry.mk (PyData.keyHash P (Str.ofString "BaseExceptionGroup")) (Value.str (Str.ofString "BaseExceptionGroup") 83) (Value.type "BaseExceptionGroup")), (DictEntry.mk (PyData.keyHash P (Str.ofString "Exception")) (Value.str (Str.ofString "Exception") 84) (Value.type "Exception")), (DictEntry.mk (PyData.keyHash P (Str.ofString "GeneratorExit")) (Value.str (Str.ofString "GeneratorExit") 85) (Value.type "GeneratorExit")), (DictEntry.mk (PyData.keyHash P (Str.ofString "KeyboardInterrupt")) (Value.str (Str.ofString "KeyboardInterrupt") 86) (Value.type "KeyboardInterrupt")), (DictEntry.mk (PyData.keyHash P (Str.ofString "SystemExit")) (Value.str (Str.ofString "SystemExit") 87) (Value.type "SystemExit")), (DictEntry.mk (PyData.keyHash P (Str.ofString "ArithmeticError")) (Value.str (Str.ofString "ArithmeticError") 88) (Value.type "ArithmeticError")), (DictEntry.mk (PyData.keyHash P (Str.ofString "AssertionError")) (Value.str (Str.ofString "AssertionError") 89) (Value.type "AssertionError")), (DictEntry.mk (PyData.keyHash P (Str.ofString "AttributeError")) (Value.str (Str.ofString "AttributeError") 90) (Value.type "AttributeError")), (DictEntry.mk (PyData.keyHash P (Str.ofString "BufferError")) (Value.str (Str.ofString "BufferError") 91) (Value.type "BufferError")), (DictEntry.mk (PyData.keyHash P (Str.ofString "EOFError")) (Value.str (Str.ofString "EOFError") 92) (Value.type "EOFError")), (DictEntry.mk (PyData.keyHash P (Str.ofString "ImportError")) (Value.str (Str.ofString "ImportError") 93) (Value.type "ImportError")), (DictEntry.mk (PyData.keyHash P (Str.ofString "LookupError")) (Value.str (Str.ofString "LookupError") 94) (Value.type "LookupError")), (DictEntry.mk (PyData.keyHash P (Str.ofString "MemoryError")) (Value.str (Str.ofString "MemoryError") 95) (Value.type "MemoryError")), (DictEntry.mk (PyData.keyHash P (Str.ofString "NameError")) (Value.str (Str.ofString "NameError") 96) (Value.type "NameError")), (DictEntry.mk (PyData.keyHash P (Str.ofString "OSError")) (Value.str (Str.ofString "OSError") 97) (Value.type "OSError")), (DictEntry.mk (PyData.keyHash P (Str.ofString "ReferenceError")) (Value.str (Str.ofString "ReferenceError") 98) (Value.type "ReferenceError")), (DictEntry.mk (PyData.keyHash P (Str.ofString "RuntimeError")) (Value.str (Str.ofString "RuntimeError") 99) (Value.type "RuntimeError")), (DictEntry.mk (PyData.keyHash P (Str.ofString "StopAsyncIteration")) (Value.str (Str.ofString "StopAsyncIteration") 100) (Value.type "StopAsyncIteration")), (DictEntry.mk (PyData.keyHash P (Str.ofString "StopIteration")) (Value.str (Str.ofString "StopIteration") 101) (Value.type "StopIteration")), (DictEntry.mk (PyData.keyHash P (Str.ofString "SyntaxError")) (Value.str (Str.ofString "SyntaxError") 102) (Value.type "SyntaxError")), (DictEntry.mk (PyData.keyHash P (Str.ofString "SystemError")) (Value.str (Str.ofString "SystemError") 103) (Value.type "SystemError")), (DictEntry.mk (PyData.keyHash P (Str.ofString "TypeError")) (Value.str (Str.ofString "TypeError") 104) (Value.type "TypeError")), (DictEntry.mk (PyData.keyHash P (Str.ofString "ValueError")) (Value.str (Str.ofString "ValueError") 105) (Value.type "ValueError")), (DictEntry.mk (PyData.keyHash P (Str.ofString "Warning")) (Value.str (Str.ofString "Warning") 106) (Value.type "Warning")), (DictEntry.mk (PyData.keyHash P (Str.ofString "FloatingPointError")) (Value.str (Str.ofString "FloatingPointError") 107) (Value.type "FloatingPointError")), (DictEntry.mk (PyData.keyHash P (Str.ofString "OverflowError")) (Value.str (Str.ofString "OverflowError") 108) (Value.type "OverflowError")), (DictEntry.mk (PyData.keyHash P (Str.ofString "ZeroDivisionError")) (Value.str (Str.ofString "ZeroDivisionError") 109) (Value.type "ZeroDivisionError")), (DictEntry.mk (PyData.keyHash P (Str.ofString "BytesWarning")) (Value.str (Str.ofString "BytesWarning") 110) (Value.type "BytesWarning")), (DictEntry.mk (PyData.keyHash P (Str.ofString "DeprecationWarning")) (Value.str (Str.ofString "DeprecationWarning") 111) (Value.type "DeprecationWarning")), (DictEntry.mk (PyData.keyHash P (Str.ofString "EncodingWarning")) (Value.str (Str.ofString "EncodingWarning") 112) (Value.type "EncodingWarning")), (DictEntry.mk (PyData.keyHash P (Str.ofString "FutureWarning")) (Value.str (Str.ofString "FutureWarning") 113) (Value.type "FutureWarning")), (DictEntry.mk (PyData.keyHash P (Str.ofString "ImportWarning")) (Value.str (Str.ofString "ImportWarning") 114) (Value.type "ImportWarning")), (DictEntry.mk (PyData.keyHash P (Str.ofString "PendingDeprecationWarning")) (Value.str (Str.ofString "PendingDeprecationWarning") 115) (Value.type "PendingDeprecationWarning")), (DictEntry.mk (PyData.keyHash P (Str.ofString "ResourceWarning")) (Value.str (Str.ofString "ResourceWarning") 116) (Value.type "ResourceWarning")), (DictEntry.mk (PyData.keyHash P (Str.ofString "RuntimeWarning")) (Value.str (Str.ofString "RuntimeWarning") 117) (Value.type "RuntimeWarning")), (DictEntry.mk (PyData.keyHash P (Str.ofString "SyntaxWarning")) (Value.str (Str.ofString "SyntaxWarning") 118) (Value.type "SyntaxWarning")), (DictEntry.mk (PyData.keyHash P (Str.ofString "UnicodeWarning")) (Value.str (Str.ofString "UnicodeWarning") 119) (Value.type "UnicodeWarning")), (DictEntry.mk (PyData.keyHash P (Str.ofString "UserWarning")) (Value.str (Str.ofString "UserWarning") 120) (Value.type "UserWarning")), (DictEntry.mk (PyData.keyHash P (Str.ofString "BlockingIOError")) (Value.str (Str.ofString "BlockingIOError") 121) (Value.type "BlockingIOError")), (DictEntry.mk (PyData.keyHash P (Str.ofString "ChildProcessError")) (Value.str (Str.ofString "ChildProcessError") 122) (Value.type "ChildProcessError")), (DictEntry.mk (PyData.keyHash P (Str.ofString "ConnectionError")) (Value.str (Str.ofString "ConnectionError") 123) (Value.type "ConnectionError")), (DictEntry.mk (PyData.keyHash P (Str.ofString "FileExistsError")) (Value.str (Str.ofString "FileExistsError") 124) (Value.type "FileExistsError")), (DictEntry.mk (PyData.keyHash P (Str.ofString "FileNotFoundError")) (Value.str (Str.ofString "FileNotFoundError") 125) (Value.type "FileNotFoundError")), (DictEntry.mk (PyData.keyHash P (Str.ofString "InterruptedError")) (Value.str (Str.ofString "InterruptedError") 126) (Value.type "InterruptedError")), (DictEntry.mk (PyData.keyHash P (Str.ofString "IsADirectoryError")) (Value.str (Str.ofString "IsADirectoryError") 127) (Value.type "IsADirectoryError")), (DictEntry.mk (PyData.keyHash P (Str.ofString "NotADirectoryError")) (Value.str (Str.ofString "NotADirectoryError") 128) (Value.type "NotADirectoryError")), (DictEntry.mk (PyData.keyHash P (Str.ofString "PermissionError")) (Value.str (Str.ofString "PermissionError") 129) (Value.type "PermissionError")), (DictEntry.mk (PyData.keyHash P (Str.ofString "ProcessLookupError")) (Value.str (Str.ofString "ProcessLookupError") 130) (Value.type "ProcessLookupError")), (DictEntry.mk (PyData.keyHash P (Str.ofString "TimeoutError")) (Value.str (Str.ofString "TimeoutError") 131) (Value.type "TimeoutError")), (DictEntry.mk (PyData.keyHash P (Str.ofString "IndentationError")) (Value.str (Str.ofString "IndentationError") 132) (Value.type "IndentationError")), (DictEntry.mk (PyData.keyHash P (Str.ofString "_IncompleteInputError")) (Value.str (Str.ofString "_IncompleteInputError") 133) (Value.type "_IncompleteInputError")), (DictEntry.mk (PyData.keyHash P (Str.ofString "IndexError")) (Value.str (Str.ofString "IndexError") 134) (Value.type "IndexError")), (DictEntry.mk (PyData.keyHash P (Str.ofString "KeyError")) (Value.str (Str.ofString "KeyError") 135) (Value.type "KeyError")), (DictEntry.mk (PyData.keyHash P (Str.ofString "ModuleNotFoundError")) (Value.str (Str.ofString "ModuleNotFoundError") 136) (Value.type "ModuleNotFoundError")), (DictEntry.mk (PyData.keyHash P (Str.ofString "NotImplementedError")) (Value.str (Str.ofString "NotImplementedError") 137) (Value.type "NotImplementedError")), (DictEntry.mk (PyData.keyHash P (Str.ofString "PythonFinalizationError")) (Value.str (Str.ofString "PythonFinalizationError") 138) (Value.type "PythonFinalizationError")), (DictEntry.mk (PyData.keyHash P (Str.ofString "RecursionError")) (Value.str (Str.ofString "RecursionError") 139) (Value.type "RecursionError")), (DictEntry.mk (PyData.keyHash P (Str.ofString "UnboundLocalError")) (Value.str (Str.ofString "UnboundLocalError") 140) (Value.type "UnboundLocalError")), (DictEntry.mk (PyData.keyHash P (Str.ofString "UnicodeError")) (Value.str (Str.ofString "UnicodeError") 141) (Value.type "UnicodeError")), (DictEntry.mk (PyData.keyHash P (Str.ofString "BrokenPipeError")) (Value.str (Str.ofString "BrokenPipeError") 142) (Value.type "BrokenPipeError")), (DictEntry.mk (PyData.keyHash P (Str.ofString "ConnectionAbortedError")) (Value.str (Str.ofString "ConnectionAbortedError") 143) (Value.type "ConnectionAbortedError")), (DictEntry.mk (PyData.keyHash P (Str.ofString "ConnectionRefusedError")) (Value.str (Str.ofString "ConnectionRefusedError") 144) (Value.type "ConnectionRefusedError")), (DictEntry.mk (PyData.keyHash P (Str.ofString "ConnectionResetError")) (Value.str (Str.ofString "ConnectionResetError") 145) (Value.type "ConnectionResetError")), (DictEntry.mk (PyData.keyHash P (Str.ofString "TabError")) (Value.str (Str.ofString "TabError") 146) (Value.type "TabError")), (DictEntry.mk (PyData.keyHash P (Str.ofString "UnicodeDecodeError")) (Value.str (Str.ofString "UnicodeDecodeError") 147) (Value.type "UnicodeDecodeError")), (DictEntry.mk (PyData.keyHash P (Str.ofString "UnicodeEncodeError")) (Value.str (Str.ofString "UnicodeEncodeError") 148) (Value.type "UnicodeEncodeError")), (DictEntry.mk (PyData.keyHash P (Str.ofString "UnicodeTranslateError")) (Value.str (Str.ofString "UnicodeTranslateError") 149) (Value.type "UnicodeTranslateError")), (DictEntry.mk (PyData.keyHash P (Str.ofString "ExceptionGroup")) (Value.str (Str.ofString "ExceptionGroup") 150) (Value.type "ExceptionGroup")), (DictEntry.mk (PyData.keyHash P (Str.ofString "EnvironmentError")) (Value.str (Str.ofString "EnvironmentError") 151) (Value.type "OSError")), (DictEntry.mk (PyData.keyHash P (Str.ofString "IOError")) (Value.str (Str.ofString "IOError") 152) (Value.type "OSError")), (DictEntry.mk (PyData.keyHash P (Str.ofString "open")) (Value.str (Str.ofString "open") 153) (Value.builtin "open")), (DictEntry.mk (PyData.keyHash P (Str.ofString "quit")) (Value.str (Str.ofString "quit") 154) (Value.builtin "builtins.quit#opaque")), (DictEntry.mk (PyData.keyHash P (Str.ofString "exit")) (Value.str (Str.ofString "exit") 155) (Value.builtin "builtins.exit#opaque")), (DictEntry.mk (PyData.keyHash P (Str.ofString "copyright")) (Value.str (Str.ofString "copyright") 156) (Value.builtin "builtins.copyright#opaque")), (DictEntry.mk (PyData.keyHash P (Str.ofString "credits")) (Value.str (Str.ofString "credits") 157) (Value.builtin "builtins.credits#opaque")), (DictEntry.mk (PyData.keyHash P (Str.ofString "license")) (Value.str (Str.ofString "license") 158) (Value.builtin "builtins.license#opaque")), (DictEntry.mk (PyData.keyHash P (Str.ofString "help")) (Value.str (Str.ofString "help") 159) (Value.builtin "builtins.help#opaque"))] 159) #[])) ::
  ((nat_lit 1), (Obj.mk (Value.type "dict") none (Data.dict #[(DictEntry.mk (PyData.keyHash P (Str.ofString "builtins")) (Value.str (Str.ofString "builtins") 162) (Value.ref 4)), (DictEntry.mk (PyData.keyHash P (Str.ofString "__main__")) (Value.str (Str.ofString "__main__") 163) (Value.ref 5)), (DictEntry.mk (PyData.keyHash P (Str.ofString "_sre")) (Value.str (Str.ofString "_sre") 244) (Value.ref 12))] 3) #[])) ::
  ((nat_lit 2), (Obj.mk Value.none none (Data.dict #[(DictEntry.mk (PyData.keyHash P (Str.ofString "\x69mport.loaded._sre")) (Value.str (Str.ofString "\x69mport.loaded._sre") 183) (Value.bool Bool.true)), (DictEntry.mk (PyData.keyHash P (Str.ofString "class._frozen_importlib.BuiltinImporter")) (Value.str (Str.ofString "class._frozen_importlib.BuiltinImporter") 185) (Value.ref 14)), (DictEntry.mk (PyData.keyHash P (Str.ofString "watched.\x69mport")) (Value.str (Str.ofString "watched.\x69mport") 206) (Value.ref 18)), (DictEntry.mk (PyData.keyHash P (Str.ofString "class._frozen_importlib.ModuleSpec")) (Value.str (Str.ofString "class._frozen_importlib.ModuleSpec") 216) (Value.ref 22)), (DictEntry.mk (PyData.keyHash P (Str.ofString "sys.modules.booked-epoch")) (Value.str (Str.ofString "sys.modules.booked-epoch") 245) (Value.int 3 0)), (DictEntry.mk (PyData.keyHash P (Str.ofString "\x69mport.later-laid._sre")) (Value.str (Str.ofString "\x69mport.later-laid._sre") 270) (Value.bool Bool.true)), (DictEntry.mk (PyData.keyHash P (Str.ofString "watched.library")) (Value.str (Str.ofString "watched.library") 272) (Value.ref 27)), (DictEntry.mk (PyData.keyHash P (Str.ofString "watched.library-objects")) (Value.str (Str.ofString "watched.library-objects") 0) (Value.str (Str.ofString "\x0c") 0)), (DictEntry.mk (PyData.keyHash P (Str.ofString "watched.library-deep._sre")) (Value.str (Str.ofString "watched.library-deep._sre") 273) (Value.str (Str.ofString "\x04\x00\x00\x0b\x04\x00\x00\x0b\x04\x00\x00\x03\x04\x00\x00\x0b\x08\x04dict\x02") 0))] 9) #[])) ::
  ((nat_lit 3), (Obj.mk (Value.type "dict") none (Data.dict #[(DictEntry.mk (PyData.keyHash P (Str.ofString "__name__")) (Value.str (Str.ofString "__name__") 165) (Value.str (Str.ofString "law_rl0125_01") 2107)), (DictEntry.mk (PyData.keyHash P (Str.ofString "__doc__")) (Value.str (Str.ofString "__doc__") 166) Value.none), (DictEntry.mk (PyData.keyHash P (Str.ofString "__package__")) (Value.str (Str.ofString "__package__") 167) Value.none), (DictEntry.mk (PyData.keyHash P (Str.ofString "__loader__")) (Value.str (Str.ofString "__loader__") 168) (Value.builtin "__main__.__loader__#opaque")), (DictEntry.mk (PyData.keyHash P (Str.ofString "__spec__")) (Value.str (Str.ofString "__spec__") 169) Value.none), (DictEntry.mk (PyData.keyHash P (Str.ofString "__annotations__")) (Value.str (Str.ofString "__annotations__") 170) (Value.ref 6)), (DictEntry.mk (PyData.keyHash P (Str.ofString "__builtins__")) (Value.str (Str.ofString "__builtins__") 171) (Value.ref 4)), (DictEntry.mk (PyData.keyHash P (Str.ofString "__file__")) (Value.str (Str.ofString "__file__") 173) (Value.str (Str.ofString "/claim/cut.py") 172)), (DictEntry.mk (PyData.keyHash P (Str.ofString "__cached__")) (Value.str (Str.ofString "__cached__") 174) Value.none), (DictEntry.mk (PyData.keyHash P (Str.ofString "_sre")) (Value.str (Str.ofString "_sre") 275) (Value.ref 12)), (DictEntry.mk (PyData.keyHash P (Str.ofString "_wall")) (Value.str (Str.ofString "_wall") 288) (Value.ref 38)), (DictEntry.mk (PyData.keyHash P (Str.ofString "_name_disallowed_re")) (Value.str (Str.ofString "_name_disallowed_re") 316) (Value.ref 43)), (DictEntry.mk (PyData.keyHash P (Str.ofString "_value_disallowed_re")) (Value.str (Str.ofString "_value_disallowed_re") 350) (Value.ref 48)), (DictEntry.mk (PyData.keyHash P (Str.ofString "Headers")) (Value.str (Str.ofString "Headers") 505) (Value.ref 169)), (DictEntry.mk (PyData.keyHash P (Str.ofString "CRLF")) (Value.str (Str.ofString "CRLF") 507) (Value.str (Str.ofString "\x0d\n") 506)), (DictEntry.mk (PyData.keyHash P (Str.ofString "NL")) (Value.str (Str.ofString "NL") 509) (Value.str (Str.ofString "\n") 508)), (DictEntry.mk (PyData.keyHash P (Str.ofString "_QUOPRI_MAP")) (Value.str (Str.ofString "_QUOPRI_MAP") 1537) (Value.ref 176)), (DictEntry.mk (PyData.keyHash P (Str.ofString "_QUOPRI_HEADER_MAP")) (Value.str (Str.ofString "_QUOPRI_HEADER_MAP") 1538) (Value.ref 181)), (DictEntry.mk (PyData.keyHash P (Str.ofString "_QUOPRI_BODY_MAP")) (Value.str (Str.ofString "_QUOPRI_BODY_MAP") 1539) (Value.ref 183)), (DictEntry.mk (PyData.keyHash P (Str.ofString "ascii_lowercase")) (Value.str (Str.ofString "ascii_lowercase") 1541) (Value.str (Str.ofString "abcdefghijklmnopqrstuvwxyz") 1540)), (DictEntry.mk (PyData.keyHash P (Str.ofString "ascii_uppercase")) (Value.str (Str.ofString "ascii_uppercase") 1543) (Value.str (Str.ofString "ABCDEFGHIJKLMNOPQRSTUVWXYZ") 1542)), (DictEntry.mk (PyData.keyHash P (Str.ofString "ascii_letters")) (Value.str (Str.ofString "ascii_letters") 1545) (Value.str (Str.ofString "abcdefghijklmnopqrstuvwxyzABCDEFGHIJKLMNOPQRSTUVWXYZ") 1544)), (DictEntry.mk (PyData.keyHash P (Str.ofString "digits")) (Value.str (Str.ofString "digits") 1547) (Value.str (Str.ofString "0123456789") 1546)), (DictEntry.mk (PyData.keyHash P (Str.ofString "hexdigits")) (Value.str (Str.ofString "hexdigits") 1552) (Value.str (Str.ofString "0123456789abcdefABCDEF") 1551)), (DictEntry.mk (PyData.keyHash P (Str.ofString "unquote")) (Value.str (Str.ofString "unquote") 2058) (Value.ref 196)), (DictEntry.mk (PyData.keyHash P (Str.ofString "quote")) (Value.str (Str.ofString "quote") 2065) (Value.ref 203)), (DictEntry.mk (PyData.keyHash P (Str.ofString "_QUOPRI_BODY_ENCODE_MAP")) (Value.str (Str.ofString "_QUOPRI_BODY_ENCODE_MAP") 2066) (Value.ref 205)), (DictEntry.mk (PyData.keyHash P (Str.ofString "body_encode")) (Value.str (Str.ofString "body_encode") 2093) (Value.ref 216)), (DictEntry.mk (PyData.keyHash P (Str.ofString "decode")) (Value.str (Str.ofString "decode") 2106) (Value.ref 224)), (DictEntry.mk (PyData.keyHash P (Str.ofString "_law_boxes")) (Value.str (Str.ofString "_law_boxes") 2120) (Value.ref 231)), (DictEntry.mk (PyData.keyHash P (Str.ofString "_law_name")) (Value.str (Str.ofString "_law_name") 2129) (Value.ref 238)), (DictEntry.mk (PyData.keyHash P (Str.ofString "_law_table")) (Value.str (Str.ofString "_law_table") 2140) (Value.ref 245)), (DictEntry.mk (PyData.keyHash P (Str.ofString "_law_try")) (Value.str (Str.ofString "_law_try") 2152) (Value.ref 252)), (DictEntry.mk (PyData.keyHash P (Str.ofString "_law_run")) (Value.str (Str.ofString "_law_run") 2158) (Value.ref 257)), (DictEntry.mk (PyData.keyHash P (Str.ofString "_law_due")) (Value.str (Str.ofString "_law_due") 2164) (Value.ref 262)), (DictEntry.mk (PyData.keyHash P (Str.ofString "law")) (Value.str (Str.ofString "law") 2170) (Value.ref 267))] 38) #[])) ::
  ((nat_lit 4), (Obj.mk (Value.type "module") (some 0) Data.plain #[])) ::
  ((nat_lit 5), (Obj.mk (Value.type "module") (some 3) Data.plain #[])) ::
  ((nat_lit 6), (Obj.mk (Value.type "dict") none (Data.dict #[] 0) #[])) ::
  ((nat_lit 7), (Obj.mk (Value.type "tuple") none (Data.seq #[] 0) #[])) ::
  ((nat_lit 8), (Obj.mk Value.none none (Data.fields #[]) #[])) ::
  ((nat_lit 9), (Obj.mk (Value.type "code") none (Data.fields #[(Value.str (Str.ofString "<module>") 176), (Value.str (Str.ofString "<module>") 177), (Value.str (Str.ofString "/claim/cut.py") 178), (Value.int 1 0), (Value.int 0 0), (Value.int 0 0), (Value.int 0 0), (Value.int 0 0), (Value.ref 7), (Value.bool Bool.false), (Value.int 175 0), (Value.ref 8), Value.none, Value.none, Value.none, Value.none, (Value.int 179 0), (Value.int 1 0), (Value.str (Str.ofString "/claim/cut.py") 180)]) #[])) ::
  ((nat_lit 10), (Obj.mk (Value.type "frame") none Data.plain #[(some (Value.ref 9)), (some (Value.ref 3)), (some (Value.ref 3)), none, (some (Value.str (Str.ofString "__main__") 164)), none, (some (Value.ref 0))])) ::
  ((nat_lit 11), (Obj.mk (Value.type "dict") none (Data.dict #[(DictEntry.mk (PyData.keyHash P (Str.ofString "__name__")) (Value.str (Str.ofString "__name__") 247) (Value.str (Str.ofString "_sre") 246)), (DictEntry.mk (PyData.keyHash P (Str.ofString "__doc__")) (Value.str (Str.ofString "__doc__") 248) Value.none), (DictEntry.mk (PyData.keyHash P (Str.ofString "__package__")) (Value.str (Str.ofString "__package__") 250) (Value.str (Str.ofString "") 249)), (DictEntry.mk (PyData.keyHash P (Str.ofString "__loader__")) (Value.str (Str.ofString "__loader__") 251) (Value.builtin "off-the-table:_sre.__loader__:shared#opaque")), (DictEntry.mk (PyData.keyHash P (Str.ofString "__spec__")) (Value.str (Str.ofString "__spec__") 252) (Value.builtin "off-the-table:_sre.__spec__:shared#opaque")), (DictEntry.mk (PyData.keyHash P (Str.ofString "compile")) (Value.str (Str.ofString "compile") 253) (Value.builtin "_sre.compile")), (DictEntry.mk (PyData.keyHash P (Str.ofString "template")) (Value.str (Str.ofString "template") 254) (Value.builtin "off-the-table:_sre.template:shared#opaque")), (DictEntry.mk (PyData.keyHash P (Str.ofString "getcodesize")) (Value.str (Str.ofString "getcodesize") 255) (Value.builtin "off-the-table:_sre.getcodesize:shared#opaque")), (DictEntry.mk (PyData.keyHash P (Str.ofString "ascii_iscased")) (Value.str (Str.ofString "ascii_iscased") 256) (Value.builtin "off-the-table:_sre.ascii_iscased:shared#opaque")), (DictEntry.mk (PyData.keyHash P (Str.ofString "unicode_iscased")) (Value.str (Str.ofString "unicode_iscased") 257) (Value.builtin "off-the-table:_sre.unicode_iscased:shared#opaque")), (DictEntry.mk (PyData.keyHash P (Str.ofString "ascii_tolower")) (Value.str (Str.ofString "ascii_tolower") 258) (Value.builtin "off-the-table:_sre.ascii_tolower:shared#opaque")), (DictEntry.mk (PyData.keyHash P (Str.ofString "unicode_tolower")) (Value.str (Str.ofString "unicode_tolower") 259) (Value.builtin "off-the-table:_sre.unicode_tolower:shared#opaque")), (DictEntry.mk (PyData.keyHash P (Str.ofString "MAGIC")) (Value.str (Str.ofString "MAGIC") 261) (Value.int 20230612 260)), (DictEntry.mk (PyData.keyHash P (Str.ofString "CODESIZE")) (Value.str (Str.ofString "CODESIZE") 263) (Value.int 4 262)), (DictEntry.mk (PyData.keyHash P (Str.ofString "MAXREPEAT")) (Value.str (Str.ofString "MAXREPEAT") 265) (Value.int 4294967295 264)), (DictEntry.mk (PyData.keyHash P (Str.ofString "MAXGROUPS")) (Value.str (Str.ofString "MAXGROUPS") 267) (Value.int 1073741823 266)), (DictEntry.mk (PyData.keyHash P (Str.ofString "copyright")) (Value.str (Str.ofString "copyright") 269) (Value.str (Str.ofString " SRE 2.2.2 Copyright (c) 1997-2002 by Secret Labs AB ") 268))] 17) #[])) ::
  ((nat_lit 12), (Obj.mk (Value.type "module") (some 11) Data.plain #[])) ::
  ((nat_lit 13), (Obj.mk (Value.type "dict") none (Data.dict #[(DictEntry.mk (PyData.keyHash P (Str.ofString "__module__")) (Value.str (Str.ofString "__module__") 189) (Value.str (Str.ofString "_frozen_importlib") 186)), (DictEntry.mk (PyData.keyHash P (Str.ofString "__firstlineno__")) (Value.str (Str.ofString "__firstlineno__") 190) (Value.int 971 187)), (DictEntry.mk (PyData.keyHash P (Str.ofString "__doc__")) (Value.str (Str.ofString "__doc__") 191) (Value.builtin "_frozen_importlib.BuiltinImporter.__doc__:str#opaque")), (DictEntry.mk (PyData.keyHash P (Str.ofString "_ORIGIN")) (Value.str (Str.ofString "_ORIGIN") 192) (Value.str (Str.ofString "built-in") 188)), (DictEntry.mk (PyData.keyHash P (Str.ofString "find_spec")) (Value.str (Str.ofString "find_spec") 193) (Value.builtin "_frozen_importlib.BuiltinImporter.find_spec#opaque")), (DictEntry.mk (PyData.keyHash P (Str.ofString "create_module")) (Value.str (Str.ofString "create_module") 194) (Value.builtin "_frozen_importlib.BuiltinImporter.create_module#opaque")), (DictEntry.mk (PyData.keyHash P (Str.ofString "exec_module")) (Value.str (Str.ofString "exec_module") 195) (Value.builtin "_frozen_importlib.BuiltinImporter.exec_module#opaque")), (DictEntry.mk (PyData.keyHash P (Str.ofString "get_code")) (Value.str (Str.ofString "get_code") 196) (Value.builtin "_frozen_importlib.BuiltinImporter.get_code#opaque")), (DictEntry.mk (PyData.keyHash P (Str.ofString "get_source")) (Value.str (Str.ofString "get_source") 197) (Value.builtin "_frozen_importlib.BuiltinImporter.get_source#opaque")), (DictEntry.mk (PyData.keyHash P (Str.ofString "is_package")) (Value.str (Str.ofString "is_package") 198) (Value.builtin "_frozen_importlib.BuiltinImporter.is_package#opaque")), (DictEntry.mk (PyData.keyHash P (Str.ofString "load_module")) (Value.str (Str.ofString "load_module") 199) (Value.builtin "_frozen_importlib.BuiltinImporter.load_module#opaque")), (DictEntry.mk (PyData.keyHash P (Str.ofString "__static_attributes__")) (Value.str (Str.ofString "__static_attributes__") 200) (Value.ref 15)), (DictEntry.mk (PyData.keyHash P (Str.ofString "__dict__")) (Value.str (Str.ofString "__dict__") 202) (Value.ref 16)), (DictEntry.mk (PyData.keyHash P (Str.ofString "__weakref__")) (Value.str (Str.ofString "__weakref__") 204) (Value.ref 17))] 14) #[])) ::
  ((nat_lit 14), (Obj.mk (Value.type "type") none (Data.cls (ClassData.mk (Str.ofString "BuiltinImporter") [(Value.type "object")] [(Value.ref 14), (Value.type "object")] 13 (Str.ofString "BuiltinImporter") Bool.true [] [] Bool.false none Bool.false)) #[])) ::
  ((nat_lit 15), (Obj.mk (Value.type "tuple") none (Data.seq #[] 0) #[])) ::
  ((nat_lit 32), (Obj.mk (Value.type "tuple") none (Data.seq #[] 0) #[])) ::
  ((nat_lit 33), (Obj.mk Value.none none (Data.fields #[]) #[])) ::
  ((nat_lit 34), (Obj.mk (Value.type "tuple") none (Data.seq #[(Value.str (Str.ofString "k") 285)] 0) #[])) ::
  ((nat_lit 35), (Obj.mk (Value.type "tuple") none (Data.seq #[] 0) #[])) ::
  ((nat_lit 36), (Obj.mk Value.none none (Data.func (FuncData.mk (fName (stA P0 [1])) (Str.ofString "_wall") (fArgs (stA P0 [1])) (.stmts (fBody (stA P0 [1]))) (fScope (stA P0 [1])) 0 [] Value.none Value.none Value.none Value.none none Value.none Value.none 0)) #[])) ::
  ((nat_lit 37), (Obj.mk (Value.type "code") none (Data.fields #[(Value.str (Str.ofString "_wall") 282), (Value.str (Str.ofString "_wall") 283), (Value.str (Str.ofString "/claim/cut.py") 284), (Value.int 2 0), (Value.int 1 0), (Value.int 0 0), (Value.int 0 0), (Value.int 3 0), (Value.ref 32), (Value.bool Bool.true), (Value.int 276 0), (Value.ref 33), Value.none, (Value.ref 34), (Value.ref 35), (Value.ref 36), (Value.int 286 0), (Value.int 2 0), (Value.str (Str.ofString "/claim/cut.py") 287)]) #[])) ::
  ((nat_lit 38), (Obj.mk (Value.type "function") none (Data.func (fnOf (fName (stA P0 [1])) (Str.ofString "_wall") (fArgs (stA P0 [1])) (fBody (stA P0 [1])) (fScope (stA P0 [1])) Value.none Value.none Value.none (Value.str (Str.ofString "__main__") 164) none (Value.ref 37) Value.none)) #[])) ::
  ((nat_lit 42), (Obj.mk (Value.type "tuple") none (Data.seq #[(Value.int 14 0), (Value.int 10 0), (Value.int 4 0), (Value.int 1 0), (Value.int 1 0), (Value.int 22 0), (Value.int 0 0), (Value.int 31 0), (Value.int 16 0), (Value.int 127 0), (Value.int 0 0), (Value.int 13 0), (Value.int 7 0), (Value.int 22 0), (Value.int 0 0), (Value.int 31 0), (Value.int 16 0), (Value.int 127 0), (Value.int 0 0), (Value.int 1 0)] 0) #[])) ::
  ((nat_lit 43), (Obj.mk (Value.type "re.Pattern") none (Data.fields #[(Value.str (Str.ofString "[\\x00-\\x1F\\x7F]") 292), (Value.int 32 315), (Value.int 0 0), Value.none, Value.none, (Value.ref 42), (Value.int 0 0)]) #[])) ::
  ((nat_lit 47), (Obj.mk (Value.type "tuple") none (Data.seq #[(Value.int 14 0), (Value.int 14 0), (Value.int 4 0), (Value.int 1 0), (Value.int 1 0), (Value.int 9 0), (Value.int 4294966783 0), (Value.int 0 0), (Value.int 0 0), (Value.int 2147483648 0), (Value.int 0 0), (Value.int 0 0), (Value.int 0 0), (Value.int 0 0), (Value.int 0 0), (Value.int 13 0), (Value.int 11 0), (Value.int 9 0), (Value.int 4294966783 0), (Value.int 0 0), (Value.int 0 0), (Value.int 2147483648 0), (Value.int 0 0), (Value.int 0 0), (Value.int 0 0), (Value.int 0 0), (Value.int 0 0), (Value.int 1 0)] 0) #[])) ::
  ((nat_lit 48), (Obj.mk (Value.type "re.Pattern") none (Data.fields #[(Value.str (Str.ofString "[\\x00-\\x08\\x0A-\\x1F\\x7F]") 318), (Value.int 32 349), (Value.int 0 0), Value.none, Value.none, (Value.ref 47), (Value.int 0 0)]) #[])) ::
  ((nat_lit 56), (Obj.mk (Value.type "tuple") none (Data.seq #[Value.none] 0) #[])) ::
  ((nat_lit 57), (Obj.mk (Value.type "tuple") none (Data.seq #[] 0) #[])) ::
  ((nat_lit 58), (Obj.mk Value.none none (Data.fields #[]) #[])) ::
  ((nat_lit 59), (Obj.mk (Value.type "tuple") none (Data.seq #[(Value.str (Str.ofString "self") 366), (Value.str (Str.ofString "headers") 367), (Value.str (Str.ofString "k") 368), (Value.str (Str.ofString "v") 369)] 0) #[])) ::
  ((nat_lit 60), (Obj.mk (Value.type "tuple") none (Data.seq #[] 0) #[])) ::
  ((nat_lit 61), (Obj.mk Value.none none (Data.func (FuncData.mk (fName (stA P0 [5, 0])) (Str.ofString "Headers.__init__") (fArgs (stA P0 [5, 0])) (.stmts (fBody (stA P0 [5, 0]))) (fScope (stA P0 [5, 0])) 0 [] Value.none Value.none Value.none Value.none none Value.none Value.none 0)) #[])) ::
  ((nat_lit 62), (Obj.mk (Value.type "code") none (Data.fields #[(Value.str (Str.ofString "__init__") 363), (Value.str (Str.ofString "Headers.__init__") 364), (Value.str (Str.ofString "/claim/cut.py") 365), (Value.int 10 0), (Value.int 2 0), (Value.int 0 0), (Value.int 0 0), (Value.int 3 0), (Value.ref 57), (Value.bool Bool.true), (Value.int 276 0), (Value.ref 58), Value.none, (Value.ref 59), (Value.ref 60), (Value.ref 61), (Value.int 370 0), (Value.int 10 0), (Value.str (Str.ofString "/claim/cut.py") 371)]) #[])) ::
  ((nat_lit 63), (Obj.mk (Value.type "function") none (Data.func (fnOf (fName (stA P0 [5, 0])) (Str.ofString "Headers.__init__") (fArgs (stA P0 [5, 0])) (fBody (stA P0 [5, 0])) (fScope (stA P0 [5, 0])) (Value.ref 56) Value.none Value.none (Value.str (Str.ofString "cpy313.wsgiref.headers") 289) none (Value.ref 62) Value.none)) #[])) ::
  ((nat_lit 64), (Obj.mk (Value.type "tuple") none (Data.seq #[] 0) #[])) ::
  ((nat_lit 65), (Obj.mk Value.none none (Data.fields #[]) #[])) ::
  ((nat_lit 66), (Obj.mk (Value.type "tuple") none (Data.seq #[(Value.str (Str.ofString "self") 376), (Value.str (Str.ofString "value") 377), (Value.str (Str.ofString "name") 378), (Value.str (Str.ofString "regex") 379)] 0) #[])) ::
  ((nat_lit 67), (Obj.mk (Value.type "tuple") none (Data.seq #[] 0) #[])) ::
  ((nat_lit 68), (Obj.mk Value.none none (Data.func (FuncData.mk (fName (stA P0 [5, 1])) (Str.ofString "Headers._convert_string_type") (fArgs (stA P0 [5, 1])) (.stmts (fBody (stA P0 [5, 1]))) (fScope (stA P0 [5, 1])) 0 [] Value.none Value.none Value.none Value.none none Value.none Value.none 0)) #[])) ::
  ((nat_lit 69), (Obj.mk (Value.type "code") none (Data.fields #[(Value.str (Str.ofString "_convert_string_type") 373), (Value.str (Str.ofString "Headers._convert_string_type") 374), (Value.str (Str.ofString "/claim/cut.py") 375), (Value.int 20 0), (Value.int 2 0), (Value.int 0 0), (Value.int 1 0), (Value.int 3 0), (Value.ref 64), (Value.bool Bool.true), (Value.int 276 0), (Value.ref 65), Value.none, (Value.ref 66), (Value.ref 67), (Value.ref 68), (Value.int 380 0), (Value.int 20 0), (Value.str (Str.ofString "/claim/cut.py") 381)]) #[])) ::
  ((nat_lit 70), (Obj.mk (Value.type "function") none (Data.func (fnOf (fName (stA P0 [5, 1])) (Str.ofString "Headers._convert_string_type") (fArgs (stA P0 [5, 1])) (fBody (stA P0 [5, 1])) (fScope (stA P0 [5, 1])) Value.none Value.none Value.none (Value.str (Str.ofString "cpy313.wsgiref.headers") 289) none (Value.ref 69) Value.none)) #[])) ::
  ((nat_lit 71), (Obj.mk (Value.type "tuple") none (Data.seq #[] 0) #[])) ::
  ((nat_lit 72), (Obj.mk Value.none none (Data.fields #[]) #[])) ::
  ((nat_lit 73), (Obj.mk (Value.type "tuple") none (Data.seq #[(Value.str (Str.ofString "self") 386)] 0) #[])) ::
  ((nat_lit 74), (Obj.mk (Value.type "tuple") none (Data.seq #[] 0) #[])) ::
  ((nat_lit 75), (Obj.mk Value.none none (Data.func (FuncData.mk (fName (stA P0 [5, 2])) (Str.ofString "Headers.__len__") (fArgs (stA P0 [5, 2])) (.stmts (fBody (stA P0 [5, 2]))) (fScope (stA P0 [5, 2])) 0 [] Value.none Value.none Value.none Value.none none Value.none Value.none 0)) #[])) ::
  ((nat_lit 76), (Obj.mk (Value.type "code") none (Data.fields #[(Value.str (Str.ofString "__len__") 383), (Value.str (Str.ofString "Headers.__len__") 384), (Value.str (Str.ofString "/claim/cut.py") 385), (Value.int 28 0), (Value.int 1 0), (Value.int 0 0), (Value.int 0 0), (Value.int 3 0), (Value.ref 71), (Value.bool Bool.true), (Value.int 276 0), (Value.ref 72), Value.none, (Value.ref 73), (Value.ref 74), (Value.ref 75), (Value.int 387 0), (Value.int 28 0), (Value.str (Str.ofString "/claim/cut.py") 388)]) #[])) ::
  ((nat_lit 77), (Obj.mk (Value.type "function") none (Data.func (fnOf (fName (stA P0 [5, 2])) (Str.ofString "Headers.__len__") (fArgs (stA P0 [5, 2])) (fBody (stA P0 [5, 2])) (fScope (stA P0 [5, 2])) Value.none Value.none Value.none (Value.str (Str.ofString "cpy313.wsgiref.headers") 289) none (Value.ref 76) Value.none)) #[])) ::
  ((nat_lit 78), (Obj.mk (Value.type "tuple") none (Data.seq #[] 0) #[])) ::
  ((nat_lit 79), (Obj.mk Value.none none (Data.fields #[]) #[])) ::
  ((nat_lit 80), (Obj.mk (Value.type "tuple") none (Data.seq #[(Value.str (Str.ofString "self") 393), (Value.str (Str.ofString "name") 394), (Value.str (Str.ofString "val") 395)] 0) #[])) ::
  ((nat_lit 81), (Obj.mk (Value.type "tuple") none (Data.seq #[] 0) #[])) ::
  ((nat_lit 82), (Obj.mk Value.none none (Data.func (FuncData.mk (fName (stA P0 [5, 3])) (Str.ofString "Headers.__setitem__") (fArgs (stA P0 [5, 3])) (.stmts (fBody (stA P0 [5, 3]))) (fScope (stA P0 [5, 3])) 0 [] Value.none Value.none Value.none Value.none none Value.none Value.none 0)) #[])) ::
  ((nat_lit 83), (Obj.mk (Value.type "code") none (Data.fields #[(Value.str (Str.ofString "__setitem__") 390), (Value.str (Str.ofString "Headers.__setitem__") 391), (Value.str (Str.ofString "/claim/cut.py") 392), (Value.int 31 0), (Value.int 3 0), (Value.int 0 0), (Value.int 0 0), (Value.int 3 0), (Value.ref 78), (Value.bool Bool.true), (Value.int 276 0), (Value.ref 79), Value.none, (Value.ref 80), (Value.ref 81), (Value.ref 82), (Value.int 396 0), (Value.int 31 0), (Value.str (Str.ofString "/claim/cut.py") 397)]) #[])) ::
  ((nat_lit 84), (Obj.mk (Value.type "function") none (Data.func (fnOf (fName (stA P0 [5, 3])) (Str.ofString "Headers.__setitem__") (fArgs (stA P0 [5, 3])) (fBody (stA P0 [5, 3])) (fScope (stA P0 [5, 3])) Value.none Value.none Value.none (Value.str (Str.ofString "cpy313.wsgiref.headers") 289) none (Value.ref 83) Value.none)) #[])) ::
  ((nat_lit 85), (Obj.mk (Value.type "tuple") none (Data.seq #[] 0) #[])) ::
  ((nat_lit 86), (Obj.mk Value.none none (Data.fields #[]) #[])) ::
  ((nat_lit 87), (Obj.mk Value.none none (Data.func (FuncData.mk (fName (stA P0 [5, 4])) (Str.ofString "Headers.__delitem__") (fArgs (stA P0 [5, 4])) (.stmts (fBody (stA P0 [5, 4]))) (fScope (stA P0 [5, 4])) 0 [] Value.none Value.none Value.none Value.none none Value.none Value.none 0)) #[])) ::
  ((nat_lit 88), (Obj.mk (Value.type "code") none (Data.fields #[(Value.str (Str.ofString "__delitem__") 399), (Value.str (Str.ofString "Headers.__delitem__") 400), (Value.str (Str.ofString "/claim/cut.py") 401), (Value.int 35 0), (Value.int 2 0), (Value.int 0 0), (Value.int 0 0), (Value.int 3 0), (Value.ref 85), (Value.bool Bool.true), (Value.int 276 0), (Value.ref 86), Value.none, Value.none, Value.none, (Value.ref 87), (Value.int 402 0), (Value.int 35 0), (Value.str (Str.ofString "/claim/cut.py") 403)]) #[])) ::
  ((nat_lit 89), (Obj.mk (Value.type "function") none (Data.func (fnOf (fName (stA P0 [5, 4])) (Str.ofString "Headers.__delitem__") (fArgs (stA P0 [5, 4])) (fBody (stA P0 [5, 4])) (fScope (stA P0 [5, 4])) Value.none Value.none Value.none (Value.str (Str.ofString "cpy313.wsgiref.headers") 289) none (Value.ref 88) Value.none)) #[])) ::
  ((nat_lit 90), (Obj.mk (Value.type "tuple") none (Data.seq #[] 0) #[])) ::
  ((nat_lit 91), (Obj.mk Value.none none (Data.fields #[]) #[])) ::
  ((nat_lit 92), (Obj.mk (Value.type "tuple") none (Data.seq #[(Value.str (Str.ofString "self") 408), (Value.str (Str.ofString "name") 409)] 0) #[])) ::
  ((nat_lit 93), (Obj.mk (Value.type "tuple") none (Data.seq #[] 0) #[])) ::
  ((nat_lit 94), (Obj.mk Value.none none (Data.func (FuncData.mk (fName (stA P0 [5, 5])) (Str.ofString "Headers.__getitem__") (fArgs (stA P0 [5, 5])) (.stmts (fBody (stA P0 [5, 5]))) (fScope (stA P0 [5, 5])) 0 [] Value.none Value.none Value.none Value.none none Value.none Value.none 0)) #[])) ::
  ((nat_lit 95), (Obj.mk (Value.type "code") none (Data.fields #[(Value.str (Str.ofString "__getitem__") 405), (Value.str (Str.ofString "Headers.__getitem__") 406), (Value.str (Str.ofString "/claim/cut.py") 407), (Value.int 39 0), (Value.int 2 0), (Value.int 0 0), (Value.int 0 0), (Value.int 3 0), (Value.ref 90), (Value.bool Bool.true), (Value.int 276 0), (Value.ref 91), Value.none, (Value.ref 92), (Value.ref 93), (Value.ref 94), (Value.int 410 0), (Value.int 39 0), (Value.str (Str.ofString "/claim/cut.py") 411)]) #[])) ::
  ((nat_lit 96), (Obj.mk (Value.type "function") none (Data.func (fnOf (fName (stA P0 [5, 5])) (Str.ofString "Headers.__getitem__") (fArgs (stA P0 [5, 5])) (fBody (stA P0 [5, 5])) (fScope (stA P0 [5, 5])) Value.none Value.none Value.none (Value.str (Str.ofString "cpy313.wsgiref.headers") 289) none (Value.ref 95) Value.none)) #[])) ::
  ((nat_lit 97), (Obj.mk (Value.type "tuple") none (Data.seq #[] 0) #[])) ::
  ((nat_lit 98), (Obj.mk Value.none none (Data.fields #[]) #[])) ::
  ((nat_lit 99), (Obj.mk (Value.type "tuple") none (Data.seq #[(Value.str (Str.ofString "self") 416), (Value.str (Str.ofString "name") 417)] 0) #[])) ::
  ((nat_lit 100), (Obj.mk (Value.type "tuple") none (Data.seq #[] 0) #[])) ::
  ((nat_lit 101), (Obj.mk Value.none none (Data.func (FuncData.mk (fName (stA P0 [5, 6])) (Str.ofString "Headers.__contains__") (fArgs (stA P0 [5, 6])) (.stmts (fBody (stA P0 [5, 6]))) (fScope (stA P0 [5, 6])) 0 [] Value.none Value.none Value.none Value.none none Value.none Value.none 0)) #[])) ::
  ((nat_lit 102), (Obj.mk (Value.type "code") none (Data.fields #[(Value.str (Str.ofString "__contains__") 413), (Value.str (Str.ofString "Headers.__contains__") 414), (Value.str (Str.ofString "/claim/cut.py") 415), (Value.int 42 0), (Value.int 2 0), (Value.int 0 0), (Value.int 0 0), (Value.int 3 0), (Value.ref 97), (Value.bool Bool.true), (Value.int 276 0), (Value.ref 98), Value.none, (Value.ref 99), (Value.ref 100), (Value.ref 101), (Value.int 418 0), (Value.int 42 0), (Value.str (Str.ofString "/claim/cut.py") 419)]) #[])) ::
  ((nat_lit 103), (Obj.mk (Value.type "function") none (Data.func (fnOf (fName (stA P0 [5, 6])) (Str.ofString "Headers.__contains__") (fArgs (stA P0 [5, 6])) (fBody (stA P0 [5, 6])) (fScope (stA P0 [5, 6])) Value.none Value.none Value.none (Value.str (Str.ofString "cpy313.wsgiref.headers") 289) none (Value.ref 102) Value.none)) #[])) ::
  ((nat_lit 104), (Obj.mk (Value.type "tuple") none (Data.seq #[] 0) #[])) ::
  ((nat_lit 105), (Obj.mk Value.none none (Data.fields #[]) #[])) ::
  ((nat_lit 106), (Obj.mk Value.none none (Data.func (FuncData.mk (fName (stA P0 [5, 7])) (Str.ofString "Headers.get_all") (fArgs (stA P0 [5, 7])) (.stmts (fBody (stA P0 [5, 7]))) (fScope (stA P0 [5, 7])) 0 [] Value.none Value.none Value.none Value.none none Value.none Value.none 0)) #[])) ::
  ((nat_lit 107), (Obj.mk (Value.type "code") none (Data.fields #[(Value.str (Str.ofString "get_all") 421), (Value.str (Str.ofString "Headers.get_all") 422), (Value.str (Str.ofString "/claim/cut.py") 423), (Value.int 45 0), (Value.int 2 0), (Value.int 0 0), (Value.int 0 0), (Value.int 3 0), (Value.ref 104), (Value.bool Bool.true), (Value.int 276 0), (Value.ref 105), Value.none, Value.none, Value.none, (Value.ref 106), (Value.int 424 0), (Value.int 45 0), (Value.str (Str.ofString "/claim/cut.py") 425)]) #[])) ::
  ((nat_lit 108), (Obj.mk (Value.type "function") none (Data.func (fnOf (fName (stA P0 [5, 7])) (Str.ofString "Headers.get_all") (fArgs (stA P0 [5, 7])) (fBody (stA P0 [5, 7])) (fScope (stA P0 [5, 7])) Value.none Value.none Value.none (Value.str (Str.ofString "cpy313.wsgiref.headers") 289) none (Value.ref 107) Value.none)) #[])) ::
  ((nat_lit 109), (Obj.mk (Value.type "tuple") none (Data.seq #[Value.none] 0) #[])) ::
  ((nat_lit 110), (Obj.mk (Value.type "tuple") none (Data.seq #[] 0) #[])) ::
  ((nat_lit 111), (Obj.mk Value.none none (Data.fields #[]) #[])) ::
  ((nat_lit 112), (Obj.mk (Value.type "tuple") none (Data.seq #[(Value.str (Str.ofString "self") 430), (Value.str (Str.ofString "name") 431), (Value.str (Str.ofString "default") 432), (Value.str (Str.ofString "k") 433), (Value.str (Str.ofString "v") 434)] 0) #[])) ::
  ((nat_lit 113), (Obj.mk (Value.type "tuple") none (Data.seq #[] 0) #[])) ::
  ((nat_lit 114), (Obj.mk Value.none none (Data.func (FuncData.mk (fName (stA P0 [5, 8])) (Str.ofString "Headers.get") (fArgs (stA P0 [5, 8])) (.stmts (fBody (stA P0 [5, 8]))) (fScope (stA P0 [5, 8])) 0 [] Value.none Value.none Value.none Value.none none Value.none Value.none 0)) #[])) ::
  ((nat_lit 115), (Obj.mk (Value.type "code") none (Data.fields #[(Value.str (Str.ofString "get") 427), (Value.str (Str.ofString "Headers.get") 428), (Value.str (Str.ofString "/claim/cut.py") 429), (Value.int 49 0), (Value.int 3 0), (Value.int 0 0), (Value.int 0 0), (Value.int 3 0), (Value.ref 110), (Value.bool Bool.true), (Value.int 276 0), (Value.ref 111), Value.none, (Value.ref 112), (Value.ref 113), (Value.ref 114), (Value.int 435 0), (Value.int 49 0), (Value.str (Str.ofString "/claim/cut.py") 436)]) #[])) ::
  ((nat_lit 116), (Obj.mk (Value.type "function") none (Data.func (fnOf (fName (stA P0 [5, 8])) (Str.ofString "Headers.get") (fArgs (stA P0 [5, 8])) (fBody (stA P0 [5, 8])) (fScope (stA P0 [5, 8])) (Value.ref 109) Value.none Value.none (Value.str (Str.ofString "cpy313.wsgiref.headers") 289) none (Value.ref 115) Value.none)) #[])) ::
  ((nat_lit 117), (Obj.mk (Value.type "tuple") none (Data.seq #[] 0) #[])) ::
  ((nat_lit 118), (Obj.mk Value.none none (Data.fields #[]) #[])) ::
  ((nat_lit 119), (Obj.mk Value.none none (Data.func (FuncData.mk (fName (stA P0 [5, 9])) (Str.ofString "Headers.keys") (fArgs (stA P0 [5, 9])) (.stmts (fBody (stA P0 [5, 9]))) (fScope (stA P0 [5, 9])) 0 [] Value.none Value.none Value.none Value.none none Value.none Value.none 0)) #[])) ::
  ((nat_lit 120), (Obj.mk (Value.type "code") none (Data.fields #[(Value.str (Str.ofString "keys") 438), (Value.str (Str.ofString "Headers.keys") 439), (Value.str (Str.ofString "/claim/cut.py") 440), (Value.int 56 0), (Value.int 1 0), (Value.int 0 0), (Value.int 0 0), (Value.int 3 0), (Value.ref 117), (Value.bool Bool.true), (Value.int 276 0), (Value.ref 118), Value.none, Value.none, Value.none, (Value.ref 119), (Value.int 441 0), (Value.int 56 0), (Value.str (Str.ofString "/claim/cut.py") 442)]) #[])) ::
  ((nat_lit 121), (Obj.mk (Value.type "function") none (Data.func (fnOf (fName (stA P0 [5, 9])) (Str.ofString "Headers.keys") (fArgs (stA P0 [5, 9])) (fBody (stA P0 [5, 9])) (fScope (stA P0 [5, 9])) Value.none Value.none Value.none (Value.str (Str.ofString "cpy313.wsgiref.headers") 289) none (Value.ref 120) Value.none)) #[])) ::
  ((nat_lit 122), (Obj.mk (Value.type "tuple") none (Data.seq #[] 0) #[])) ::
  ((nat_lit 123), (Obj.mk Value.none none (Data.fields #[]) #[])) ::
  ((nat_lit 124), (Obj.mk Value.none none (Data.func (FuncData.mk (fName (stA P0 [5, 10])) (Str.ofString "Headers.values") (fArgs (stA P0 [5, 10])) (.stmts (fBody (stA P0 [5, 10]))) (fScope (stA P0 [5, 10])) 0 [] Value.none Value.none Value.none Value.none none Value.none Value.none 0)) #[])) ::
  ((nat_lit 125), (Obj.mk (Value.type "code") none (Data.fields #[(Value.str (Str.ofString "values") 444), (Value.str (Str.ofString "Headers.values") 445), (Value.str (Str.ofString "/claim/cut.py") 446), (Value.int 59 0), (Value.int 1 0), (Value.int 0 0), (Value.int 0 0), (Value.int 3 0), (Value.ref 122), (Value.bool Bool.true), (Value.int 276 0), (Value.ref 123), Value.none, Value.none, Value.none, (Value.ref 124), (Value.int 447 0), (Value.int 59 0), (Value.str (Str.ofString "/claim/cut.py") 448)]) #[])) ::
  ((nat_lit 126), (Obj.mk (Value.type "function") none (Data.func (fnOf (fName (stA P0 [5, 10])) (Str.ofString "Headers.values") (fArgs (stA P0 [5, 10])) (fBody (stA P0 [5, 10])) (fScope (stA P0 [5, 10])) Value.none Value.none Value.none (Value.str (Str.ofString "cpy313.wsgiref.headers") 289) none (Value.ref 125) Value.none)) #[])) ::
  ((nat_lit 127), (Obj.mk (Value.type "tuple") none (Data.seq #[] 0) #[])) ::
  ((nat_lit 128), (Obj.mk Value.none none (Data.fields #[]) #[])) ::
  ((nat_lit 129), (Obj.mk (Value.type "tuple") none (Data.seq #[(Value.str (Str.ofString "self") 453)] 0) #[])) ::
  ((nat_lit 130), (Obj.mk (Value.type "tuple") none (Data.seq #[] 0) #[])) ::
  ((nat_lit 131), (Obj.mk Value.none none (Data.func (FuncData.mk (fName (stA P0 [5, 11])) (Str.ofString "Headers.items") (fArgs (stA P0 [5, 11])) (.stmts (fBody (stA P0 [5, 11]))) (fScope (stA P0 [5, 11])) 0 [] Value.none Value.none Value.none Value.none none Value.none Value.none 0)) #[])) ::
  ((nat_lit 132), (Obj.mk (Value.type "code") none (Data.fields #[(Value.str (Str.ofString "items") 450), (Value.str (Str.ofString "Headers.items") 451), (Value.str (Str.ofString "/claim/cut.py") 452), (Value.int 62 0), (Value.int 1 0), (Value.int 0 0), (Value.int 0 0), (Value.int 3 0), (Value.ref 127), (Value.bool Bool.true), (Value.int 276 0), (Value.ref 128), Value.none, (Value.ref 129), (Value.ref 130), (Value.ref 131), (Value.int 454 0), (Value.int 62 0), (Value.str (Str.ofString "/claim/cut.py") 455)]) #[])) ::
  ((nat_lit 133), (Obj.mk (Value.type "function") none (Data.func (fnOf (fName (stA P0 [5, 11])) (Str.ofString "Headers.items") (fArgs (stA P0 [5, 11])) (fBody (stA P0 [5, 11])) (fScope (stA P0 [5, 11])) Value.none Value.none Value.none (Value.str (Str.ofString "cpy313.wsgiref.headers") 289) none (Value.ref 132) Value.none)) #[])) ::
  ((nat_lit 134), (Obj.mk (Value.type "tuple") none (Data.seq #[] 0) #[])) ::
  ((nat_lit 135), (Obj.mk Value.none none (Data.fields #[]) #[])) ::
  ((nat_lit 136), (Obj.mk (Value.type "tuple") none (Data.seq #[(Value.str (Str.ofString "self") 460)] 0) #[])) ::
  ((nat_lit 137), (Obj.mk (Value.type "tuple") none (Data.seq #[] 0) #[])) ::
  ((nat_lit 138), (Obj.mk Value.none none (Data.func (FuncData.mk (fName (stA P0 [5, 12])) (Str.ofString "Headers.__repr__") (fArgs (stA P0 [5, 12])) (.stmts (fBody (stA P0 [5, 12]))) (fScope (stA P0 [5, 12])) 0 [] Value.none Value.none Value.none Value.none none Value.none Value.none 0)) #[])) ::
  ((nat_lit 139), (Obj.mk (Value.type "code") none (Data.fields #[(Value.str (Str.ofString "__repr__") 457), (Value.str (Str.ofString "Headers.__repr__") 458), (Value.str (Str.ofString "/claim/cut.py") 459), (Value.int 65 0), (Value.int 1 0), (Value.int 0 0), (Value.int 0 0), (Value.int 3 0), (Value.ref 134), (Value.bool Bool.true), (Value.int 276 0), (Value.ref 135), Value.none, (Value.ref 136), (Value.ref 137), (Value.ref 138), (Value.int 461 0), (Value.int 65 0), (Value.str (Str.ofString "/claim/cut.py") 462)]) #[])) ::
  ((nat_lit 140), (Obj.mk (Value.type "function") none (Data.func (fnOf (fName (stA P0 [5, 12])) (Str.ofString "Headers.__repr__") (fArgs (stA P0 [5, 12])) (fBody (stA P0 [5, 12])) (fScope (stA P0 [5, 12])) Value.none Value.none Value.none (Value.str (Str.ofString "cpy313.wsgiref.headers") 289) none (Value.ref 139) Value.none)) #[])) ::
  ((nat_lit 141), (Obj.mk (Value.type "tuple") none (Data.seq #[] 0) #[])) ::
  ((nat_lit 142), (Obj.mk Value.none none (Data.fields #[]) #[])) ::
  ((nat_lit 143), (Obj.mk Value.none none (Data.func (FuncData.mk (fName (stA P0 [5, 13])) (Str.ofString "Headers.__str__") (fArgs (stA P0 [5, 13])) (.stmts (fBody (stA P0 [5, 13]))) (fScope (stA P0 [5, 13])) 0 [] Value.none Value.none Value.none Value.none none Value.none Value.none 0)) #[])) ::
  ((nat_lit 144), (Obj.mk (Value.type "code") none (Data.fields #[(Value.str (Str.ofString "__str__") 464), (Value.str (Str.ofString "Headers.__str__") 465), (Value.str (Str.ofString "/claim/cut.py") 466), (Value.int 68 0), (Value.int 1 0), (Value.int 0 0), (Value.int 0 0), (Value.int 3 0), (Value.ref 141), (Value.bool Bool.true), (Value.int 276 0), (Value.ref 142), Value.none, Value.none, Value.none, (Value.ref 143), (Value.int 467 0), (Value.int 68 0), (Value.str (Str.ofString "/claim/cut.py") 468)]) #[])) ::
  ((nat_lit 145), (Obj.mk (Value.type "function") none (Data.func (fnOf (fName (stA P0 [5, 13])) (Str.ofString "Headers.__str__") (fArgs (stA P0 [5, 13])) (fBody (stA P0 [5, 13])) (fScope (stA P0 [5, 13])) Value.none Value.none Value.none (Value.str (Str.ofString "cpy313.wsgiref.headers") 289) none (Value.ref 144) Value.none)) #[])) ::
  ((nat_lit 146), (Obj.mk (Value.type "tuple") none (Data.seq #[] 0) #[])) ::
  ((nat_lit 147), (Obj.mk Value.none none (Data.fields #[]) #[])) ::
  ((nat_lit 148), (Obj.mk (Value.type "tuple") none (Data.seq #[(Value.str (Str.ofString "self") 473)] 0) #[])) ::
  ((nat_lit 149), (Obj.mk (Value.type "tuple") none (Data.seq #[] 0) #[])) ::
  ((nat_lit 150), (Obj.mk Value.none none (Data.func (FuncData.mk (fName (stA P0 [5, 14])) (Str.ofString "Headers.__bytes__") (fArgs (stA P0 [5, 14])) (.stmts (fBody (stA P0 [5, 14]))) (fScope (stA P0 [5, 14])) 0 [] Value.none Value.none Value.none Value.none none Value.none Value.none 0)) #[])) ::
  ((nat_lit 151), (Obj.mk (Value.type "code") none (Data.fields #[(Value.str (Str.ofString "__bytes__") 470), (Value.str (Str.ofString "Headers.__bytes__") 471), (Value.str (Str.ofString "/claim/cut.py") 472), (Value.int 71 0), (Value.int 1 0), (Value.int 0 0), (Value.int 0 0), (Value.int 3 0), (Value.ref 146), (Value.bool Bool.true), (Value.int 276 0), (Value.ref 147), Value.none, (Value.ref 148), (Value.ref 149), (Value.ref 150), (Value.int 474 0), (Value.int 71 0), (Value.str (Str.ofString "/claim/cut.py") 475)]) #[])) ::
  ((nat_lit 152), (Obj.mk (Value.type "function") none (Data.func (fnOf (fName (stA P0 [5, 14])) (Str.ofString "Headers.__bytes__") (fArgs (stA P0 [5, 14])) (fBody (stA P0 [5, 14])) (fScope (stA P0 [5, 14])) Value.none Value.none Value.none (Value.str (Str.ofString "cpy313.wsgiref.headers") 289) none (Value.ref 151) Value.none)) #[])) ::
  ((nat_lit 153), (Obj.mk (Value.type "tuple") none (Data.seq #[] 0) #[])) ::
  ((nat_lit 154), (Obj.mk Value.none none (Data.fields #[]) #[])) ::
  ((nat_lit 155), (Obj.mk (Value.type "tuple") none (Data.seq #[(Value.str (Str.ofString "self") 480), (Value.str (Str.ofString "name") 481), (Value.str (Str.ofString "value") 482), (Value.str (Str.ofString "result") 483)] 0) #[])) ::
  ((nat_lit 156), (Obj.mk (Value.type "tuple") none (Data.seq #[] 0) #[])) ::
  ((nat_lit 157), (Obj.mk Value.none none (Data.func (FuncData.mk (fName (stA P0 [5, 15])) (Str.ofString "Headers.setdefault") (fArgs (stA P0 [5, 15])) (.stmts (fBody (stA P0 [5, 15]))) (fScope (stA P0 [5, 15])) 0 [] Value.none Value.none Value.none Value.none none Value.none Value.none 0)) #[])) ::
  ((nat_lit 158), (Obj.mk (Value.type "code") none (Data.fields #[(Value.str (Str.ofString "setdefault") 477), (Value.str (Str.ofString "Headers.setdefault") 478), (Value.str (Str.ofString "/claim/cut.py") 479), (Value.int 74 0), (Value.int 3 0), (Value.int 0 0), (Value.int 0 0), (Value.int 3 0), (Value.ref 153), (Value.bool Bool.true), (Value.int 276 0), (Value.ref 154), Value.none, (Value.ref 155), (Value.ref 156), (Value.ref 157), (Value.int 484 0), (Value.int 74 0), (Value.str (Str.ofString "/claim/cut.py") 485)]) #[])) ::
  ((nat_lit 159), (Obj.mk (Value.type "function") none (Data.func (fnOf (fName (stA P0 [5, 15])) (Str.ofString "Headers.setdefault") (fArgs (stA P0 [5, 15])) (fBody (stA P0 [5, 15])) (fScope (stA P0 [5, 15])) Value.none Value.none Value.none (Value.str (Str.ofString "cpy313.wsgiref.headers") 289) none (Value.ref 158) Value.none)) #[])) ::
  ((nat_lit 160), (Obj.mk (Value.type "tuple") none (Data.seq #[] 0) #[])) ::
  ((nat_lit 161), (Obj.mk Value.none none (Data.fields #[]) #[])) ::
  ((nat_lit 162), (Obj.mk (Value.type "tuple") none (Data.seq #[(Value.str (Str.ofString "self") 490), (Value.str (Str.ofString "_name") 491), (Value.str (Str.ofString "_value") 492), (Value.str (Str.ofString "_params") 493)] 0) #[])) ::
  ((nat_lit 163), (Obj.mk (Value.type "tuple") none (Data.seq #[] 0) #[])) ::
  ((nat_lit 164), (Obj.mk Value.none none (Data.func (FuncData.mk (fName (stA P0 [5, 16])) (Str.ofString "Headers.add_header") (fArgs (stA P0 [5, 16])) (.stmts (fBody (stA P0 [5, 16]))) (fScope (stA P0 [5, 16])) 0 [] Value.none Value.none Value.none Value.none none Value.none Value.none 0)) #[])) ::
  ((nat_lit 165), (Obj.mk (Value.type "code") none (Data.fields #[(Value.str (Str.ofString "add_header") 487), (Value.str (Str.ofString "Headers.add_header") 488), (Value.str (Str.ofString "/claim/cut.py") 489), (Value.int 82 0), (Value.int 3 0), (Value.int 0 0), (Value.int 0 0), (Value.int 11 0), (Value.ref 160), (Value.bool Bool.true), (Value.int 276 0), (Value.ref 161), Value.none, (Value.ref 162), (Value.ref 163), (Value.ref 164), (Value.int 494 0), (Value.int 82 0), (Value.str (Str.ofString "/claim/cut.py") 495)]) #[])) ::
  ((nat_lit 166), (Obj.mk (Value.type "function") none (Data.func (fnOf (fName (stA P0 [5, 16])) (Str.ofString "Headers.add_header") (fArgs (stA P0 [5, 16])) (fBody (stA P0 [5, 16])) (fScope (stA P0 [5, 16])) Value.none Value.none Value.none (Value.str (Str.ofString "cpy313.wsgiref.headers") 289) none (Value.ref 165) Value.none)) #[])) ::
  ((nat_lit 167), (Obj.mk (Value.type "tuple") none (Data.seq #[(Value.str (Str.ofString "_headers") 497)] 0) #[])) ::
  ((nat_lit 168), (Obj.mk (Value.type "dict") none (Data.dict #[(DictEntry.mk (PyData.keyHash P (Str.ofString "__module__")) (Value.str (Str.ofString "__module__") 358) (Value.str (Str.ofString "cpy313.wsgiref.headers") 289)), (DictEntry.mk (PyData.keyHash P (Str.ofString "__firstlineno__")) (Value.str (Str.ofString "__firstlineno__") 362) (Value.int 8 361)), (DictEntry.mk (PyData.keyHash P (Str.ofString "__init__")) (Value.str (Str.ofString "__init__") 372) (Value.ref 63)), (DictEntry.mk (PyData.keyHash P (Str.ofString "_convert_string_type")) (Value.str (Str.ofString "_convert_string_type") 382) (Value.ref 70)), (DictEntry.mk (PyData.keyHash P (Str.ofString "__len__")) (Value.str (Str.ofString "__len__") 389) (Value.ref 77)), (DictEntry.mk (PyData.keyHash P (Str.ofString "__setitem__")) (Value.str (Str.ofString "__setitem__") 398) (Value.ref 84)), (DictEntry.mk (PyData.keyHash P (Str.ofString "__delitem__")) (Value.str (Str.ofString "__delitem__") 404) (Value.ref 89)), (DictEntry.mk (PyData.keyHash P (Str.ofString "__getitem__")) (Value.str (Str.ofString "__getitem__") 412) (Value.ref 96)), (DictEntry.mk (PyData.keyHash P (Str.ofString "__contains__")) (Value.str (Str.ofString "__contains__") 420) (Value.ref 103)), (DictEntry.mk (PyData.keyHash P (Str.ofString "get_all")) (Value.str (Str.ofString "get_all") 426) (Value.ref 108)), (DictEntry.mk (PyData.keyHash P (Str.ofString "get")) (Value.str (Str.ofString "get") 437) (Value.ref 116)), (DictEntry.mk (PyData.keyHash P (Str.ofString "keys")) (Value.str (Str.ofString "keys") 443) (Value.ref 121)), (DictEntry.mk (PyData.keyHash P (Str.ofString "values")) (Value.str (Str.ofString "values") 449) (Value.ref 126)), (DictEntry.mk (PyData.keyHash P (Str.ofString "items")) (Value.str (Str.ofString "items") 456) (Value.ref 133)), (DictEntry.mk (PyData.keyHash P (Str.ofString "__repr__")) (Value.str (Str.ofString "__repr__") 463) (Value.ref 140)), (DictEntry.mk (PyData.keyHash P (Str.ofString "__str__")) (Value.str (Str.ofString "__str__") 469) (Value.ref 145)), (DictEntry.mk (PyData.keyHash P (Str.ofString "__bytes__")) (Value.str (Str.ofString "__bytes__") 476) (Value.ref 152)), (DictEntry.mk (PyData.keyHash P (Str.ofString "setdefault")) (Value.str (Str.ofString "setdefault") 486) (Value.ref 159)), (DictEntry.mk (PyData.keyHash P (Str.ofString "add_header")) (Value.str (Str.ofString "add_header") 496) (Value.ref 166)), (DictEntry.mk (PyData.keyHash P (Str.ofString "__static_attributes__")) (Value.str (Str.ofString "__static_attributes__") 498) (Value.ref 167)), (DictEntry.mk (PyData.keyHash P (Str.ofString "__dict__")) (Value.str (Str.ofString "__dict__") 500) (Value.ref 170)), (DictEntry.mk (PyData.keyHash P (Str.ofString "__weakref__")) (Value.str (Str.ofString "__weakref__") 502) (Value.ref 171)), (DictEntry.mk (PyData.keyHash P (Str.ofString "__doc__")) (Value.str (Str.ofString "__doc__") 503) Value.none)] 4) #[])) ::
  ((nat_lit 169), (Obj.mk (Value.type "type") none (Data.cls (ClassData.mk (Str.ofString "Headers") [(Value.type "object")] [(Value.ref 169), (Value.type "object")] 168 (Str.ofString "Headers") Bool.true [] [] Bool.false none Bool.false)) #[none, none, (some (Value.str (Str.ofString "Headers") 351)), (some (Value.str (Str.ofString "Headers") 359)), (some (Value.builtin "object.__new__")), (some (Value.bool Bool.true))])) ::
  ((nat_lit 170), (Obj.mk (Value.type "getset_descriptor") none (Data.fields #[(Value.str (Str.ofString "__dict__") 499), (Value.ref 169), (Value.builtin "function.__dict__"), (Value.builtin "function.__dict__#set")]) #[])) ::
  ((nat_lit 171), (Obj.mk (Value.type "getset_descriptor") none (Data.fields #[(Value.str (Str.ofString "__weakref__") 501), (Value.ref 169), (Value.builtin "ExceptionGroup.__weakref__"), Value.none]) #[])) ::
  ((nat_lit 176), (Obj.mk (Value.type "list") none (Data.seq #[(Value.str (Str.ofString "=00") 516), (Value.str (Str.ofString "=01") 520), (Value.str (Str.ofString "=02") 524), (Value.str (Str.ofString "=03") 528), (Value.str (Str.ofString "=04") 532), (Value.str (Str.ofString "=05") 536), (Value.str (Str.ofString "=06") 540), (Value.str (Str.ofString "=07") 544), (Value.str (Str.ofString "=08") 548), (Value.str (Str.ofString "=09") 552), (Value.str (Str.ofString "=0A") 556), (Value.str (Str.ofString "=0B") 560), (Value.str (Str.ofString "=0C") 564), (Value.str (Str.ofString "=0D") 568), (Value.str (Str.ofString "=0E") 572), (Value.str (Str.ofString "=0F") 576), (Value.str (Str.ofString "=10") 580), (Value.str (Str.ofString "=11") 584), (Value.str (Str.ofString "=12") 588), (Value.str (Str.ofString "=13") 592), (Value.str (Str.ofString "=14") 596), (Value.str (Str.ofString "=15") 600), (Value.str (Str.ofString "=16") 604), (Value.str (Str.ofString "=17") 608), (Value.str (Str.ofString "=18") 612), (Value.str (Str.ofString "=19") 616), (Value.str (Str.ofString "=1A") 620), (Value.str (Str.ofString "=1B") 624), (Value.str (Str.ofString "=1C") 628), (Value.str (Str.ofString "=1D") 632), (Value.str (Str.ofString "=1E") 636), (Value.str (Str.ofString "=1F") 640), (Value.str (Str.ofString "=20") 644), (Value.str (Str.ofString "=21") 648), (Value.str (Str.ofString "=22") 652), (Value.str (Str.ofString "=23") 656), (Value.str (Str.ofString "=24") 660), (Value.str (Str.ofString "=25") 664), (Value.str (Str.ofString "=26") 668), (Value.str (Str.ofString "=27") 672), (Value.str (Str.ofString "=28") 676), (Value.str (Str.ofString "=29") 680), (Value.str (Str.ofString "=2A") 684), (Value.str (Str.ofString "=2B") 688), (Value.str (Str.ofString "=2C") 692), (Value.str (Str.ofString "=2D") 696), (Value.str (Str.ofString "=2E") 700), (Value.str (Str.ofString "=2F") 704), (Value.str (Str.ofString "=30") 708), (Value.str (Str.ofString "=31") 712), (Value.str (Str.ofString "=32") 716), (Value.str (Str.ofString "=33") 720), (Value.str (Str.ofString "=34") 724), (Value.str (Str.ofString "=35") 728), (Value.str (Str.ofString "=36") 732), (Value.str (Str.ofString "=37") 736), (Value.str (Str.ofString "=38") 740), (Value.str (Str.ofString "=39") 744), (Value.str (Str.ofString "=3A") 748), (Value.str (Str.ofString "=3B") 752), (Value.str (Str.ofString "=3C") 756), (Value.str (Str.ofString "=3D") 760), (Value.str (Str.ofString "=3E") 764), (Value.str (Str.ofString "=3F") 768), (Value.str (Str.ofString "=40") 772), (Value.str (Str.ofString "=41") 776), (Value.str (Str.ofString "=42") 780), (Value.str (Str.ofString "=43") 784), (Value.str (Str.ofString "=44") 788), (Value.str (Str.ofString "=45") 792), (Value.str (Str.ofString "=46") 796), (Value.str (Str.ofString "=47") 800), (Value.str (Str.ofString "=48") 804), (Value.str (Str.ofString "=49") 808), (Value.str (Str.ofString "=4A") 812), (Value.str (Str.ofString "=4B") 816), (Value.str (Str.ofString "=4C") 820), (Value.str (Str.ofString "=4D") 824), (Value.str (Str.ofString "=4E") 828), (Value.str (Str.ofString "=4F") 832), (Value.str (Str.ofString "=50") 836), (Value.str (Str.ofString "=51") 840), (Value.str (Str.ofString "=52") 844), (Value.str (Str.ofString "=53") 848), (Value.str (Str.ofString "=54") 852), (Value.str (Str.ofString "=55") 856), (Value.str (Str.ofString "=56") 860), (Value.str (Str.ofString "=57") 864), (Value.str (Str.ofString "=58") 868), (Value.str (Str.ofString "=59") 872), (Value.str (Str.ofString "=5A") 876), (Value.str (Str.ofString "=5B") 880), (Value.str (Str.ofString "=5C") 884), (Value.str (Str.ofString "=5D") 888), (Value.str (Str.ofString "=5E") 892), (Value.str (Str.ofString "=5F") 896), (Value.str (Str.ofString "=60") 900), (Value.str (Str.ofString "=61") 904), (Value.str (Str.ofString "=62") 908), (Value.str (Str.ofString "=63") 912), (Value.str (Str.ofString "=64") 916), (Value.str (Str.ofString "=65") 920), (Value.str (Str.ofString "=66") 924), (Value.str (Str.ofString "=67") 928), (Value.str (Str.ofString "=68") 932), (Value.str (Str.ofString "=69") 936), (Value.str (Str.ofString "=6A") 940), (Value.str (Str.ofString "=6B") 944), (Value.str (Str.ofString "=6C") 948), (Value.str (Str.ofString "=6D") 952), (Value.str (Str.ofString "=6E") 956), (Value.str (Str.ofString "=6F") 960), (Value.str (Str.ofString "=70") 964), (Value.str (Str.ofString "=71") 968), (Value.str (Str.ofString "=72") 972), (Value.str (Str.ofString "=73") 976), (Value.str (Str.ofString "=74") 980), (Value.str (Str.ofString "=75") 984), (Value.str (Str.ofString "=76") 988), (Value.str (Str.ofString "=77") 992), (Value.str (Str.ofString "=78") 996), (Value.str (Str.ofString "=79") 1000), (Value.str (Str.ofString "=7A") 1004), (Value.str (Str.ofString "=7B") 1008), (Value.str (Str.ofString "=7C") 1012), (Value.str (Str.ofString "=7D") 1016), (Value.str (Str.ofString "=7E") 1020), (Value.str (Str.ofString "=7F") 1024), (Value.str (Str.ofString "=80") 1028), (Value.str (Str.ofString "=81") 1032), (Value.str (Str.ofString "=82") 1036), (Value.str (Str.ofString "=83") 1040), (Value.str (Str.ofString "=84") 1044), (Value.str (Str.ofString "=85") 1048), (Value.str (Str.ofString "=86") 1052), (Value.str (Str.ofString "=87") 1056), (Value.str (Str.ofString "=88") 1060), (Value.str (Str.ofString "=89") 1064), (Value.str (Str.ofString "=8A") 1068), (Value.str (Str.ofString "=8B") 1072), (Value.str (Str.ofString "=8C") 1076), (Value.str (Str.ofString "=8D") 1080), (Value.str (Str.ofString "=8E") 1084), (Value.str (Str.ofString "=8F") 1088), (Value.str (Str.ofString "=90") 1092), (Value.str (Str.ofString "=91") 1096), (Value.str (Str.ofString "=92") 1100), (Value.str (Str.ofString "=93") 1104), (Value.str (Str.ofString "=94") 1108), (Value.str (Str.ofString "=95") 1112), (Value.str (Str.ofString "=96") 1116), (Value.str (Str.ofString "=97") 1120), (Value.str (Str.ofString "=98") 1124), (Value.str (Str.ofString "=99") 1128), (Value.str (Str.ofString "=9A") 1132), (Value.str (Str.ofString "=9B") 1136), (Value.str (Str.ofString "=9C") 1140), (Value.str (Str.ofString "=9D") 1144), (Value.str (Str.ofString "=9E") 1148), (Value.str (Str.ofString "=9F") 1152), (Value.str (Str.ofString "=A0") 1156), (Value.str (Str.ofString "=A1") 1160), (Value.str (Str.ofString "=A2") 1164), (Value.str (Str.ofString "=A3") 1168), (Value.str (Str.ofString "=A4") 1172), (Value.str (Str.ofString "=A5") 1176), (Value.str (Str.ofString "=A6") 1180), (Value.str (Str.ofString "=A7") 1184), (Value.str (Str.ofString "=A8") 1188), (Value.str (Str.ofString "=A9") 1192), (Value.str (Str.ofString "=AA") 1196), (Value.str (Str.ofString "=AB") 1200), (Value.str (Str.ofString "=AC") 1204), (Value.str (Str.ofString "=AD") 1208), (Value.str (Str.ofString "=AE") 1212), (Value.str (Str.ofString "=AF") 1216), (Value.str (Str.ofString "=B0") 1220), (Value.str (Str.ofString "=B1") 1224), (Value.str (Str.ofString "=B2") 1228), (Value.str (Str.ofString "=B3") 1232), (Value.str (Str.ofString "=B4") 1236), (Value.str (Str.ofString "=B5") 1240), (Value.str (Str.ofString "=B6") 1244), (Value.str (Str.ofString "=B7") 1248), (Value.str (Str.ofString "=B8") 1252), (Value.str (Str.ofString "=B9") 1256), (Value.str (Str.ofString "=BA") 1260), (Value.str (Str.ofString "=BB") 1264), (Value.str (Str.ofString "=BC") 1268), (Value.str (Str.ofString "=BD") 1272), (Value.str (Str.ofString "=BE") 1276), (Value.str (Str.ofString "=BF") 1280), (Value.str (Str.ofString "=C0") 1284), (Value.str (Str.ofString "=C1") 1288), (Value.str (Str.ofString "=C2") 1292), (Value.str (Str.ofString "=C3") 1296), (Value.str (Str.ofString "=C4") 1300), (Value.str (Str.ofString "=C5") 1304), (Value.str (Str.ofString "=C6") 1308), (Value.str (Str.ofString "=C7") 1312), (Value.str (Str.ofString "=C8") 1316), (Value.str (Str.ofString "=C9") 1320), (Value.str (Str.ofString "=CA") 1324), (Value.str (Str.ofString "=CB") 1328), (Value.str (Str.ofString "=CC") 1332), (Value.str (Str.ofString "=CD") 1336), (Value.str (Str.ofString "=CE") 1340), (Value.str (Str.ofString "=CF") 1344), (Value.str (Str.ofString "=D0") 1348), (Value.str (Str.ofString "=D1") 1352), (Value.str (Str.ofString "=D2") 1356), (Value.str (Str.ofString "=D3") 1360), (Value.str (Str.ofString "=D4") 1364), (Value.str (Str.ofString "=D5") 1368), (Value.str (Str.ofString "=D6") 1372), (Value.str (Str.ofString "=D7") 1376), (Value.str (Str.ofString "=D8") 1380), (Value.str (Str.ofString "=D9") 1384), (Value.str (Str.ofString "=DA") 1388), (Value.str (Str.ofString "=DB") 1392), (Value.str (Str.ofString "=DC") 1396), (Value.str (Str.ofString "=DD") 1400), (Value.str (Str.ofString "=DE") 1404), (Value.str (Str.ofString "=DF") 1408), (Value.str (Str.ofString "=E0") 1412), (Value.str (Str.ofString "=E1") 1416), (Value.str (Str.ofString "=E2") 1420), (Value.str (Str.ofString "=E3") 1424), (Value.str (Str.ofString "=E4") 1428), (Value.str (Str.ofString "=E5") 1432), (Value.str (Str.ofString "=E6") 1436), (Value.str (Str.ofString "=E7") 1440), (Value.str (Str.ofString "=E8") 1444), (Value.str (Str.ofString "=E9") 1448), (Value.str (Str.ofString "=EA") 1452), (Value.str (Str.ofString "=EB") 1456), (Value.str (Str.ofString "=EC") 1460), (Value.str (Str.ofString "=ED") 1464), (Value.str (Str.ofString "=EE") 1468), (Value.str (Str.ofString "=EF") 1472), (Value.str (Str.ofString "=F0") 1476), (Value.str (Str.ofString "=F1") 1480), (Value.str (Str.ofString "=F2") 1484), (Value.str (Str.ofString "=F3") 1488), (Value.str (Str.ofString "=F4") 1492), (Value.str (Str.ofString "=F5") 1496), (Value.str (Str.ofString "=F6") 1500), (Value.str (Str.ofString "=F7") 1504), (Value.str (Str.ofString "=F8") 1508), (Value.str (Str.ofString "=F9") 1512), (Value.str (Str.ofString "=FA") 1516), (Value.str (Str.ofString "=FB") 1520), (Value.str (Str.ofString "=FC") 1524), (Value.str (Str.ofString "=FD") 1528), (Value.str (Str.ofString "=FE") 1532), (Value.str (Str.ofString "=FF") 1536)] 256) #[])) ::
  ((nat_lit 190), (Obj.mk (Value.type "tuple") none (Data.seq #[] 0) #[])) ::
  ((nat_lit 191), (Obj.mk Value.none none (Data.fields #[]) #[])) ::
  ((nat_lit 192), (Obj.mk (Value.type "tuple") none (Data.seq #[(Value.str (Str.ofString "s") 2055)] 0) #[])) ::
  ((nat_lit 193), (Obj.mk (Value.type "tuple") none (Data.seq #[] 0) #[])) ::
  ((nat_lit 194), (Obj.mk Value.none none (Data.func (FuncData.mk (fName (stA P0 [20])) (Str.ofString "unquote") (fArgs (stA P0 [20])) (.stmts (fBody (stA P0 [20]))) (fScope (stA P0 [20])) 0 [] Value.none Value.none Value.none Value.none none Value.none Value.none 0)) #[])) ::
  ((nat_lit 195), (Obj.mk (Value.type "code") none (Data.fields #[(Value.str (Str.ofString "unquote") 2052), (Value.str (Str.ofString "unquote") 2053), (Value.str (Str.ofString "/claim/cut.py") 2054), (Value.int 100 0), (Value.int 1 0), (Value.int 0 0), (Value.int 0 0), (Value.int 3 0), (Value.ref 190), (Value.bool Bool.true), (Value.int 276 0), (Value.ref 191), Value.none, (Value.ref 192), (Value.ref 193), (Value.ref 194), (Value.int 2056 0), (Value.int 100 0), (Value.str (Str.ofString "/claim/cut.py") 2057)]) #[])) ::
  ((nat_lit 196), (Obj.mk (Value.type "function") none (Data.func (fnOf (fName (stA P0 [20])) (Str.ofString "unquote") (fArgs (stA P0 [20])) (fBody (stA P0 [20])) (fScope (stA P0 [20])) Value.none Value.none Value.none (Value.str (Str.ofString "cpy313.email.quoprimime") 1553) none (Value.ref 195) Value.none)) #[])) ::
  ((nat_lit 197), (Obj.mk (Value.type "tuple") none (Data.seq #[] 0) #[])) ::
  ((nat_lit 198), (Obj.mk Value.none none (Data.fields #[]) #[])) ::
  ((nat_lit 199), (Obj.mk (Value.type "tuple") none (Data.seq #[(Value.str (Str.ofString "c") 2062)] 0) #[])) ::
  ((nat_lit 200), (Obj.mk (Value.type "tuple") none (Data.seq #[] 0) #[])) ::
  ((nat_lit 201), (Obj.mk Value.none none (Data.func (FuncData.mk (fName (stA P0 [21])) (Str.ofString "quote") (fArgs (stA P0 [21])) (.stmts (fBody (stA P0 [21]))) (fScope (stA P0 [21])) 0 [] Value.none Value.none Value.none Value.none none Value.none Value.none 0)) #[])) ::
  ((nat_lit 202), (Obj.mk (Value.type "code") none (Data.fields #[(Value.str (Str.ofString "quote") 2059), (Value.str (Str.ofString "quote") 2060), (Value.str (Str.ofString "/claim/cut.py") 2061), (Value.int 102 0), (Value.int 1 0), (Value.int 0 0), (Value.int 0 0), (Value.int 3 0), (Value.ref 197), (Value.bool Bool.true), (Value.int 276 0), (Value.ref 198), Value.none, (Value.ref 199), (Value.ref 200), (Value.ref 201), (Value.int 2063 0), (Value.int 102 0), (Value.str (Str.ofString "/claim/cut.py") 2064)]) #[])) ::
  ((nat_lit 203), (Obj.mk (Value.type "function") none (Data.func (fnOf (fName (stA P0 [21])) (Str.ofString "quote") (fArgs (stA P0 [21])) (fBody (stA P0 [21])) (fScope (stA P0 [21])) Value.none Value.none Value.none (Value.str (Str.ofString "cpy313.email.quoprimime") 1553) none (Value.ref 202) Value.none)) #[])) ::
  ((nat_lit 205), (Obj.mk (Value.type "list") none (Data.seq #[(Value.str (Str.ofString "=00") 516), (Value.str (Str.ofString "=01") 520), (Value.str (Str.ofString "=02") 524), (Value.str (Str.ofString "=03") 528), (Value.str (Str.ofString "=04") 532), (Value.str (Str.ofString "=05") 536), (Value.str (Str.ofString "=06") 540), (Value.str (Str.ofString "=07") 544), (Value.str (Str.ofString "=08") 548), (Value.str (Str.ofString "\t") 2051), (Value.str (Str.ofString "\n") 2073), (Value.str (Str.ofString "=0B") 560), (Value.str (Str.ofString "=0C") 564), (Value.str (Str.ofString "\x0d") 2070), (Value.str (Str.ofString "=0E") 572), (Value.str (Str.ofString "=0F") 576), (Value.str (Str.ofString "=10") 580), (Value.str (Str.ofString "=11") 584), (Value.str (Str.ofString "=12") 588), (Value.str (Str.ofString "=13") 592), (Value.str (Str.ofString "=14") 596), (Value.str (Str.ofString "=15") 600), (Value.str (Str.ofString "=16") 604), (Value.str (Str.ofString "=17") 608), (Value.str (Str.ofString "=18") 612), (Value.str (Str.ofString "=19") 616), (Value.str (Str.ofString "=1A") 620), (Value.str (Str.ofString "=1B") 624), (Value.str (Str.ofString "=1C") 628), (Value.str (Str.ofString "=1D") 632), (Value.str (Str.ofString "=1E") 636), (Value.str (Str.ofString "=1F") 640), (Value.str (Str.ofString " ") 1769), (Value.str (Str.ofString "!") 1772), (Value.str (Str.ofString "\"") 1775), (Value.str (Str.ofString "#") 1778), (Value.str (Str.ofString "$") 1781), (Value.str (Str.ofString "%") 1784), (Value.str (Str.ofString "&") 1787), (Value.str (Str.ofString "'") 1790), (Value.str (Str.ofString "(") 1793), (Value.str (Str.ofString ")") 1796), (Value.str (Str.ofString "*") 1799), (Value.str (Str.ofString "+") 1802), (Value.str (Str.ofString ",") 1805), (Value.str (Str.ofString "-") 1808), (Value.str (Str.ofString ".") 1811), (Value.str (Str.ofString "/") 1814), (Value.str (Str.ofString "0") 1817), (Value.str (Str.ofString "1") 1820), (Value.str (Str.ofString "2") 1823), (Value.str (Str.ofString "3") 1826), (Value.str (Str.ofString "4") 1829), (Value.str (Str.ofString "5") 1832), (Value.str (Str.ofString "6") 1835), (Value.str (Str.ofString "7") 1838), (Value.str (Str.ofString "8") 1841), (Value.str (Str.ofString "9") 1844), (Value.str (Str.ofString ":") 1847), (Value.str (Str.ofString ";") 1850), (Value.str (Str.ofString "<") 1853), (Value.str (Str.ofString "=3D") 760), (Value.str (Str.ofString ">") 1856), (Value.str (Str.ofString "?") 1859), (Value.str (Str.ofString "@") 1862), (Value.str (Str.ofString "A") 1865), (Value.str (Str.ofString "B") 1868), (Value.str (Str.ofString "C") 1871), (Value.str (Str.ofString "D") 1874), (Value.str (Str.ofString "E") 1877), (Value.str (Str.ofString "F") 1880), (Value.str (Str.ofString "G") 1883), (Value.str (Str.ofString "H") 1886), (Value.str (Str.ofString "I") 1889), (Value.str (Str.ofString "J") 1892), (Value.str (Str.ofString "K") 1895), (Value.str (Str.ofString "L") 1898), (Value.str (Str.ofString "M") 1901), (Value.str (Str.ofString "N") 1904), (Value.str (Str.ofString "O") 1907), (Value.str (Str.ofString "P") 1910), (Value.str (Str.ofString "Q") 1913), (Value.str (Str.ofString "R") 1916), (Value.str (Str.ofString "S") 1919), (Value.str (Str.ofString "T") 1922), (Value.str (Str.ofString "U") 1925), (Value.str (Str.ofString "V") 1928), (Value.str (Str.ofString "W") 1931), (Value.str (Str.ofString "X") 1934), (Value.str (Str.ofString "Y") 1937), (Value.str (Str.ofString "Z") 1940), (Value.str (Str.ofString "[") 1943), (Value.str (Str.ofString "\\") 1946), (Value.str (Str.ofString "]") 1949), (Value.str (Str.ofString "^") 1952), (Value.str (Str.ofString "_") 1955), (Value.str (Str.ofString "`") 1958), (Value.str (Str.ofString "a") 1961), (Value.str (Str.ofString "b") 1964), (Value.str (Str.ofString "c") 1967), (Value.str (Str.ofString "d") 1970), (Value.str (Str.ofString "e") 1973), (Value.str (Str.ofString "f") 1976), (Value.str (Str.ofString "g") 1979), (Value.str (Str.ofString "h") 1982), (Value.str (Str.ofString "i") 1985), (Value.str (Str.ofString "j") 1988), (Value.str (Str.ofString "k") 1991), (Value.str (Str.ofString "l") 1994), (Value.str (Str.ofString "m") 1997), (Value.str (Str.ofString "n") 2000), (Value.str (Str.ofString "o") 2003), (Value.str (Str.ofString "p") 2006), (Value.str (Str.ofString "q") 2009), (Value.str (Str.ofString "r") 2012), (Value.str (Str.ofString "s") 2015), (Value.str (Str.ofString "t") 2018), (Value.str (Str.ofString "u") 2021), (Value.str (Str.ofString "v") 2024), (Value.str (Str.ofString "w") 2027), (Value.str (Str.ofString "x") 2030), (Value.str (Str.ofString "y") 2033), (Value.str (Str.ofString "z") 2036), (Value.str (Str.ofString "{") 2039), (Value.str (Str.ofString "|") 2042), (Value.str (Str.ofString "}") 2045), (Value.str (Str.ofString "~") 2048), (Value.str (Str.ofString "=7F") 1024), (Value.str (Str.ofString "=80") 1028), (Value.str (Str.ofString "=81") 1032), (Value.str (Str.ofString "=82") 1036), (Value.str (Str.ofString "=83") 1040), (Value.str (Str.ofString "=84") 1044), (Value.str (Str.ofString "=85") 1048), (Value.str (Str.ofString "=86") 1052), (Value.str (Str.ofString "=87") 1056), (Value.str (Str.ofString "=88") 1060), (Value.str (Str.ofString "=89") 1064), (Value.str (Str.ofString "=8A") 1068), (Value.str (Str.ofString "=8B") 1072), (Value.str (Str.ofString "=8C") 1076), (Value.str (Str.ofString "=8D") 1080), (Value.str (Str.ofString "=8E") 1084), (Value.str (Str.ofString "=8F") 1088), (Value.str (Str.ofString "=90") 1092), (Value.str (Str.ofString "=91") 1096), (Value.str (Str.ofString "=92") 1100), (Value.str (Str.ofString "=93") 1104), (Value.str (Str.ofString "=94") 1108), (Value.str (Str.ofString "=95") 1112), (Value.str (Str.ofString "=96") 1116), (Value.str (Str.ofString "=97") 1120), (Value.str (Str.ofString "=98") 1124), (Value.str (Str.ofString "=99") 1128), (Value.str (Str.ofString "=9A") 1132), (Value.str (Str.ofString "=9B") 1136), (Value.str (Str.ofString "=9C") 1140), (Value.str (Str.ofString "=9D") 1144), (Value.str (Str.ofString "=9E") 1148), (Value.str (Str.ofString "=9F") 1152), (Value.str (Str.ofString "=A0") 1156), (Value.str (Str.ofString "=A1") 1160), (Value.str (Str.ofString "=A2") 1164), (Value.str (Str.ofString "=A3") 1168), (Value.str (Str.ofString "=A4") 1172), (Value.str (Str.ofString "=A5") 1176), (Value.str (Str.ofString "=A6") 1180), (Value.str (Str.ofString "=A7") 1184), (Value.str (Str.ofString "=A8") 1188), (Value.str (Str.ofString "=A9") 1192), (Value.str (Str.ofString "=AA") 1196), (Value.str (Str.ofString "=AB") 1200), (Value.str (Str.ofString "=AC") 1204), (Value.str (Str.ofString "=AD") 1208), (Value.str (Str.ofString "=AE") 1212), (Value.str (Str.ofString "=AF") 1216), (Value.str (Str.ofString "=B0") 1220), (Value.str (Str.ofString "=B1") 1224), (Value.str (Str.ofString "=B2") 1228), (Value.str (Str.ofString "=B3") 1232), (Value.str (Str.ofString "=B4") 1236), (Value.str (Str.ofString "=B5") 1240), (Value.str (Str.ofString "=B6") 1244), (Value.str (Str.ofString "=B7") 1248), (Value.str (Str.ofString "=B8") 1252), (Value.str (Str.ofString "=B9") 1256), (Value.str (Str.ofString "=BA") 1260), (Value.str (Str.ofString "=BB") 1264), (Value.str (Str.ofString "=BC") 1268), (Value.str (Str.ofString "=BD") 1272), (Value.str (Str.ofString "=BE") 1276), (Value.str (Str.ofString "=BF") 1280), (Value.str (Str.ofString "=C0") 1284), (Value.str (Str.ofString "=C1") 1288), (Value.str (Str.ofString "=C2") 1292), (Value.str (Str.ofString "=C3") 1296), (Value.str (Str.ofString "=C4") 1300), (Value.str (Str.ofString "=C5") 1304), (Value.str (Str.ofString "=C6") 1308), (Value.str (Str.ofString "=C7") 1312), (Value.str (Str.ofString "=C8") 1316), (Value.str (Str.ofString "=C9") 1320), (Value.str (Str.ofString "=CA") 1324), (Value.str (Str.ofString "=CB") 1328), (Value.str (Str.ofString "=CC") 1332), (Value.str (Str.ofString "=CD") 1336), (Value.str (Str.ofString "=CE") 1340), (Value.str (Str.ofString "=CF") 1344), (Value.str (Str.ofString "=D0") 1348), (Value.str (Str.ofString "=D1") 1352), (Value.str (Str.ofString "=D2") 1356), (Value.str (Str.ofString "=D3") 1360), (Value.str (Str.ofString "=D4") 1364), (Value.str (Str.ofString "=D5") 1368), (Value.str (Str.ofString "=D6") 1372), (Value.str (Str.ofString "=D7") 1376), (Value.str (Str.ofString "=D8") 1380), (Value.str (Str.ofString "=D9") 1384), (Value.str (Str.ofString "=DA") 1388), (Value.str (Str.ofString "=DB") 1392), (Value.str (Str.ofString "=DC") 1396), (Value.str (Str.ofString "=DD") 1400), (Value.str (Str.ofString "=DE") 1404), (Value.str (Str.ofString "=DF") 1408), (Value.str (Str.ofString "=E0") 1412), (Value.str (Str.ofString "=E1") 1416), (Value.str (Str.ofString "=E2") 1420), (Value.str (Str.ofString "=E3") 1424), (Value.str (Str.ofString "=E4") 1428), (Value.str (Str.ofString "=E5") 1432), (Value.str (Str.ofString "=E6") 1436), (Value.str (Str.ofString "=E7") 1440), (Value.str (Str.ofString "=E8") 1444), (Value.str (Str.ofString "=E9") 1448), (Value.str (Str.ofString "=EA") 1452), (Value.str (Str.ofString "=EB") 1456), (Value.str (Str.ofString "=EC") 1460), (Value.str (Str.ofString "=ED") 1464), (Value.str (Str.ofString "=EE") 1468), (Value.str (Str.ofString "=EF") 1472), (Value.str (Str.ofString "=F0") 1476), (Value.str (Str.ofString "=F1") 1480), (Value.str (Str.ofString "=F2") 1484), (Value.str (Str.ofString "=F3") 1488), (Value.str (Str.ofString "=F4") 1492), (Value.str (Str.ofString "=F5") 1496), (Value.str (Str.ofString "=F6") 1500), (Value.str (Str.ofString "=F7") 1504), (Value.str (Str.ofString "=F8") 1508), (Value.str (Str.ofString "=F9") 1512), (Value.str (Str.ofString "=FA") 1516), (Value.str (Str.ofString "=FB") 1520), (Value.str (Str.ofString "=FC") 1524), (Value.str (Str.ofString "=FD") 1528), (Value.str (Str.ofString "=FE") 1532), (Value.str (Str.ofString "=FF") 1536)] 0) #[])) ::
  ((nat_lit 209), (Obj.mk (Value.type "tuple") none (Data.seq #[(Value.int 76 2074), (Value.str (Str.ofString "\n") 508)] 0) #[])) ::
  ((nat_lit 210), (Obj.mk (Value.type "tuple") none (Data.seq #[] 0) #[])) ::
  ((nat_lit 211), (Obj.mk Value.none none (Data.fields #[]) #[])) ::
  ((nat_lit 212), (Obj.mk (Value.type "tuple") none (Data.seq #[(Value.str (Str.ofString "body") 2078), (Value.str (Str.ofString "maxlinelen") 2079), (Value.str (Str.ofString "eol") 2080), (Value.str (Str.ofString "soft_break") 2081), (Value.str (Str.ofString "maxlinelen1") 2082), (Value.str (Str.ofString "encoded_body") 2083), (Value.str (Str.ofString "append") 2084), (Value.str (Str.ofString "line") 2085), (Value.str (Str.ofString "start") 2086), (Value.str (Str.ofString "laststart") 2087), (Value.str (Str.ofString "stop") 2088), (Value.str (Str.ofString "room") 2089), (Value.str (Str.ofString "q") 2090)] 0) #[])) ::
  ((nat_lit 213), (Obj.mk (Value.type "tuple") none (Data.seq #[] 0) #[])) ::
  ((nat_lit 214), (Obj.mk Value.none none (Data.func (FuncData.mk (fName (stA P0 [25])) (Str.ofString "body_encode") (fArgs (stA P0 [25])) (.stmts (fBody (stA P0 [25]))) (fScope (stA P0 [25])) 0 [] Value.none Value.none Value.none Value.none none Value.none Value.none 0)) #[])) ::
  ((nat_lit 215), (Obj.mk (Value.type "code") none (Data.fields #[(Value.str (Str.ofString "body_encode") 2075), (Value.str (Str.ofString "body_encode") 2076), (Value.str (Str.ofString "/claim/cut.py") 2077), (Value.int 108 0), (Value.int 3 0), (Value.int 0 0), (Value.int 0 0), (Value.int 3 0), (Value.ref 210), (Value.bool Bool.true), (Value.int 276 0), (Value.ref 211), Value.none, (Value.ref 212), (Value.ref 213), (Value.ref 214), (Value.int 2091 0), (Value.int 108 0), (Value.str (Str.ofString "/claim/cut.py") 2092)]) #[])) ::
  ((nat_lit 216), (Obj.mk (Value.type "function") none (Data.func (fnOf (fName (stA P0 [25])) (Str.ofString "body_encode") (fArgs (stA P0 [25])) (fBody (stA P0 [25])) (fScope (stA P0 [25])) (Value.ref 209) Value.none Value.none (Value.str (Str.ofString "cpy313.email.quoprimime") 1553) none (Value.ref 215) Value.none)) #[])) ::
  ((nat_lit 217), (Obj.mk (Value.type "tuple") none (Data.seq #[(Value.str (Str.ofString "\n") 508)] 0) #[])) ::
  ((nat_lit 218), (Obj.mk (Value.type "tuple") none (Data.seq #[] 0) #[])) ::
  ((nat_lit 219), (Obj.mk Value.none none (Data.fields #[]) #[])) ::
  ((nat_lit 220), (Obj.mk (Value.type "tuple") none (Data.seq #[(Value.str (Str.ofString "encoded") 2097), (Value.str (Str.ofString "eol") 2098), (Value.str (Str.ofString "decoded") 2099), (Value.str (Str.ofString "line") 2100), (Value.str (Str.ofString "i") 2101), (Value.str (Str.ofString "n") 2102), (Value.str (Str.ofString "c") 2103)] 0) #[])) ::
  ((nat_lit 221), (Obj.mk (Value.type "tuple") none (Data.seq #[] 0) #[])) ::
  ((nat_lit 222), (Obj.mk Value.none none (Data.func (FuncData.mk (fName (stA P0 [26])) (Str.ofString "decode") (fArgs (stA P0 [26])) (.stmts (fBody (stA P0 [26]))) (fScope (stA P0 [26])) 0 [] Value.none Value.none Value.none Value.none none Value.none Value.none 0)) #[])) ::
  ((nat_lit 223), (Obj.mk (Value.type "code") none (Data.fields #[(Value.str (Str.ofString "decode") 2094), (Value.str (Str.ofString "decode") 2095), (Value.str (Str.ofString "/claim/cut.py") 2096), (Value.int 146 0), (Value.int 2 0), (Value.int 0 0), (Value.int 0 0), (Value.int 3 0), (Value.ref 218), (Value.bool Bool.true), (Value.int 276 0), (Value.ref 219), Value.none, (Value.ref 220), (Value.ref 221), (Value.ref 222), (Value.int 2104 0), (Value.int 146 0), (Value.str (Str.ofString "/claim/cut.py") 2105)]) #[])) ::
  ((nat_lit 224), (Obj.mk (Value.type "function") none (Data.func (fnOf (fName (stA P0 [26])) (Str.ofString "decode") (fArgs (stA P0 [26])) (fBody (stA P0 [26])) (fScope (stA P0 [26])) (Value.ref 217) Value.none Value.none (Value.str (Str.ofString "cpy313.email.quoprimime") 1553) none (Value.ref 223) Value.none)) #[])) ::
  ((nat_lit 225), (Obj.mk (Value.type "tuple") none (Data.seq #[] 0) #[])) ::
  ((nat_lit 226), (Obj.mk Value.none none (Data.fields #[]) #[])) ::
  ((nat_lit 227), (Obj.mk (Value.type "tuple") none (Data.seq #[(Value.str (Str.ofString "script") 2112), (Value.str (Str.ofString "gates") 2113), (Value.str (Str.ofString "number") 2114), (Value.str (Str.ofString "boxes") 2115), (Value.str (Str.ofString "source") 2116), (Value.str (Str.ofString "target") 2117)] 0) #[])) ::
  ((nat_lit 228), (Obj.mk (Value.type "tuple") none (Data.seq #[] 0) #[])) ::
  ((nat_lit 229), (Obj.mk Value.none none (Data.func (FuncData.mk (fName (stA P0 [28])) (Str.ofString "_law_boxes") (fArgs (stA P0 [28])) (.stmts (fBody (stA P0 [28]))) (fScope (stA P0 [28])) 0 [] Value.none Value.none Value.none Value.none none Value.none Value.none 0)) #[])) ::
  ((nat_lit 230), (Obj.mk (Value.type "code") none (Data.fields #[(Value.str (Str.ofString "_law_boxes") 2109), (Value.str (Str.ofString "_law_boxes") 2110), (Value.str (Str.ofString "/claim/cut.py") 2111), (Value.int 177 0), (Value.int 2 0), (Value.int 0 0), (Value.int 0 0), (Value.int 3 0), (Value.ref 225), (Value.bool Bool.true), (Value.int 276 0), (Value.ref 226), Value.none, (Value.ref 227), (Value.ref 228), (Value.ref 229), (Value.int 2118 0), (Value.int 177 0), (Value.str (Str.ofString "/claim/cut.py") 2119)]) #[])) ::
  ((nat_lit 231), (Obj.mk (Value.type "function") none (Data.func (fnOf (fName (stA P0 [28])) (Str.ofString "_law_boxes") (fArgs (stA P0 [28])) (fBody (stA P0 [28])) (fScope (stA P0 [28])) Value.none Value.none Value.none (Value.str (Str.ofString "law_rl0125_01") 2107) none (Value.ref 230) Value.none)) #[])) ::
  ((nat_lit 232), (Obj.mk (Value.type "tuple") none (Data.seq #[] 0) #[])) ::
  ((nat_lit 233), (Obj.mk Value.none none (Data.fields #[]) #[])) ::
  ((nat_lit 234), (Obj.mk (Value.type "tuple") none (Data.seq #[(Value.str (Str.ofString "box") 2124), (Value.str (Str.ofString "turn") 2125), (Value.str (Str.ofString "name") 2126)] 0) #[])) ::
  ((nat_lit 235), (Obj.mk (Value.type "tuple") none (Data.seq #[] 0) #[])) ::
  ((nat_lit 236), (Obj.mk Value.none none (Data.func (FuncData.mk (fName (stA P0 [29])) (Str.ofString "_law_name") (fArgs (stA P0 [29])) (.stmts (fBody (stA P0 [29]))) (fScope (stA P0 [29])) 0 [] Value.none Value.none Value.none Value.none none Value.none Value.none 0)) #[])) ::
  ((nat_lit 237), (Obj.mk (Value.type "code") none (Data.fields #[(Value.str (Str.ofString "_law_name") 2121), (Value.str (Str.ofString "_law_name") 2122), (Value.str (Str.ofString "/claim/cut.py") 2123), (Value.int 187 0), (Value.int 2 0), (Value.int 0 0), (Value.int 0 0), (Value.int 3 0), (Value.ref 232), (Value.bool Bool.true), (Value.int 276 0), (Value.ref 233), Value.none, (Value.ref 234), (Value.ref 235), (Value.ref 236), (Value.int 2127 0), (Value.int 187 0), (Value.str (Str.ofString "/claim/cut.py") 2128)]) #[])) ::
  ((nat_lit 238), (Obj.mk (Value.type "function") none (Data.func (fnOf (fName (stA P0 [29])) (Str.ofString "_law_name") (fArgs (stA P0 [29])) (fBody (stA P0 [29])) (fScope (stA P0 [29])) Value.none Value.none Value.none (Value.str (Str.ofString "law_rl0125_01") 2107) none (Value.ref 237) Value.none)) #[])) ::
  ((nat_lit 239), (Obj.mk (Value.type "tuple") none (Data.seq #[] 0) #[])) ::
  ((nat_lit 240), (Obj.mk Value.none none (Data.fields #[]) #[])) ::
  ((nat_lit 241), (Obj.mk (Value.type "tuple") none (Data.seq #[(Value.str (Str.ofString "boxes") 2133), (Value.str (Str.ofString "table") 2134), (Value.str (Str.ofString "turn") 2135), (Value.str (Str.ofString "value") 2136), (Value.str (Str.ofString "token") 2137)] 0) #[])) ::
  ((nat_lit 242), (Obj.mk (Value.type "tuple") none (Data.seq #[] 0) #[])) ::
  ((nat_lit 243), (Obj.mk Value.none none (Data.func (FuncData.mk (fName (stA P0 [30])) (Str.ofString "_law_table") (fArgs (stA P0 [30])) (.stmts (fBody (stA P0 [30]))) (fScope (stA P0 [30])) 0 [] Value.none Value.none Value.none Value.none none Value.none Value.none 0)) #[])) ::
  ((nat_lit 244), (Obj.mk (Value.type "code") none (Data.fields #[(Value.str (Str.ofString "_law_table") 2130), (Value.str (Str.ofString "_law_table") 2131), (Value.str (Str.ofString "/claim/cut.py") 2132), (Value.int 190 0), (Value.int 1 0), (Value.int 0 0), (Value.int 0 0), (Value.int 3 0), (Value.ref 239), (Value.bool Bool.true), (Value.int 276 0), (Value.ref 240), Value.none, (Value.ref 241), (Value.ref 242), (Value.ref 243), (Value.int 2138 0), (Value.int 190 0), (Value.str (Str.ofString "/claim/cut.py") 2139)]) #[])) ::
  ((nat_lit 245), (Obj.mk (Value.type "function") none (Data.func (fnOf (fName (stA P0 [30])) (Str.ofString "_law_table") (fArgs (stA P0 [30])) (fBody (stA P0 [30])) (fScope (stA P0 [30])) Value.none Value.none Value.none (Value.str (Str.ofString "law_rl0125_01") 2107) none (Value.ref 244) Value.none)) #[])) ::
  ((nat_lit 246), (Obj.mk (Value.type "tuple") none (Data.seq #[] 0) #[])) ::
  ((nat_lit 247), (Obj.mk Value.none none (Data.fields #[]) #[])) ::
  ((nat_lit 248), (Obj.mk (Value.type "tuple") none (Data.seq #[(Value.str (Str.ofString "table") 2144), (Value.str (Str.ofString "boxes") 2145), (Value.str (Str.ofString "gate") 2146), (Value.str (Str.ofString "turn") 2147), (Value.str (Str.ofString "box") 2148), (Value.str (Str.ofString "name") 2149)] 0) #[])) ::
  ((nat_lit 249), (Obj.mk (Value.type "tuple") none (Data.seq #[] 0) #[])) ::
  ((nat_lit 250), (Obj.mk Value.none none (Data.func (FuncData.mk (fName (stA P0 [31])) (Str.ofString "_law_try") (fArgs (stA P0 [31])) (.stmts (fBody (stA P0 [31]))) (fScope (stA P0 [31])) 0 [] Value.none Value.none Value.none Value.none none Value.none Value.none 0)) #[])) ::
  ((nat_lit 251), (Obj.mk (Value.type "code") none (Data.fields #[(Value.str (Str.ofString "_law_try") 2141), (Value.str (Str.ofString "_law_try") 2142), (Value.str (Str.ofString "/claim/cut.py") 2143), (Value.int 198 0), (Value.int 4 0), (Value.int 0 0), (Value.int 0 0), (Value.int 3 0), (Value.ref 246), (Value.bool Bool.true), (Value.int 276 0), (Value.ref 247), Value.none, (Value.ref 248), (Value.ref 249), (Value.ref 250), (Value.int 2150 0), (Value.int 198 0), (Value.str (Str.ofString "/claim/cut.py") 2151)]) #[])) ::
  ((nat_lit 252), (Obj.mk (Value.type "function") none (Data.func (fnOf (fName (stA P0 [31])) (Str.ofString "_law_try") (fArgs (stA P0 [31])) (fBody (stA P0 [31])) (fScope (stA P0 [31])) Value.none Value.none Value.none (Value.str (Str.ofString "law_rl0125_01") 2107) none (Value.ref 251) Value.none)) #[])) ::
  ((nat_lit 253), (Obj.mk (Value.type "tuple") none (Data.seq #[] 0) #[])) ::
  ((nat_lit 254), (Obj.mk Value.none none (Data.fields #[]) #[])) ::
  ((nat_lit 255), (Obj.mk Value.none none (Data.func (FuncData.mk (fName (stA P0 [32])) (Str.ofString "_law_run") (fArgs (stA P0 [32])) (.stmts (fBody (stA P0 [32]))) (fScope (stA P0 [32])) 0 [] Value.none Value.none Value.none Value.none none Value.none Value.none 0)) #[])) ::
  ((nat_lit 256), (Obj.mk (Value.type "code") none (Data.fields #[(Value.str (Str.ofString "_law_run") 2153), (Value.str (Str.ofString "_law_run") 2154), (Value.str (Str.ofString "/claim/cut.py") 2155), (Value.int 209 0), (Value.int 4 0), (Value.int 0 0), (Value.int 0 0), (Value.int 3 0), (Value.ref 253), (Value.bool Bool.true), (Value.int 276 0), (Value.ref 254), Value.none, Value.none, Value.none, (Value.ref 255), (Value.int 2156 0), (Value.int 209 0), (Value.str (Str.ofString "/claim/cut.py") 2157)]) #[])) ::
  ((nat_lit 257), (Obj.mk (Value.type "function") none (Data.func (fnOf (fName (stA P0 [32])) (Str.ofString "_law_run") (fArgs (stA P0 [32])) (fBody (stA P0 [32])) (fScope (stA P0 [32])) Value.none Value.none Value.none (Value.str (Str.ofString "law_rl0125_01") 2107) none (Value.ref 256) Value.none)) #[])) ::
  ((nat_lit 258), (Obj.mk (Value.type "tuple") none (Data.seq #[] 0) #[])) ::
  ((nat_lit 259), (Obj.mk Value.none none (Data.fields #[]) #[])) ::
  ((nat_lit 260), (Obj.mk Value.none none (Data.func (FuncData.mk (fName (stA P0 [33])) (Str.ofString "_law_due") (fArgs (stA P0 [33])) (.stmts (fBody (stA P0 [33]))) (fScope (stA P0 [33])) 0 [] Value.none Value.none Value.none Value.none none Value.none Value.none 0)) #[])) ::
  ((nat_lit 261), (Obj.mk (Value.type "code") none (Data.fields #[(Value.str (Str.ofString "_law_due") 2159), (Value.str (Str.ofString "_law_due") 2160), (Value.str (Str.ofString "/claim/cut.py") 2161), (Value.int 219 0), (Value.int 2 0), (Value.int 0 0), (Value.int 0 0), (Value.int 3 0), (Value.ref 258), (Value.bool Bool.true), (Value.int 276 0), (Value.ref 259), Value.none, Value.none, Value.none, (Value.ref 260), (Value.int 2162 0), (Value.int 219 0), (Value.str (Str.ofString "/claim/cut.py") 2163)]) #[])) ::
  ((nat_lit 262), (Obj.mk (Value.type "function") none (Data.func (fnOf (fName (stA P0 [33])) (Str.ofString "_law_due") (fArgs (stA P0 [33])) (fBody (stA P0 [33])) (fScope (stA P0 [33])) Value.none Value.none Value.none (Value.str (Str.ofString "law_rl0125_01") 2107) none (Value.ref 261) Value.none)) #[])) ::
  ((nat_lit 263), (Obj.mk (Value.type "tuple") none (Data.seq #[] 0) #[])) ::
  ((nat_lit 264), (Obj.mk Value.none none (Data.fields #[]) #[])) ::
  ((nat_lit 265), (Obj.mk Value.none none (Data.func (FuncData.mk (fName (stA P0 [34])) (Str.ofString "law") (fArgs (stA P0 [34])) (.stmts (fBody (stA P0 [34]))) (fScope (stA P0 [34])) 0 [] Value.none Value.none Value.none Value.none none Value.none Value.none 0)) #[])) ::
  ((nat_lit 266), (Obj.mk (Value.type "code") none (Data.fields #[(Value.str (Str.ofString "law") 2165), (Value.str (Str.ofString "law") 2166), (Value.str (Str.ofString "/claim/cut.py") 2167), (Value.int 228 0), (Value.int 1 0), (Value.int 0 0), (Value.int 0 0), (Value.int 3 0), (Value.ref 263), (Value.bool Bool.true), (Value.int 276 0), (Value.ref 264), Value.none, Value.none, Value.none, (Value.ref 265), (Value.int 2168 0), (Value.int 228 0), (Value.str (Str.ofString "/claim/cut.py") 2169)]) #[])) ::
  ((nat_lit 267), (Obj.mk (Value.type "function") none (Data.func (fnOf (fName (stA P0 [34])) (Str.ofString "law") (fArgs (stA P0 [34])) (fBody (stA P0 [34])) (fScope (stA P0 [34])) Value.none Value.none Value.none (Value.str (Str.ofString "law_rl0125_01") 2107) none (Value.ref 266) Value.none)) #[])) :: []
noncomputable def hd.as : List Addr := (nat_lit 0) :: (nat_lit 1) :: (nat_lit 2) :: (nat_lit 3) :: (nat_lit 4) :: (nat_lit 5) :: (nat_lit 6) :: (nat_lit 7) :: (nat_lit 8) :: (nat_lit 9) :: (nat_lit 10) :: (nat_lit 11) :: (nat_lit 12) :: (nat_lit 13) :: (nat_lit 14) :: (nat_lit 15) :: (nat_lit 32) :: (nat_lit 33) :: (nat_lit 34) :: (nat_lit 35) :: (nat_lit 36) :: (nat_lit 37) :: (nat_lit 38) :: (nat_lit 42) :: (nat_lit 43) :: (nat_lit 47) :: (nat_lit 48) :: (nat_lit 56) :: (nat_lit 57) :: (nat_lit 58) :: (nat_lit 59) :: (nat_lit 60) :: (nat_lit 61) :: (nat_lit 62) :: (nat_lit 63) :: (nat_lit 64) :: (nat_lit 65) :: (nat_lit 66) :: (nat_lit 67) :: (nat_lit 68) :: (nat_lit 69) :: (nat_lit 70) :: (nat_lit 71) :: (nat_lit 72) :: (nat_lit 73) :: (nat_lit 74) :: (nat_lit 75) :: (nat_lit 76) :: (nat_lit 77) :: (nat_lit 78) :: (nat_lit 79) :: (nat_lit 80) :: (nat_lit 81) :: (nat_lit 82) :: (nat_lit 83) :: (nat_lit 84) :: (nat_lit 85) :: (nat_lit 86) :: (nat_lit 87) :: (nat_lit 88) :: (nat_lit 89) :: (nat_lit 90) :: (nat_lit 91) :: (nat_lit 92) :: (nat_lit 93) :: (nat_lit 94) :: (nat_lit 95) :: (nat_lit 96) :: (nat_lit 97) :: (nat_lit 98) :: (nat_lit 99) :: (nat_lit 100) :: (nat_lit 101) :: (nat_lit 102) :: (nat_lit 103) :: (nat_lit 104) :: (nat_lit 105) :: (nat_lit 106) :: (nat_lit 107) :: (nat_lit 108) :: (nat_lit 109) :: (nat_lit 110) :: (nat_lit 111) :: (nat_lit 112) :: (nat_lit 113) :: (nat_lit 114) :: (nat_lit 115) :: (nat_lit 116) :: (nat_lit 117) :: (nat_lit 118) :: (nat_lit 119) :: (nat_lit 120) :: (nat_lit 121) :: (nat_lit 122) :: (nat_lit 123) :: (nat_lit 124) :: (nat_lit 125) :: (nat_lit 126) :: (nat_lit 127) :: (nat_lit 128) :: (nat_lit 129) :: (nat_lit 130) :: (nat_lit 131) :: (nat_lit 132) :: (nat_lit 133) :: (nat_lit 134) :: (nat_lit 135) :: (nat_lit 136) :: (nat_lit 137) :: (nat_lit 138) :: (nat_lit 139) :: (nat_lit 140) :: (nat_lit 141) :: (nat_lit 142) :: (nat_lit 143) :: (nat_lit 144) :: (nat_lit 145) :: (nat_lit 146) :: (nat_lit 147) :: (nat_lit 148) :: (nat_lit 149) :: (nat_lit 150) :: (nat_lit 151) :: (nat_lit 152) :: (nat_lit 153) :: (nat_lit 154) :: (nat_lit 155) :: (nat_lit 156) :: (nat_lit 157) :: (nat_lit 158) :: (nat_lit 159) :: (nat_lit 160) :: (nat_lit 161) :: (nat_lit 162) :: (nat_lit 163) :: (nat_lit 164) :: (nat_lit 165) :: (nat_lit 166) :: (nat_lit 167) :: (nat_lit 168) :: (nat_lit 169) :: (nat_lit 170) :: (nat_lit 171) :: (nat_lit 176) :: (nat_lit 190) :: (nat_lit 191) :: (nat_lit 192) :: (nat_lit 193) :: (nat_lit 194) :: (nat_lit 195) :: (nat_lit 196) :: (nat_lit 197) :: (nat_lit 198) :: (nat_lit 199) :: (nat_lit 200) :: (nat_lit 201) :: (nat_lit 202) :: (nat_lit 203) :: (nat_lit 205) :: (nat_lit 209) :: (nat_lit 210) :: (nat_lit 211) :: (nat_lit 212) :: (nat_lit 213) :: (nat_lit 214) :: (nat_lit 215) :: (nat_lit 216) :: (nat_lit 217) :: (nat_lit 218) :: (nat_lit 219) :: (nat_lit 220) :: (nat_lit 221) :: (nat_lit 222) :: (nat_lit 223) :: (nat_lit 224) :: (nat_lit 225) :: (nat_lit 226) :: (nat_lit 227) :: (nat_lit 228) :: (nat_lit 229) :: (nat_lit 230) :: (nat_lit 231) :: (nat_lit 232) :: (nat_lit 233) :: (nat_lit 234) :: (nat_lit 235) :: (nat_lit 236) :: (nat_lit 237) :: (nat_lit 238) :: (nat_lit 239) :: (nat_lit 240) :: (nat_lit 241) :: (nat_lit 242) :: (nat_lit 243) :: (nat_lit 244) :: (nat_lit 245) :: (nat_lit 246) :: (nat_lit 247) :: (nat_lit 248) :: (nat_lit 249) :: (nat_lit 250) :: (nat_lit 251) :: (nat_lit 252) :: (nat_lit 253) :: (nat_lit 254) :: (nat_lit 255) :: (nat_lit 256) :: (nat_lit 257) :: (nat_lit 258) :: (nat_lit 259) :: (nat_lit 260) :: (nat_lit 261) :: (nat_lit 262) :: (nat_lit 263) :: (nat_lit 264) :: (nat_lit 265) :: (nat_lit 266) :: (nat_lit 267) :: []
noncomputable def hd.view_39 : Program := viewOf P0 [0, 1, 3, 4, 5, 6, 7, 8, 9, 10, 11, 12, 13, 14, 15, 20, 21, 22, 28, 29, 30, 31, 32, 33, 34] (b := [_, _, _, _, _, _, _, _, _, _, _, _, _, _, _, _, _, _, _, _, _, _, _, _, _]) rfl
noncomputable abbrev hd.loose : List Str := [Str.ofString "_name_disallowed_re", Str.ofString "_value_disallowed_re", Str.ofString "_QUOPRI_MAP", Str.ofString "_QUOPRI_HEADER_MAP", Str.ofString "_QUOPRI_BODY_MAP", Str.ofString "ascii_letters", Str.ofString "hexdigits", Str.ofString "_QUOPRI_BODY_ENCODE_MAP", Str.ofString "body_encode", Str.ofString "decode"]
noncomputable abbrev hd.lv : List (Str × WData) := [(Str.ofString "ascii_letters", WData.str ⟨#[97, 98, 99, 100, 101, 102, 103, 104, 105, 106, 107, 108, 109, 110, 111, 112, 113, 114, 115, 116, 117, 118, 119, 120, 121, 122, 65, 66, 67, 68, 69, 70, 71, 72, 73, 74, 75, 76, 77, 78, 79, 80, 81, 82, 83, 84, 85, 86, 87, 88, 89, 90]⟩), (Str.ofString "hexdigits", WData.str ⟨#[48, 49, 50, 51, 52, 53, 54, 55, 56, 57, 97, 98, 99, 100, 101, 102, 65, 66, 67, 68, 69, 70]⟩)]
noncomputable abbrev hd.H : Hook := kHook hd.heap_39 hd.as (fun _ => by kernel_rfl)
noncomputable abbrev hd.sC (w : World) : Prop := lookC P0 hd.as w 1000 20000 = some ((hd.heap_39 w.params).map (fun p => some p.2), 268, {}, #[], {}, 2171, {})
noncomputable abbrev hd.X : Shared → Bool := fun s => xlAt hd.view_39 hd.lv s && recOk (RowW.records PySem.Challenge.rw_rl0125_01.row.toRowW) s
theorem hd.c00 (w : World) : hd.sC ((w.withFollow "special-get-raises" false).withFollow "comprehension-iter-twice" false) := by kernel_rfl
theorem hd.c01 (w : World) : hd.sC ((w.withFollow "special-get-raises" false).withFollow "comprehension-iter-twice" true) := by kernel_rfl
theorem hd.c10 (w : World) : hd.sC ((w.withFollow "special-get-raises" true).withFollow "comprehension-iter-twice" false) := by kernel_rfl
theorem hd.c11 (w : World) : hd.sC ((w.withFollow "special-get-raises" true).withFollow "comprehension-iter-twice" true) := by kernel_rfl
theorem hd.allC : ∀ w, hd.sC w := byRow2 "comprehension-iter-twice" (P := hd.sC) (byRow2 "special-get-raises" (P := fun w => hd.sC (w.withFollow "comprehension-iter-twice" false)) hd.c00 hd.c10) (byRow2 "special-get-raises" (P := fun w => hd.sC (w.withFollow "comprehension-iter-twice" true)) hd.c01 hd.c11)
theorem hd.allD (g : Nat → Obj) (w : World) : lookD P0 (fillS hd.heap_39 268 2171 g) w 1000 = true := by kernel_rfl
theorem hd.allE (g : Nat → Obj) (w : World) : (PySem.W.Fast.tw4187177175401517315 hd.view_39 hd.loose (importedModules P0.main.body) hd.X true (fillS hd.heap_39 268 2171 g w.params), Hook.obs hd.H (fillS hd.heap_39 268 2171 g w.params)) = (openGood hd.view_39 hd.loose, Hook.val hd.H w) := by kernel_rfl
theorem hd.left : LeftO P0 hd.view_39 hd.loose (fun s => xlAt hd.view_39 hd.lv s && recOk (RowW.records PySem.Challenge.rw_rl0125_01.row.toRowW) s) (Hook.obs hd.H) (Hook.val hd.H) 37168 true :=
  left_of (by decide +kernel) (by decide +kernel) hd.allC hd.allD hd.allE
theorem hd.ws : OpenLaw.wellSaid PySem.Challenge.rw_rl0125_01 = true := by rw [PySem.W.Fast.te9446332074065402090]; kernel_rfl
theorem hd {name : Str} {params : Arguments} {body : List Stmt} {dec : List Expr} {ret : Option Expr} {tp : List TypeParam} {scope : Scope} {ts : Option Scope} {bind : Str} {pos : Pos} (hst : stA P0 [34] = some (.FunctionDef name params body dec ret tp scope ts bind pos))
    (h : WalkO hd.view_39 hd.loose (XL hd.view_39 hd.lv) hd.H.says PySem.Challenge.rw_rl0125_01.row.toRowW ⟨name, params, body, scope, pos⟩ [] (fun f vs => PySem.call f vs)) : PySem.Challenge.rw_rl0125_01.Holds := by
  have e : (⟨name, params, body, scope, pos⟩ : DefRec) = fRec (stA P0 [34]) := by rw [hst]; rfl
  rw [e] at h
  clear e hst
  w_on
  refine holds_law hd.ws fun _ => ?_
  refine W.holds_open (q := hd.view_39) (loose := hd.loose) (Xt := fun s => xlAt hd.view_39 hd.lv s && recOk (RowW.records PySem.Challenge.rw_rl0125_01.row.toRowW) s) (XP := XL hd.view_39 hd.lv) (Yf := Hook.obs hd.H) (Ya := Hook.val hd.H) (YP := Hook.says hd.H) (N := 37168) hd.left (Hook.of hd.H) (Hook.keeps hd.H) (fun s e => xl_of s (Bool.and_eq_true_iff.mp e).1) XL.keeps (by rfl) (by rfl) (by rfl) (fun s e => recFacts_of (Bool.and_eq_true_iff.mp e).2) (by rfl) (by first | assumption | decide +kernel) (by decide +kernel) ⟨rfl, rfl, rfl, rfl, rfl, by decide +kernel⟩ ?hw h
  case hw => w_witness2
end MineX
namespace Mine
theorem top_off : True := by w_top off; trivial
theorem k_filled : (MineX.hd.heap_39 = MineX.hd.heap_39) ∧ (PySem.Challenge.rw_rl0125_01 = PySem.Challenge.rw_rl0125_01) := by k_fill; exact ⟨rfl, rfl⟩
end Mine
namespace Mine
/-! a run by the kernel, with addresses that are letters: which object a step reads or changes is said ahead, by a list of numbers
(0: an object of the top, at a written address; 2 i + 1: the i-th object that the run has made; 2 j + 2: the j-th of those that are given) -/
inductive Job (α : Type) where
  | tree (t : Sem α)
  | code (c : Code) (k : Result → Sem α)
noncomputable abbrev Eqs := List (Nat × Nat)
noncomputable def AllEq : Eqs → Prop
  | [] => True
  | p :: l => p.1 = p.2 ∧ AllEq l
noncomputable def normL {β γ : Type} (f : β → (β → γ) → γ) : List β → (List β → γ) → γ
  | [], k => k []
  | x :: xs, k => f x fun x' => normL f xs fun ys => k (x' :: ys)
noncomputable def normE {γ : Type} (e : DictEntry) (k : DictEntry → γ) : γ := match e with | ⟨h, key, v⟩ => k ⟨h, key, v⟩
noncomputable def normV {γ : Type} (v : Value) (k : Value → γ) : γ := match v with
  | .int i t => k (.int i t)
  | .str x t => k (.str x t)
  | .ref a => k (.ref a)
  | .bool b => k (.bool b)
  | v => k v
noncomputable def normO {γ : Type} (o : Obj) (k : Obj → γ) : γ := match o with
  | ⟨c, d, dt, sl⟩ => match dt with
    | .dict ⟨es⟩ n => normL normE es fun es' => k ⟨c, d, .dict ⟨es'⟩ n, sl⟩
    | .seq ⟨xs⟩ n => normL normV xs fun xs' => k ⟨c, d, .seq ⟨xs'⟩ n, sl⟩
    | .fields ⟨xs⟩ => normL normV xs fun xs' => k ⟨c, d, .fields ⟨xs'⟩, sl⟩
    | dt => k ⟨c, d, dt, sl⟩
theorem normL_eq {β γ : Type} {f : β → (β → γ) → γ} (hf : ∀ x k, f x k = k x) : ∀ (l : List β) (k : List β → γ), normL f l k = k l
  | [], _ => rfl
  | x :: xs, k => by unfold normL; rw [hf, normL_eq hf xs]
theorem normE_eq {γ : Type} (e : DictEntry) (k : DictEntry → γ) : normE e k = k e := rfl
theorem normV_eq {γ : Type} (v : Value) (k : Value → γ) : normV v k = k v := by cases v <;> rfl
theorem normO_eq {γ : Type} (o : Obj) (k : Obj → γ) : normO o k = k o := by
  obtain ⟨c, d, dt, sl⟩ := o
  cases dt with
  | dict es n => obtain ⟨es⟩ := es; exact normL_eq normE_eq _ _
  | seq xs n => obtain ⟨xs⟩ := xs; exact normL_eq normV_eq _ _
  | fields xs => obtain ⟨xs⟩ := xs; exact normL_eq normV_eq _ _
  | _ => rfl
noncomputable def snocL {β γ : Type} (x : β) : List β → (List β → γ) → γ
  | [], k => k [x]
  | y :: ys, k => snocL x ys fun zs => k (y :: zs)
theorem snocL_eq {β γ : Type} (x : β) : ∀ (l : List β) (k : List β → γ), snocL x l k = k (l ++ [x])
  | [], _ => rfl
  | y :: ys, k => by unfold snocL; rw [snocL_eq x ys]; rfl
noncomputable def setL {β γ : Type} (x : β) : List β → Nat → (List β → γ) → γ
  | [], _, k => k []
  | _ :: ys, 0, k => k (x :: ys)
  | y :: ys, i + 1, k => setL x ys i fun zs => k (y :: zs)
theorem setL_eq {β γ : Type} (x : β) : ∀ (l : List β) (i : Nat) (k : List β → γ), setL x l i k = k (l.set i x)
  | [], _, _ => rfl
  | _ :: _, 0, _ => rfl
  | y :: ys, i + 1, k => by unfold setL; rw [setL_eq x ys]; rfl
/-- how deep a code's own code may still call -/
noncomputable def depIn : Code → Nat → Nat
  | .func .., d => d - 1
  | .whileLoop .., d => d
  | .forLoop .., d => d
  | .block .., d => d
  | .call .., d => d
  | _, _ => 0
noncomputable abbrev denQ : Code → Sem Fin := PySem.W.Fast.tw11892475500146522536 PySem.W.Fast.tw14364793385576792824
theorem denQ_eq (c : Code) : denote table c = denQ c := by rw [table_eq_tree, PySem.W.Fast.te14364793385576792824, PySem.W.Fast.te11892475500146522536]
noncomputable abbrev bindQ : FuncData → Args → Sem (List (Str × Value)) := PySem.W.Fast.tw9782568553167038054
theorem bindQ_eq (f : FuncData) (a : Args) : bindArgs f a = bindQ f a := by rw [PySem.W.Fast.te9782568553167038054]
noncomputable abbrev envQ (fd : FuncData) (binds : List (Str × Value)) (a : Addr) : Sem Env := PySem.W.Fast.tw11113344188204177931 fd.scope fd.globals fd.closure binds (fd.qualname ++ ".<locals>.") (some a) fd.code none fd.builtins
theorem envQ_eq (fd : FuncData) (binds : List (Str × Value)) (a : Addr) : newFunctionEnv fd.scope fd.globals fd.closure binds (fd.qualname ++ ".<locals>.") (some a) fd.code none fd.builtins = envQ fd binds a := by rw [PySem.W.Fast.te11113344188204177931]
noncomputable abbrev Out (α : Type) := Option (Except Value α × List Obj × Nat × List Nat × Eqs)
structure Tab where
  K : Nat → Option Obj
  cI : Value → Str → Bool
  S : Setting
  N : Nat
  giv : List (Nat × Obj)
noncomputable def run (V : Tab) : Nat → (α : Type) → Nat → List Obj → Nat → List Nat → Eqs → Job α → Out α
  | 0, _, _, _, _, _, _, _ => none
  | n + 1, α, d, own, tk, cert, eqs, .code c k =>
    let plain (_ : Unit) : Out α := match run V n Fin (depIn c d) own tk cert eqs (.tree (denQ c)) with
      | some (.ok (.done f), own, tk, cert, eqs) => run V n α d own tk cert eqs (.tree (k (.ok f)))
      | some (.ok (.again c'), own, tk, cert, eqs) => match c'.quiet with
        | true => run V n α d own tk cert eqs (.code c' k)
        | false => none
      | some (.error e, own, tk, cert, eqs) => run V n α d own tk cert eqs (.tree (k (.error e)))
      | none => none
    match c with
    | .call (.ref a) args => match cert with
      | 0 :: cs => match V.K a with
        | some o => match o.data with
          | .func fd => match d, fd.body, fd.scope.isCoroutine, fd.scope.isGenerator, V.cI fd.code fd.qualname with
            | _ + 1, .stmts body, false, false, true => match run V n (List (Str × Value)) 0 own tk cs eqs (.tree (bindQ fd args)) with
              | some (.ok binds, own, tk, cert, eqs) => match run V n Env 0 own tk cert eqs (.tree (envQ fd binds a)) with
                | some (.ok env, own, tk, cert, eqs) => run V n α d own tk cert eqs (.code (.func body env) k)
                | _ => none
              | _ => none
            | _, _, _, _, _ => none
          | _ => plain ()
        | none => plain ()
      | _ => plain ()
    | _ => plain ()
  | n + 1, α, d, own, tk, cert, eqs, .tree t => match t with
    | .pure a => some (.ok a, own, tk, cert, eqs)
    | .raise e => some (.error e, own, tk, cert, eqs)
    | .rule _ k => run V n α d own tk cert eqs (.tree (k ()))
    | .at _ k => run V n α d own tk cert eqs (.tree (k ()))
    | .point _ k => run V n α d own tk cert eqs (.tree (k ()))
    | .ask k => run V n α d own tk cert eqs (.tree (k V.S))
    | .fresh k => run V n α d own (tk + 1) cert eqs (.tree (k tk))
    | .handled false k => run V n α d own tk cert eqs (.tree (k none))
    | .load a _ k => match cert with
      | 0 :: cs => match V.K a with
        | some o => run V n α d own tk cs eqs (.tree (k o))
        | none => none
      | (c + 1) :: cs => match c % 2 with
        | 0 => match own[c / 2]? with
          | some o => run V n α d own tk cs ((a, V.N + c / 2) :: eqs) (.tree (k o))
          | none => none
        | _ => match V.giv[c / 2]? with
          | some p => run V n α d own tk cs ((a, p.1) :: eqs) (.tree (k p.2))
          | none => none
      | [] => none
    | .update a _ f k => match cert with
      | (c + 1) :: cs => match c % 2 with
        | 0 => match own[c / 2]? with
          | some o => normO (f o) fun o' => match o'.isFreed with
            | false => setL o' own (c / 2) fun own' => run V n α d own' tk cs ((a, V.N + c / 2) :: eqs) (.tree (k ()))
            | true => none
          | none => none
        | _ => none
      | _ => none
    | .alloc o k => normO o fun o' => match o'.isFreed with
      | false => snocL o' own fun own' => run V n α d own' tk cert eqs (.tree (k (V.N + own.length)))
      | true => none
    | .call c none _ _ k => run V n α d own tk cert eqs (.code c k)
    | _ => none
end Mine
namespace Mine
structure Rep (V : Tab) (h₀ h : Heap) (own : List Obj) : Prop where
  size : h.objs.size = V.N + own.length
  own : ∀ i o, own[i]? = some o → h.get? (V.N + i) = some o
  keep : ∀ b o, h₀.get? b = some o → h.get? b = some o
structure Tab.Ok (V : Tab) (prog : Program) (w : World) (h₀ : Heap) : Prop where
  size : h₀.objs.size = V.N
  K : ∀ a o, V.K a = some o → h₀.get? a = some o
  giv : ∀ p ∈ V.giv, h₀.get? p.1 = some p.2
  S : V.S = ⟨prog, w.params⟩
  cI : ∀ h : Heap, (∀ b o, h₀.get? b = some o → h.get? b = some o) → ∀ c q, V.cI c q = true → h.CodeRec c q
  lim : h₀.NoLimit
noncomputable def outOf {α : Type} (Q : α → Shared → Prop) (E : Value → Shared → Prop) (r : Except Value α) (s : Shared) : Prop := match r with
  | .ok a => Q a s
  | .error e => E e s
noncomputable def Room (d : Nat) (A : Around) : Prop := A.handled = none ∧ (d = 0 ∨ A.depth + d ≤ 999)
noncomputable def JobOk {α : Type} (M : Model) (d : Nat) (Q : α → Shared → Prop) (E : Value → Shared → Prop) (s : Shared) : Job α → Prop
  | .tree t => ∀ A : Around, Room d A → wpAny M A t Q E s
  | .code c k => ∀ A A₀ : Around, Room d A → Room d A₀ → codeAny M A c (fun r s' => wpAny M A₀ (k r) Q E s') s
theorem room_in {d : Nat} {A : Around} (c : Code) (h : Room d A) : Room (depIn c d) (A.under c) := by
  refine ⟨h.1, ?_⟩
  cases c <;> first
    | exact .inl rfl
    | (rcases h.2 with rfl | h2
       · exact .inl rfl
       · refine .inr ?_; show A.depth + Code.weight _ + _ ≤ 999; exact h2)
    | (rcases h.2 with rfl | h2
       · exact .inl rfl
       · cases d with
         | zero => exact .inl rfl
         | succ d => refine .inr ?_; show A.depth + 1 + d ≤ 999; have h3 : A.depth + (d + 1) ≤ 999 := h2; rw [Nat.add_assoc, Nat.add_comm 1 d]; exact h3)
theorem room_zero {d : Nat} {A : Around} (h : Room d A) : Room 0 A.in1 := ⟨h.1, .inl rfl⟩
theorem room_mark {d : Nat} {A : Around} (h : Room d A) : Room d (A.mark none) := h
section
variable {V : Tab} {h₀ h : Heap} {own : List Obj}
theorem Rep.alloc (D : Rep V h₀ h own) {o : Obj} (hf : o.isFreed = false) : Rep V h₀ (h.push o) (own ++ [o]) := by
  refine ⟨by rw [Heap.size_push, D.size, List.length_append]; rfl, fun i o' e => ?_, fun b o' e => Heap.get?_push_of_some _ (D.keep b o' e)⟩
  by_cases hi : i < own.length
  · rw [List.getElem?_append_left hi] at e
    exact Heap.get?_push_of_some _ (D.own i o' e)
  · rw [List.getElem?_append_right (Nat.le_of_not_lt hi)] at e
    have hz : i - own.length = 0 := by
      rcases Nat.eq_zero_or_pos (i - own.length) with z | z
      · exact z
      · rw [List.getElem?_eq_none (show [o].length ≤ i - own.length from z)] at e; cases e
    rw [hz] at e
    cases e
    have : V.N + i = h.objs.size := by
      have h3 := Nat.le_of_not_lt hi
      rw [D.size, show i = own.length from Nat.le_antisymm (Nat.le_of_sub_eq_zero hz) h3]
    rw [this]; exact Heap.get?_push_size _ hf
theorem Rep.update (D : Rep V h₀ h own) (hs : h₀.objs.size = V.N) {i : Nat} {o : Obj} {f : Obj → Obj} (e : own[i]? = some o) (hf : (f o).isFreed = false) : Rep V h₀ (h.update (V.N + i) f) (own.set i (f o)) := by
  have ho := D.own i o e
  have sb : Heap.SameBut (V.N + i) h (h.update (V.N + i) f) := Heap.SameBut.update ..
  obtain ⟨hl, _⟩ := List.getElem?_eq_some_iff.mp e
  refine ⟨by rw [sb.1, D.size, List.length_set], fun j o' e' => ?_, fun b o' e' => ?_⟩
  · by_cases hj : j = i
    · subst hj
      rw [List.getElem?_set_self hl] at e'
      cases e'
      exact Heap.get?_update_self f ho hf
    · rw [List.getElem?_set_ne (Ne.symm hj)] at e'
      exact (sb.2 _ fun q => hj (Nat.add_left_cancel q)).trans (D.own j o' e')
  · have : b < V.N := hs ▸ Heap.lt_size e'
    exact (sb.2 b fun q => absurd this (by rw [q]; exact Nat.not_lt.mpr (Nat.le_add_right _ _))).trans (D.keep b o' e')
end
end Mine
namespace Mine
/-- what one run says -/
noncomputable def Says {α : Type} (prog : Program) (w : World) (V : Tab) (h₀ : Heap) (d : Nat) (own : List Obj) (tk : Nat) (eqs : Eqs) (j : Job α) (r : Except Value α) (own' : List Obj) (tk' : Nat) (eqs' : Eqs) : Prop :=
  AllEq eqs' → AllEq eqs ∧ ∀ (s : Shared) (Q : α → Shared → Prop) (E : Value → Shared → Prop), s.toks = tk → Rep V h₀ s.heap own → (∀ h', Rep V h₀ h' own' → outOf Q E r { s with heap := h', toks := tk' }) → JobOk (model prog w) d Q E s j
section
variable {prog : Program} {w : World} {V : Tab} {h₀ : Heap}
theorem says_step {α : Type} {d : Nat} {own own₁ own' : List Obj} {tk tk₁ tk' : Nat} {eqs eqs₁ eqs' : Eqs} {t t₁ : Sem α} {r : Except Value α} (h : Says prog w V h₀ d own₁ tk₁ eqs₁ (.tree t₁) r own' tk' eqs')
    (he : AllEq eqs₁ → AllEq eqs)
    (st : AllEq eqs₁ → ∀ (s : Shared) (Q : α → Shared → Prop) (E : Value → Shared → Prop) (A : Around), A.handled = none → s.toks = tk → Rep V h₀ s.heap own → (∀ h₁, Rep V h₀ h₁ own₁ → wpAny (model prog w) A t₁ Q E { s with heap := h₁, toks := tk₁ }) → wpAny (model prog w) A t Q E s) :
    Says prog w V h₀ d own tk eqs (.tree t) r own' tk' eqs' := fun ha => by
  obtain ⟨a, b⟩ := h ha
  exact ⟨he a, fun s Q E e D q A hA => st a s Q E A hA.1 e D fun h₁ D₁ => b { s with heap := h₁, toks := tk₁ } Q E rfl D₁ (fun h' D' => q h' D') A hA⟩
theorem run_sound (O : V.Ok prog w h₀) : ∀ (n : Nat) (α : Type) (d : Nat) (own : List Obj) (tk : Nat) (cert : List Nat) (eqs : Eqs) (j : Job α) (r : Except Value α) (own' : List Obj) (tk' : Nat) (cert' : List Nat) (eqs' : Eqs),
    run V n α d own tk cert eqs j = some (r, own', tk', cert', eqs') → Says prog w V h₀ d own tk eqs j r own' tk' eqs'
  | 0, _, _, _, _, _, _, _, _, _, _, _, _, h => by cases h
  | n + 1, α, d, own, tk, cert, eqs, .tree t, r, own', tk', cert', eqs', h => by
    have IH := run_sound O n
    unfold run at h
    split at h
    · cases h; exact fun ha => ⟨ha, fun s Q E e D q A hA => wpAny_pure (by have := q s.heap D; subst e; exact this)⟩
    · cases h; exact fun ha => ⟨ha, fun s Q E e D q A hA => wpAny_throw (by have := q s.heap D; subst e; exact this)⟩
    · exact says_step (IH _ _ _ _ _ _ _ _ _ _ _ _ h) id fun _ s Q E A hA e D q => X.x_rule (by have := q s.heap D; subst e; exact this)
    · exact says_step (IH _ _ _ _ _ _ _ _ _ _ _ _ h) id fun _ s Q E A hA e D q => X.x_at (by have := q s.heap D; subst e; exact this)
    · exact says_step (IH _ _ _ _ _ _ _ _ _ _ _ _ h) id fun _ s Q E A hA e D q => X.x_point (by have := q s.heap D; subst e; exact this)
    · exact says_step (IH _ _ _ _ _ _ _ _ _ _ _ _ h) id fun _ s Q E A hA e D q => X.x_ask (by have := q s.heap D; subst e; rw [O.S] at this; exact this)
    · exact says_step (IH _ _ _ _ _ _ _ _ _ _ _ _ h) id fun _ s Q E A hA e D q => X.x_fresh (by have := q s.heap D; subst e; exact this)
    · exact says_step (IH _ _ _ _ _ _ _ _ _ _ _ _ h) id fun _ s Q E A hA e D q => X.x_handled (by have := q s.heap D; subst e; rw [hA]; exact this)
    · rename_i a pt k
      split at h
      · rename_i cs
        split at h
        · rename_i o ho
          exact says_step (IH _ _ _ _ _ _ _ _ _ _ _ _ h) id fun _ s Q E A hA e D q => X.x_load (D.keep _ _ (O.K _ _ ho)) (by have := q s.heap D; subst e; exact this)
        · cases h
      · rename_i c cs
        split at h
        · split at h
          · rename_i o ho
            refine says_step (IH _ _ _ _ _ _ _ _ _ _ _ _ h) (fun z => z.2) fun z s Q E A hA e D q => ?_
            have ea : a = V.N + c / 2 := z.1
            exact X.x_load (by rw [ea]; exact D.own _ _ ho) (by have := q s.heap D; subst e; exact this)
          · cases h
        · split at h
          · rename_i p hp
            refine says_step (IH _ _ _ _ _ _ _ _ _ _ _ _ h) (fun z => z.2) fun z s Q E A hA e D q => ?_
            have ea : a = p.1 := z.1
            exact X.x_load (by rw [ea]; exact D.keep _ _ (O.giv p (List.mem_of_getElem? hp))) (by have := q s.heap D; subst e; exact this)
          · cases h
      · cases h
    · rename_i a pt f k
      split at h
      · rename_i c cs
        split at h
        · split at h
          · rename_i o ho
            rw [normO_eq] at h
            split at h
            · rename_i hf
              rw [setL_eq] at h
              refine says_step (IH _ _ _ _ _ _ _ _ _ _ _ _ h) (fun z => z.2) fun z s Q E A hA e D q => ?_
              have ea : a = V.N + c / 2 := z.1
              refine wpAny_bind (m := updatePart a pt f) (f := k) (wpAny_updatePart (by rw [ea]; exact D.own _ _ ho) ?_)
              have := q (s.heap.update a f) (by rw [ea]; exact D.update O.size ho hf)
              subst e; exact this
            · cases h
          · cases h
        · cases h
      · cases h
    · rename_i o k
      rw [normO_eq] at h
      split at h
      · rename_i hf
        rw [snocL_eq] at h
        refine says_step (IH _ _ _ _ _ _ _ _ _ _ _ _ h) id fun _ s Q E A hA e D q => ?_
        refine wpAny_bind (m := alloc o) (f := k) (wpAny_alloc ?_)
        have := q (s.heap.push o) (D.alloc hf)
        rw [D.size]
        subst e; exact this
      · cases h
    · rename_i c g l k
      intro ha
      obtain ⟨a, b⟩ := IH _ _ _ _ _ _ _ _ _ _ _ _ h ha
      exact ⟨a, fun s Q E e D q A hA => X.x_call (b s Q E e D q (A.mark none) A (room_mark hA) hA) (by intro x; cases x)⟩
    · cases h
  | n + 1, α, d, own, tk, cert, eqs, .code c k, r, own', tk', cert', eqs', h => by
    have IH := run_sound O n
    have plain : (match run V n Fin (depIn c d) own tk cert eqs (.tree (denQ c)) with
      | some (.ok (.done f), own, tk, cert, eqs) => run V n α d own tk cert eqs (.tree (k (.ok f)))
      | some (.ok (.again c'), own, tk, cert, eqs) => match c'.quiet with
        | true => run V n α d own tk cert eqs (.code c' k)
        | false => none
      | some (.error e, own, tk, cert, eqs) => run V n α d own tk cert eqs (.tree (k (.error e)))
      | none => none) = some (r, own', tk', cert', eqs') → Says prog w V h₀ d own tk eqs (.code c k) r own' tk' eqs' := by
      intro h ha
      have den : (model prog w).den c = denQ c := denQ_eq c
      split at h
      · rename_i f own₁ tk₁ cert₁ eqs₁ h₁
        obtain ⟨a, b⟩ := IH _ _ _ _ _ _ _ _ _ _ _ _ h ha
        obtain ⟨a', b'⟩ := IH _ _ _ _ _ _ _ _ _ _ _ _ h₁ a
        refine ⟨a', fun s Q E e D q A A₀ hA hA₀ => codeAny_of_tree ?_⟩
        rw [den]
        exact b' s (fun fin s' => match fin with | .done f => wpAny (model prog w) A₀ (k (.ok f)) Q E s' | .again c' => c'.quiet = true ∧ codeAny (model prog w) A c' (fun r s' => wpAny (model prog w) A₀ (k r) Q E s') s') (fun e s' => wpAny (model prog w) A₀ (k (.error e)) Q E s') e D (fun h₂ D₂ => b { s with heap := h₂, toks := tk₁ } Q E rfl D₂ (fun h' D' => q h' D') A₀ hA₀) (A.under c) (room_in c hA)
      · rename_i c' own₁ tk₁ cert₁ eqs₁ h₁
        split at h
        · rename_i hq
          obtain ⟨a, b⟩ := IH _ _ _ _ _ _ _ _ _ _ _ _ h ha
          obtain ⟨a', b'⟩ := IH _ _ _ _ _ _ _ _ _ _ _ _ h₁ a
          refine ⟨a', fun s Q E e D q A A₀ hA hA₀ => codeAny_of_tree ?_⟩
          rw [den]
          exact b' s (fun fin s' => match fin with | .done f => wpAny (model prog w) A₀ (k (.ok f)) Q E s' | .again c' => c'.quiet = true ∧ codeAny (model prog w) A c' (fun r s' => wpAny (model prog w) A₀ (k r) Q E s') s') (fun e s' => wpAny (model prog w) A₀ (k (.error e)) Q E s') e D (fun h₂ D₂ => ⟨hq, b { s with heap := h₂, toks := tk₁ } Q E rfl D₂ (fun h' D' => q h' D') A A₀ hA hA₀⟩) (A.under c) (room_in c hA)
        · cases h
      · rename_i e' own₁ tk₁ cert₁ eqs₁ h₁
        obtain ⟨a, b⟩ := IH _ _ _ _ _ _ _ _ _ _ _ _ h ha
        obtain ⟨a', b'⟩ := IH _ _ _ _ _ _ _ _ _ _ _ _ h₁ a
        refine ⟨a', fun s Q E e D q A A₀ hA hA₀ => codeAny_of_tree ?_⟩
        rw [den]
        exact b' s (fun fin s' => match fin with | .done f => wpAny (model prog w) A₀ (k (.ok f)) Q E s' | .again c' => c'.quiet = true ∧ codeAny (model prog w) A c' (fun r s' => wpAny (model prog w) A₀ (k r) Q E s') s') (fun e s' => wpAny (model prog w) A₀ (k (.error e)) Q E s') e D (fun h₂ D₂ => b { s with heap := h₂, toks := tk₁ } Q E rfl D₂ (fun h' D' => q h' D') A₀ hA₀) (A.under c) (room_in c hA)
      · cases h
    unfold run at h
    dsimp only at h
    split at h
    · rename_i a args
      split at h
      · rename_i cs
        split at h
        · rename_i o ho
          split at h
          · rename_i fd hfd
            split at h
            · rename_i d body hbody hco hgen hcI
              split at h
              · rename_i binds own₁ tk₁ cert₁ eqs₁ h₁
                split at h
                · rename_i env own₂ tk₂ cert₂ eqs₂ h₂
                  intro ha
                  obtain ⟨a3, b3⟩ := IH _ _ _ _ _ _ _ _ _ _ _ _ h ha
                  obtain ⟨a2, b2⟩ := IH _ _ _ _ _ _ _ _ _ _ _ _ h₂ a3
                  obtain ⟨a1, b1⟩ := IH _ _ _ _ _ _ _ _ _ _ _ _ h₁ a2
                  refine ⟨a1, fun s Q E e D q A A₀ hA hA₀ => ?_⟩
                  refine codeAny_call_function (by
                      rcases hA.2 with z | z
                      · cases z
                      · exact Nat.lt_of_le_of_lt (Nat.le_trans (Nat.le_add_right _ _) z) (by decide))
                    (D.keep _ _ (O.K _ _ ho)) hfd hco hgen hbody (O.cI _ D.keep _ _ hcI) ?_
                  rw [bindQ_eq]
                  refine b1 s (fun binds s₁ => wpAny (model prog w) A.in1 (newFunctionEnv fd.scope fd.globals fd.closure binds (fd.qualname ++ ".<locals>.") (some a) fd.code none fd.builtins)
                    (fun env s₂ => s₂.heap.NoLimit ∧ codeAny (model prog w) A (.func body env) (fun r s' => wpAny (model prog w) A₀ (k r) Q E s') s₂) (fun e s' => wpAny (model prog w) A₀ (k (.error e)) Q E s') s₁)
                    (fun e s' => wpAny (model prog w) A₀ (k (.error e)) Q E s') e D (fun h₁' D₁ => ?_) A.in1 (room_zero hA)
                  show wpAny (model prog w) A.in1 (newFunctionEnv fd.scope fd.globals fd.closure binds (fd.qualname ++ ".<locals>.") (some a) fd.code none fd.builtins) _ _ _
                  rw [envQ_eq]
                  refine b2 { s with heap := h₁', toks := tk₁ } (fun env s₂ => s₂.heap.NoLimit ∧ codeAny (model prog w) A (.func body env) (fun r s' => wpAny (model prog w) A₀ (k r) Q E s') s₂) (fun e s' => wpAny (model prog w) A₀ (k (.error e)) Q E s') rfl D₁ (fun h₂' D₂ => ?_) A.in1 (room_zero hA)
                  exact ⟨O.lim.keeps D₂.keep, b3 { s with heap := h₂', toks := tk₂ } Q E rfl D₂ (fun h' D' => q h' D') A A₀ hA hA₀⟩
                · cases h
              · cases h
            · cases h
          · exact plain h
        · exact plain h
      · exact plain h
    · exact plain h
end
end Mine
namespace Mine
/-- the two rows of the world's that the texts hang on, written out -/
noncomputable def mkP (P : Params) (b c : Bool) : Params := { P with followText := fun r => match decide (r = "special-get-raises") with
  | true => b
  | false => match decide (r = "comprehension-iter-twice") with
    | true => c
    | false => P.followText r }
theorem mkP_eq (P : Params) : P = mkP P (P.followText "special-get-raises") (P.followText "comprehension-iter-twice") := by
  obtain ⟨a1, a2, a3, a4, a5, ft, a7⟩ := P
  unfold mkP
  congr 1
  funext r
  by_cases h : r = "special-get-raises"
  · subst h; simp
  · by_cases h2 : r = "comprehension-iter-twice"
    · subst h2; simp
    · simp [h, h2]
noncomputable def lookN : Frag → Nat → Option Obj
  | [], _ => none
  | p :: r, a => match Nat.beq p.1 a with
    | true => some p.2
    | false => lookN r a
theorem lookN_eq : ∀ {K : Frag} {a : Nat} {o : Obj}, lookN K a = some o → K.lookup a = some o
  | [], _, _, h => by cases h
  | p :: r, a, o, h => by
    unfold lookN at h
    split at h
    · rename_i e
      have e' : p.1 = a := Nat.eq_of_beq_eq_true e
      subst e'
      show List.lookup p.1 ((p.1, p.2) :: r) = _
      rw [List.lookup_cons, beq_self_eq_true]
      exact h
    · rename_i e
      have e' : ¬ a = p.1 := fun q => by rw [q, Nat.beq_refl] at e; cases e
      show List.lookup a ((p.1, p.2) :: r) = _
      rw [List.lookup_cons, beq_eq_false_iff_ne.mpr e']
      exact lookN_eq h
noncomputable def clm (N : Nat) (giv : List (Nat × Obj)) : List Nat → Eqs → Eqs
  | [], e => e
  | 0 :: cs, e => clm N giv cs e
  | (c + 1) :: cs, e => match c % 2 with
    | 0 => clm N giv cs ((N + c / 2, N + c / 2) :: e)
    | _ => match giv[c / 2]? with
      | some p => clm N giv cs ((p.1, p.1) :: e)
      | none => clm N giv cs e
theorem clm_ok {N : Nat} {giv : List (Nat × Obj)} : ∀ (cs : List Nat) (e : Eqs), AllEq e → AllEq (clm N giv cs e)
  | [], _, h => h
  | 0 :: cs, e, h => clm_ok cs e h
  | (c + 1) :: cs, e, h => by
    unfold clm
    split
    · exact clm_ok cs _ ⟨rfl, h⟩
    · split
      · exact clm_ok cs _ ⟨rfl, h⟩
      · exact clm_ok cs _ h
noncomputable def out3 {α : Type} (r : Except Value α × List Obj × Nat × List Nat × Eqs) : Except Value α × Nat × Eqs := (r.1, r.2.2.1, r.2.2.2.2)
noncomputable abbrev tabOf (K : Frag) (prog : Program) (P : Params) (N : Nat) (giv : List (Nat × Obj)) : Tab := ⟨lookN K, codeIn K, ⟨prog, P⟩, N, giv⟩
theorem tabOf_ok {K : Frag} {prog : Program} {w : World} {h : Heap} {giv : List (Nat × Obj)} (X : K.In h) (hl : h.NoLimit) (hg : ∀ p ∈ giv, h.get? p.1 = some p.2) : (tabOf K prog w.params h.objs.size giv).Ok prog w h :=
  ⟨rfl, fun a o e => X a o (lookN_eq e), hg, rfl, fun h' k c q e => codeRec_of (X.keeps k) e, hl⟩
theorem run_tree {α : Type} {K : Frag} {prog : Program} {w : World} {A : Around} {s : Shared} {giv : List (Nat × Obj)} {t : Sem α} {v : α} {tk' : Nat} {Q : α → Shared → Prop} {E : Value → Shared → Prop} (n d : Nat) (cert : List Nat)
    (X : K.In s.heap) (hl : s.heap.NoLimit) (hg : ∀ p ∈ giv, s.heap.get? p.1 = some p.2) (hA : A.handled = none) (hd : A.depth + d ≤ 999)
    (h : (run (tabOf K prog w.params s.heap.objs.size giv) n α d [] s.toks cert [] (.tree t)).map out3 = some (.ok v, tk', clm s.heap.objs.size giv cert []))
    (q : ∀ h', (∀ b o, s.heap.get? b = some o → h'.get? b = some o) → Q v { s with heap := h', toks := tk' }) : wpAny (model prog w) A t Q E s := by
  obtain ⟨r, hr, e⟩ := Option.map_eq_some_iff.mp h
  obtain ⟨r1, own', tk2, cert', eqs'⟩ := r
  have e1 : r1 = .ok v := congrArg Prod.fst e
  have e2 : tk2 = tk' := congrArg (fun x => x.2.1) e
  have e3 : eqs' = clm s.heap.objs.size giv cert [] := congrArg (fun x => x.2.2) e
  subst e1 e2 e3
  have z := run_sound (tabOf_ok X hl hg) n α d [] s.toks cert [] (.tree t) _ own' _ cert' _ hr (clm_ok cert [] trivial)
  exact z.2 s Q E rfl ⟨rfl, fun i o e => (nomatch e), fun _ _ e => e⟩ (fun h' D => q h' D.keep) A ⟨hA, .inr hd⟩
end Mine
namespace Mine
noncomputable abbrev loose3 : List Str := looseW MineX.hd.view_39 [Str.ofString "_name_disallowed_re", Str.ofString "_value_disallowed_re", Str.ofString "_QUOPRI_MAP", Str.ofString "_QUOPRI_HEADER_MAP", Str.ofString "_QUOPRI_BODY_MAP",
      Str.ofString "ascii_letters", Str.ofString "hexdigits", Str.ofString "_QUOPRI_BODY_ENCODE_MAP", Str.ofString "body_encode", Str.ofString "decode"]
noncomputable abbrev prog3 : Program := PySem.Challenge.rw_rl0125_01.row.prog
noncomputable abbrev noE : Value → Shared → Prop := fun _ _ => False
noncomputable abbrev Aq (n : Nat) : Around := { handled := none, depth := 900 - 20 * n, frames := none, guards := none, units := 9000 - 300 * n }

theorem weaken {α : Type} {M : Model} {A B : Around} {t : Sem α} {Q : α → Shared → Prop} {E : Value → Shared → Prop} {s : Shared}
    (h : wpAny M B t Q E s) (hh : A.handled = B.handled) (hd : A.depth ≤ B.depth) (hu : A.units ≤ B.units) (hf : B.frames = none) (hg : B.guards = none) : wpAny M A t Q E s :=
  fun Γ p hΓ => h Γ p ⟨hΓ.1.trans hh, Nat.le_trans hΓ.2.1 hd, fun l e => (by rw [hf] at e; cases e), fun l e => (by rw [hg] at e; cases e), Nat.le_trans hΓ.2.2.2.2 hu⟩

structure G3 (w : World) (mean : ExcName → Option Value) (mg mb : Str → Option Value) (h₀ : Heap) : Prop where
  X : (MineX.hd.heap_39 w.params).In h₀
  T : Top MineX.hd.view_39 loose3 mean mg mb h₀

section
variable {w : World} {mean : ExcName → Option Value} {mg mb : Str → Option Value} {h₀ : Heap}

theorem stays_hide {h₀ h : Heap} {hid : List (Addr × Obj)} (hs : h₀.StaysIn h) (hn : ∀ p ∈ hid, h₀.get? p.1 = none) : h₀.StaysIn (hideAll h (hid.map (·.1))) := fun b o e =>
  hideAll_get _ (hs b o e) fun q => by
    obtain ⟨p, hp, rfl⟩ := List.mem_map.mp q
    rw [hn p hp] at e; cases e

theorem enter0 {A : Around} {s : Shared} {f : Addr} {args : Args} {R : Result → Shared → Prop} {name qual : Str} {params : Arguments} {body : List Stmt} {scope : Scope} {dV kV doc pm cdv ct oc : Value} {an od : Option Addr} {osl : Array (Option Value)} {ix : List Nat} {dec : List Expr} {ret : Option Expr} {tp : List TypeParam} {ts : Option Scope} {bnd : Str} {ps : Pos}
    {binds : List (Str × Value)} {hid : List (Addr × Obj)} (G : G3 w mean mg mb h₀) (hs : h₀.StaysIn s.heap) (hN : ∀ p ∈ hid, s.heap.get? p.1 = some p.2 ∧ h₀.get? p.1 = none)
    (ho : (MineX.hd.heap_39 w.params).lookup f = some ⟨oc, od, .func (fnOf (fName (stA MineX.P0 ix)) qual (fArgs (stA MineX.P0 ix)) (fBody (stA MineX.P0 ix)) (fScope (stA MineX.P0 ix)) dV kV doc pm an cdv ct), osl⟩) (hcd : codeIn (MineX.hd.heap_39 w.params) cdv qual = true) (hst : stA MineX.P0 ix = some (.FunctionDef name params body dec ret tp scope ts bnd ps)) (hroom : A.depth < recursionLimit)
    (hbind : BindsTo s (fnOf name qual params body scope dV kV doc pm an cdv ct) args binds) (hloc : ∀ y ∈ binds, scope.names.lookup y.1 = some .local)
    (h : ∀ g L h₁, g = hideAll s.heap (hid.map (·.1)) → h₀.StaysIn g → Fr g L h₁ (fun y => binds.reverse.lookup y) → News g L h₁ hid → (MineX.hd.heap_39 w.params).In g → Top MineX.hd.view_39 loose3 mean mg mb g → (∀ p ∈ hid, p.1 < L) →
      wpAny (model prog3 w) (A.deeper (envOf qual scope L f cdv)) (execs body (envOf qual scope L f cdv))
        (fun fl s' => R (.ok (.ret (match fl with | .ret v => v | _ => .none))) s') noE { s with heap := h₁, toks := s.toks + binds.length })
    (hco : scope.isCoroutine = false) (hgen : scope.isGenerator = false) (hk : scope.kind = .function)
    (hcell : ∀ x ∈ scope.names, x.2 ≠ .cell) : codeAny (model prog3 w) A (.call (.ref f) args) R s := by
  rw [hst] at ho
  replace ho : (MineX.hd.heap_39 w.params).lookup f = some ⟨oc, od, .func (fnOf name qual params body scope dV kV doc pm an cdv ct), osl⟩ := ho
  have X := G.X.keeps hs
  refine codeAny_call_def (fd := fnOf name qual params body scope dV kV doc pm an cdv ct) (body := body) (binds := binds) hroom (X _ _ ho) rfl (G.T.nolimit.keeps hs) (codeRec_of X hcd) rfl hbind hcell hloc (fun h₁ hns hk₁ => ?_) hco hgen hk
  have st := stays_hide hs (fun p hp => (hN p hp).2)
  refine wpAny_mono (h (hideAll s.heap (hid.map Prod.fst)) s.heap.objs.size h₁ rfl st ⟨hns, fun b o e => hk₁ b o (of_hideAll _ e), Nat.le_of_eq (hideAll_size _ _)⟩
    (fun p hp => ⟨hk₁ _ _ (hN p hp).1, Nat.ne_of_lt (Heap.lt_size (hN p hp).1), hideAll_none _ (List.mem_map_of_mem hp)⟩) (G.X.keeps fun b o e => st b o e) (G.T.keeps fun b o e => st b o e) (fun p hp => Heap.lt_size (hN p hp).1)) (fun _ _ x => x) fun _ _ x => x.elim
end
structure Post (R : Value → Prop) (s : Shared) (v : Value) (s' : Shared) : Prop where
  val : R v
  keeps : Keeps s s'
noncomputable abbrev IsStr (x : Str) (v : Value) : Prop := ∃ t, v = .str x t
section
variable {w : World} {mean : ExcName → Option Value} {mg mb : Str → Option Value} {h₀ : Heap}
theorem post_end {R : Value → Prop} {s : Shared} {h' : Heap} {tk : Nat} {v : Value} {L : Addr} {m : Str → Option Value} (F : Fr s.heap L h' m) (hv : R v) : Post R s v { s with heap := h', toks := tk } := ⟨hv, _, _, rfl, F.keep⟩
structure Fits (A : Around) (k : Nat) : Prop where
  h : A.handled = none
  d : A.depth ≤ 900 - 20 * k
  u : A.units ≤ 9000 - 300 * k
theorem use0 {A : Around} {t : Sem Value} {R : Value → Prop} {k : Nat} {s : Shared} {b : Heap} {L : Addr} {m : Str → Option Value} {news : List (Addr × Obj)} {Q E : Value → Shared → Prop}
    (spec : wpAny (model prog3 w) (Aq k) t (Post R s) noE s) (hA : Fits A k) (F : Fr b L s.heap m) (N : News b L s.heap news)
    (h : ∀ v h' tk', R v → Fr b L h' m → News b L h' news → Q v { s with heap := h', toks := tk' }) : wpAny (model prog3 w) A t Q E s := by
  refine wpAny_mono (weaken spec hA.h hA.d hA.u rfl rfl) (fun v s' p => ?_) fun _ _ x => x.elim
  obtain ⟨h', tk', rfl, hk⟩ := p.keeps
  exact h v h' tk' p.val (F.keeps hk) (N.keeps hk)
theorem use_str {A : Around} {t : Sem Value} {x : Str} {k : Nat} {s : Shared} {b : Heap} {L : Addr} {m : Str → Option Value} {news : List (Addr × Obj)} {Q E : Value → Shared → Prop}
    (spec : wpAny (model prog3 w) (Aq k) t (Post (IsStr x) s) noE s) (hA : Fits A k) (F : Fr b L s.heap m) (N : News b L s.heap news)
    (h : ∀ t h' tk', Fr b L h' m → News b L h' news → Q (.str x t) { s with heap := h', toks := tk' }) : wpAny (model prog3 w) A t Q E s :=
  use0 spec hA F N fun v h' tk' hv F' N' => by obtain ⟨t, rfl⟩ := hv; exact h t h' tk' F' N'
/-- a contract out of a run by the kernel -/
theorem by_run {R : Value → Prop} {A : Around} {s : Shared} {t : Sem Value} {v : Value} {tk' : Nat} (G : G3 w mean mg mb h₀) (hs : h₀.StaysIn s.heap) (cert : List Nat) (hA : A.handled = none) (hd : A.depth + 5 ≤ 999)
    (h : (run (tabOf (MineX.hd.heap_39 w.params) prog3 w.params s.heap.objs.size []) 9000 Value 5 [] s.toks cert [] (.tree t)).map out3 = some (.ok v, tk', clm s.heap.objs.size [] cert [])) (hv : R v) :
    wpAny (model prog3 w) A t (Post R s) noE s :=
  run_tree (giv := []) 9000 5 cert (G.X.keeps hs) (G.T.nolimit.keeps hs) (fun _ hp => nomatch hp) hA hd h fun h' k => ⟨hv, h', tk', rfl, k⟩
end
end Mine
namespace Mine
noncomputable abbrev c_cn0 : List Nat := [0, 1, 1, 1, 1, 1, 1, 0, 0, 1, 0, 0, 1, 0, 1, 1, 1, 0, 0, 0, 0, 1, 0, 0, 0, 1]
theorem k_cn0 (P : Params) (pr : Program) (N z t1 tk : Nat) : (run (tabOf (MineX.hd.heap_39 P) pr P N []) 9000 Value 5 [] tk c_cn0 [] (.tree (call (.ref 70) [.ref z, .str (Str.ofString "=6a=6a") t1] [(Str.ofString "name", .bool true)]))).map out3 = some (.ok (.str (Str.ofString "=6a=6a") t1), tk + 4, clm N [] c_cn0 []) := by
  rw [mkP_eq P]
  generalize P.followText "special-get-raises" = b
  cases b <;> kernel_rfl
noncomputable abbrev c_cn1 : List Nat := [0, 1, 1, 1, 1, 1, 1, 0, 0, 1, 0, 0, 1, 0, 1, 1, 1, 0, 0, 0, 0, 1, 0, 0, 0, 1]
theorem k_cn1 (P : Params) (pr : Program) (N z t1 tk : Nat) : (run (tabOf (MineX.hd.heap_39 P) pr P N []) 9000 Value 5 [] tk c_cn1 [] (.tree (call (.ref 70) [.ref z, .str (Str.ofString "=6a=4a") t1] [(Str.ofString "name", .bool true)]))).map out3 = some (.ok (.str (Str.ofString "=6a=4a") t1), tk + 4, clm N [] c_cn1 []) := by
  rw [mkP_eq P]
  generalize P.followText "special-get-raises" = b
  cases b <;> kernel_rfl
noncomputable abbrev c_cn2 : List Nat := [0, 1, 1, 1, 1, 1, 1, 0, 0, 1, 0, 0, 1, 0, 1, 1, 1, 0, 0, 0, 0, 1, 0, 0, 0, 1]
theorem k_cn2 (P : Params) (pr : Program) (N z t1 tk : Nat) : (run (tabOf (MineX.hd.heap_39 P) pr P N []) 9000 Value 5 [] tk c_cn2 [] (.tree (call (.ref 70) [.ref z, .str (Str.ofString "=6a=6b") t1] [(Str.ofString "name", .bool true)]))).map out3 = some (.ok (.str (Str.ofString "=6a=6b") t1), tk + 4, clm N [] c_cn2 []) := by
  rw [mkP_eq P]
  generalize P.followText "special-get-raises" = b
  cases b <;> kernel_rfl
noncomputable abbrev c_cn3 : List Nat := [0, 1, 1, 1, 1, 1, 1, 0, 0, 1, 0, 0, 1, 0, 1, 1, 1, 0, 0, 0, 0, 1, 0, 0, 0, 1]
theorem k_cn3 (P : Params) (pr : Program) (N z t1 tk : Nat) : (run (tabOf (MineX.hd.heap_39 P) pr P N []) 9000 Value 5 [] tk c_cn3 [] (.tree (call (.ref 70) [.ref z, .str (Str.ofString "=6a=4b") t1] [(Str.ofString "name", .bool true)]))).map out3 = some (.ok (.str (Str.ofString "=6a=4b") t1), tk + 4, clm N [] c_cn3 []) := by
  rw [mkP_eq P]
  generalize P.followText "special-get-raises" = b
  cases b <;> kernel_rfl
noncomputable abbrev c_cn4 : List Nat := [0, 1, 1, 1, 1, 1, 1, 0, 0, 1, 0, 0, 1, 0, 1, 1, 1, 0, 0, 0, 0, 1, 0, 0, 0, 1]
theorem k_cn4 (P : Params) (pr : Program) (N z t1 tk : Nat) : (run (tabOf (MineX.hd.heap_39 P) pr P N []) 9000 Value 5 [] tk c_cn4 [] (.tree (call (.ref 70) [.ref z, .str (Str.ofString "=4a=6a") t1] [(Str.ofString "name", .bool true)]))).map out3 = some (.ok (.str (Str.ofString "=4a=6a") t1), tk + 4, clm N [] c_cn4 []) := by
  rw [mkP_eq P]
  generalize P.followText "special-get-raises" = b
  cases b <;> kernel_rfl
noncomputable abbrev c_cn5 : List Nat := [0, 1, 1, 1, 1, 1, 1, 0, 0, 1, 0, 0, 1, 0, 1, 1, 1, 0, 0, 0, 0, 1, 0, 0, 0, 1]
theorem k_cn5 (P : Params) (pr : Program) (N z t1 tk : Nat) : (run (tabOf (MineX.hd.heap_39 P) pr P N []) 9000 Value 5 [] tk c_cn5 [] (.tree (call (.ref 70) [.ref z, .str (Str.ofString "=4a=4a") t1] [(Str.ofString "name", .bool true)]))).map out3 = some (.ok (.str (Str.ofString "=4a=4a") t1), tk + 4, clm N [] c_cn5 []) := by
  rw [mkP_eq P]
  generalize P.followText "special-get-raises" = b
  cases b <;> kernel_rfl
noncomputable abbrev c_cn6 : List Nat := [0, 1, 1, 1, 1, 1, 1, 0, 0, 1, 0, 0, 1, 0, 1, 1, 1, 0, 0, 0, 0, 1, 0, 0, 0, 1]
theorem k_cn6 (P : Params) (pr : Program) (N z t1 tk : Nat) : (run (tabOf (MineX.hd.heap_39 P) pr P N []) 9000 Value 5 [] tk c_cn6 [] (.tree (call (.ref 70) [.ref z, .str (Str.ofString "=4a=6b") t1] [(Str.ofString "name", .bool true)]))).map out3 = some (.ok (.str (Str.ofString "=4a=6b") t1), tk + 4, clm N [] c_cn6 []) := by
  rw [mkP_eq P]
  generalize P.followText "special-get-raises" = b
  cases b <;> kernel_rfl
noncomputable abbrev c_cn7 : List Nat := [0, 1, 1, 1, 1, 1, 1, 0, 0, 1, 0, 0, 1, 0, 1, 1, 1, 0, 0, 0, 0, 1, 0, 0, 0, 1]
theorem k_cn7 (P : Params) (pr : Program) (N z t1 tk : Nat) : (run (tabOf (MineX.hd.heap_39 P) pr P N []) 9000 Value 5 [] tk c_cn7 [] (.tree (call (.ref 70) [.ref z, .str (Str.ofString "=4a=4b") t1] [(Str.ofString "name", .bool true)]))).map out3 = some (.ok (.str (Str.ofString "=4a=4b") t1), tk + 4, clm N [] c_cn7 []) := by
  rw [mkP_eq P]
  generalize P.followText "special-get-raises" = b
  cases b <;> kernel_rfl
noncomputable abbrev c_cn8 : List Nat := [0, 1, 1, 1, 1, 1, 1, 0, 0, 1, 0, 0, 1, 0, 1, 1, 1, 0, 0, 0, 0, 1, 0, 0, 0, 1]
theorem k_cn8 (P : Params) (pr : Program) (N z t1 tk : Nat) : (run (tabOf (MineX.hd.heap_39 P) pr P N []) 9000 Value 5 [] tk c_cn8 [] (.tree (call (.ref 70) [.ref z, .str (Str.ofString "=6b=6a") t1] [(Str.ofString "name", .bool true)]))).map out3 = some (.ok (.str (Str.ofString "=6b=6a") t1), tk + 4, clm N [] c_cn8 []) := by
  rw [mkP_eq P]
  generalize P.followText "special-get-raises" = b
  cases b <;> kernel_rfl
noncomputable abbrev c_cn9 : List Nat := [0, 1, 1, 1, 1, 1, 1, 0, 0, 1, 0, 0, 1, 0, 1, 1, 1, 0, 0, 0, 0, 1, 0, 0, 0, 1]
theorem k_cn9 (P : Params) (pr : Program) (N z t1 tk : Nat) : (run (tabOf (MineX.hd.heap_39 P) pr P N []) 9000 Value 5 [] tk c_cn9 [] (.tree (call (.ref 70) [.ref z, .str (Str.ofString "=6b=4a") t1] [(Str.ofString "name", .bool true)]))).map out3 = some (.ok (.str (Str.ofString "=6b=4a") t1), tk + 4, clm N [] c_cn9 []) := by
  rw [mkP_eq P]
  generalize P.followText "special-get-raises" = b
  cases b <;> kernel_rfl
noncomputable abbrev c_cn10 : List Nat := [0, 1, 1, 1, 1, 1, 1, 0, 0, 1, 0, 0, 1, 0, 1, 1, 1, 0, 0, 0, 0, 1, 0, 0, 0, 1]
theorem k_cn10 (P : Params) (pr : Program) (N z t1 tk : Nat) : (run (tabOf (MineX.hd.heap_39 P) pr P N []) 9000 Value 5 [] tk c_cn10 [] (.tree (call (.ref 70) [.ref z, .str (Str.ofString "=6b=6b") t1] [(Str.ofString "name", .bool true)]))).map out3 = some (.ok (.str (Str.ofString "=6b=6b") t1), tk + 4, clm N [] c_cn10 []) := by
  rw [mkP_eq P]
  generalize P.followText "special-get-raises" = b
  cases b <;> kernel_rfl
noncomputable abbrev c_cn11 : List Nat := [0, 1, 1, 1, 1, 1, 1, 0, 0, 1, 0, 0, 1, 0, 1, 1, 1, 0, 0, 0, 0, 1, 0, 0, 0, 1]
theorem k_cn11 (P : Params) (pr : Program) (N z t1 tk : Nat) : (run (tabOf (MineX.hd.heap_39 P) pr P N []) 9000 Value 5 [] tk c_cn11 [] (.tree (call (.ref 70) [.ref z, .str (Str.ofString "=6b=4b") t1] [(Str.ofString "name", .bool true)]))).map out3 = some (.ok (.str (Str.ofString "=6b=4b") t1), tk + 4, clm N [] c_cn11 []) := by
  rw [mkP_eq P]
  generalize P.followText "special-get-raises" = b
  cases b <;> kernel_rfl
noncomputable abbrev c_cn12 : List Nat := [0, 1, 1, 1, 1, 1, 1, 0, 0, 1, 0, 0, 1, 0, 1, 1, 1, 0, 0, 0, 0, 1, 0, 0, 0, 1]
theorem k_cn12 (P : Params) (pr : Program) (N z t1 tk : Nat) : (run (tabOf (MineX.hd.heap_39 P) pr P N []) 9000 Value 5 [] tk c_cn12 [] (.tree (call (.ref 70) [.ref z, .str (Str.ofString "=4b=6a") t1] [(Str.ofString "name", .bool true)]))).map out3 = some (.ok (.str (Str.ofString "=4b=6a") t1), tk + 4, clm N [] c_cn12 []) := by
  rw [mkP_eq P]
  generalize P.followText "special-get-raises" = b
  cases b <;> kernel_rfl
noncomputable abbrev c_cn13 : List Nat := [0, 1, 1, 1, 1, 1, 1, 0, 0, 1, 0, 0, 1, 0, 1, 1, 1, 0, 0, 0, 0, 1, 0, 0, 0, 1]
theorem k_cn13 (P : Params) (pr : Program) (N z t1 tk : Nat) : (run (tabOf (MineX.hd.heap_39 P) pr P N []) 9000 Value 5 [] tk c_cn13 [] (.tree (call (.ref 70) [.ref z, .str (Str.ofString "=4b=4a") t1] [(Str.ofString "name", .bool true)]))).map out3 = some (.ok (.str (Str.ofString "=4b=4a") t1), tk + 4, clm N [] c_cn13 []) := by
  rw [mkP_eq P]
  generalize P.followText "special-get-raises" = b
  cases b <;> kernel_rfl
noncomputable abbrev c_cn14 : List Nat := [0, 1, 1, 1, 1, 1, 1, 0, 0, 1, 0, 0, 1, 0, 1, 1, 1, 0, 0, 0, 0, 1, 0, 0, 0, 1]
theorem k_cn14 (P : Params) (pr : Program) (N z t1 tk : Nat) : (run (tabOf (MineX.hd.heap_39 P) pr P N []) 9000 Value 5 [] tk c_cn14 [] (.tree (call (.ref 70) [.ref z, .str (Str.ofString "=4b=6b") t1] [(Str.ofString "name", .bool true)]))).map out3 = some (.ok (.str (Str.ofString "=4b=6b") t1), tk + 4, clm N [] c_cn14 []) := by
  rw [mkP_eq P]
  generalize P.followText "special-get-raises" = b
  cases b <;> kernel_rfl
noncomputable abbrev c_cn15 : List Nat := [0, 1, 1, 1, 1, 1, 1, 0, 0, 1, 0, 0, 1, 0, 1, 1, 1, 0, 0, 0, 0, 1, 0, 0, 0, 1]
theorem k_cn15 (P : Params) (pr : Program) (N z t1 tk : Nat) : (run (tabOf (MineX.hd.heap_39 P) pr P N []) 9000 Value 5 [] tk c_cn15 [] (.tree (call (.ref 70) [.ref z, .str (Str.ofString "=4b=4b") t1] [(Str.ofString "name", .bool true)]))).map out3 = some (.ok (.str (Str.ofString "=4b=4b") t1), tk + 4, clm N [] c_cn15 []) := by
  rw [mkP_eq P]
  generalize P.followText "special-get-raises" = b
  cases b <;> kernel_rfl
noncomputable abbrev c_cn16 : List Nat := [0, 1, 1, 1, 1, 1, 1, 0, 0, 1, 0, 0, 1, 0, 1, 1, 1, 0, 0, 0, 0, 1, 0, 0, 0, 1]
theorem k_cn16 (P : Params) (pr : Program) (N z t1 tk : Nat) : (run (tabOf (MineX.hd.heap_39 P) pr P N []) 9000 Value 5 [] tk c_cn16 [] (.tree (call (.ref 70) [.ref z, .str (Str.ofString "=6A=4A") t1] [(Str.ofString "name", .bool true)]))).map out3 = some (.ok (.str (Str.ofString "=6A=4A") t1), tk + 4, clm N [] c_cn16 []) := by
  rw [mkP_eq P]
  generalize P.followText "special-get-raises" = b
  cases b <;> kernel_rfl
noncomputable abbrev c_cn17 : List Nat := [0, 1, 1, 1, 1, 1, 1, 0, 0, 1, 0, 0, 1, 0, 1, 1, 1, 0, 0, 0, 0, 1, 0, 0, 0, 1]
theorem k_cn17 (P : Params) (pr : Program) (N z t1 tk : Nat) : (run (tabOf (MineX.hd.heap_39 P) pr P N []) 9000 Value 5 [] tk c_cn17 [] (.tree (call (.ref 70) [.ref z, .str (Str.ofString "=6A=6B") t1] [(Str.ofString "name", .bool true)]))).map out3 = some (.ok (.str (Str.ofString "=6A=6B") t1), tk + 4, clm N [] c_cn17 []) := by
  rw [mkP_eq P]
  generalize P.followText "special-get-raises" = b
  cases b <;> kernel_rfl
noncomputable abbrev c_cn18 : List Nat := [0, 1, 1, 1, 1, 1, 1, 0, 0, 1, 0, 0, 1, 0, 1, 1, 1, 0, 0, 0, 0, 1, 0, 0, 0, 1]
theorem k_cn18 (P : Params) (pr : Program) (N z t1 tk : Nat) : (run (tabOf (MineX.hd.heap_39 P) pr P N []) 9000 Value 5 [] tk c_cn18 [] (.tree (call (.ref 70) [.ref z, .str (Str.ofString "=6A=4B") t1] [(Str.ofString "name", .bool true)]))).map out3 = some (.ok (.str (Str.ofString "=6A=4B") t1), tk + 4, clm N [] c_cn18 []) := by
  rw [mkP_eq P]
  generalize P.followText "special-get-raises" = b
  cases b <;> kernel_rfl
noncomputable abbrev c_cn19 : List Nat := [0, 1, 1, 1, 1, 1, 1, 0, 0, 1, 0, 0, 1, 0, 1, 1, 1, 0, 0, 0, 0, 1, 0, 0, 0, 1]
theorem k_cn19 (P : Params) (pr : Program) (N z t1 tk : Nat) : (run (tabOf (MineX.hd.heap_39 P) pr P N []) 9000 Value 5 [] tk c_cn19 [] (.tree (call (.ref 70) [.ref z, .str (Str.ofString "=4A=6A") t1] [(Str.ofString "name", .bool true)]))).map out3 = some (.ok (.str (Str.ofString "=4A=6A") t1), tk + 4, clm N [] c_cn19 []) := by
  rw [mkP_eq P]
  generalize P.followText "special-get-raises" = b
  cases b <;> kernel_rfl
noncomputable abbrev c_cn20 : List Nat := [0, 1, 1, 1, 1, 1, 1, 0, 0, 1, 0, 0, 1, 0, 1, 1, 1, 0, 0, 0, 0, 1, 0, 0, 0, 1]
theorem k_cn20 (P : Params) (pr : Program) (N z t1 tk : Nat) : (run (tabOf (MineX.hd.heap_39 P) pr P N []) 9000 Value 5 [] tk c_cn20 [] (.tree (call (.ref 70) [.ref z, .str (Str.ofString "=4A=6B") t1] [(Str.ofString "name", .bool true)]))).map out3 = some (.ok (.str (Str.ofString "=4A=6B") t1), tk + 4, clm N [] c_cn20 []) := by
  rw [mkP_eq P]
  generalize P.followText "special-get-raises" = b
  cases b <;> kernel_rfl
noncomputable abbrev c_cn21 : List Nat := [0, 1, 1, 1, 1, 1, 1, 0, 0, 1, 0, 0, 1, 0, 1, 1, 1, 0, 0, 0, 0, 1, 0, 0, 0, 1]
theorem k_cn21 (P : Params) (pr : Program) (N z t1 tk : Nat) : (run (tabOf (MineX.hd.heap_39 P) pr P N []) 9000 Value 5 [] tk c_cn21 [] (.tree (call (.ref 70) [.ref z, .str (Str.ofString "=4A=4B") t1] [(Str.ofString "name", .bool true)]))).map out3 = some (.ok (.str (Str.ofString "=4A=4B") t1), tk + 4, clm N [] c_cn21 []) := by
  rw [mkP_eq P]
  generalize P.followText "special-get-raises" = b
  cases b <;> kernel_rfl
noncomputable abbrev c_cn22 : List Nat := [0, 1, 1, 1, 1, 1, 1, 0, 0, 1, 0, 0, 1, 0, 1, 1, 1, 0, 0, 0, 0, 1, 0, 0, 0, 1]
theorem k_cn22 (P : Params) (pr : Program) (N z t1 tk : Nat) : (run (tabOf (MineX.hd.heap_39 P) pr P N []) 9000 Value 5 [] tk c_cn22 [] (.tree (call (.ref 70) [.ref z, .str (Str.ofString "=6B=6A") t1] [(Str.ofString "name", .bool true)]))).map out3 = some (.ok (.str (Str.ofString "=6B=6A") t1), tk + 4, clm N [] c_cn22 []) := by
  rw [mkP_eq P]
  generalize P.followText "special-get-raises" = b
  cases b <;> kernel_rfl
noncomputable abbrev c_cn23 : List Nat := [0, 1, 1, 1, 1, 1, 1, 0, 0, 1, 0, 0, 1, 0, 1, 1, 1, 0, 0, 0, 0, 1, 0, 0, 0, 1]
theorem k_cn23 (P : Params) (pr : Program) (N z t1 tk : Nat) : (run (tabOf (MineX.hd.heap_39 P) pr P N []) 9000 Value 5 [] tk c_cn23 [] (.tree (call (.ref 70) [.ref z, .str (Str.ofString "=6B=4A") t1] [(Str.ofString "name", .bool true)]))).map out3 = some (.ok (.str (Str.ofString "=6B=4A") t1), tk + 4, clm N [] c_cn23 []) := by
  rw [mkP_eq P]
  generalize P.followText "special-get-raises" = b
  cases b <;> kernel_rfl
noncomputable abbrev c_cn24 : List Nat := [0, 1, 1, 1, 1, 1, 1, 0, 0, 1, 0, 0, 1, 0, 1, 1, 1, 0, 0, 0, 0, 1, 0, 0, 0, 1]
theorem k_cn24 (P : Params) (pr : Program) (N z t1 tk : Nat) : (run (tabOf (MineX.hd.heap_39 P) pr P N []) 9000 Value 5 [] tk c_cn24 [] (.tree (call (.ref 70) [.ref z, .str (Str.ofString "=6B=4B") t1] [(Str.ofString "name", .bool true)]))).map out3 = some (.ok (.str (Str.ofString "=6B=4B") t1), tk + 4, clm N [] c_cn24 []) := by
  rw [mkP_eq P]
  generalize P.followText "special-get-raises" = b
  cases b <;> kernel_rfl
noncomputable abbrev c_cn25 : List Nat := [0, 1, 1, 1, 1, 1, 1, 0, 0, 1, 0, 0, 1, 0, 1, 1, 1, 0, 0, 0, 0, 1, 0, 0, 0, 1]
theorem k_cn25 (P : Params) (pr : Program) (N z t1 tk : Nat) : (run (tabOf (MineX.hd.heap_39 P) pr P N []) 9000 Value 5 [] tk c_cn25 [] (.tree (call (.ref 70) [.ref z, .str (Str.ofString "=4B=6A") t1] [(Str.ofString "name", .bool true)]))).map out3 = some (.ok (.str (Str.ofString "=4B=6A") t1), tk + 4, clm N [] c_cn25 []) := by
  rw [mkP_eq P]
  generalize P.followText "special-get-raises" = b
  cases b <;> kernel_rfl
noncomputable abbrev c_cn26 : List Nat := [0, 1, 1, 1, 1, 1, 1, 0, 0, 1, 0, 0, 1, 0, 1, 1, 1, 0, 0, 0, 0, 1, 0, 0, 0, 1]
theorem k_cn26 (P : Params) (pr : Program) (N z t1 tk : Nat) : (run (tabOf (MineX.hd.heap_39 P) pr P N []) 9000 Value 5 [] tk c_cn26 [] (.tree (call (.ref 70) [.ref z, .str (Str.ofString "=4B=4A") t1] [(Str.ofString "name", .bool true)]))).map out3 = some (.ok (.str (Str.ofString "=4B=4A") t1), tk + 4, clm N [] c_cn26 []) := by
  rw [mkP_eq P]
  generalize P.followText "special-get-raises" = b
  cases b <;> kernel_rfl
noncomputable abbrev c_cn27 : List Nat := [0, 1, 1, 1, 1, 1, 1, 0, 0, 1, 0, 0, 1, 0, 1, 1, 1, 0, 0, 0, 0, 1, 0, 0, 0, 1]
theorem k_cn27 (P : Params) (pr : Program) (N z t1 tk : Nat) : (run (tabOf (MineX.hd.heap_39 P) pr P N []) 9000 Value 5 [] tk c_cn27 [] (.tree (call (.ref 70) [.ref z, .str (Str.ofString "=4B=6B") t1] [(Str.ofString "name", .bool true)]))).map out3 = some (.ok (.str (Str.ofString "=4B=6B") t1), tk + 4, clm N [] c_cn27 []) := by
  rw [mkP_eq P]
  generalize P.followText "special-get-raises" = b
  cases b <;> kernel_rfl
noncomputable abbrev c_cv0 : List Nat := [0, 1, 1, 1, 1, 1, 1, 0, 0, 1, 0, 0, 1, 0, 1, 1, 1, 0, 0, 0, 0, 1, 0, 0, 0, 1]
theorem k_cv0 (P : Params) (pr : Program) (N z t1 tk : Nat) : (run (tabOf (MineX.hd.heap_39 P) pr P N []) 9000 Value 5 [] tk c_cv0 [] (.tree (call (.ref 70) [.ref z, .str (Str.ofString "=") t1] [(Str.ofString "name", .bool false)]))).map out3 = some (.ok (.str (Str.ofString "=") t1), tk + 4, clm N [] c_cv0 []) := by
  rw [mkP_eq P]
  generalize P.followText "special-get-raises" = b
  cases b <;> kernel_rfl
noncomputable abbrev c_dec0 : List Nat := [0, 0, 1, 1, 1, 1, 1, 1, 1, 1, 3, 3, 3, 5, 5, 5, 5, 5, 3, 5, 5, 1, 1, 1, 1, 1, 1, 1, 1, 0, 0, 1, 1, 1, 1, 1, 1, 1, 1, 1, 1, 1, 1, 1, 1, 1, 1, 1, 5, 5, 5, 5, 3, 5, 5, 9, 1, 1, 1, 1]
theorem k_dec0 (P : Params) (pr : Program) (N t1 tk : Nat) : (run (tabOf (MineX.hd.heap_39 P) pr P N []) 9000 Value 5 [] tk c_dec0 [] (.tree (call (.ref 224) [.str (Str.ofString "=") t1]))).map out3 = some (.ok (.str (Str.ofString "") (tk + 4)), tk + 27, clm N [] c_dec0 []) := by
  rw [mkP_eq P]
  generalize P.followText "special-get-raises" = b
  cases b <;> kernel_rfl
noncomputable abbrev c_enc0 : List Nat := [0, 0, 1, 1, 1, 1, 1, 1, 1, 1, 1, 0, 0, 0, 0, 0, 0, 0, 0, 0, 1, 1, 1, 1, 1, 1, 1, 1, 1, 1, 1, 3, 3, 3, 3, 3, 3, 1, 1, 1, 7, 7, 7, 9, 9, 9, 9, 9, 7, 9, 9, 1, 1, 1, 1, 0, 0, 1, 1, 1, 1, 1, 1, 1, 1, 1, 1, 1, 11, 11, 11, 11, 5, 5, 3, 3, 3, 3, 3, 3, 9, 9, 9, 9, 7, 9, 9, 15, 1, 0, 1, 1, 3, 3]
theorem k_enc0 (P : Params) (pr : Program) (N t1 tk : Nat) : (run (tabOf (MineX.hd.heap_39 P) pr P N []) 9000 Value 5 [] tk c_enc0 [] (.tree (call (.ref 216) [.str (Str.ofString "=") t1]))).map out3 = some (.ok (.str (Str.ofString "=3D") (tk + 8)), tk + 37, clm N [] c_enc0 []) := by
  rw [mkP_eq P]
  generalize P.followText "special-get-raises" = b
  cases b <;> kernel_rfl
noncomputable abbrev c_cv1 : List Nat := [0, 1, 1, 1, 1, 1, 1, 0, 0, 1, 0, 0, 1, 0, 1, 1, 1, 0, 0, 0, 0, 1, 0, 0, 0, 1]
theorem k_cv1 (P : Params) (pr : Program) (N z t1 tk : Nat) : (run (tabOf (MineX.hd.heap_39 P) pr P N []) 9000 Value 5 [] tk c_cv1 [] (.tree (call (.ref 70) [.ref z, .str (Str.ofString "=3D") t1] [(Str.ofString "name", .bool false)]))).map out3 = some (.ok (.str (Str.ofString "=3D") t1), tk + 4, clm N [] c_cv1 []) := by
  rw [mkP_eq P]
  generalize P.followText "special-get-raises" = b
  cases b <;> kernel_rfl
noncomputable abbrev c_dec1 : List Nat := [0, 0, 1, 1, 1, 1, 1, 1, 1, 1, 3, 3, 3, 5, 5, 5, 5, 5, 3, 5, 5, 1, 1, 1, 1, 1, 1, 1, 1, 0, 0, 1, 1, 1, 1, 1, 1, 1, 1, 1, 1, 1, 1, 1, 1, 1, 1, 0, 1, 1, 0, 1, 0, 1, 1, 1, 7, 7, 7, 7, 0, 0, 9, 9, 0, 0, 0, 0, 9, 11, 11, 11, 11, 1, 1, 1, 1, 1, 1, 1, 1, 1, 1, 1, 1, 1, 5, 5, 5, 5, 3, 5, 5, 15, 1, 1, 1, 1, 0, 0, 1, 17, 17, 17, 17, 1, 1, 1]
theorem k_dec1 (P : Params) (pr : Program) (N t1 tk : Nat) : (run (tabOf (MineX.hd.heap_39 P) pr P N []) 9000 Value 5 [] tk c_dec1 [] (.tree (call (.ref 224) [.str (Str.ofString "=3D") t1]))).map out3 = some (.ok (.str (Str.ofString "=") (tk + 50)), tk + 52, clm N [] c_dec1 []) := by
  rw [mkP_eq P]
  generalize P.followText "special-get-raises" = b
  cases b <;> kernel_rfl
noncomputable abbrev c_enc1 : List Nat := [0, 0, 1, 1, 1, 1, 1, 1, 1, 1, 1, 0, 0, 0, 0, 0, 0, 0, 0, 0, 0, 0, 0, 0, 0, 0, 0, 0, 1, 1, 1, 1, 1, 1, 1, 1, 1, 1, 1, 3, 3, 3, 3, 3, 3, 1, 1, 1, 7, 7, 7, 9, 9, 9, 9, 9, 7, 9, 9, 1, 1, 1, 1, 0, 0, 1, 1, 1, 1, 1, 1, 1, 1, 1, 1, 1, 11, 11, 11, 11, 5, 5, 3, 3, 3, 3, 3, 3, 9, 9, 9, 9, 7, 9, 9, 15, 1, 0, 1, 1, 3, 3]
theorem k_enc1 (P : Params) (pr : Program) (N t1 tk : Nat) : (run (tabOf (MineX.hd.heap_39 P) pr P N []) 9000 Value 5 [] tk c_enc1 [] (.tree (call (.ref 216) [.str (Str.ofString "=3D") t1]))).map out3 = some (.ok (.str (Str.ofString "=3D3D") (tk + 10)), tk + 39, clm N [] c_enc1 []) := by
  rw [mkP_eq P]
  generalize P.followText "special-get-raises" = b
  cases b <;> kernel_rfl
noncomputable abbrev c_cv2 : List Nat := [0, 1, 1, 1, 1, 1, 1, 0, 0, 1, 0, 0, 1, 0, 1, 1, 1, 0, 0, 0, 0, 1, 0, 0, 0, 1]
theorem k_cv2 (P : Params) (pr : Program) (N z t1 tk : Nat) : (run (tabOf (MineX.hd.heap_39 P) pr P N []) 9000 Value 5 [] tk c_cv2 [] (.tree (call (.ref 70) [.ref z, .str (Str.ofString "=3D3D") t1] [(Str.ofString "name", .bool false)]))).map out3 = some (.ok (.str (Str.ofString "=3D3D") t1), tk + 4, clm N [] c_cv2 []) := by
  rw [mkP_eq P]
  generalize P.followText "special-get-raises" = b
  cases b <;> kernel_rfl
noncomputable abbrev c_dec2 : List Nat := [0, 0, 1, 1, 1, 1, 1, 1, 1, 1, 3, 3, 3, 5, 5, 5, 5, 5, 3, 5, 5, 1, 1, 1, 1, 1, 1, 1, 1, 0, 0, 1, 1, 1, 1, 1, 1, 1, 1, 1, 1, 1, 1, 1, 1, 1, 1, 0, 1, 1, 0, 1, 0, 1, 1, 1, 7, 7, 7, 7, 0, 0, 9, 9, 0, 0, 0, 0, 9, 11, 11, 11, 11, 1, 1, 1, 1, 1, 1, 1, 1, 1, 1, 1, 1, 1, 1, 1, 1, 1, 1, 1, 1, 1, 1, 1, 1, 1, 1, 1, 1, 1, 1, 1, 1, 1, 1, 1, 1, 1, 1, 1, 1, 1, 1, 1, 1, 1, 5, 5, 5, 5, 3, 5, 5, 15, 1, 1, 1, 1, 0, 0, 1, 17, 17, 17, 17, 1, 1, 1]
theorem k_dec2 (P : Params) (pr : Program) (N t1 tk : Nat) : (run (tabOf (MineX.hd.heap_39 P) pr P N []) 9000 Value 5 [] tk c_dec2 [] (.tree (call (.ref 224) [.str (Str.ofString "=3D3D") t1]))).map out3 = some (.ok (.str (Str.ofString "=3D") (tk + 67)), tk + 69, clm N [] c_dec2 []) := by
  rw [mkP_eq P]
  generalize P.followText "special-get-raises" = b
  cases b <;> kernel_rfl
noncomputable abbrev c_enc2 : List Nat := [0, 0, 1, 1, 1, 1, 1, 1, 1, 1, 1, 0, 0, 0, 0, 0, 0, 0, 0, 0, 0, 0, 0, 0, 0, 0, 0, 0, 0, 0, 0, 0, 0, 0, 0, 0, 1, 1, 1, 1, 1, 1, 1, 1, 1, 1, 1, 3, 3, 3, 3, 3, 3, 1, 1, 1, 7, 7, 7, 9, 9, 9, 9, 9, 7, 9, 9, 1, 1, 1, 1, 0, 0, 1, 1, 1, 1, 1, 1, 1, 1, 1, 1, 1, 11, 11, 11, 11, 5, 5, 3, 3, 3, 3, 3, 3, 9, 9, 9, 9, 7, 9, 9, 15, 1, 0, 1, 1, 3, 3]
theorem k_enc2 (P : Params) (pr : Program) (N t1 tk : Nat) : (run (tabOf (MineX.hd.heap_39 P) pr P N []) 9000 Value 5 [] tk c_enc2 [] (.tree (call (.ref 216) [.str (Str.ofString "=3D3D") t1]))).map out3 = some (.ok (.str (Str.ofString "=3D3D3D") (tk + 12)), tk + 41, clm N [] c_enc2 []) := by
  rw [mkP_eq P]
  generalize P.followText "special-get-raises" = b
  cases b <;> kernel_rfl
noncomputable abbrev c_cv3 : List Nat := [0, 1, 1, 1, 1, 1, 1, 0, 0, 1, 0, 0, 1, 0, 1, 1, 1, 0, 0, 0, 0, 1, 0, 0, 0, 1]
theorem k_cv3 (P : Params) (pr : Program) (N z t1 tk : Nat) : (run (tabOf (MineX.hd.heap_39 P) pr P N []) 9000 Value 5 [] tk c_cv3 [] (.tree (call (.ref 70) [.ref z, .str (Str.ofString "=3D3D3D") t1] [(Str.ofString "name", .bool false)]))).map out3 = some (.ok (.str (Str.ofString "=3D3D3D") t1), tk + 4, clm N [] c_cv3 []) := by
  rw [mkP_eq P]
  generalize P.followText "special-get-raises" = b
  cases b <;> kernel_rfl
noncomputable abbrev c_dec3 : List Nat := [0, 0, 1, 1, 1, 1, 1, 1, 1, 1, 3, 3, 3, 5, 5, 5, 5, 5, 3, 5, 5, 1, 1, 1, 1, 1, 1, 1, 1, 0, 0, 1, 1, 1, 1, 1, 1, 1, 1, 1, 1, 1, 1, 1, 1, 1, 1, 0, 1, 1, 0, 1, 0, 1, 1, 1, 7, 7, 7, 7, 0, 0, 9, 9, 0, 0, 0, 0, 9, 11, 11, 11, 11, 1, 1, 1, 1, 1, 1, 1, 1, 1, 1, 1, 1, 1, 1, 1, 1, 1, 1, 1, 1, 1, 1, 1, 1, 1, 1, 1, 1, 1, 1, 1, 1, 1, 1, 1, 1, 1, 1, 1, 1, 1, 1, 1, 1, 1, 1, 1, 1, 1, 1, 1, 1, 1, 1, 1, 1, 1, 1, 1, 1, 1, 1, 1, 1, 1, 1, 1, 1, 1, 1, 1, 1, 1, 1, 1, 1, 1, 5, 5, 5, 5, 3, 5, 5, 15, 1, 1, 1, 1, 0, 0, 1, 17, 17, 17, 17, 1, 1, 1]
theorem k_dec3 (P : Params) (pr : Program) (N t1 tk : Nat) : (run (tabOf (MineX.hd.heap_39 P) pr P N []) 9000 Value 5 [] tk c_dec3 [] (.tree (call (.ref 224) [.str (Str.ofString "=3D3D3D") t1]))).map out3 = some (.ok (.str (Str.ofString "=3D3D") (tk + 83)), tk + 85, clm N [] c_dec3 []) := by
  rw [mkP_eq P]
  generalize P.followText "special-get-raises" = b
  cases b <;> kernel_rfl
noncomputable abbrev c_enc3 : List Nat := [0, 0, 1, 1, 1, 1, 1, 1, 1, 1, 1, 0, 0, 0, 0, 0, 0, 0, 0, 0, 0, 0, 0, 0, 0, 0, 0, 0, 0, 0, 0, 0, 0, 0, 0, 0, 0, 0, 0, 0, 0, 0, 0, 0, 1, 1, 1, 1, 1, 1, 1, 1, 1, 1, 1, 3, 3, 3, 3, 3, 3, 1, 1, 1, 7, 7, 7, 9, 9, 9, 9, 9, 7, 9, 9, 1, 1, 1, 1, 0, 0, 1, 1, 1, 1, 1, 1, 1, 1, 1, 1, 1, 11, 11, 11, 11, 5, 5, 3, 3, 3, 3, 3, 3, 9, 9, 9, 9, 7, 9, 9, 15, 1, 0, 1, 1, 3, 3]
theorem k_enc3 (P : Params) (pr : Program) (N t1 tk : Nat) : (run (tabOf (MineX.hd.heap_39 P) pr P N []) 9000 Value 5 [] tk c_enc3 [] (.tree (call (.ref 216) [.str (Str.ofString "=3D3D3D") t1]))).map out3 = some (.ok (.str (Str.ofString "=3D3D3D3D") (tk + 14)), tk + 43, clm N [] c_enc3 []) := by
  rw [mkP_eq P]
  generalize P.followText "special-get-raises" = b
  cases b <;> kernel_rfl
noncomputable abbrev c_cv4 : List Nat := [0, 1, 1, 1, 1, 1, 1, 0, 0, 1, 0, 0, 1, 0, 1, 1, 1, 0, 0, 0, 0, 1, 0, 0, 0, 1]
theorem k_cv4 (P : Params) (pr : Program) (N z t1 tk : Nat) : (run (tabOf (MineX.hd.heap_39 P) pr P N []) 9000 Value 5 [] tk c_cv4 [] (.tree (call (.ref 70) [.ref z, .str (Str.ofString "=3D3D3D3D") t1] [(Str.ofString "name", .bool false)]))).map out3 = some (.ok (.str (Str.ofString "=3D3D3D3D") t1), tk + 4, clm N [] c_cv4 []) := by
  rw [mkP_eq P]
  generalize P.followText "special-get-raises" = b
  cases b <;> kernel_rfl
noncomputable abbrev c_dec4 : List Nat := [0, 0, 1, 1, 1, 1, 1, 1, 1, 1, 3, 3, 3, 5, 5, 5, 5, 5, 3, 5, 5, 1, 1, 1, 1, 1, 1, 1, 1, 0, 0, 1, 1, 1, 1, 1, 1, 1, 1, 1, 1, 1, 1, 1, 1, 1, 1, 0, 1, 1, 0, 1, 0, 1, 1, 1, 7, 7, 7, 7, 0, 0, 9, 9, 0, 0, 0, 0, 9, 11, 11, 11, 11, 1, 1, 1, 1, 1, 1, 1, 1, 1, 1, 1, 1, 1, 1, 1, 1, 1, 1, 1, 1, 1, 1, 1, 1, 1, 1, 1, 1, 1, 1, 1, 1, 1, 1, 1, 1, 1, 1, 1, 1, 1, 1, 1, 1, 1, 1, 1, 1, 1, 1, 1, 1, 1, 1, 1, 1, 1, 1, 1, 1, 1, 1, 1, 1, 1, 1, 1, 1, 1, 1, 1, 1, 1, 1, 1, 1, 1, 1, 1, 1, 1, 1, 1, 1, 1, 1, 1, 1, 1, 1, 1, 1, 1, 1, 1, 1, 1, 1, 1, 1, 1, 1, 1, 1, 1, 1, 1, 1, 1, 5, 5, 5, 5, 3, 5, 5, 15, 1, 1, 1, 1, 0, 0, 1, 17, 17, 17, 17, 1, 1, 1]
theorem k_dec4 (P : Params) (pr : Program) (N t1 tk : Nat) : (run (tabOf (MineX.hd.heap_39 P) pr P N []) 9000 Value 5 [] tk c_dec4 [] (.tree (call (.ref 224) [.str (Str.ofString "=3D3D3D3D") t1]))).map out3 = some (.ok (.str (Str.ofString "=3D3D3D") (tk + 99)), tk + 101, clm N [] c_dec4 []) := by
  rw [mkP_eq P]
  generalize P.followText "special-get-raises" = b
  cases b <;> kernel_rfl
noncomputable abbrev c_enc4 : List Nat := [0, 0, 1, 1, 1, 1, 1, 1, 1, 1, 1, 0, 0, 0, 0, 0, 0, 0, 0, 0, 0, 0, 0, 0, 0, 0, 0, 0, 0, 0, 0, 0, 0, 0, 0, 0, 0, 0, 0, 0, 0, 0, 0, 0, 0, 0, 0, 0, 0, 0, 0, 0, 1, 1, 1, 1, 1, 1, 1, 1, 1, 1, 1, 3, 3, 3, 3, 3, 3, 1, 1, 1, 7, 7, 7, 9, 9, 9, 9, 9, 7, 9, 9, 1, 1, 1, 1, 0, 0, 1, 1, 1, 1, 1, 1, 1, 1, 1, 1, 1, 11, 11, 11, 11, 5, 5, 3, 3, 3, 3, 3, 3, 9, 9, 9, 9, 7, 9, 9, 15, 1, 0, 1, 1, 3, 3]
theorem k_enc4 (P : Params) (pr : Program) (N t1 tk : Nat) : (run (tabOf (MineX.hd.heap_39 P) pr P N []) 9000 Value 5 [] tk c_enc4 [] (.tree (call (.ref 216) [.str (Str.ofString "=3D3D3D3D") t1]))).map out3 = some (.ok (.str (Str.ofString "=3D3D3D3D3D") (tk + 16)), tk + 45, clm N [] c_enc4 []) := by
  rw [mkP_eq P]
  generalize P.followText "special-get-raises" = b
  cases b <;> kernel_rfl
noncomputable abbrev c_cv5 : List Nat := [0, 1, 1, 1, 1, 1, 1, 0, 0, 1, 0, 0, 1, 0, 1, 1, 1, 0, 0, 0, 0, 1, 0, 0, 0, 1]
theorem k_cv5 (P : Params) (pr : Program) (N z t1 tk : Nat) : (run (tabOf (MineX.hd.heap_39 P) pr P N []) 9000 Value 5 [] tk c_cv5 [] (.tree (call (.ref 70) [.ref z, .str (Str.ofString "=3D3D3D3D3D") t1] [(Str.ofString "name", .bool false)]))).map out3 = some (.ok (.str (Str.ofString "=3D3D3D3D3D") t1), tk + 4, clm N [] c_cv5 []) := by
  rw [mkP_eq P]
  generalize P.followText "special-get-raises" = b
  cases b <;> kernel_rfl
noncomputable abbrev c_dec5 : List Nat := [0, 0, 1, 1, 1, 1, 1, 1, 1, 1, 3, 3, 3, 5, 5, 5, 5, 5, 3, 5, 5, 1, 1, 1, 1, 1, 1, 1, 1, 0, 0, 1, 1, 1, 1, 1, 1, 1, 1, 1, 1, 1, 1, 1, 1, 1, 1, 0, 1, 1, 0, 1, 0, 1, 1, 1, 7, 7, 7, 7, 0, 0, 9, 9, 0, 0, 0, 0, 9, 11, 11, 11, 11, 1, 1, 1, 1, 1, 1, 1, 1, 1, 1, 1, 1, 1, 1, 1, 1, 1, 1, 1, 1, 1, 1, 1, 1, 1, 1, 1, 1, 1, 1, 1, 1, 1, 1, 1, 1, 1, 1, 1, 1, 1, 1, 1, 1, 1, 1, 1, 1, 1, 1, 1, 1, 1, 1, 1, 1, 1, 1, 1, 1, 1, 1, 1, 1, 1, 1, 1, 1, 1, 1, 1, 1, 1, 1, 1, 1, 1, 1, 1, 1, 1, 1, 1, 1, 1, 1, 1, 1, 1, 1, 1, 1, 1, 1, 1, 1, 1, 1, 1, 1, 1, 1, 1, 1, 1, 1, 1, 1, 1, 1, 1, 1, 1, 1, 1, 1, 1, 1, 1, 1, 1, 1, 1, 1, 1, 1, 1, 1, 1, 1, 1, 1, 1, 1, 1, 1, 1, 1, 1, 1, 1, 5, 5, 5, 5, 3, 5, 5, 15, 1, 1, 1, 1, 0, 0, 1, 17, 17, 17, 17, 1, 1, 1]
theorem k_dec5 (P : Params) (pr : Program) (N t1 tk : Nat) : (run (tabOf (MineX.hd.heap_39 P) pr P N []) 9000 Value 5 [] tk c_dec5 [] (.tree (call (.ref 224) [.str (Str.ofString "=3D3D3D3D3D") t1]))).map out3 = some (.ok (.str (Str.ofString "=3D3D3D3D") (tk + 115)), tk + 117, clm N [] c_dec5 []) := by
  rw [mkP_eq P]
  generalize P.followText "special-get-raises" = b
  cases b <;> kernel_rfl
noncomputable abbrev c_q0 : List Nat := [0, 1, 1, 0, 0, 0, 1, 0, 0, 0, 0, 0]
theorem k_q0 (P : Params) (pr : Program) (N t1 tk : Nat) : (run (tabOf (MineX.hd.heap_39 P) pr P N []) 9000 Value 5 [] tk c_q0 [] (.tree (call (.ref 203) [.str (Str.ofString "j") t1]))).map out3 = some (.ok (.str (Str.ofString "=6A") 940), tk + 2, clm N [] c_q0 []) := by
  rw [mkP_eq P]
  generalize P.followText "special-get-raises" = b
  cases b <;> kernel_rfl
noncomputable abbrev c_q1 : List Nat := [0, 1, 1, 0, 0, 0, 1, 0, 0, 0, 0, 0]
theorem k_q1 (P : Params) (pr : Program) (N t1 tk : Nat) : (run (tabOf (MineX.hd.heap_39 P) pr P N []) 9000 Value 5 [] tk c_q1 [] (.tree (call (.ref 203) [.str (Str.ofString "J") t1]))).map out3 = some (.ok (.str (Str.ofString "=4A") 812), tk + 2, clm N [] c_q1 []) := by
  rw [mkP_eq P]
  generalize P.followText "special-get-raises" = b
  cases b <;> kernel_rfl
noncomputable abbrev c_q2 : List Nat := [0, 1, 1, 0, 0, 0, 1, 0, 0, 0, 0, 0]
theorem k_q2 (P : Params) (pr : Program) (N t1 tk : Nat) : (run (tabOf (MineX.hd.heap_39 P) pr P N []) 9000 Value 5 [] tk c_q2 [] (.tree (call (.ref 203) [.str (Str.ofString "k") t1]))).map out3 = some (.ok (.str (Str.ofString "=6B") 944), tk + 2, clm N [] c_q2 []) := by
  rw [mkP_eq P]
  generalize P.followText "special-get-raises" = b
  cases b <;> kernel_rfl
noncomputable abbrev c_q3 : List Nat := [0, 1, 1, 0, 0, 0, 1, 0, 0, 0, 0, 0]
theorem k_q3 (P : Params) (pr : Program) (N t1 tk : Nat) : (run (tabOf (MineX.hd.heap_39 P) pr P N []) 9000 Value 5 [] tk c_q3 [] (.tree (call (.ref 203) [.str (Str.ofString "K") t1]))).map out3 = some (.ok (.str (Str.ofString "=4B") 816), tk + 2, clm N [] c_q3 []) := by
  rw [mkP_eq P]
  generalize P.followText "special-get-raises" = b
  cases b <;> kernel_rfl
end Mine
namespace Mine
noncomputable def low16 : List Str := ["=6a=6a", "=6a=4a", "=6a=6b", "=6a=4b", "=4a=6a", "=4a=4a", "=4a=6b", "=4a=4b", "=6b=6a", "=6b=4a", "=6b=6b", "=6b=4b", "=4b=6a", "=4b=4a", "=4b=6b", "=4b=4b"].map Str.ofString
noncomputable def up12 : List Str := ["=6A=4A", "=6A=6B", "=6A=4B", "=4A=6A", "=4A=6B", "=4A=4B", "=6B=6A", "=6B=4A", "=6B=4B", "=4B=6A", "=4B=4A", "=4B=6B"].map Str.ofString
noncomputable def names10 : List Str := low16 ++ up12
noncomputable def vs6 : List Str := ["=", "=3D", "=3D3D", "=3D3D3D", "=3D3D3D3D", "=3D3D3D3D3D"].map Str.ofString
noncomputable def vstr (n : Nat) : Str := vs6.getD n (Str.ofString "")
noncomputable def letter (i : Nat) : Str := ["j", "J", "k", "K"].map Str.ofString |>.getD i (Str.ofString "")
noncomputable def qs (i : Nat) : Str := ["=6A", "=4A", "=6B", "=4B"].map Str.ofString |>.getD i (Str.ofString "")
noncomputable def decV : Nat → Str | 0 => Str.ofString "" | n + 1 => vstr n
section
variable {w : World} {mean : ExcName → Option Value} {mg mb : Str → Option Value} {h₀ : Heap}
theorem conv_n (G : G3 w mean mg mb h₀) {s : Shared} (hs : h₀.StaysIn s.heap) {x : Str} (hx : x ∈ names10) (z : Addr) (t : Tok) :
    wpAny (model prog3 w) (Aq 1) (call (.ref 70) [.ref z, .str x t] [(Str.ofString "name", .bool true)]) (Post (fun v => v = .str x t) s) noE s := by
  simp only [names10, low16, up12, List.map_cons, List.map_nil, List.cons_append, List.nil_append, List.mem_cons, List.not_mem_nil, or_false] at hx
  rcases hx with rfl | rfl | rfl | rfl | rfl | rfl | rfl | rfl | rfl | rfl | rfl | rfl | rfl | rfl | rfl | rfl | rfl | rfl | rfl | rfl | rfl | rfl | rfl | rfl | rfl | rfl | rfl | rfl
  · exact by_run G hs _ rfl (by decide) (k_cn0 ..) rfl
  · exact by_run G hs _ rfl (by decide) (k_cn1 ..) rfl
  · exact by_run G hs _ rfl (by decide) (k_cn2 ..) rfl
  · exact by_run G hs _ rfl (by decide) (k_cn3 ..) rfl
  · exact by_run G hs _ rfl (by decide) (k_cn4 ..) rfl
  · exact by_run G hs _ rfl (by decide) (k_cn5 ..) rfl
  · exact by_run G hs _ rfl (by decide) (k_cn6 ..) rfl
  · exact by_run G hs _ rfl (by decide) (k_cn7 ..) rfl
  · exact by_run G hs _ rfl (by decide) (k_cn8 ..) rfl
  · exact by_run G hs _ rfl (by decide) (k_cn9 ..) rfl
  · exact by_run G hs _ rfl (by decide) (k_cn10 ..) rfl
  · exact by_run G hs _ rfl (by decide) (k_cn11 ..) rfl
  · exact by_run G hs _ rfl (by decide) (k_cn12 ..) rfl
  · exact by_run G hs _ rfl (by decide) (k_cn13 ..) rfl
  · exact by_run G hs _ rfl (by decide) (k_cn14 ..) rfl
  · exact by_run G hs _ rfl (by decide) (k_cn15 ..) rfl
  · exact by_run G hs _ rfl (by decide) (k_cn16 ..) rfl
  · exact by_run G hs _ rfl (by decide) (k_cn17 ..) rfl
  · exact by_run G hs _ rfl (by decide) (k_cn18 ..) rfl
  · exact by_run G hs _ rfl (by decide) (k_cn19 ..) rfl
  · exact by_run G hs _ rfl (by decide) (k_cn20 ..) rfl
  · exact by_run G hs _ rfl (by decide) (k_cn21 ..) rfl
  · exact by_run G hs _ rfl (by decide) (k_cn22 ..) rfl
  · exact by_run G hs _ rfl (by decide) (k_cn23 ..) rfl
  · exact by_run G hs _ rfl (by decide) (k_cn24 ..) rfl
  · exact by_run G hs _ rfl (by decide) (k_cn25 ..) rfl
  · exact by_run G hs _ rfl (by decide) (k_cn26 ..) rfl
  · exact by_run G hs _ rfl (by decide) (k_cn27 ..) rfl
theorem conv_v (G : G3 w mean mg mb h₀) {s : Shared} (hs : h₀.StaysIn s.heap) {x : Str} (hx : x ∈ vs6) (z : Addr) (t : Tok) :
    wpAny (model prog3 w) (Aq 1) (call (.ref 70) [.ref z, .str x t] [(Str.ofString "name", .bool false)]) (Post (fun v => v = .str x t) s) noE s := by
  simp only [vs6, List.map_cons, List.map_nil, List.mem_cons, List.not_mem_nil, or_false] at hx
  rcases hx with rfl | rfl | rfl | rfl | rfl | rfl
  · exact by_run G hs _ rfl (by decide) (k_cv0 ..) rfl
  · exact by_run G hs _ rfl (by decide) (k_cv1 ..) rfl
  · exact by_run G hs _ rfl (by decide) (k_cv2 ..) rfl
  · exact by_run G hs _ rfl (by decide) (k_cv3 ..) rfl
  · exact by_run G hs _ rfl (by decide) (k_cv4 ..) rfl
  · exact by_run G hs _ rfl (by decide) (k_cv5 ..) rfl
theorem dec_v (G : G3 w mean mg mb h₀) {s : Shared} (hs : h₀.StaysIn s.heap) (n : Nat) (hn : n < 6) (t : Tok) :
    wpAny (model prog3 w) (Aq 1) (call (.ref 224) [.str (vstr n) t]) (Post (IsStr (decV n)) s) noE s := by
  match n, hn with
  | 0, _ => exact by_run G hs _ rfl (by decide) (k_dec0 ..) ⟨_, rfl⟩
  | 1, _ => exact by_run G hs _ rfl (by decide) (k_dec1 ..) ⟨_, rfl⟩
  | 2, _ => exact by_run G hs _ rfl (by decide) (k_dec2 ..) ⟨_, rfl⟩
  | 3, _ => exact by_run G hs _ rfl (by decide) (k_dec3 ..) ⟨_, rfl⟩
  | 4, _ => exact by_run G hs _ rfl (by decide) (k_dec4 ..) ⟨_, rfl⟩
  | 5, _ => exact by_run G hs _ rfl (by decide) (k_dec5 ..) ⟨_, rfl⟩
  | n + 6, h => omega
theorem enc_v (G : G3 w mean mg mb h₀) {s : Shared} (hs : h₀.StaysIn s.heap) (n : Nat) (hn : n < 5) (t : Tok) :
    wpAny (model prog3 w) (Aq 1) (call (.ref 216) [.str (vstr n) t]) (Post (IsStr (vstr (n + 1))) s) noE s := by
  match n, hn with
  | 0, _ => exact by_run G hs _ rfl (by decide) (k_enc0 ..) ⟨_, rfl⟩
  | 1, _ => exact by_run G hs _ rfl (by decide) (k_enc1 ..) ⟨_, rfl⟩
  | 2, _ => exact by_run G hs _ rfl (by decide) (k_enc2 ..) ⟨_, rfl⟩
  | 3, _ => exact by_run G hs _ rfl (by decide) (k_enc3 ..) ⟨_, rfl⟩
  | 4, _ => exact by_run G hs _ rfl (by decide) (k_enc4 ..) ⟨_, rfl⟩
  | n + 5, h => omega
theorem quote_c (G : G3 w mean mg mb h₀) {s : Shared} (hs : h₀.StaysIn s.heap) (i : Nat) (hi : i < 4) (t : Tok) :
    wpAny (model prog3 w) (Aq 1) (call (.ref 203) [.str (letter i) t]) (Post (IsStr (qs i)) s) noE s := by
  match i, hi with
  | 0, _ => exact by_run G hs _ rfl (by decide) (k_q0 ..) ⟨_, rfl⟩
  | 1, _ => exact by_run G hs _ rfl (by decide) (k_q1 ..) ⟨_, rfl⟩
  | 2, _ => exact by_run G hs _ rfl (by decide) (k_q2 ..) ⟨_, rfl⟩
  | 3, _ => exact by_run G hs _ rfl (by decide) (k_q3 ..) ⟨_, rfl⟩
  | i + 4, h => omega
theorem use_val {A : Around} {t : Sem Value} {v : Value} {k : Nat} {s : Shared} {b : Heap} {L : Addr} {m : Str → Option Value} {news : List (Addr × Obj)} {Q E : Value → Shared → Prop}
    (spec : wpAny (model prog3 w) (Aq k) t (Post (fun v' => v' = v) s) noE s) (hA : Fits A k) (F : Fr b L s.heap m) (N : News b L s.heap news)
    (h : ∀ h' tk', Fr b L h' m → News b L h' news → Q v { s with heap := h', toks := tk' }) : wpAny (model prog3 w) A t Q E s :=
  use0 spec hA F N fun v h' tk' hv F' N' => by subst hv; exact h h' tk' F' N'
end
/-- the table: an object of Headers, its namespace, its list -/
noncomputable def hdrDict (w : World) (l : Addr) (tk : Tok) : Obj := dictOf [⟨PyData.keyHash w.params (Str.ofString "_headers"), .str (Str.ofString "_headers") tk, .ref l⟩] 1
structure TabAt (w : World) (h : Heap) (t d l : Addr) : Prop where
  inst : h.get? t = some (instObj 169 d)
  dict : ∃ tk, h.get? d = some (hdrDict w l tk)
structure RowsAt (h : Heap) (l : Addr) (its : List Addr) (kvs : List (Str × Str)) : Prop where
  list : ∃ n, h.get? l = some (W.listOf (its.map Value.ref).toArray n)
  len : its.length = kvs.length
  tup : ∀ (i : Nat) (a : Addr) (kv : Str × Str), its[i]? = some a → kvs[i]? = some kv → ∃ t1 t2 n, h.get? a = some { cls := .type "tuple", data := .seq #[.str kv.1 t1, .str kv.2 t2] n }
theorem TabAt.at {w : World} {h h' : Heap} {t d l : Addr} (T : TabAt w h t d l) (k : ∀ b o, h.get? b = some o → h'.get? b = some o) : TabAt w h' t d l := ⟨k _ _ T.inst, let ⟨tk, e⟩ := T.dict; ⟨tk, k _ _ e⟩⟩
theorem RowsAt.at {h h' : Heap} {l : Addr} {its : List Addr} {kvs : List (Str × Str)} (R : RowsAt h l its kvs) (k : ∀ b o, h.get? b = some o → h'.get? b = some o) : RowsAt h' l its kvs :=
  ⟨let ⟨n, e⟩ := R.list; ⟨n, k _ _ e⟩, R.len, fun i a kv h1 h2 => let ⟨t1, t2, n, e⟩ := R.tup i a kv h1 h2; ⟨t1, t2, n, k _ _ e⟩⟩
end Mine
namespace Mine
section
variable {prog : Program} {w : World} {A : Around} {E : Value → Shared → Prop} {s : Shared} {env : Env} {h₀ : Heap} {body : List Stmt} {Q : Flow → Shared → Prop}
/-- a walk through rows that lie in the base heap -/
theorem iter_rows {elts : List Expr} {k : Nat} {pos : Pos} {l : Addr} {its : List Addr} {kvs : List (Str × Str)} {m₀ : Str → Option Value} {news : List (Addr × Obj)} (J : Nat → (Str → Option Value) → Prop)
    (hh : A.handled = none) (R : RowsAt h₀ l its kvs) (F : Fr h₀ env.locals s.heap m₀) (N : News h₀ env.locals s.heap news) (hj : J 0 m₀)
    (turn : ∀ i kv T t1 t2 m₁ h tk own, kvs[i]? = some kv → J i m₁ → IsTup h T #[.str kv.1 t1, .str kv.2 t2] → Fr h₀ env.locals h m₁ → News h₀ env.locals h (own ++ news) →
      wpAny (model prog w) A (assign (.Tuple elts k pos) env (.ref T)) (fun _ s₃ => wpAny (model prog w) A (execs body env) (InvPost h₀ env.locals (J (i + 1)) (own ++ news) { s with heap := h, toks := tk } Q) E s₃) E { s with heap := h, toks := tk })
    (done : ∀ m₁ h tk, J kvs.length m₁ → Fr h₀ env.locals h m₁ → News h₀ env.locals h news → Q .next { s with heap := h, toks := tk }) :
    wpAny (model prog w) A (pyIter (.ref l)) (fun it s₂ => TurnsAt prog w A h₀ env (.Tuple elts k pos) body Q E it s₂) E s := by
  obtain ⟨nl, hl⟩ := R.list
  have hl₀ : h₀.IsList l (its.map Value.ref).toArray := ⟨_, hl, rfl, nl, rfl⟩
  have hls : s.heap.IsList l (its.map Value.ref).toArray := hl₀.at fun o e => F.keep l o e
  have hlt : l < h₀.objs.size := Heap.lt_size hl
  have hLs : env.locals < s.heap.objs.size := F.ns.lt
  have hne : l ≠ s.heap.objs.size := Nat.ne_of_lt (Nat.lt_trans (Nat.lt_of_lt_of_le hlt F.above) F.ns.lt)
  have tup : ∀ j, j < its.length → ∃ v : Array Value, h₀.IsTuple (its.getD j 0) v ∧ ∃ kv t1 t2, kvs[j]? = some kv ∧ v = #[.str kv.1 t1, .str kv.2 t2] := fun j hj => by
    have hk : j < kvs.length := R.len ▸ hj
    obtain ⟨t1, t2, n, e⟩ := R.tup j its[j] kvs[j] (by simp [hj]) (by simp [hk])
    refine ⟨_, ⟨_, by simpa [hj] using e, rfl, n, rfl⟩, kvs[j], t1, t2, by simp [hk], rfl⟩
  let vals : Nat → Array Value := fun j => if h : j < its.length then Classical.choose (tup j h) else #[]
  have hv : ∀ j (h : j < its.length), h₀.IsTuple (its.getD j 0) (vals j) ∧ ∃ kv t1 t2, kvs[j]? = some kv ∧ vals j = #[.str kv.1 t1, .str kv.2 t2] := fun j h => by
    have := Classical.choose_spec (tup j h)
    simp only [vals, h, dif_pos]
    exact this
  have hTlt : ∀ j, j < its.length → its.getD j 0 < h₀.objs.size := fun j h => by
    obtain ⟨o, ho, _⟩ := (hv j h).1
    exact Heap.lt_size ho
  refine wpAny_pyIter_list hls ?_
  have hsz : (its.map Value.ref).toArray.size = its.length := by simp
  have W := WalksU.listOfTuples (prog := prog) (w := w) hh s.heap.objs.size l hne (its.map Value.ref).toArray (fun j => its.getD j 0) vals (fun j hj => by rw [hsz] at hj; simp [hj]) (fun j hj => by
    rw [hsz] at hj
    exact Nat.ne_of_lt (Nat.lt_trans (Nat.lt_of_lt_of_le (hTlt j hj) F.above) F.ns.lt))
  rw [hsz] at W
  let J' : Nat → (Str → Option Value) → List (Addr × Obj) → Prop := fun i m₁ news₁ => news₁ = news ∧ J i m₁
  refine ⟨_, _, _, its.length, _, _, _, m₀, news, J', rfl, KTurns.ofWalksU W, ?_, ?_, ?_, ⟨⟨_, Heap.get?_push_size _ rfl, rfl, rfl⟩, hls.at fun o e => Heap.get?_push_of_some _ e, ?_⟩, F.push _, (fun p hp => ⟨Heap.get?_push_of_some _ (N p hp).1, (N p hp).2⟩), ⟨rfl, hj⟩, ?_, ?_⟩
  · intro hm
    rcases List.mem_cons.mp hm with e | hm
    · exact absurd F.ns.lt (e ▸ Nat.lt_irrefl _)
    · rcases List.mem_cons.mp hm with e | hm
      · exact absurd (Nat.lt_of_lt_of_le hlt F.above) (e ▸ Nat.lt_irrefl _)
      · obtain ⟨j, hj, e⟩ := List.mem_map.mp hm
        exact absurd (Nat.lt_of_lt_of_le (hTlt j (List.mem_range.mp hj)) F.above) (e ▸ Nat.lt_irrefl _)
  · intro b hb
    rw [List.mem_singleton.mp hb]
    exact next_is_new F
  · intro p hp hI
    exact absurd (Heap.lt_size (N p hp).1) ((List.mem_singleton.mp hI) ▸ Nat.lt_irrefl _)
  · intro j hj
    exact (hv j hj).1.at fun o e => Heap.get?_push_of_some _ (F.keep _ o e)
  · rintro i v m₁ news₁ h₁ tk₁ own hin ⟨T, vs, rfl, hP, hT⟩ ⟨rfl, hJ⟩ hoff _ _ _ hst F₁ N₁
    have hlt' : i < its.length := hin
    obtain ⟨hT₀, kv, t1, t2, hkv, hvs⟩ := hv i hlt'
    have hP' : vs = #[.str kv.1 t1, .str kv.2 t2] := hP.trans hvs
    subst hP'
    refine wpAny_mono (turn i kv T t1 t2 m₁ h₁ tk₁ own hkv hJ hT F₁ N₁) (fun _ s₃ p => wpAny_mono p (fun f s₂ p => ?_) fun _ _ e => e) fun _ _ e => e
    have fin : InvEnd h₀ env.locals (J (i + 1)) (own ++ news₁) { s with heap := h₁, toks := tk₁ } s₂ → LoopStepU h₀ env.locals [s.heap.objs.size] own (J' (i + 1)) { s with heap := h₁, toks := tk₁ } .next s₂ := by
      rintro ⟨h', tk, m', news', e, F', N', hn, hm⟩
      exact ⟨rfl, h', tk, m', news₁, e, F', fun p hp => N' p (hn p hp), hoff, rfl, hm⟩
    cases f with
    | ret v => exact .ret p
    | brk => exact .brk p
    | next => exact .next (fin p)
    | cont => exact .cont (fin p)
  · rintro h' tk m' news' F' N' _ ⟨rfl, hJ⟩
    exact done m' h' tk (R.len ▸ hJ) F' N'
end
end Mine
namespace Mine
theorem find_hit {α : Type} {p : α → Bool} {l : List α} {i : Nat} {a : α} (h : l[i]? = some a) (hp : p a = true) (hn : ∀ b ∈ l.take i, p b = false) : l.find? p = some a := by
  induction l generalizing i with
  | nil => cases h
  | cons c r ih =>
    cases i with
    | zero => cases h; simp [hp]
    | succ j =>
      have hc : p c = false := hn c (by simp)
      rw [List.find?_cons, hc]
      exact ih (i := j) (by simpa using h) fun b hb => hn b (by simp [hb])
theorem find_miss {α : Type} {p : α → Bool} {l : List α} (hn : ∀ b ∈ l, p b = false) : l.find? p = none := by
  rw [List.find?_eq_none]; intro b hb; rw [hn b hb]; exact Bool.false_ne_true
section
variable {w : World} {mean : ExcName → Option Value} {mg mb : Str → Option Value} {h₀ : Heap}
theorem inst_tab {b h : Heap} {L t d l : Addr} {m : Str → Option Value} {tk : Tok} (hi : b.get? t = some (instObj 169 d)) (hd : b.get? d = some (hdrDict w l tk)) (F : Fr b L h m) :
    InstAt h t (instObj 169 d) 169 (some (dictOf [⟨PyData.keyHash w.params (Str.ofString "_headers"), .str (Str.ofString "_headers") tk, .ref l⟩] 1)) := ⟨F.keep _ _ hi, rfl, rfl, F.keep _ _ hd⟩
local macro_rules | `(tactic| k_inst) => `(tactic| exact inst_tab (by assumption) (by assumption) (by k_asm))
local macro_rules | `(tactic| walk_at "call ref") => `(tactic| (k_here; (with_reducible show wpAny _ _ (call (Value.ref 70) [Value.ref _, Value.str _ _] _) _ _ _); (show wpAny _ _ (call (Value.ref 70) [Value.ref _, Value.str _ _] [(Str.ofString "name", Value.bool true)]) _ _ _); refine use_val (conv_n (by assumption) (fun b o e => Fr.keep (by assumption) b o ((by assumption : Heap.StaysIn _ _) b o e)) (by assumption) _ _) ⟨rfl, Nat.le_of_ble_eq_true rfl, Nat.le_of_ble_eq_true rfl⟩ (by k_asm) (by k_asm) ?_; intro h' tk' F' N'))
local macro_rules | `(tactic| walk_at "eval Name") => `(tactic| (k_here; refine ld (by k_asm) (by assumption) ?_))
theorem get_c (G : G3 w mean mg mb h₀) {s : Shared} (hs : h₀.StaysIn s.heap) {t d l : Addr} {its : List Addr} {kvs : List (Str × Str)} (T : TabAt w s.heap t d l) (R : RowsAt s.heap l its kvs) {x : Str} (tk : Tok) (hx : Txt.lower x ∈ names10) (hlen : x.length ≤ 20) (hK : ∀ kv ∈ kvs, kv.1.length ≤ 20) :
    wpAny (model prog3 w) (Aq 3) (call (.ref 116) [.ref t, .str x tk]) (Post (fun v => match kvs.find? (fun kv => decide (Txt.lower kv.1 = Txt.lower x)) with | some kv => IsStr kv.2 v | none => v = .none) s) noE s := by
  obtain ⟨hi, tk0, hd⟩ := T
  refine wpAny_call ?_
  refine enter0 (hid := []) (binds := [(Str.ofString "self", .ref t), (Str.ofString "name", .str x tk), (Str.ofString "default", .none)]) G hs (fun _ h => nomatch h) (by k_is) (by k_is) (by rfl) (by exact Nat.le_of_ble_eq_true rfl) (binds_K (G.X.keeps hs) rfl (by k_is) rfl rfl rfl) (locs rfl) ?_ rfl rfl rfl (by decide)
  intro g L h₁ hg st F N X T _
  subst hg
  replace hi : (hideAll s.heap (List.map (fun (x : Addr × Obj) => x.fst) [])).get? t = _ := hi
  replace hd : (hideAll s.heap (List.map (fun (x : Addr × Obj) => x.fst) [])).get? d = _ := hd
  k_steps
  rename Fr _ _ _ _ => lF
  refine For_turns lF ?_
  k_steps
  rename Fr _ _ _ _ => lF
  rename News _ _ _ _ => lN
  refine iter_rows (fun i m => (∃ tn, m (Str.ofString "name") = some (.str (Txt.lower x) tn)) ∧ m (Str.ofString "default") = some .none ∧ ∀ kv ∈ kvs.take i, ¬ Txt.lower kv.1 = Txt.lower x) rfl (R.at (fun _ _ e => e)) lF lN ⟨⟨_, rfl⟩, rfl, fun kv h => nomatch h⟩ ?_ ?_
  · clear lF lN
    intro i kv T t1 t2 m₁ h tk own hkv ⟨⟨tn, hm1⟩, hm2, hno⟩ hT F N
    have hk := hK kv (List.mem_of_getElem? hkv)
    k_steps
    · rename (_ == _) = true => he
      refine post_end (by assumption) ?_
      rw [find_hit hkv (decide_eq_true (eq_of_beq he)) fun kv h => decide_eq_false (hno kv h)]
      exact ⟨_, rfl⟩
    · rename (_ == _) = false => he
      rename Fr _ _ _ _ => F2
      refine InvEnd.intro F2 (by assumption) (fun _ h => h) ⟨⟨tn, hm1⟩, hm2, fun kv' h' => ?_⟩
      rw [List.take_add_one, hkv] at h'
      rcases List.mem_append.mp h' with h' | h'
      · exact hno kv' h'
      · rw [List.mem_singleton.mp h']; exact fun e => Bool.false_ne_true (he.symm.trans (beq_iff_eq.mpr e))
  · clear lF lN
    intro m₁ h tk ⟨⟨tn, hm1⟩, hm2, hno⟩ F N
    k_steps
    refine post_end F ?_
    rw [List.take_length] at hno
    rw [find_miss fun kv h => decide_eq_false (hno kv h)]
end
end Mine
namespace Mine
section
variable {w : World} {mean : ExcName → Option Value} {mg mb : Str → Option Value} {h₀ : Heap}
local macro_rules | `(tactic| k_inst) => `(tactic| exact inst_tab (by assumption) (by assumption) (by k_asm))
theorem stays_fr {b : Heap} {L : Addr} {h : Heap} {m : Str → Option Value} (hs : h₀.StaysIn b) (F : Fr b L h m) : h₀.StaysIn h := fun a o e => F.keep a o (hs a o e)
theorem cls_ne {o o' : Obj} {P : Prop} (h : some o = some o') (hn : o.cls ≠ o'.cls) : P := absurd (congrArg Obj.cls (Option.some.inj h)) hn
structure Row where
  a : Addr
  k : Str
  v : Str
  t1 : Tok
  t2 : Tok
  n : Nat
noncomputable def Row.obj (r : Row) : Obj := { cls := .type "tuple", data := .seq #[.str r.k r.t1, .str r.v r.t2] r.n }
noncomputable def lst (rows : List Row) (n : Nat) : Obj := W.listOf (rows.map (fun r => Value.ref r.a)).toArray n
theorem lst_push {rows : List Row} {r : Row} {n : Nat} : lst (rows ++ [r]) n = W.listOf ((rows.map (fun r => Value.ref r.a)).toArray.push (.ref r.a)) n := by
  unfold lst; simp
noncomputable def kvsOf (rows : List Row) : List (Str × Str) := rows.map fun r => (r.k, r.v)
theorem rows_of {h : Heap} {l : Addr} {rows : List Row} {n : Nat} (hl : h.get? l = some (lst rows n)) (hr : ∀ r ∈ rows, h.get? r.a = some r.obj) : RowsAt h l (rows.map (·.a)) (kvsOf rows) := by
  refine ⟨⟨n, ?_⟩, by simp [kvsOf], fun i a kv h1 h2 => ?_⟩
  · rw [hl, lst, List.map_map]; rfl
  · rw [List.getElem?_map] at h1
    rw [kvsOf, List.getElem?_map] at h2
    cases e : rows[i]? with
    | none => rw [e] at h1; cases h1
    | some r =>
      rw [e] at h1 h2
      cases h1; cases h2
      exact ⟨r.t1, r.t2, r.n, hr r (List.mem_of_getElem? e)⟩
structure PostM (ok : Value → List Row → Prop) (l : Addr) (rows₀ : List Row) (s : Shared) (v : Value) (s' : Shared) : Prop where
  ex : ∃ h' tk rows n, s' = { s with heap := h', toks := tk } ∧ (∀ b o, b ≠ l → s.heap.get? b = some o → h'.get? b = some o) ∧ h'.get? l = some (lst rows n) ∧ (∀ r ∈ rows, h'.get? r.a = some r.obj) ∧ (∀ r ∈ rows, r ∈ rows₀ ∨ s.heap.get? r.a = none) ∧ ok v rows
theorem postM_end {ok : Value → List Row → Prop} {l : Addr} {rows rows' : List Row} {n' : Nat} {s : Shared} {g h' : Heap} {L : Addr} {m : Str → Option Value} {news : List (Addr × Obj)} {v : Value} {tk : Nat} (hne : ∀ a o, a ≠ l → s.heap.get? a = some o → g.get? a = some o)
    (hr : ∀ r ∈ rows, g.get? r.a = some r.obj) (F : Fr g L h' m) (N : News g L h' news) (h1 : (l, lst rows' n') ∈ news) (h2 : ∀ r ∈ rows', r ∈ rows ∨ (r.a, r.obj) ∈ news) (hok : ok v rows') : PostM ok l rows s v { s with heap := h', toks := tk } := by
  refine ⟨h', tk, rows', n', rfl, fun b o hb e => F.keep _ _ (hne b o hb e), (N _ h1).1, fun r h => (h2 r h).elim (fun h => F.keep _ _ (hr r h)) fun h => (N _ h).1, fun r h => (h2 r h).imp id fun h => ?_, hok⟩
  cases e : s.heap.get? r.a with
  | none => rfl
  | some o =>
    by_cases q : r.a = l
    · have a1 := (N _ h).1
      have a2 := (N _ h1).1
      simp only [q] at a1
      rw [a2] at a1
      exact cls_ne a1 fun h => absurd (Value.type.inj h) (by decide)
    · have := (N _ h).2.2
      simp only [hne _ _ q e] at this
      cases this
theorem append_end {ok : Value → List Row → Prop} {l : Addr} {rows : List Row} {n' : Nat} {s : Shared} {g h' : Heap} {L : Addr} {m : Str → Option Value} {D : Addr} {x y : Str} {t1 t2 : Tok} {k : Nat} {v : Value} {tk : Nat} (hne : ∀ a o, a ≠ l → s.heap.get? a = some o → g.get? a = some o)
    (hr : ∀ r ∈ rows, g.get? r.a = some r.obj) (F : Fr g L h' m) (N : News g L h' [(D, { cls := .type "tuple", data := .seq #[.str x t1, .str y t2] k }), (l, W.listOf ((rows.map (fun r => Value.ref r.a)).toArray.push (.ref D)) n')]) (hok : ok v (rows ++ [⟨D, x, y, t1, t2, k⟩])) : PostM ok l rows s v { s with heap := h', toks := tk } := by
  refine postM_end (rows' := rows ++ [⟨D, x, y, t1, t2, k⟩]) (n' := n') hne hr F N ?_ ?_ hok
  · rw [lst_push]; exact .tail _ (.head _)
  · intro r h
    rcases List.mem_append.mp h with h | h
    · exact .inl h
    · rw [List.mem_singleton.mp h]; exact .inr (.head _)
theorem get_none (G : G3 w mean mg mb h₀) {s : Shared} (hs : h₀.StaysIn s.heap) {t d l : Addr} {its : List Addr} {kvs : List (Str × Str)} (T : TabAt w s.heap t d l) (R : RowsAt s.heap l its kvs) {x : Str} (tk : Tok) (hx : Txt.lower x ∈ names10) (hlen : x.length ≤ 20) (hK : ∀ kv ∈ kvs, kv.1.length ≤ 20) (hno : kvs.find? (fun kv => decide (Txt.lower kv.1 = Txt.lower x)) = none) :
    wpAny (model prog3 w) (Aq 3) (call (.ref 116) [.ref t, .str x tk]) (Post (fun v => v = .none) s) noE s := by
  refine wpAny_mono (get_c G hs T R tk hx hlen hK) (fun v s' p => ⟨?_, p.keeps⟩) fun _ _ x => x
  have q := p.val
  rw [hno] at q
  exact q
theorem rows_led {b : Heap} {L : Addr} {h : Heap} {m : Str → Option Value} {l : Addr} {rows : List Row} {n : Nat} (F : Fr b L h m) (N : News b L h [(l, lst rows n)]) (hr : ∀ r ∈ rows, b.get? r.a = some r.obj) : RowsAt h l (rows.map (·.a)) (kvsOf rows) :=
  rows_of (N _ (.head _)).1 fun r h => F.keep _ _ (hr r h)
local macro_rules | `(tactic| walk_at "call ref") => `(tactic| (k_here; (with_reducible show wpAny _ _ (call (Value.ref 116) _) _ _ _); (show wpAny _ _ (call (Value.ref 116) [Value.ref _, Value.str _ _]) _ _ _); refine use_val (get_none (by assumption) (stays_fr (by assumption) (by assumption)) (TabAt.at (by assumption) (Fr.keep (by assumption))) (rows_led (by k_asm) (by k_asm) (by assumption)) _ (by assumption) (by assumption) (by assumption) (by assumption)) ⟨rfl, Nat.le_of_ble_eq_true rfl, Nat.le_of_ble_eq_true rfl⟩ (by k_asm) (by k_asm) ?_; intro h' tk' F' N'))
local macro_rules | `(tactic| walk_at "call ref") => `(tactic| (k_here; (with_reducible show wpAny _ _ (call (Value.ref 70) [Value.ref _, Value.str _ _] _) _ _ _); (show wpAny _ _ (call (Value.ref 70) [Value.ref _, Value.str _ _] [(Str.ofString "name", Value.bool true)]) _ _ _); refine use_val (conv_n (by assumption) (stays_fr (by assumption) (by assumption)) (by assumption) _ _) ⟨rfl, Nat.le_of_ble_eq_true rfl, Nat.le_of_ble_eq_true rfl⟩ (by k_asm) (by k_asm) ?_; intro h' tk' F' N'))
local macro_rules | `(tactic| walk_at "call ref") => `(tactic| (k_here; (with_reducible show wpAny _ _ (call (Value.ref 70) [Value.ref _, Value.str _ _] _) _ _ _); (show wpAny _ _ (call (Value.ref 70) [Value.ref _, Value.str _ _] [(Str.ofString "name", Value.bool false)]) _ _ _); refine use_val (conv_v (by assumption) (stays_fr (by assumption) (by assumption)) (by assumption) _ _) ⟨rfl, Nat.le_of_ble_eq_true rfl, Nat.le_of_ble_eq_true rfl⟩ (by k_asm) (by k_asm) ?_; intro h' tk' F' N'))
theorem setd_c (G : G3 w mean mg mb h₀) {s : Shared} (hs : h₀.StaysIn s.heap) {t d l : Addr} {rows : List Row} {n : Nat} (T : TabAt w s.heap t d l) (hl : s.heap.get? l = some (lst rows n)) (hl₀ : h₀.get? l = none) (hr : ∀ r ∈ rows, s.heap.get? r.a = some r.obj)
    {x v : Str} (hx : x ∈ names10) (hxl : Txt.lower x ∈ names10) (hlen : x.length ≤ 20) (hv : v ∈ vs6) (hK : ∀ kv ∈ kvsOf rows, kv.1.length ≤ 20) (hno : (kvsOf rows).find? (fun kv => decide (Txt.lower kv.1 = Txt.lower x)) = none) (hc : rows.length ≤ 20) (t1 t2 : Tok) :
    wpAny (model prog3 w) (Aq 5) (call (.ref 159) [.ref t, .str x t1, .str v t2]) (PostM (fun _ rows' => ∃ r, r.k = x ∧ r.v = v ∧ rows' = rows ++ [r]) l rows s) noE s := by
  refine wpAny_call ?_
  refine enter0 (hid := [(l, lst rows n)]) (binds := [(Str.ofString "self", .ref t), (Str.ofString "name", .str x t1), (Str.ofString "value", .str v t2)]) G hs (fun p h => by cases List.mem_singleton.mp h; exact ⟨hl, hl₀⟩) (by k_is) (by k_is) (by rfl) (by exact Nat.le_of_ble_eq_true rfl) (BindsTo.of_eq rfl) (locs rfl) ?_ rfl rfl rfl (by decide)
  intro g L h₁ hg st F N X TT _
  have hne : ∀ a o, a ≠ l → s.heap.get? a = some o → g.get? a = some o := fun a o h e => hg ▸ hideAll_get _ e fun q => h (List.mem_singleton.mp q)
  have T' : TabAt w g t d l := by
    refine ⟨hne _ _ (fun e => ?_) T.inst, let ⟨tk, e⟩ := T.dict; ⟨tk, hne _ _ (fun q => ?_) e⟩⟩
    · have q := T.inst; rw [e, hl] at q; exact cls_ne q fun h => nomatch h
    · rw [q, hl] at e; exact cls_ne e fun h => absurd (Value.type.inj h) (by decide)
  have hr' : ∀ r ∈ rows, g.get? r.a = some r.obj := fun r h => hne _ _ (fun e => by have q := hr r h; rw [e, hl] at q; exact cls_ne q fun h => absurd (Value.type.inj h) (by decide)) (hr r h)
  obtain ⟨tk0, hd⟩ := T'.dict
  have hi0 := T'.inst
  k_steps
  rename Fr _ _ _ _ => F2
  rename News _ _ _ _ => N2
  exact append_end hne hr' F2 N2 ⟨_, rfl, rfl, rfl⟩
end
end Mine
namespace Mine
section
variable {prog : Program} {w : World} {A : Around} {h₀ : Heap} {L : Addr} {m : Str → Option Value} {env : Env}
noncomputable def KeptC (h₀ : Heap) (L : Addr) (m : Str → Option Value) (nw : List (Addr × Obj)) (s s' : Shared) : Prop := ∃ h' tk', s' = { s with heap := h', toks := tk' } ∧ Fr h₀ L h' m ∧ News h₀ L h' nw
theorem KeptC.intro {nw nw' : List (Addr × Obj)} {s : Shared} {h' : Heap} {tk' : Nat} (F : Fr h₀ L h' m) (N : News h₀ L h' nw) : KeptC h₀ L m nw s { s with heap := h', toks := tk' } := ⟨h', tk', rfl, F, N⟩
/-- the turns of a comprehension with a test, over the images of a list -/
theorem restT_of {β : Type} {ct elt : Expr} {x : Str} {scope : Scope} {cl : List (Str × Addr)} {s : Shared} {S : List (Addr × Obj) → Prop} {Fin : List Value → List (Addr × Obj) → Prop} {news : List (Addr × Obj)} {xs : List β} {f e : β → Value} {p : β → Bool} {P : Nat → Value → Prop}
    (hP : ∀ i v, P i v → (xs.map f)[i]? = some v) (hS : S news)
    (turn : ∀ b, b ∈ xs → ∀ I oI C oC D m₂ h tk ys (E' : Value → Shared → Prop), LCg.NsObj oC m₂ → m₂ x = some (f b) → Fr h₀ L h m → News h₀ L h ((I, oI) :: (C, oC) :: (D, LCg.lst ys) :: news) → LCg.Off3 I C D news → ((@Ne Nat I C) ∧ (@Ne Nat I D) ∧ (@Ne Nat C D)) →
      wpAny (model prog w) A (isTrue ct (compEnvC scope cl C env) (eval ct (compEnvC scope cl C env))) (fun ok s' => if ok = true then
        wpAny (model prog w) A (eval elt (compEnvC scope cl C env)) (fun y s'' => p b = true ∧ y = e b ∧ KeptC h₀ L m ((I, oI) :: (C, oC) :: (D, LCg.lst ys) :: news) { s with heap := h, toks := tk } s'') E' s'
        else p b = false ∧ KeptC h₀ L m ((I, oI) :: (C, oC) :: (D, LCg.lst ys) :: news) { s with heap := h, toks := tk } s') E' { s with heap := h, toks := tk })
    (fin : Fin ((xs.filter p).map e) news) : ∀ (suf pre : List β), xs = pre ++ suf → LCt.CompRestT prog w A h₀ L m env ct elt x scope cl s S P Fin suf.length pre.length ((pre.filter p).map e) news
  | [], pre, hx => by
    rw [List.append_nil] at hx; subst hx
    exact fin
  | b :: r, pre, hx => by
    intro v I oI C oC D m₂ h tk E' hv hns hm F N off ne
    have hv' : v = f b := by
      have q := hP _ _ hv
      rw [hx, List.map_append, List.getElem?_append_right (by simp)] at q
      simp at q
      exact q.symm
    subst hv'
    have hb : b ∈ xs := by rw [hx]; simp
    refine wpAny_mono (turn b hb I oI C oC D m₂ h tk _ E' hns hm F N off ne) (fun ok s' q => ?_) fun _ _ e => e
    have ih := restT_of hP hS turn fin r (pre ++ [b]) (by rw [hx]; simp)
    rw [List.length_append, List.filter_append, List.map_append] at ih
    cases ok with
    | true =>
      simp only [if_true] at q ⊢
      refine wpAny_mono q (fun y s'' q => ?_) fun _ _ e => e
      obtain ⟨hp, rfl, h', tk', rfl, F', N'⟩ := q
      refine ⟨h', tk', news, rfl, F', N', off, hS, ?_⟩
      simpa [hp] using ih
    | false =>
      simp only [Bool.false_eq_true, if_false] at q ⊢
      obtain ⟨hp, h', tk', rfl, F', N'⟩ := q
      refine ⟨h', tk', news, rfl, F', N', off, hS, ?_⟩
      simpa [hp] using ih
end
end Mine
namespace Mine
section
variable {prog : Program} {w : World} {A : Around} {E : Value → Shared → Prop} {s : Shared}
/-- l[:] = D -/
theorem setItem_all {l sl D : Addr} {o : Obj} {items new : Array Value} {n : Nat} {Q : Unit → Shared → Prop} (ho : s.heap.get? l = some o) (hc : o.cls = .type "list") (hd : o.data = .seq items n)
    (hs : s.heap.IsSliceOf sl .none .none .none) (hD : s.heap.IsList D new) (hne : l ≠ D) (hsz : items.size + new.size ≤ sizeLine)
    (hQ : ∀ f : Array Value → Array Value, f items = new → Q () { s with heap := s.heap.update l (Obj.mapSeq f) }) :
    wpAny (model prog w) A (setItem (.ref l) (.ref sl) (.ref D)) Q E s := by
  have hl : s.heap.IsList l items := ⟨o, ho, hc, n, hd⟩
  obtain ⟨os, hos, hcs, hds⟩ := id hs
  obtain ⟨oD, hoD, hcD, nD, hdD⟩ := id hD
  have hTs : s.TypeIs (.ref sl) "slice" := ⟨os, hos, hcs⟩
  unfold setItem
  try with_reducible refine wpAny_holding ?_
  first | refine wpAny_bind (wpAny_pure ?_) | skip
  refine wpAny_bind (wpAny_sequenceKey hl.typeIs (by decide) ?_)
  refine wpAny_bind (wpAny_callSpecial?_slot (name := Str.ofString "__setitem__") hl.typeIs slot_list_setitem
    (wpAny_call_entry slot_list_setitem hl.typeIs entry_list_setitem ?_ (args_list_setitem _ _ _)))
  show wpAny _ _ (Builtin.List.listSubscript? (.ref sl) >>= _) _ _ s
  refine wpAny_bind ?_
  unfold Builtin.List.listSubscript?
  refine wpAny_bind (wpAny_specialOf hTs slice_no_index ?_)
  simp only [Option.isNone_none, if_true]
  refine wpAny_pure ?_
  show wpAny _ _ (typeOf (.ref sl) >>= _) _ _ s
  refine wpAny_bind (wpAny_typeOf hTs ?_)
  rw [if_neg (by decide)]
  rw [listSliceParts_eq]
  refine wpAny_bind (wpAny_bind (wpAny_field hos hds (x := .none) rfl (wpAny_bind (wpAny_listPart .none ?_))))
  rw [if_neg (by exact Bool.false_ne_true)]
  refine wpAny_bind (wpAny_field hos hds (x := .none) rfl (wpAny_bind (wpAny_listPart .none ?_)))
  refine wpAny_bind (wpAny_field hos hds (x := .none) rfl (wpAny_bind (wpAny_listPart .none (wpAny_pure ?_))))
  rw [if_neg (show ¬ (Builtin.List.listSameRef (.ref l) (.ref D) = true) from fun h => hne (by simpa [Builtin.List.listSameRef] using h))]
  refine wpAny_bind ?_
  unfold Builtin.List.listAllItems
  refine wpAny_bind (wpAny_typeOf hD.typeIs ?_)
  rw [if_pos (by decide)]
  refine wpAny_listItems hoD hdD ?_
  refine wpAny_bind (wpAny_listItems ho hd ?_)
  refine wpAny_bind (wpAny_of_eq (sliceIndices_raw none none none items.size (by simp)) ?_)
  have hb : sliceBounds none none none items.size = (0, (items.size : Int), 1) := rfl
  rw [hb]
  dsimp only
  rw [if_pos (by decide)]
  have htl : ¬ (Builtin.List.listTooLong (items.size + new.size) = true) := by simp [Builtin.List.listTooLong]; exact hsz
  rw [if_neg htl]
  refine wpAny_bind (wpAny_rule ?_)
  refine wpAny_bind (wpAny_updateSeq ho hd ?_ (Nat.le_trans (Nat.le_add_right _ _) hsz) ?_)
  · refine wpAny_bind (wpAny_letGo (wpAny_pure ⟨.none, rfl, wpAny_pure (hQ _ ?_)⟩))
    simp
  · have : (items.extract 0 (Int.toNat 0) ++ new ++ items.extract (max 0 (items.size : Int)).toNat).size = new.size := by simp
    rw [this]
    exact Nat.le_trans (Nat.le_trans (Nat.le_add_left _ _) hsz) (Nat.le_succ _)
theorem setItem_led {l sl D : Addr} {items new : Array Value} {n : Nat} {h₀ : Heap} {L : Addr} {m : Str → Option Value} {pre post : List (Addr × Obj)} {Q : Unit → Shared → Prop} (F : Fr h₀ L s.heap m) (N : News h₀ L s.heap (pre ++ (l, W.listOf items n) :: post))
    (a : ∀ p ∈ pre, p.1 ≠ l) (b : ∀ p ∈ post, p.1 ≠ l) (hs : s.heap.IsSliceOf sl .none .none .none) (hD : s.heap.IsList D new) (hne : l ≠ D) (hsz : items.size + new.size ≤ sizeLine)
    (h : ∀ h' n', Fr h₀ L h' m → News h₀ L h' (pre ++ (l, W.listOf new n') :: post) → Q () { s with heap := h' }) :
    wpAny (model prog w) A (setItem (.ref l) (.ref sl) (.ref D)) Q E s := by
  have z := N (l, W.listOf items n) (List.mem_append.mpr (.inr (.head _)))
  refine setItem_all z.1 rfl rfl hs hD hne hsz fun f hf => ?_
  have hs' := Heap.SameBut.update s.heap l (Obj.mapSeq f)
  have ho' := Heap.get?_update_self (Obj.mapSeq f) z.1 (Obj.isFreed_of_seq (Obj.data_mapSeq (show (W.listOf items n).data = .seq items n from rfl) f).choose_spec)
  have he : ∃ n', Obj.mapSeq f (W.listOf items n) = W.listOf new n' := by
    subst hf; exact ⟨_, rfl⟩
  obtain ⟨n', he⟩ := he
  exact h _ n' (F.change hs' z.2.1 z.2.2) (news_set N a b hs' (he ▸ ho'))
theorem setItem_push {l D c : Addr} {oc : Obj} {items : Array Value} {ys : List Value} {n : Nat} {h h₀ : Heap} {L : Addr} {m : Str → Option Value} {Q : Unit → Shared → Prop} (F : Fr h₀ L h m) (N : News h₀ L h [(D, LCg.lst ys), (c, oc), (l, W.listOf items n)])
    (hD : D ≠ l) (hc : c ≠ l) (hsz : items.size + ys.length ≤ sizeLine)
    (k : ∀ h' n', Fr h₀ L h' m → News h₀ L h' [(D, LCg.lst ys), (c, oc), (l, W.listOf ys.toArray n')] → Q () { s with heap := h' }) :
    wpAny (model prog w) A (setItem (.ref l) (.ref h.objs.size) (.ref D)) Q E { s with heap := h.push { cls := .type "slice", data := .fields #[.none, .none, .none] } } := by
  have N' : News h₀ L (h.push { cls := .type "slice", data := .fields #[.none, .none, .none] }) [(D, LCg.lst ys), (c, oc), (l, W.listOf items n)] := fun p hp => ⟨Heap.get?_push_of_some _ (N p hp).1, (N p hp).2⟩
  refine setItem_led (s := { s with heap := h.push { cls := .type "slice", data := .fields #[.none, .none, .none] } }) (pre := [(D, LCg.lst ys), (c, oc)]) (post := []) (F.push _) N' (fun p hp => ?_) (fun p hp => nomatch hp) (Heap.IsSliceOf.new ..) ⟨_, (N' _ (.head _)).1, rfl, _, rfl⟩ (Ne.symm hD) (by simpa using hsz) fun h' n' F' N' => k h' n' F' N'
  rcases List.mem_cons.mp hp with rfl | hp
  · exact hD
  · rw [List.mem_singleton.mp hp]; exact hc
end
end Mine
namespace Mine
section
variable {w : World} {mean : ExcName → Option Value} {mg mb : Str → Option Value} {h₀ : Heap}
local macro_rules | `(tactic| k_inst) => `(tactic| exact inst_tab (by assumption) (by assumption) (by k_asm))
theorem enterC {A : Around} {s : Shared} {f : Addr} {args : Args} {R : Result → Shared → Prop} {name qual : Str} {params : Arguments} {body : List Stmt} {scope : Scope} {dV kV doc pm cdv ct oc : Value} {an od : Option Addr} {osl : Array (Option Value)} {ix : List Nat} {dec : List Expr} {ret : Option Expr} {tp : List TypeParam} {ts : Option Scope} {bnd : Str} {ps : Pos}
    {binds : List (Str × Value)} {hid : List (Addr × Obj)} (G : G3 w mean mg mb h₀) (hs : h₀.StaysIn s.heap) (hN : ∀ p ∈ hid, s.heap.get? p.1 = some p.2 ∧ h₀.get? p.1 = none)
    (ho : (MineX.hd.heap_39 w.params).lookup f = some ⟨oc, od, .func (fnOf (fName (stA MineX.P0 ix)) qual (fArgs (stA MineX.P0 ix)) (fBody (stA MineX.P0 ix)) (fScope (stA MineX.P0 ix)) dV kV doc pm an cdv ct), osl⟩) (hcd : codeIn (MineX.hd.heap_39 w.params) cdv qual = true) (hst : stA MineX.P0 ix = some (.FunctionDef name params body dec ret tp scope ts bnd ps)) (hroom : A.depth < recursionLimit)
    (hbind : BindsTo s (fnOf name qual params body scope dV kV doc pm an cdv ct) args binds)
    (hkind : (binds.all fun y => scope.names.lookup y.1 == some .local || scope.names.lookup y.1 == some .cell) = true) (hnd : ((cellsFrom 0 scope.names []).map (·.1)).Nodup)
    (h : ∀ g L h₁ tk cells, g = hideAll s.heap (hid.map (·.1)) → h₀.StaysIn g → Fr g L h₁ (bindL (envOfC qual scope L f cdv).kindOf binds fun _ => none) → News g L h₁ (cells ++ hid) →
      CellsAre (bindC (envOfC qual scope L f cdv).kindOf binds fun _ => none) (cellsFrom (L + 1) scope.names []) cells → (MineX.hd.heap_39 w.params).In g → Top MineX.hd.view_39 loose3 mean mg mb g → (∀ p ∈ hid, p.1 < L) →
      wpAny (model prog3 w) (A.deeper (envOfC qual scope L f cdv)) (execs body (envOfC qual scope L f cdv))
        (fun fl s' => R (.ok (.ret (match fl with | .ret v => v | _ => .none))) s') noE { s with heap := h₁, toks := tk })
    (hco : scope.isCoroutine = false) (hgen : scope.isGenerator = false) (hk : scope.kind = .function) : codeAny (model prog3 w) A (.call (.ref f) args) R s := by
  rw [hst] at ho
  replace ho : (MineX.hd.heap_39 w.params).lookup f = some ⟨oc, od, .func (fnOf name qual params body scope dV kV doc pm an cdv ct), osl⟩ := ho
  have X := G.X.keeps hs
  refine codeAny_call_function hroom (X _ _ ho) rfl hco hgen rfl (codeRec_of X hcd) (hbind _ _ _ _ ?_)
  refine wpAny_newFunctionEnv_cells hk (kindsX hkind _) fun env' he s' x => ?_
  subst he
  refine ⟨(G.T.nolimit.keeps hs).keeps x.toInCall.keep, codeAny_func ?_⟩
  obtain ⟨h₁, tk, rfl, _⟩ := x.done
  have hk₁ := x.toInCall.keep
  have st := stays_hide hs (fun p hp => (hN p hp).2)
  obtain ⟨cells, NC, Y⟩ := Cl.news (h₀ := s.heap) (Nat.le_refl _) fun n c hm => ⟨x.cell n c (lookup_of_mem_nodup (cellsFrom_names scope.names 0 (s.heap.objs.size + 1) [] [] rfl ▸ hnd) hm), x.above n c hm⟩
  refine wpAny_mono (h (hideAll s.heap (hid.map Prod.fst)) s.heap.objs.size h₁ tk cells rfl st ⟨x.toInCall.ns, fun b o e => hk₁ b o (of_hideAll _ e), Nat.le_of_eq (hideAll_size _ _)⟩ (fun p hp => ?_) Y (G.X.keeps fun b o e => st b o e) (G.T.keeps fun b o e => st b o e) (fun p hp => Heap.lt_size (hN p hp).1)) (fun _ _ x => x) fun _ _ x => x.elim
  rcases List.mem_append.mp hp with hp | hp
  · refine ⟨(NC p hp).1, (NC p hp).2.1, ?_⟩
    cases q : (hideAll s.heap (hid.map Prod.fst)).get? p.1 with
    | none => rfl
    | some o => have := of_hideAll _ q; rw [(NC p hp).2.2] at this; cases this
  · exact ⟨hk₁ _ _ (hN p hp).1, Nat.ne_of_lt (Heap.lt_size (hN p hp).1), hideAll_none _ (List.mem_map_of_mem hp)⟩
local macro_rules | `(tactic| walk_at "call ref") => `(tactic| (k_here; (with_reducible show wpAny _ _ (call (Value.ref 70) [Value.ref _, Value.str _ _] _) _ _ _); (show wpAny _ _ (call (Value.ref 70) [Value.ref _, Value.str _ _] [(Str.ofString "name", Value.bool true)]) _ _ _); refine use_val (conv_n (by assumption) (stays_fr (by assumption) (by assumption)) (by assumption) _ _) ⟨rfl, Nat.le_of_ble_eq_true rfl, Nat.le_of_ble_eq_true rfl⟩ (by k_asm) (by k_asm) ?_; intro h' tk' F' N'))
theorem hide1 {s : Shared} {g : Heap} {t d l : Addr} {rows : List Row} {n : Nat} (hg : g = hideAll s.heap ([(l, lst rows n)].map (·.1))) (T : TabAt w s.heap t d l) (hl : s.heap.get? l = some (lst rows n)) (hr : ∀ r ∈ rows, s.heap.get? r.a = some r.obj) :
    (∀ a o, a ≠ l → s.heap.get? a = some o → g.get? a = some o) ∧ TabAt w g t d l ∧ ∀ r ∈ rows, g.get? r.a = some r.obj := by
  have hne : ∀ a o, a ≠ l → s.heap.get? a = some o → g.get? a = some o := fun a o h e => hg ▸ hideAll_get _ e fun q => h (List.mem_singleton.mp q)
  refine ⟨hne, ?_, fun r h => hne _ _ (fun e => by have q := hr r h; rw [e, hl] at q; exact cls_ne q fun h => absurd (Value.type.inj h) (by decide)) (hr r h)⟩
  refine ⟨hne _ _ (fun e => ?_) T.inst, let ⟨tk, e⟩ := T.dict; ⟨tk, hne _ _ (fun q => ?_) e⟩⟩
  · have q := T.inst; rw [e, hl] at q; exact cls_ne q fun h => nomatch h
  · rw [q, hl] at e; exact cls_ne e fun h => absurd (Value.type.inj h) (by decide)
local macro_rules | `(tactic| walk_at "eval ListComp") => `(tactic| (k_here; lct_look; lcg_calm; k_dflt (refine LCt.ListComp_T (F₀ := by k_asm) (by with_unfolding_all rfl) (by decide) (by rfl) (by decide) (by rfl) ?_)))
theorem del_c (G : G3 w mean mg mb h₀) {s : Shared} (hs : h₀.StaysIn s.heap) {t d l : Addr} {rows : List Row} {n : Nat} (T : TabAt w s.heap t d l) (hl : s.heap.get? l = some (lst rows n)) (hl₀ : h₀.get? l = none) (hr : ∀ r ∈ rows, s.heap.get? r.a = some r.obj)
    {x : Str} (hx : Txt.lower x ∈ names10) (hlen : x.length ≤ 20) (hK : ∀ r ∈ rows, r.k.length ≤ 20) (hc : rows.length ≤ 20) (t1 : Tok) :
    wpAny (model prog3 w) (Aq 3) (call (.ref 89) [.ref t, .str x t1]) (PostM (fun _ rows' => rows' = rows.filter fun r => decide (Txt.lower r.k ≠ Txt.lower x)) l rows s) noE s := by
  refine wpAny_call ?_
  refine enterC (hid := [(l, lst rows n)]) (binds := [(Str.ofString "self", .ref t), (Str.ofString "name", .str x t1)]) G hs (fun p h => by cases List.mem_singleton.mp h; exact ⟨hl, hl₀⟩) (by k_is) (by k_is) (by rfl) (by exact Nat.le_of_ble_eq_true rfl) (BindsTo.of_eq rfl) rfl (by decide +kernel) ?_ rfl rfl rfl
  intro g L h₁ tk cells hg st F N Y X TT hlt
  obtain ⟨hne, T', hr'⟩ := hide1 hg T hl hr
  obtain ⟨tk0, hd⟩ := T'.dict
  have hi0 := T'.inst
  k_cells Y
  simp only [List.cons_append, List.nil_append] at N
  dsimp only
  k_steps
  rename Fr _ _ _ _ => F2
  rename News _ _ _ _ => N2
  refine LCt.CompSrcT.ledger rfl F2 N2 (.tail _ (.head _)) (by simp only [List.size_toArray, List.length_map]; exact Nat.le_trans hc (by decide)) fun g' => ?_
  refine (show _ from ?_ : LCt.CompRestT _ _ _ _ _ _ _ _ _ _ _ _ _ _ _ _ (rows.map (fun r => Value.ref r.a)).toArray.size 0 [] _)
  rw [List.size_toArray, List.length_map]
  refine restT_of (xs := rows) (f := fun r => .ref r.a) (e := fun r => .ref r.a) (p := fun r => decide (Txt.lower r.k ≠ Txt.lower x)) (fun i v h => by simpa using h) (.inr ⟨_, .tail _ (.head _), rfl, _, rfl⟩) ?_ ?_ rows [] rfl
  · intro r hr I oI C oC D m₂ h tk ys E' hns hm F N off ne
    have hk := hK r hr
    have hT : IsTup g r.a #[.str r.k r.t1, .str r.v r.t2] := ⟨_, hr' r hr, rfl, _, rfl⟩
    k_steps
    · exact ⟨_, _, rfl, by assumption, by assumption⟩
    · rename (_ != _) = false => he
      exact decide_eq_false fun e => e (by simpa using he)
    · exact ⟨_, _, rfl, by assumption, by assumption⟩
  · intro D h tk F N off
    k_steps
    rename Fr _ _ _ _ => F3
    rename News _ _ _ _ => N3
    have hDl : D ≠ l := fun e => off.2.1 e.symm
    refine setItem_push (s := { s with heap := h, toks := _ }) F3 N3 hDl (fun e => Nat.lt_irrefl _ (Nat.lt_of_lt_of_le (hlt _ (.head _)) (e ▸ Nat.le_succ L))) (by have hf := List.length_filter_le (fun r : Row => decide (Txt.lower r.k ≠ Txt.lower x)) rows; simp only [List.size_toArray, List.length_map]; exact Nat.le_trans (Nat.add_le_add hc (Nat.le_trans hf hc)) (by decide)) fun h' n' F' N' => ?_
    k_steps
    exact postM_end (rows' := rows.filter fun r => decide (Txt.lower r.k ≠ Txt.lower x)) (n' := n') hne hr' F' N' (.tail _ (.tail _ (.head _))) (fun r h => .inl (List.mem_filter.mp h).1) rfl
end
end Mine
namespace Mine
section
variable {w : World} {mean : ExcName → Option Value} {mg mb : Str → Option Value} {h₀ : Heap}
local macro_rules | `(tactic| k_inst) => `(tactic| exact inst_tab (by assumption) (by assumption) (by k_asm))
local macro_rules | `(tactic| walk_at "call ref") => `(tactic| (k_here; (with_reducible show wpAny _ _ (call (Value.ref 70) [Value.ref _, Value.str _ _] _) _ _ _); (show wpAny _ _ (call (Value.ref 70) [Value.ref _, Value.str _ _] [(Str.ofString "name", Value.bool true)]) _ _ _); refine use_val (conv_n (by assumption) (stays_fr (by assumption) (by assumption)) (by assumption) _ _) ⟨rfl, Nat.le_of_ble_eq_true rfl, Nat.le_of_ble_eq_true rfl⟩ (by k_asm) (by k_asm) ?_; intro h' tk' F' N'))
local macro_rules | `(tactic| walk_at "call ref") => `(tactic| (k_here; (with_reducible show wpAny _ _ (call (Value.ref 70) [Value.ref _, Value.str _ _] _) _ _ _); (show wpAny _ _ (call (Value.ref 70) [Value.ref _, Value.str _ _] [(Str.ofString "name", Value.bool false)]) _ _ _); refine use_val (conv_v (by assumption) (stays_fr (by assumption) (by assumption)) (by assumption) _ _) ⟨rfl, Nat.le_of_ble_eq_true rfl, Nat.le_of_ble_eq_true rfl⟩ (by k_asm) (by k_asm) ?_; intro h' tk' F' N'))
theorem ksp_delItem {M : Model} {A : Around} {E : Value → Shared → Prop} {s : Shared} {K : Frag} {x C L f : Addr} {h₀ : Heap} {m : Str → Option Value} {ox : Obj} {od : Option Obj} {i : Value} {Q : Unit → Shared → Prop} (F : Fr h₀ L s.heap m) (X₀ : K.In h₀) (I : InstAt s.heap x ox C od) (hq : noSeq K C = true) (hs : findIn K (.ref C) "__delitem__" = some (some (.ref f))) (hf : isFn K (.ref f) = true)
    (h : wpAny M A (call (.ref f) [.ref x, i]) (fun _ s' => Q () s') E s) : wpAny M A (delItem (.ref x) i) Q E s := by
  have X := X₀.keeps F.keep
  unfold delItem sequenceKey
  refine wpAny_holding (wpAny_bind (wpAny_bind (I.type.here ?_)))
  refine wpAny_bind ((anyM_none X hq).here ?_)
  rw [if_pos (show (!false) = true from rfl)]
  exact wpAny_pure (wpAny_bind (special_fn X I hs (beq_iff_eq.mp hf) (wpAny_mono h (fun _ _ z => wpAny_pure z) fun _ _ z => z)))
local macro_rules | `(tactic| walk_at "delItem ref str") => `(tactic| (k_here; (with_reducible show wpAny _ _ (delItem (Value.ref _) _) _ _ _); k_dflt (refine' ksp_delItem ?F ?X ?I ?hQ ?hS ?hF ?_; (case F => k_asm); (case X => k_asm); (case I => k_inst); (case hS => k_is); (case hF => k_is); (case hQ => k_is); k_whole)))
theorem use_del {A : Around} {t : Sem Value} {l : Addr} {rows : List Row} {f : Row → Bool} {k n : Nat} {s : Shared} {b : Heap} {L : Addr} {m : Str → Option Value} {Q E : Value → Shared → Prop}
    (spec : wpAny (model prog3 w) (Aq k) t (PostM (fun _ rows' => rows' = rows.filter f) l rows s) noE s) (hA : Fits A k) (F : Fr b L s.heap m) (N : News b L s.heap [(l, lst rows n)])
    (h : ∀ v h' tk' n', Fr b L h' m → News b L h' [(l, lst (rows.filter f) n')] → Q v { s with heap := h', toks := tk' }) : wpAny (model prog3 w) A t Q E s := by
  refine wpAny_mono (weaken spec hA.h hA.d hA.u rfl rfl) (fun v s' p => ?_) fun _ _ x => x.elim
  obtain ⟨h', tk, rows', n', rfl, hk, hl, hr, _, rfl⟩ := p.ex
  have z := N _ (.head _)
  refine h v h' tk n' ⟨F.ns.at' fun o e => hk _ _ (Ne.symm z.2.1) e, fun a o e => hk _ _ (fun q => ?_) (F.keep a o e), F.above⟩ fun p hp => ?_
  · have y := z.2.2; rw [← q, e] at y; cases y
  · cases List.mem_singleton.mp hp; exact ⟨hl, z.2⟩
theorem append_end2 {ok : Value → List Row → Prop} {l : Addr} {rows₀ rows : List Row} {n' : Nat} {s : Shared} {g h' : Heap} {L : Addr} {m : Str → Option Value} {D : Addr} {x y : Str} {t1 t2 : Tok} {k : Nat} {v : Value} {tk : Nat} (hne : ∀ a o, a ≠ l → s.heap.get? a = some o → g.get? a = some o)
    (hr : ∀ r ∈ rows₀, g.get? r.a = some r.obj) (hsub : ∀ r ∈ rows, r ∈ rows₀) (F : Fr g L h' m) (N : News g L h' [(D, { cls := .type "tuple", data := .seq #[.str x t1, .str y t2] k }), (l, W.listOf ((rows.map (fun r => Value.ref r.a)).toArray.push (.ref D)) n')]) (hok : ok v (rows ++ [⟨D, x, y, t1, t2, k⟩])) : PostM ok l rows₀ s v { s with heap := h', toks := tk } := by
  refine postM_end (rows' := rows ++ [⟨D, x, y, t1, t2, k⟩]) (n' := n') hne hr F N ?_ ?_ hok
  · rw [lst_push]; exact .tail _ (.head _)
  · intro r h
    rcases List.mem_append.mp h with h | h
    · exact .inl (hsub r h)
    · rw [List.mem_singleton.mp h]; exact .inr (.head _)
theorem hr_led {b : Heap} {L : Addr} {h : Heap} {m : Str → Option Value} {rows : List Row} (F : Fr b L h m) (hr : ∀ r ∈ rows, b.get? r.a = some r.obj) : ∀ r ∈ rows, h.get? r.a = some r.obj := fun r h => F.keep _ _ (hr r h)
local macro_rules | `(tactic| walk_at "call ref") => `(tactic| (k_here; (with_reducible show wpAny _ _ (call (Value.ref 89) _) _ _ _); (show wpAny _ _ (call (Value.ref 89) [Value.ref _, Value.str _ _]) _ _ _); refine use_del (del_c (by assumption) (stays_fr (by assumption) (by assumption)) (TabAt.at (by assumption) (Fr.keep (by assumption))) (News.get (by assumption) (.head _)) (by assumption) (hr_led (by assumption) (by assumption)) (by assumption) (by assumption) (by assumption) (by assumption) _) ⟨rfl, Nat.le_of_ble_eq_true rfl, Nat.le_of_ble_eq_true rfl⟩ (by k_asm) (by k_asm) ?_; intro v' h' tk' n' F' N'))
theorem seti_c (G : G3 w mean mg mb h₀) {s : Shared} (hs : h₀.StaysIn s.heap) {t d l : Addr} {rows : List Row} {n : Nat} (T : TabAt w s.heap t d l) (hl : s.heap.get? l = some (lst rows n)) (hl₀ : h₀.get? l = none) (hr : ∀ r ∈ rows, s.heap.get? r.a = some r.obj)
    {x v : Str} (hx : x ∈ names10) (hxl : Txt.lower x ∈ names10) (hv : v ∈ vs6) (hlen : x.length ≤ 20) (hK : ∀ r ∈ rows, r.k.length ≤ 20) (hc : rows.length ≤ 20) (t1 t2 : Tok) :
    wpAny (model prog3 w) (Aq 5) (call (.ref 84) [.ref t, .str x t1, .str v t2]) (PostM (fun _ rows' => ∃ r, r.k = x ∧ r.v = v ∧ rows' = (rows.filter fun r => decide (Txt.lower r.k ≠ Txt.lower x)) ++ [r]) l rows s) noE s := by
  refine wpAny_call ?_
  refine enter0 (hid := [(l, lst rows n)]) (binds := [(Str.ofString "self", .ref t), (Str.ofString "name", .str x t1), (Str.ofString "val", .str v t2)]) G hs (fun p h => by cases List.mem_singleton.mp h; exact ⟨hl, hl₀⟩) (by k_is) (by k_is) (by rfl) (by exact Nat.le_of_ble_eq_true rfl) (BindsTo.of_eq rfl) (locs rfl) ?_ rfl rfl rfl (by decide)
  intro g L h₁ hg st F N X TT _
  obtain ⟨hne, T', hr'⟩ := hide1 hg T hl hr
  obtain ⟨tk0, hd⟩ := T'.dict
  have hi0 := T'.inst
  have hc2 : (rows.filter fun r => decide (Txt.lower r.k ≠ Txt.lower x)).length ≤ 20 := Nat.le_trans (List.length_filter_le _ _) hc
  k_steps
  rename Fr _ _ _ _ => F2
  rename News _ _ _ _ => N2
  exact append_end2 hne hr' (fun r h => (List.mem_filter.mp h).1) F2 N2 ⟨_, rfl, rfl, rfl⟩
end
end Mine
namespace Mine
local macro_rules | `(tactic| walk_at "none") => `(tactic| fail "none")
section
variable {w : World} {mean : ExcName → Option Value} {mg mb : Str → Option Value} {h₀ : Heap}
local macro_rules | `(tactic| walk_at "call ref") => `(tactic| (k_here; (with_reducible show wpAny _ _ (call (Value.ref 70) [Value.ref _, Value.str _ _] _) _ _ _); (show wpAny _ _ (call (Value.ref 70) [Value.ref _, Value.str _ _] [(Str.ofString "name", Value.bool true)]) _ _ _); refine use_val (conv_n (by assumption) (stays_fr (by assumption) (by assumption)) (by assumption) _ _) ⟨rfl, Nat.le_of_ble_eq_true rfl, Nat.le_of_ble_eq_true rfl⟩ (by k_asm) (by k_asm) ?_; intro h' tk' F' N'))
local macro_rules | `(tactic| walk_at "call ref") => `(tactic| (k_here; (with_reducible show wpAny _ _ (call (Value.ref 70) [Value.ref _, Value.str _ _] _) _ _ _); (show wpAny _ _ (call (Value.ref 70) [Value.ref _, Value.str _ _] [(Str.ofString "name", Value.bool false)]) _ _ _); refine use_val (conv_v (by assumption) (stays_fr (by assumption) (by assumption)) (by assumption) _ _) ⟨rfl, Nat.le_of_ble_eq_true rfl, Nat.le_of_ble_eq_true rfl⟩ (by k_asm) (by k_asm) ?_; intro h' tk' F' N'))
theorem kit_list {b : Heap} {L l : Addr} {h : Heap} {m : Str → Option Value} {its : Array Value} (hl : b.IsList l its) (F : Fr b L h m) : KitAt l "list" h := by
  obtain ⟨o, ho, hc, n, hd⟩ := hl
  exact ⟨o, F.keep _ _ ho, hc⟩
theorem weakenC {M : Model} {A B : Around} {c : Code} {R : Result → Shared → Prop} {s : Shared}
    (h : codeAny M B c R s) (hh : A.handled = B.handled) (hd : A.depth ≤ B.depth) (hu : A.units ≤ B.units) (hf : B.frames = none) (hg : B.guards = none) : codeAny M A c R s :=
  fun Γ p hc hΓ => h Γ p hc ⟨hΓ.1.trans hh, Nat.le_trans hΓ.2.1 hd, fun l e => (by rw [hf] at e; cases e), fun l e => (by rw [hg] at e; cases e), Nat.le_trans hΓ.2.2.2.2 hu⟩
local macro_rules | `(tactic| walk_at "call type:type") => `(tactic| (k_here; (with_reducible show wpAny _ _ (call (Value.type "type") [Value.ref _]) _ _ _); refine kto_cont (T := "list") (kit_list (by assumption) (by assumption)) (by decide) ?_))
local macro_rules | `(tactic| walk_at "eval Name") => `(tactic| (k_here; refine ld (by k_asm) (by assumption) ?_))
theorem init_c (G : G3 w mean mg mb h₀) {s : Shared} (hs : h₀.StaysIn s.heap) {x dx l : Addr} {its : List Addr} {kvs : List (Str × Str)} (hx : s.heap.get? x = some (instObj 169 dx)) (hdx : s.heap.get? dx = some (dictOf [] 0)) (hd₀ : h₀.get? dx = none) (hx₀ : h₀.get? x = none) (hxd : dx < x) (R : RowsAt s.heap l its kvs) (hk : ∀ kv ∈ kvs, kv.1 ∈ names10 ∧ kv.2 ∈ vs6)
    {RR : Result → Shared → Prop} (hR : ∀ h' tk tk0, (∀ b o, b ≠ dx → s.heap.get? b = some o → h'.get? b = some o) → h'.get? dx = some (hdrDict w l tk0) → RR (.ok (.ret .none)) { s with heap := h', toks := tk }) :
    codeAny (model prog3 w) (Aq 5) (.call (.ref 63) ⟨[.ref x, .ref l], []⟩) RR s := by
  refine enter0 (hid := [(x, instObj 169 dx), (dx, dictOf [] 0)]) (binds := [(Str.ofString "self", .ref x), (Str.ofString "headers", .ref l)]) G hs (fun p h => by
    rcases List.mem_cons.mp h with rfl | h
    · exact ⟨hx, hx₀⟩
    · cases List.mem_singleton.mp h; exact ⟨hdx, hd₀⟩) (by k_is) (by k_is) (by rfl) (by exact Nat.le_of_ble_eq_true rfl) (binds_K (G.X.keeps hs) rfl (by k_is) rfl rfl rfl) (locs rfl) ?_ rfl rfl rfl (by decide)
  intro g L h₁ hg st F N X TT hlt
  have hne : ∀ a o, a ≠ x → a ≠ dx → s.heap.get? a = some o → g.get? a = some o := fun a o h1 h2 e => hg ▸ hideAll_get _ e fun q => by
    rcases List.mem_cons.mp q with q | q
    · exact h1 q
    · exact h2 (List.mem_singleton.mp q)
  have hne' : ∀ a o c, o.cls = .type c → c ≠ "dict" → s.heap.get? a = some o → g.get? a = some o := fun a o c hc hcn e => by
    refine hne a o (fun q => ?_) (fun q => ?_) e
    · rw [q, hx] at e; exact cls_ne e fun h => by rw [hc] at h; cases h
    · rw [q, hdx] at e; exact cls_ne e fun h => by rw [hc] at h; exact hcn (Value.type.inj h).symm
  obtain ⟨nl, hl⟩ := R.list
  have hl' : g.get? l = some (W.listOf (its.map Value.ref).toArray nl) := hne' _ _ "list" rfl (by decide) hl
  have hlist : g.IsList l (its.map Value.ref).toArray := ⟨_, hl', rfl, _, rfl⟩
  have R' : RowsAt g l its kvs := ⟨⟨nl, hl'⟩, R.len, fun i a kv h1 h2 => let ⟨t1, t2, n, e⟩ := R.tup i a kv h1 h2; ⟨t1, t2, n, hne' _ _ "tuple" rfl (by decide) e⟩⟩
  have hxd' := ltN hxd
  k_steps
  rename Fr _ _ _ _ => lF
  refine For_turns lF ?_
  k_steps
  rename Fr _ _ _ _ => lF
  rename News _ _ _ _ => lN
  refine iter_rows (fun i m => m (Str.ofString "self") = some (.ref x)) rfl R' lF lN rfl ?_ ?_
  · clear lF lN
    intro i kv T t1 t2 m₁ h tk own hkv hm1 hT F N
    obtain ⟨hk1, hk2⟩ := hk kv (List.mem_of_getElem? hkv)
    k_steps
    rename Fr _ _ _ _ => F2
    exact InvEnd.intro F2 (by assumption) (fun _ h => h) hm1
  · clear lF lN
    intro m₁ h tk hm1 F N
    k_steps
    refine hR h tk _ (fun b o hb e => ?_) (N _ (.tail _ (.head _))).1
    by_cases q : b = x
    · subst q
      rw [hx] at e; cases e
      exact (N _ (.head _)).1
    · exact F.keep _ _ (hne b o q hb e)
end
end Mine
namespace Mine
section
variable {w : World} {mean : ExcName → Option Value} {mg mb : Str → Option Value} {h₀ : Heap}
structure Fits2 (A : Around) (k : Nat) : Prop where
  h : A.handled = none
  d : A.depth ≤ 890 - 20 * k
  u : A.units ≤ 8900 - 300 * k
theorem new_use {A : Around} {s : Shared} {b : Heap} {L l : Addr} {m : Str → Option Value} {news : List (Addr × Obj)} {Q E : Value → Shared → Prop} {its : List Addr} {kvs : List (Str × Str)} (G : G3 w mean mg mb h₀) (hs : h₀.StaysIn b) (F : Fr b L s.heap m) (X : (MineX.hd.heap_39 w.params).In b) (N : News b L s.heap news)
    (R : ∀ h', Fr b L h' m → News b L h' news → RowsAt h' l its kvs) (hk : ∀ kv ∈ kvs, kv.1 ∈ names10 ∧ kv.2 ∈ vs6) (hA : Fits2 A 5)
    (h : ∀ x dx h' tk tk0, Fr b L h' m → News b L h' ((x, instObj 169 dx) :: (dx, hdrDict w l tk0) :: news) → (∀ p ∈ news, p.1 < dx) → dx < x → Q (.ref x) { s with heap := h', toks := tk }) : wpAny (model prog3 w) A (call (.ref 169) [.ref l]) Q E s := by
  refine call_cls F X N (by k_is) (by k_is) (by k_is) ?_
  intro x dx h' F' N' l1 l2
  have none₀ : ∀ p ∈ (x, instObj 169 dx) :: (dx, dictOf [] 0) :: news, h₀.get? p.1 = none := fun p hp => by
    cases e : h₀.get? p.1 with
    | none => rfl
    | some o => have z := (N' p hp).2.2; rw [hs _ _ e] at z; cases z
  have nx := N' _ (.head _)
  have nd := N' _ (.tail _ (.head _))
  have N2 : News b L h' news := fun p hp => N' p (.tail _ (.tail _ hp))
  refine weakenC (init_c G (fun a o e => F'.keep _ _ (hs _ _ e)) nx.1 nd.1 (none₀ _ (.tail _ (.head _))) (none₀ _ (.head _)) l2 (R h' F' N2) hk ?_) hA.h (Nat.le_trans (Nat.add_le_add_right hA.d _) (Nat.le_of_ble_eq_true rfl)) (Nat.le_trans (Nat.add_le_add_right hA.u _) (Nat.le_of_ble_eq_true rfl)) rfl rfl
  intro h'' tk tk0 hk' hd'
  refine ⟨rfl, h x dx h'' tk tk0 ⟨F'.ns.at' fun o e => hk' _ _ (Ne.symm nd.2.1) e, fun a o e => hk' _ _ (fun q => ?_) (F'.keep a o e), F'.above⟩ (fun p hp => ?_) l1 l2⟩
  · have y := nd.2.2; rw [show (dx, dictOf [] 0).1 = a from q.symm, e] at y; cases y
  · rcases List.mem_cons.mp hp with rfl | hp
    · exact ⟨hk' _ _ (Nat.ne_of_gt l2) nx.1, nx.2⟩
    · rcases List.mem_cons.mp hp with rfl | hp
      · exact ⟨hd', nd.2⟩
      · exact ⟨hk' _ _ (Nat.ne_of_lt (l1 p hp)) (N2 p hp).1, (N2 p hp).2⟩
end
end Mine
namespace Mine
section
variable {prog : Program} {w : World} {A : Around} {E : Value → Shared → Prop} {s : Shared} {env : Env} {h₀ : Heap} {x : Str} {body : List Stmt} {Q : Flow → Shared → Prop}
/-- the object of an iterator -/
noncomputable def IterO (o : Obj) : Prop := o.cls ≠ .type "tuple" ∧ o.cls ≠ .type "list"
theorem iter_ne {L : Addr} {h : Heap} {I a : Addr} {oI o : Obj} {all : List (Addr × Obj)} (N : News h₀ L h all) (h1 : (I, oI) ∈ all) (hi : IterO oI) (h2 : (a, o) ∈ all) (hc : o.cls = .type "tuple" ∨ o.cls = .type "list") : a ≠ I := fun e => by
  have a1 := (N _ h1).1
  have a2 := (N _ h2).1
  simp only [e] at a2
  rw [a1] at a2
  cases a2
  rcases hc with hc | hc
  · exact hi.1 hc
  · exact hi.2 hc
/-- where a turn of a loop ends -/
noncomputable def TurnEnd (h₀ : Heap) (L : Addr) (I : Addr) (own : List (Addr × Obj)) (J : (Str → Option Value) → List (Addr × Obj) → Prop) (s₁ : Shared) (Q : Flow → Shared → Prop) (f : Flow) (s₂ : Shared) : Prop :=
  match f with
  | .ret v => Q (.ret v) s₂
  | .brk => Q .next s₂
  | _ => ∃ h' tk m' news', s₂ = { s₁ with heap := h', toks := tk } ∧ Fr h₀ L h' m' ∧ News h₀ L h' (own ++ news') ∧ (∀ p ∈ news', p.1 ≠ I) ∧ J m' news'
theorem TurnEnd.next {L I : Addr} {own news' : List (Addr × Obj)} {J : (Str → Option Value) → List (Addr × Obj) → Prop} {s₁ : Shared} {h' : Heap} {tk : Nat} {m' : Str → Option Value} (F : Fr h₀ L h' m') (N : News h₀ L h' (own ++ news')) (hI : ∀ p ∈ news', p.1 ≠ I) (hj : J m' news') :
    TurnEnd h₀ L I own J s₁ Q .next { s₁ with heap := h', toks := tk } := ⟨h', tk, m', news', rfl, F, N, hI, hj⟩
theorem loop_core {I : Addr} {fp : List Addr} {n : Nat} {P : Nat → Value → Prop} {St : Nat → Heap → Prop} {m₀ : Str → Option Value} {news : List (Addr × Obj)} (J : Nat → (Str → Option Value) → List (Addr × Obj) → Prop)
    (W : Walks prog w A I fp [I] n P St) (hL : env.locals ∉ fp) (hI : h₀.get? I = none) (hN : ∀ p ∈ news, p.1 ≠ I) (hst : St 0 s.heap) (F : Fr h₀ env.locals s.heap m₀) (N : News h₀ env.locals s.heap news) (hj : J 0 m₀ news)
    (turn : ∀ i v m₁ news₁ h tk own, i < n → P i v → J i m₁ news₁ → (∀ p ∈ news₁, p.1 ≠ I) → (∀ p ∈ own, p.1 ∈ fp) → (∃ oI, (I, oI) ∈ own ∧ IterO oI) → Fr h₀ env.locals h (fun y => if y = x then some v else m₁ y) → News h₀ env.locals h (own ++ news₁) →
      wpAny (model prog w) A (execs body env) (TurnEnd h₀ env.locals I own (J (i + 1)) { s with heap := h, toks := tk } Q) E { s with heap := h, toks := tk })
    (hIo : ∀ i h, St i h → ∃ o, h.get? I = some o ∧ IterO o)
    (done : ∀ m₁ news₁ h tk, J n m₁ news₁ → (∀ p ∈ news₁, p.1 ≠ I) → Fr h₀ env.locals h m₁ → News h₀ env.locals h news₁ → Q .next { s with heap := h, toks := tk }) :
    LoopAtV prog w A h₀ env x body Q E (.ref I) s := by
  refine ⟨I, fp, [I], n, P, St, m₀, news, J, rfl, W, hL, fun b hb => List.mem_singleton.mp hb ▸ hI, fun p hp hm => hN p hp (List.mem_singleton.mp hm), hst, F, N, hj, ?_, ?_⟩
  · rintro i v m₁ news₁ s₁ own ⟨h, tk, rfl⟩ hi hP hJ hoff hown hget hall hst₁ F₁ N₁
    obtain ⟨oI, hoI, hit⟩ := hIo _ _ hst₁
    refine wpAny_mono (turn i v m₁ news₁ h tk own hi hP hJ (fun p hp e => hoff p hp (List.mem_singleton.mpr e)) hown ⟨oI, hall I (W.sub _ (List.mem_singleton.mpr rfl)) hI oI hoI, hit⟩ F₁ N₁) (fun f s₂ p => ?_) fun _ _ e => e
    have fin : (∃ h' tk' m' news', s₂ = { s with heap := h', toks := tk' } ∧ Fr h₀ env.locals h' m' ∧ News h₀ env.locals h' (own ++ news') ∧ (∀ p ∈ news', p.1 ≠ I) ∧ J (i + 1) m' news') → LoopStepU h₀ env.locals [I] own (J (i + 1)) { s with heap := h, toks := tk } .next s₂ := by
      rintro ⟨h', tk', m', news', e, F', N', hn, hm⟩
      exact ⟨rfl, h', tk', m', news', e, F', N', fun p hp hm => hn p hp (List.mem_singleton.mp hm), hm⟩
    cases f with
    | ret v => exact .ret p
    | brk => exact .brk p
    | next => exact .next (fin p)
    | cont => exact .cont (fin p)
  · intro h' tk m' news' F' N' hoff hJ
    exact done m' news' h' tk hJ (fun p hp e => hoff p hp (List.mem_singleton.mpr e)) F' N'
/-- a loop over a text -/
theorem loop_str {y : Str} {t : Tok} {m₀ : Str → Option Value} {news : List (Addr × Obj)} (J : Nat → (Str → Option Value) → List (Addr × Obj) → Prop)
    (hh : A.handled = none) (hasc : y.cps.all (· < 128) = true) (F : Fr h₀ env.locals s.heap m₀) (N : News h₀ env.locals s.heap news) (hj : J 0 m₀ news)
    (turn : ∀ I i c u m₁ news₁ h tk own, y.cps[i]? = some c → J i m₁ news₁ → (∀ p ∈ news₁, p.1 ≠ I) → (∀ p ∈ news, p.1 < I) → (∀ p ∈ own, p.1 = I) → (∃ oI, (I, oI) ∈ own ∧ IterO oI) → Fr h₀ env.locals h (fun z => if z = x then some (.str ⟨#[c]⟩ u) else m₁ z) → News h₀ env.locals h (own ++ news₁) →
      wpAny (model prog w) A (execs body env) (TurnEnd h₀ env.locals I own (J (i + 1)) { s with heap := h, toks := tk } Q) E { s with heap := h, toks := tk })
    (done : ∀ m₁ news₁ h tk, J y.cps.size m₁ news₁ → Fr h₀ env.locals h m₁ → News h₀ env.locals h news₁ → Q .next { s with heap := h, toks := tk }) :
    wpAny (model prog w) A (pyIter (.str y t)) (fun it s₂ => LoopAtV prog w A h₀ env x body Q E it s₂) E s := by
  refine wpAny_pyIter_ascii hasc ?_
  have hlt : ∀ p ∈ news, p.1 < s.heap.objs.size := fun p hp => Heap.lt_size (N p hp).1
  refine loop_core (s := { s with heap := _ }) J (Walks.strAscii hh _ y t) ?_ (next_is_new F) (fun p hp => Nat.ne_of_lt (hlt p hp)) ⟨_, Heap.get?_push_size _ rfl, rfl, rfl⟩ (F.push _) (fun p hp => ⟨Heap.get?_push_of_some _ (N p hp).1, (N p hp).2⟩) hj ?_ ?_ ?_
  · intro hm; exact absurd F.ns.lt ((List.mem_singleton.mp hm) ▸ Nat.lt_irrefl _)
  · rintro i v m₁ news₁ h tk own hi ⟨c, u, hc, rfl⟩ hJ hoff hown hit F₁ N₁
    exact turn _ i c u m₁ news₁ h tk own hc hJ hoff hlt (fun p hp => List.mem_singleton.mp (hown p hp)) hit F₁ N₁
  · rintro i h ⟨o, ho, hc, _⟩
    exact ⟨o, ho, by rw [hc]; exact fun e => absurd (Value.type.inj e) (by decide), by rw [hc]; exact fun e => absurd (Value.type.inj e) (by decide)⟩
  · intro m₁ news₁ h tk hJ _ F' N'
    exact done m₁ news₁ h tk hJ F' N'
/-- a loop over a range from 0 -/
theorem loop_range {r : Addr} {b : Int} {t u v : Tok} {n : Nat} {m₀ : Str → Option Value} {news : List (Addr × Obj)} (J : Nat → (Str → Option Value) → List (Addr × Obj) → Prop)
    (hh : A.handled = none) (hr : IsRange s.heap r 0 b 1 t u v) (hsm : Builtin.Range.small 0 b 1 = true) (hn : Builtin.Range.rangeSize 0 b 1 = ((n : Nat) : Int)) (F : Fr h₀ env.locals s.heap m₀) (N : News h₀ env.locals s.heap news) (hj : J 0 m₀ news)
    (turn : ∀ I (i : Nat) u m₁ news₁ h tk own, i < n → J i m₁ news₁ → (∀ p ∈ news₁, p.1 ≠ I) → (∀ p ∈ news, p.1 < I) → (∀ p ∈ own, p.1 = I) → (∃ oI, (I, oI) ∈ own ∧ IterO oI) → Fr h₀ env.locals h (fun z => if z = x then some (.int (i : Int) u) else m₁ z) → News h₀ env.locals h (own ++ news₁) →
      wpAny (model prog w) A (execs body env) (TurnEnd h₀ env.locals I own (J (i + 1)) { s with heap := h, toks := tk } Q) E { s with heap := h, toks := tk })
    (done : ∀ m₁ news₁ h tk, J n m₁ news₁ → Fr h₀ env.locals h m₁ → News h₀ env.locals h news₁ → Q .next { s with heap := h, toks := tk }) :
    wpAny (model prog w) A (pyIter (.ref r)) (fun it s₂ => LoopAtV prog w A h₀ env x body Q E it s₂) E s := by
  refine wpAny_pyIter_range hr hsm ?_
  have hlt : ∀ p ∈ news, p.1 < s.heap.objs.size := fun p hp => Heap.lt_size (N p hp).1
  refine loop_core (s := { s with heap := _ }) J (LCg.range_walks hh 0 n) ?_ (next_is_new F) (fun p hp => Nat.ne_of_lt (hlt p hp)) (by show IsRangeIter _ _ _ _ _; rw [hn]; simpa using Heap.get?_push_size _ rfl) (F.push _) (fun p hp => ⟨Heap.get?_push_of_some _ (N p hp).1, (N p hp).2⟩) hj ?_ ?_ ?_
  · intro hm; exact absurd F.ns.lt ((List.mem_singleton.mp hm) ▸ Nat.lt_irrefl _)
  · rintro i v m₁ news₁ h tk own hi ⟨u, rfl⟩ hJ hoff hown hit F₁ N₁
    rw [Int.zero_add] at F₁
    exact turn _ i u m₁ news₁ h tk own hi hJ hoff hlt (fun p hp => List.mem_singleton.mp (hown p hp)) hit F₁ N₁
  · rintro i h hi
    exact ⟨_, hi, fun e => absurd (Value.type.inj e) (by decide), fun e => absurd (Value.type.inj e) (by decide)⟩
  · intro m₁ news₁ h tk hJ _ F' N'
    exact done m₁ news₁ h tk hJ F' N'
end
end Mine
namespace Mine
section
variable {w : World} {mean : ExcName → Option Value} {mg mb : Str → Option Value} {h₀ : Heap}
noncomputable def led (l : Addr) (n : Nat) (rows : List Row) : List (Addr × Obj) := (l, lst rows n) :: rows.map fun r => (r.a, r.obj)
theorem use_mut {A : Around} {t : Sem Value} {ok : Value → List Row → Prop} {l : Addr} {rows : List Row} {k n : Nat} {s : Shared} {b : Heap} {L : Addr} {m : Str → Option Value} {other : List (Addr × Obj)} {Q E : Value → Shared → Prop}
    (spec : wpAny (model prog3 w) (Aq k) t (PostM ok l rows s) noE s) (hA : Fits A k) (F : Fr b L s.heap m) (N : News b L s.heap (other ++ led l n rows)) (ho : ∀ p ∈ other, p.1 ≠ l)
    (h : ∀ v h' tk' n' rows', ok v rows' → Fr b L h' m → News b L h' (other ++ led l n' rows') → Q v { s with heap := h', toks := tk' }) : wpAny (model prog3 w) A t Q E s := by
  refine wpAny_mono (weaken spec hA.h hA.d hA.u rfl rfl) (fun v s' p => ?_) fun _ _ x => x.elim
  obtain ⟨h', tk, rows', n', rfl, hk, hl, hr, hnew, hok⟩ := p.ex
  have z := N (l, lst rows n) (List.mem_append_right _ (.head _))
  refine h v h' tk n' rows' hok ⟨F.ns.at' fun o e => hk _ _ (Ne.symm z.2.1) e, fun a o e => hk _ _ (fun q => ?_) (F.keep a o e), F.above⟩ fun p hp => ?_
  · have y := z.2.2; rw [show (l, lst rows n).1 = a from q.symm, e] at y; cases y
  · rcases List.mem_append.mp hp with hp | hp
    · have y := N p (List.mem_append_left _ hp)
      exact ⟨hk _ _ (ho p hp) y.1, y.2⟩
    · rcases List.mem_cons.mp hp with rfl | hp
      · exact ⟨hl, z.2⟩
      · obtain ⟨r, hr', rfl⟩ := List.mem_map.mp hp
        rcases hnew r hr' with q | q
        · have y := N (r.a, r.obj) (List.mem_append_right _ (.tail _ (List.mem_map.mpr ⟨r, q, rfl⟩)))
          exact ⟨hr r hr', y.2⟩
        · refine ⟨hr r hr', fun e => ?_, ?_⟩
          · obtain ⟨o, _, _, hL, _⟩ := F.ns
            rw [show r.a = L from e] at q
            rw [q] at hL; cases hL
          · cases e : b.get? r.a with
            | none => rfl
            | some o => have y := F.keep _ _ e; rw [q] at y; cases y
theorem tab_mem {b h : Heap} {L t d l : Addr} {tk : Tok} {news : List (Addr × Obj)} (N : News b L h news) (hi : (t, instObj 169 d) ∈ news) (hd : (d, hdrDict w l tk) ∈ news) : TabAt w h t d l := ⟨(N _ hi).1, tk, (N _ hd).1⟩
noncomputable def Lp (w : World) (A : Around) (b : Heap) (env : Env) (x : Str) (body : List Stmt) (Q : Flow → Shared → Prop) (E : Value → Shared → Prop) (xv : Value) (s₁ : Shared) : Prop := wpAny (model prog3 w) A (pyIter xv) (fun it s₂ => LoopAtV prog3 w A b env x body Q E it s₂) E s₁
theorem For_V {A : Around} {s : Shared} {env : Env} {b : Heap} {m : Str → Option Value} {E : Value → Shared → Prop} {Q : Flow → Shared → Prop} {x : Str} {px pos : Pos} {iter : Expr} {body : List Stmt} (_F : Fr b env.locals s.heap m) (hx : env.kindOf x = some .local)
    (hp : (env.scope.kind == .class || (env.scope.kind == .module && env.locals != env.globals)) = false)
    (h : wpAny (model prog3 w) A (eval iter env) (fun xv s₁ => Lp w A b env x body Q E xv s₁) E s)
    (hs : ∀ x, foldedSetIterable iter env x = pure x := by intro _; rfl)
    (hE : PassesOwn (model prog3 w) A env E := by passes_own) : wpAny (model prog3 w) A (exec (.For (.Name x px) iter body [] pos) env) Q E s := For_invV b hx hp h hs hE
end
section
variable {prog : Program} {w : World} {A : Around} {E : Value → Shared → Prop} {s : Shared} {b : Heap} {L : Addr} {m : Str → Option Value}
theorem upd_end {D : Addr} {o o' : Obj} : ∀ {other : List (Addr × Obj)}, (∀ p ∈ other, p.1 ≠ D) → Upd D o o' (other ++ [(D, o)]) (other ++ [(D, o')])
  | [], _ => .head fun _ h => nomatch h
  | p :: r, h => .tail (h p (.head _)) (upd_end fun q hq => h q (.tail _ hq))
end
noncomputable def Rels {β : Type} (R : β → Value → Prop) : List β → List Value → Prop
  | [], [] => True
  | b :: r, v :: s => R b v ∧ Rels R r s
  | _, _ => False
theorem Rels.snoc {β : Type} {R : β → Value → Prop} : ∀ {xs : List β} {ys : List Value} {b : β} {v : Value}, Rels R xs ys → R b v → Rels R (xs ++ [b]) (ys ++ [v])
  | [], [], _, _, _, h => ⟨h, trivial⟩
  | _ :: _, _ :: _, _, _, hx, h => ⟨hx.1, hx.2.snoc h⟩
  | [], _ :: _, _, _, hx, _ => (show False from hx).elim
  | _ :: _, [], _, _, hx, _ => (show False from hx).elim
theorem Rels.length {β : Type} {R : β → Value → Prop} : ∀ {xs : List β} {ys : List Value}, Rels R xs ys → ys.length = xs.length
  | [], [], _ => rfl
  | _ :: _, _ :: _, h => congrArg (· + 1) h.2.length
  | [], _ :: _, h => (show False from h).elim
  | _ :: _, [], h => (show False from h).elim
theorem Rels.get {β : Type} {R : β → Value → Prop} : ∀ {xs : List β} {ys : List Value}, Rels R xs ys → ∀ (i : Nat) (b : β), xs[i]? = some b → ∃ v, ys[i]? = some v ∧ R b v
  | _ :: _, _ :: _, h, 0, _, e => ⟨_, rfl, by cases e; exact h.1⟩
  | _ :: _, _ :: _, h, i + 1, b, e => by simpa using h.2.get i b (by simpa using e)
  | [], [], _, i, _, e => by simp at e
  | [], _ :: _, h, _, _, _ => (show False from h).elim
  | _ :: _, [], h, _, _, _ => (show False from h).elim
section
variable {prog : Program} {w : World} {A : Around} {h₀ : Heap} {L : Addr} {m : Str → Option Value} {env : Env}
/-- the turns of a comprehension with a test, values told by a relation -/
theorem restT_rel {β : Type} {ct elt : Expr} {x : Str} {scope : Scope} {cl : List (Str × Addr)} {s : Shared} {S : List (Addr × Obj) → Prop} {Fin : List Value → List (Addr × Obj) → Prop} {news : List (Addr × Obj)} {xs : List β} {Rel Rel' : β → Value → Prop} {p : β → Bool} {P : Nat → Value → Prop}
    (hP : ∀ i v, P i v → ∃ b, xs[i]? = some b ∧ Rel b v) (hS : S news)
    (turn : ∀ b, b ∈ xs → ∀ v I oI C oC D m₂ h tk ys (E' : Value → Shared → Prop), Rel b v → LCg.NsObj oC m₂ → m₂ x = some v → Fr h₀ L h m → News h₀ L h ((I, oI) :: (C, oC) :: (D, LCg.lst ys) :: news) → LCg.Off3 I C D news → ((@Ne Nat I C) ∧ (@Ne Nat I D) ∧ (@Ne Nat C D)) →
      wpAny (model prog w) A (isTrue ct (compEnvC scope cl C env) (eval ct (compEnvC scope cl C env))) (fun ok s' => if ok = true then
        wpAny (model prog w) A (eval elt (compEnvC scope cl C env)) (fun y s'' => p b = true ∧ Rel' b y ∧ KeptC h₀ L m ((I, oI) :: (C, oC) :: (D, LCg.lst ys) :: news) { s with heap := h, toks := tk } s'') E' s'
        else p b = false ∧ KeptC h₀ L m ((I, oI) :: (C, oC) :: (D, LCg.lst ys) :: news) { s with heap := h, toks := tk } s') E' { s with heap := h, toks := tk })
    (fin : ∀ ys, Rels Rel' (xs.filter p) ys → Fin ys news) : ∀ (suf pre : List β) (ys : List Value), xs = pre ++ suf → Rels Rel' (pre.filter p) ys → LCt.CompRestT prog w A h₀ L m env ct elt x scope cl s S P Fin suf.length pre.length ys news
  | [], pre, ys, hx, hy => by
    rw [List.append_nil] at hx; subst hx
    exact fin ys hy
  | b :: r, pre, ys, hx, hy => by
    intro v I oI C oC D m₂ h tk E' hv hns hm F N off ne
    obtain ⟨b', hb', hrel⟩ := hP _ _ hv
    have hbb : b' = b := by
      rw [hx, List.getElem?_append_right (by simp)] at hb'
      simp at hb'
      exact hb'.symm
    subst hbb
    have hb : b' ∈ xs := by rw [hx]; simp
    refine wpAny_mono (turn b' hb v I oI C oC D m₂ h tk _ E' hrel hns hm F N off ne) (fun ok s' q => ?_) fun _ _ e => e
    cases ok with
    | true =>
      simp only [if_true] at q ⊢
      refine wpAny_mono q (fun y s'' q => ?_) fun _ _ e => e
      obtain ⟨hp, hr, h', tk', rfl, F', N'⟩ := q
      refine ⟨h', tk', news, rfl, F', N', off, hS, ?_⟩
      have ih := restT_rel hP hS turn fin r (pre ++ [b']) (ys ++ [y]) (by rw [hx]; simp) (by rw [List.filter_append]; simpa [hp] using hy.snoc hr)
      simpa using ih
    | false =>
      simp only [Bool.false_eq_true, if_false] at q ⊢
      obtain ⟨hp, h', tk', rfl, F', N'⟩ := q
      refine ⟨h', tk', news, rfl, F', N', off, hS, ?_⟩
      have ih := restT_rel hP hS turn fin r (pre ++ [b']) ys (by rw [hx]; simp) (by rw [List.filter_append]; simpa [hp] using hy)
      simpa using ih
end
section
variable {w : World} {mean : ExcName → Option Value} {mg mb : Str → Option Value} {h₀ : Heap}
noncomputable def InT (rows₀ : List Row) (tups : List (Addr × Obj)) (rows : List Row) : Prop := ∀ r ∈ rows, r ∈ rows₀ ∨ (r.a, r.obj) ∈ tups
/-- the tuples lie in the base heap (those of rows₀) or in the ledger -/
theorem use_mut2 {A : Around} {t : Sem Value} {ok : Value → List Row → Prop} {l : Addr} {rows₀ rows : List Row} {k n : Nat} {s : Shared} {b : Heap} {L : Addr} {m : Str → Option Value} {other tups : List (Addr × Obj)} {Q E : Value → Shared → Prop}
    (spec : wpAny (model prog3 w) (Aq k) t (PostM ok l rows s) noE s) (hA : Fits A k) (F : Fr b L s.heap m) (N : News b L s.heap (other ++ (l, lst rows n) :: tups)) (ho : ∀ p ∈ other, p.1 ≠ l) (hT : InT rows₀ tups rows) (htl : ∀ p ∈ tups, p.1 ≠ l)
    (h : ∀ v h' tk' n' rows' tups', ok v rows' → InT rows₀ tups' rows' → (∀ p ∈ tups', p.1 ≠ l ∧ (p ∈ tups ∨ p.2.cls = .type "tuple")) → Fr b L h' m → News b L h' (other ++ (l, lst rows' n') :: tups') → Q v { s with heap := h', toks := tk' }) : wpAny (model prog3 w) A t Q E s := by
  refine wpAny_mono (weaken spec hA.h hA.d hA.u rfl rfl) (fun v s' p => ?_) fun _ _ x => x.elim
  obtain ⟨h', tk, rows', n', rfl, hk, hl, hr, hnew, hok⟩ := p.ex
  have z := N (l, lst rows n) (List.mem_append_right _ (.head _))
  have fresh : ∀ r : Row, s.heap.get? r.a = none → r.a ≠ L ∧ b.get? r.a = none := fun r q => by
    refine ⟨fun e => ?_, ?_⟩
    · obtain ⟨o, _, _, hL, _⟩ := F.ns
      rw [show r.a = L from e] at q
      rw [q] at hL; cases hL
    · cases e : b.get? r.a with
      | none => rfl
      | some o => have y := F.keep _ _ e; rw [q] at y; cases y
  let new : List Row := rows'.filter fun r => (s.heap.get? r.a).isNone
  have hnw : ∀ r ∈ new, r ∈ rows' ∧ s.heap.get? r.a = none := fun r hr => by
    have := List.mem_filter.mp hr
    exact ⟨this.1, by simpa using this.2⟩
  refine h v h' tk n' rows' (tups ++ new.map fun r => (r.a, r.obj)) hok (fun r h => ?_) (fun p hp => ?_) ⟨F.ns.at' fun o e => hk _ _ (Ne.symm z.2.1) e, fun a o e => hk _ _ (fun q => ?_) (F.keep a o e), F.above⟩ fun p hp => ?_
  · rcases hnew r h with q | q
    · exact (hT r q).imp id fun q => List.mem_append_left _ q
    · exact .inr (List.mem_append_right _ (List.mem_map.mpr ⟨r, List.mem_filter.mpr ⟨h, by simp [q]⟩, rfl⟩))
  · rcases List.mem_append.mp hp with hp | hp
    · exact ⟨htl p hp, .inl hp⟩
    · obtain ⟨r, hr', rfl⟩ := List.mem_map.mp hp
      refine ⟨fun e => ?_, .inr rfl⟩
      have y := (hnw r hr').2
      rw [show r.a = l from e, z.1] at y; cases y
  · have y := z.2.2; rw [show (l, lst rows n).1 = a from q.symm, e] at y; cases y
  · rcases List.mem_append.mp hp with hp | hp
    · have y := N p (List.mem_append_left _ hp)
      exact ⟨hk _ _ (ho p hp) y.1, y.2⟩
    · rcases List.mem_cons.mp hp with rfl | hp
      · exact ⟨hl, z.2⟩
      · rcases List.mem_append.mp hp with hp | hp
        · have y := N p (List.mem_append_right _ (.tail _ hp))
          exact ⟨hk _ _ (htl p hp) y.1, y.2⟩
        · obtain ⟨r, hr', rfl⟩ := List.mem_map.mp hp
          exact ⟨hr r (hnw r hr').1, fresh r (hnw r hr').2⟩
end
section
variable {prog : Program} {w : World} {A : Around} {E : Value → Shared → Prop} {s : Shared} {env : Env} {h₀ : Heap} {x : Str} {body : List Stmt} {Q : Flow → Shared → Prop}
/-- a loop over a list -/
theorem loop_list {ax : Addr} {items : Array Value} {m₀ : Str → Option Value} {news : List (Addr × Obj)} (J : Nat → (Str → Option Value) → List (Addr × Obj) → Prop)
    (hh : A.handled = none) (hl : s.heap.IsList ax items) (hax : ax ≠ env.locals) (F : Fr h₀ env.locals s.heap m₀) (N : News h₀ env.locals s.heap news) (hj : J 0 m₀ news)
    (turn : ∀ I i v m₁ news₁ h tk own, items[i]? = some v → J i m₁ news₁ → (∀ p ∈ news₁, p.1 ≠ I) → (∀ p ∈ news, p.1 < I) → (∀ p ∈ own, p.1 = I ∨ p.1 = ax) → (∃ oI, (I, oI) ∈ own ∧ IterO oI) → Fr h₀ env.locals h (fun z => if z = x then some v else m₁ z) → News h₀ env.locals h (own ++ news₁) →
      wpAny (model prog w) A (execs body env) (TurnEnd h₀ env.locals I own (J (i + 1)) { s with heap := h, toks := tk } Q) E { s with heap := h, toks := tk })
    (done : ∀ m₁ news₁ h tk, J items.size m₁ news₁ → Fr h₀ env.locals h m₁ → News h₀ env.locals h news₁ → Q .next { s with heap := h, toks := tk }) :
    wpAny (model prog w) A (pyIter (.ref ax)) (fun it s₂ => LoopAtV prog w A h₀ env x body Q E it s₂) E s := by
  have hlt : ∀ p ∈ news, p.1 < s.heap.objs.size := fun p hp => Heap.lt_size (N p hp).1
  have hal : ax < s.heap.objs.size := by obtain ⟨_, e, _⟩ := hl; exact Heap.lt_size e
  refine wpAny_pyIter_list hl ?_
  refine loop_core (s := { s with heap := _ }) J (Walks.list hh s.heap.objs.size ax (Nat.ne_of_lt hal) items) ?_ (next_is_new F) (fun p hp => Nat.ne_of_lt (hlt p hp)) ⟨⟨_, Heap.get?_push_size _ rfl, rfl, rfl⟩, hl.push _⟩ (F.push _) (fun p hp => ⟨Heap.get?_push_of_some _ (N p hp).1, (N p hp).2⟩) hj ?_ ?_ ?_
  · intro hm
    rcases List.mem_cons.mp hm with e | hm
    · exact absurd F.ns.lt (e ▸ Nat.lt_irrefl _)
    · exact hax (List.mem_singleton.mp hm).symm
  · rintro i v m₁ news₁ h tk own hi hP hJ hoff hown hit F₁ N₁
    exact turn _ i v m₁ news₁ h tk own hP hJ hoff hlt (fun p hp => (List.mem_cons.mp (hown p hp)).imp id List.mem_singleton.mp) hit F₁ N₁
  · rintro i h ⟨⟨o, ho, hc, _⟩, _⟩
    exact ⟨o, ho, by rw [hc]; exact fun e => absurd (Value.type.inj e) (by decide), by rw [hc]; exact fun e => absurd (Value.type.inj e) (by decide)⟩
  · intro m₁ news₁ h tk hJ _ F' N'
    exact done m₁ news₁ h tk hJ F' N'
end
section
variable {prog : Program} {w : World} {A : Around} {h₀ : Heap} {L : Addr} {m : Str → Option Value} {env : Env}
end
section
variable {prog : Program} {w : World} {A : Around} {E : Value → Shared → Prop} {s : Shared} {env : Env} {h₀ : Heap} {x : Str} {body : List Stmt} {Q : Flow → Shared → Prop}
end
section
variable {prog : Program} {w : World} {A : Around} {E : Value → Shared → Prop} {s : Shared} {b : Heap} {L : Addr} {m : Str → Option Value}
/-- append to a list at the end of the ledger -/
theorem append_use {other : List (Addr × Obj)} {D : Addr} {ys : List Value} {n : Nat} {v : Value} {Q : Value → Shared → Prop} (F : Fr b L s.heap m) (N : News b L s.heap (other ++ [(D, W.listOf ys.toArray n)])) (ho : ∀ p ∈ other, p.1 ≠ D) (hsz : ys.length ≤ 1000)
    (h : ∀ h', Fr b L h' m → News b L h' (other ++ [(D, W.listOf (ys ++ [v]).toArray (n + 1))]) → Q .none { s with heap := h' }) : wpAny (model prog w) A (call (.builtin "list.append") [.ref D, v]) Q E s := by
  refine append_K F N (upd_end ho) (fun h' F' N' => h h' F' ?_) (by rw [List.size_toArray]; exact Nat.le_trans hsz (by decide))
  rw [show (ys ++ [v]).toArray = ys.toArray.push v by simp]
  exact N'
theorem len_use {l : Addr} {its : Array Value} {k : Nat} {Q : Value → Shared → Prop} (hl : s.heap.IsList l its) (e : its.size = k) (hk : k ≤ 1000) (h : ∀ t tk, Q (.int (k : Int) t) { s with toks := tk }) : wpAny (model prog w) A (call (.builtin "len") [.ref l]) Q E s := by
  subst e
  exact len_list hl (by omega) (h _ _)
theorem ints_snoc {vs : List Value} {ns : List Int} (h : IntsAre vs ns) (n : Int) (t : Tok) : IntsAre (vs ++ [.int n t]) (ns ++ [n]) := by
  induction h with
  | nil => exact .cons _ _ .nil
  | cons k t' _ ih => exact .cons _ _ ih
end
section
variable {w : World}
structure RowP (x : Int) (b : Heap) (L : Addr) (m : Str → Option Value) (news : List (Addr × Obj)) (s : Shared) (v : Value) (s' : Shared) : Prop where
  ex : ∃ t h' tk', v = .int x t ∧ s' = { s with heap := h', toks := tk' } ∧ Fr b L h' m ∧ News b L h' news
theorem RowP.intro {x y : Int} {b : Heap} {L : Addr} {m : Str → Option Value} {news : List (Addr × Obj)} {s : Shared} {t : Tok} {h' : Heap} {tk : Nat} (e : y = x) (F : Fr b L h' m) (N : News b L h' news) : RowP x b L m news s (.int y t) { s with heap := h', toks := tk } := ⟨⟨t, h', tk, by rw [e], rfl, F, N⟩⟩
end
section
variable {w : World}
structure ValP (R : Value → Prop) (b : Heap) (L : Addr) (m : Str → Option Value) (news : List (Addr × Obj)) (s : Shared) (v : Value) (s' : Shared) : Prop where
  ex : ∃ h' tk', R v ∧ s' = { s with heap := h', toks := tk' } ∧ Fr b L h' m ∧ News b L h' news
theorem ValP.intro {R : Value → Prop} {b : Heap} {L : Addr} {m : Str → Option Value} {news : List (Addr × Obj)} {s : Shared} {v : Value} {h' : Heap} {tk : Nat} (hv : R v) (F : Fr b L h' m) (N : News b L h' news) : ValP R b L m news s v { s with heap := h', toks := tk } := ⟨⟨h', tk, hv, rfl, F, N⟩⟩
theorem eval_toV {M : Model} {A : Around} {E : Value → Shared → Prop} {s : Shared} {b : Heap} {L : Addr} {m : Str → Option Value} {news : List (Addr × Obj)} (R : Value → Prop) {t : Sem Value} {Q : Value → Shared → Prop} (_F : Fr b L s.heap m) (_N : News b L s.heap news)
    (h : wpAny M A t (ValP R b L m news s) E s) (k : ∀ v h' tk', R v → Fr b L h' m → News b L h' news → Q v { s with heap := h', toks := tk' }) : wpAny M A t Q E s :=
  wpAny_mono h (fun v s' p => by obtain ⟨h', tk', hv, rfl, F, N⟩ := p.ex; exact k v h' tk' hv F N) fun _ _ e => e
structure ListP (R : List Value → Prop) (b : Heap) (L : Addr) (m : Str → Option Value) (news : List (Addr × Obj)) (s : Shared) (v : Value) (s' : Shared) : Prop where
  ex : ∃ D vs n h' tk', v = .ref D ∧ R vs ∧ (∀ p ∈ news, p.1 < D) ∧ s' = { s with heap := h', toks := tk' } ∧ Fr b L h' m ∧ News b L h' ((D, W.listOf (List.toArray vs) n) :: news)
theorem ListP.intro {R : List Value → Prop} {b : Heap} {L : Addr} {m : Str → Option Value} {news : List (Addr × Obj)} {s : Shared} {D : Addr} {vs : List Value} {n : Nat} {h' : Heap} {tk : Nat} (hv : R vs) (hd : ∀ p ∈ news, p.1 < D) (F : Fr b L h' m) (N : News b L h' ((D, W.listOf (List.toArray vs) n) :: news)) : ListP R b L m news s (.ref D) { s with heap := h', toks := tk } := ⟨⟨D, vs, n, h', tk, rfl, hv, hd, rfl, F, N⟩⟩
structure StopAt (P : Prop) : Prop where
  p : P
end
end Mine
namespace Mine
section
variable {w : World} {mean : ExcName → Option Value} {mg mb : Str → Option Value} {h₀ : Heap}
local macro_rules | `(tactic| k_inst) => `(tactic| exact inst_tab (by assumption) (by assumption) (by k_asm))
local macro_rules | `(tactic| walk_at "call ref") => `(tactic| (k_here; (with_reducible show wpAny _ _ (call (Value.ref 70) [Value.ref _, Value.str _ _] _) _ _ _); (show wpAny _ _ (call (Value.ref 70) [Value.ref _, Value.str _ _] [(Str.ofString "name", Value.bool true)]) _ _ _); refine use_val (conv_n (by assumption) (stays_fr (by assumption) (by assumption)) (by assumption) _ _) ⟨rfl, Nat.le_of_ble_eq_true rfl, Nat.le_of_ble_eq_true rfl⟩ (by k_asm) (by k_asm) ?_; intro h' tk' F' N'))
local macro_rules | `(tactic| walk_at "eval ListComp") => `(tactic| (k_here; lct_look; lcg_calm; k_dflt (refine LCt.ListComp_T (F₀ := by k_asm) (by with_unfolding_all rfl) (by decide) (by rfl) (by decide) (by rfl) ?_)))
structure PostS (xs : List Str) (s : Shared) (v : Value) (s' : Shared) : Prop where
  ex : ∃ D h' tk n' vs, v = .ref D ∧ s' = { s with heap := h', toks := tk } ∧ (∀ b o, s.heap.get? b = some o → h'.get? b = some o) ∧ s.heap.get? D = none ∧ h'.get? D = some (W.listOf (List.toArray vs) n') ∧ Rels (fun (x : Str) v => ∃ t, v = .str x t) xs vs
theorem rels_map {α β : Type} {R : β → Value → Prop} {f : α → β} : ∀ {xs : List α} {vs : List Value}, Rels (fun a v => R (f a) v) xs vs → Rels R (xs.map f) vs
  | [], [], _ => trivial
  | _ :: _, _ :: _, h => ⟨h.1, rels_map h.2⟩
  | [], _ :: _, h => (show False from h).elim
  | _ :: _, [], h => (show False from h).elim
theorem getall_c (G : G3 w mean mg mb h₀) {s : Shared} (hs : h₀.StaysIn s.heap) {t d l : Addr} {rows : List Row} {n : Nat} (T : TabAt w s.heap t d l) (hl : s.heap.get? l = some (lst rows n)) (hr : ∀ r ∈ rows, s.heap.get? r.a = some r.obj)
    {x : Str} (hx : Txt.lower x ∈ names10) (hlen : x.length ≤ 20) (hK : ∀ r ∈ rows, r.k.length ≤ 20) (hc : rows.length ≤ 20) (t1 : Tok) :
    wpAny (model prog3 w) (Aq 3) (call (.ref 108) [.ref t, .str x t1]) (PostS ((rows.filter fun r => decide (Txt.lower r.k = Txt.lower x)).map (·.v)) s) noE s := by
  refine wpAny_call ?_
  refine enterC (hid := []) (binds := [(Str.ofString "self", .ref t), (Str.ofString "name", .str x t1)]) G hs (fun p h => nomatch h) (by k_is) (by k_is) (by rfl) (by exact Nat.le_of_ble_eq_true rfl) (BindsTo.of_eq rfl) rfl (by decide +kernel) ?_ rfl rfl rfl
  intro g L h₁ tk cells hg st F N Y X TT hlt
  subst hg
  replace T : TabAt w (hideAll s.heap (List.map (fun (x : Addr × Obj) => x.fst) [])) t d l := T
  obtain ⟨tk0, hd⟩ := T.dict
  have hi0 := T.inst
  have hl' : (hideAll s.heap (List.map (fun (x : Addr × Obj) => x.fst) [])).IsList l (rows.map (fun r => Value.ref r.a)).toArray := ⟨_, hl, rfl, _, rfl⟩
  have hr' : ∀ r ∈ rows, (hideAll s.heap (List.map (fun (x : Addr × Obj) => x.fst) [])).get? r.a = some r.obj := hr
  k_cells Y
  simp only [List.cons_append, List.nil_append] at N
  dsimp only
  k_steps
  rename Fr _ _ _ _ => F2
  rename News _ _ _ _ => N2
  refine LCt.CompSrcT.base rfl F2 N2 hl' (by simp only [List.size_toArray, List.length_map]; exact Nat.le_trans hc (by decide)) fun g' => ?_
  rw [List.size_toArray, List.length_map]
  refine restT_rel (xs := rows) (Rel := fun r v => v = .ref r.a) (Rel' := fun r v => ∃ t, v = .str r.v t) (p := fun r => decide (Txt.lower r.k = Txt.lower x)) (fun i v h => by
    have h' : (rows.map (fun r => Value.ref r.a))[i]? = some v := by simpa using h
    rw [List.getElem?_map] at h'
    obtain ⟨r, hr, e⟩ := Option.map_eq_some_iff.mp h'
    exact ⟨r, hr, e.symm⟩) (.inl hl') ?_ ?_ rows [] [] rfl trivial
  · intro r hrr v' I oI C oC D m₂ h tk ys E' hv hns hm F N off ne
    subst hv
    have hk := hK r hrr
    have hT : IsTup (hideAll s.heap (List.map (fun (x : Addr × Obj) => x.fst) [])) r.a #[.str r.k r.t1, .str r.v r.t2] := ⟨_, hr' r hrr, rfl, _, rfl⟩
    k_steps
    · exact ⟨_, _, rfl, by assumption, by assumption⟩
    · exact ⟨_, _, rfl, by assumption, by assumption⟩
  · intro ys hys D h tk F N off
    k_steps
    exact ⟨D, h, _, ys.length, ys, rfl, rfl, F.keep, (N _ (.head _)).2.2, (N _ (.head _)).1, rels_map hys⟩
structure PostK (k : Nat) (s : Shared) (v : Value) (s' : Shared) : Prop where
  ex : ∃ D h' tk n' vs, v = .ref D ∧ s' = { s with heap := h', toks := tk } ∧ (∀ b o, s.heap.get? b = some o → h'.get? b = some o) ∧ s.heap.get? D = none ∧ h'.get? D = some (W.listOf (List.toArray vs) n') ∧ vs.length = k
theorem restP_rel {prog : Program} {A : Around} {h₀ : Heap} {L : Addr} {m : Str → Option Value} {env : Env} {elt : Expr} {x x₂ : Str} {scope : Scope} {cl : List (Str × Addr)} {s : Shared} {S : List (Addr × Obj) → Prop} {P : Nat → Value → Prop} {Fin : List Value → List (Addr × Obj) → Prop} {news : List (Addr × Obj)} {rows : List Row} {Rel' : Row → Value → Prop}
    (hP : ∀ i v, P i v → ∃ r, rows[i]? = some r ∧ v = .ref r.a) (hS : S news) (hN : ∀ r ∈ rows, (r.a, r.obj) ∈ news)
    (turn : ∀ r, r ∈ rows → ∀ I oI C oC D m₂ h tk ys (E' : Value → Shared → Prop), LCg.NsObj oC m₂ → m₂ x = some (.str r.k r.t1) → m₂ x₂ = some (.str r.v r.t2) → Fr h₀ L h m → News h₀ L h ((I, oI) :: (C, oC) :: (D, LCg.lst ys) :: news) → LCg.Off3 I C D news → ((@Ne Nat I C) ∧ (@Ne Nat I D) ∧ (@Ne Nat C D)) →
      wpAny (model prog w) A (eval elt (compEnvC scope cl C env)) (fun y s'' => Rel' r y ∧ KeptC h₀ L m ((I, oI) :: (C, oC) :: (D, LCg.lst ys) :: news) { s with heap := h, toks := tk } s'') E' { s with heap := h, toks := tk })
    (fin : ∀ ys, Rels Rel' rows ys → Fin ys news) : ∀ (suf pre : List Row) (ys : List Value), rows = pre ++ suf → Rels Rel' pre ys → LCp.CompRestP prog w A h₀ L m env elt x x₂ scope cl s S P Fin suf.length pre.length ys news
  | [], pre, ys, hx, hy => by
    rw [List.append_nil] at hx; subst hx
    exact fin ys hy
  | b :: r, pre, ys, hx, hy => by
    intro v hv
    obtain ⟨b', hb', hrel⟩ := hP _ _ hv
    have hbb : b' = b := by
      rw [hx, List.getElem?_append_right (by simp)] at hb'
      simp at hb'
      exact hb'.symm
    subst hbb
    have hb : b' ∈ rows := by rw [hx]; simp
    refine ⟨b'.a, b'.obj, _, _, b'.n, hrel, hN b' hb, rfl, rfl, ?_⟩
    intro I oI C oC D m₂ h tk E' hns hm hm2 F N off ne
    refine wpAny_mono (turn b' hb I oI C oC D m₂ h tk _ E' hns hm hm2 F N off ne) (fun y s'' q => ?_) fun _ _ e => e
    obtain ⟨hr, h', tk', rfl, F', N'⟩ := q
    refine ⟨h', tk', news, rfl, F', N', off, hS, ?_⟩
    have ih := restP_rel hP hS hN turn fin r (pre ++ [b']) (ys ++ [y]) (by rw [hx]; simp) (hy.snoc hr)
    simpa using ih
structure SrcPX (prog : Program) (w : World) (A : Around) (h₀ : Heap) (L : Addr) (m : Str → Option Value) (env : Env) (elt : Expr) (x x₂ : Str) (scope : Scope) (cl : List (Str × Addr)) (Fin : Shared → List Value → List (Addr × Obj) → Prop) (xv : Value) (s₁ : Shared) : Prop where
  p : LCp.SrcLP prog w A h₀ L m env elt x x₂ scope cl Fin xv s₁
theorem ListComp_PX {prog : Program} {A : Around} {E : Value → Shared → Prop} {s : Shared} {h₀ : Heap} {L : Addr} {m : Str → Option Value} {env : Env} {elt iter : Expr} {x x₂ : Str} {px px₂ tp : Pos} {tk} {scope : Scope} {cl : List (Str × Addr)} {pos : Pos} {Q : Value → Shared → Prop} (F₀ : Fr h₀ L s.heap m)
    (hclos : closureFor scope env = pure cl) (hcell : ∀ y ∈ scope.names, y.2 ≠ .cell) (hkind : scope.kind = .function)
    (hnames : ∀ y ∈ scope.names, y.2 = .local → scope.names.lookup y.1 = some .local) (hx : scope.names.lookup x = some .local) (hx₂ : scope.names.lookup x₂ = some .local) (hxx : x ≠ x₂)
    (h : wpAny (model prog w) A (eval iter env) (SrcPX prog w A h₀ L m env elt x x₂ scope cl (fun s₂ => LCg.FinE h₀ L m s₂ Q)) E s)
    (hs : ∀ x, foldedSetIterable iter env x = pure x := by intro _; rfl) :
    wpAny (model prog w) A (eval (.ListComp elt [⟨.Tuple [.Name x px, .Name x₂ px₂] tk tp, iter, [], 0⟩] scope pos) env) Q E s := LCp.ListComp_P F₀ hclos hcell hkind hnames hx hx₂ hxx (wpAny_mono h (fun _ _ q => q.p) fun _ _ e => e) hs
local macro_rules | `(tactic| walk_at "eval ListComp") => `(tactic| (k_here; k_dflt (refine ListComp_PX (F₀ := by k_asm) (by with_unfolding_all rfl) (by decide) (by rfl) (by decide) (by rfl) (by rfl) (by decide) ?_)))
theorem keys_c (G : G3 w mean mg mb h₀) {s : Shared} (hs : h₀.StaysIn s.heap) {t d l : Addr} {rows : List Row} {n : Nat} (T : TabAt w s.heap t d l) (hl : s.heap.get? l = some (lst rows n)) (hr : ∀ r ∈ rows, s.heap.get? r.a = some r.obj) (hr₀ : ∀ r ∈ rows, h₀.get? r.a = none) (hc : rows.length ≤ 20) :
    wpAny (model prog3 w) (Aq 3) (call (.ref 121) [.ref t]) (PostK rows.length s) noE s := by
  refine wpAny_call ?_
  refine enter0 (hid := rows.map fun r => (r.a, r.obj)) (binds := [(Str.ofString "self", .ref t)]) G hs (fun p h => by obtain ⟨r, hr', rfl⟩ := List.mem_map.mp h; exact ⟨hr r hr', hr₀ r hr'⟩) (by k_is) (by k_is) (by rfl) (by exact Nat.le_of_ble_eq_true rfl) (BindsTo.of_eq rfl) (locs rfl) ?_ rfl rfl rfl (by decide)
  intro g L h₁ hg st F N X TT hlt
  have hne : ∀ a o, o.cls ≠ .type "tuple" → s.heap.get? a = some o → g.get? a = some o := fun a o h e => hg ▸ hideAll_get _ e fun q => by
    rw [List.map_map] at q
    obtain ⟨r, hr', e2⟩ := List.mem_map.mp q
    have := hr r hr'
    rw [show r.a = a from e2, e] at this
    exact h (congrArg Obj.cls (Option.some.inj this))
  have T' : TabAt w g t d l := ⟨hne _ _ (fun h => nomatch h) T.inst, let ⟨tk, e⟩ := T.dict; ⟨tk, hne _ _ (fun h => absurd (Value.type.inj h) (by decide)) e⟩⟩
  obtain ⟨tk0, hd⟩ := T'.dict
  have hi0 := T'.inst
  have hl' : g.IsList l (rows.map (fun r => Value.ref r.a)).toArray := ⟨_, hne _ _ (fun h => absurd (Value.type.inj h) (by decide)) hl, rfl, _, rfl⟩
  k_steps
  rename Fr _ _ _ _ => F2
  rename News _ _ _ _ => N2
  refine ⟨LCp.SrcLP.base rfl F2 N2 hl' (by simp only [List.size_toArray, List.length_map]; exact Nat.le_trans hc (by decide)) fun g' => ?_⟩
  rw [List.size_toArray, List.length_map]
  refine restP_rel (rows := rows) (Rel' := fun _ _ => True) (fun i v h => by
    have h' : (rows.map (fun r => Value.ref r.a))[i]? = some v := by simpa using h
    rw [List.getElem?_map] at h'
    obtain ⟨r, hr, e⟩ := Option.map_eq_some_iff.mp h'
    exact ⟨r, hr, e.symm⟩) (.inl hl') (fun r hr => List.mem_map.mpr ⟨r, hr, rfl⟩) ?_ ?_ rows [] [] rfl trivial
  · intro r hrr I oI C oC D m₂ h tk ys E' hns hm hm2 F N off ne
    k_steps
    · trivial
    · exact ⟨_, _, rfl, by assumption, by assumption⟩
  · intro ys hys D h tk F N off
    k_steps
    have hk : ∀ b o, s.heap.get? b = some o → h.get? b = some o := fun b o e => by
      by_cases q : b ∈ (rows.map fun r : Row => ((r.a, r.obj) : Addr × Obj)).map (·.1)
      · rw [List.map_map] at q
        obtain ⟨r, hr', rfl⟩ := List.mem_map.mp q
        have := hr r hr'
        rw [show ((fun x : Addr × Obj => x.1) ∘ fun r : Row => (r.a, r.obj)) r = r.a from rfl] at e
        rw [this] at e; cases e
        exact (N _ (.tail _ (List.mem_map.mpr ⟨r, hr', rfl⟩))).1
      · exact F.keep _ _ (hg ▸ hideAll_get _ e q)
    have hDn : s.heap.get? D = none := by
      cases e : s.heap.get? D with
      | none => rfl
      | some o =>
        by_cases q : D ∈ (rows.map fun r : Row => ((r.a, r.obj) : Addr × Obj)).map (·.1)
        · rw [List.map_map] at q
          obtain ⟨r, hr', e2⟩ := List.mem_map.mp q
          have a1 := (N _ (.tail _ (List.mem_map.mpr ⟨r, hr', rfl⟩))).1
          have a2 := (N _ (.head _)).1
          simp only [show r.a = D from e2] at a1
          rw [a2] at a1
          exact cls_ne a1 fun h => absurd (Value.type.inj h) (by decide)
        · have := hg ▸ hideAll_get _ e q
          have y := (N _ (.head _)).2.2
          rw [this] at y; cases y
    exact ⟨D, h, _, ys.length, ys, rfl, rfl, hk, hDn, (N _ (.head _)).1, hys.length⟩
end
end Mine
namespace Mine
section
variable {w : World} {mean : ExcName → Option Value} {mg mb : Str → Option Value} {h₀ : Heap}
noncomputable def siz : Bool → Nat | false => 3 | true => 4
noncomputable def gts : Bool → Str | false => Str.ofString "jJk" | true => Str.ofString "jJkK"
noncomputable def lowN (s t : Nat) : Str := low16.getD (4 * s + t) (Str.ofString "")
noncomputable def nm (s t : Nat) (odd : Bool) : Str := if odd then Txt.lower (qs s ++ qs t) else qs s ++ qs t
theorem nm_fact : ∀ s < 4, ∀ t < 4, ∀ b : Bool, Txt.lower (nm s t b) = lowN s t ∧ (nm s t b).length ≤ 20 ∧ lowN s t ∈ names10 ∧ Txt.lower (lowN s t) = lowN s t := by decide +kernel
theorem nm_mem : ∀ s < 4, ∀ t < 4, ∀ b : Bool, s ≠ t ∨ b = true → nm s t b ∈ names10 := by decide +kernel
theorem low_inj0 : ∀ s < 4, ∀ t < 4, ∀ s' < 4, ∀ t' < 4, ¬ lowN s t = lowN s' t' ∨ (s = s' ∧ t = t') := by decide +kernel
theorem low_inj {s t s' t' : Nat} (h1 : s < 4) (h2 : t < 4) (h3 : s' < 4) (h4 : t' < 4) (h : lowN s t = lowN s' t') : s = s' ∧ t = t' := (low_inj0 s h1 t h2 s' h3 t' h4).resolve_left fun q => q h
theorem nm_odd {turn : Int} (h : Int.fmod turn 2 = 1) (i k : Nat) : nm i k (decide (turn % 2 = 1)) = Txt.lower (qs i ++ qs k) := by
  rw [Int.fmod_eq_emod_of_nonneg _ (by decide)] at h
  unfold nm; rw [decide_eq_true h]; rfl
theorem nm_even {turn : Int} (h : Int.fmod turn 2 ≠ 1) (i k : Nat) : nm i k (decide (turn % 2 = 1)) = qs i ++ qs k := by
  rw [Int.fmod_eq_emod_of_nonneg _ (by decide)] at h
  unfold nm; rw [decide_eq_false h]; rfl
theorem letter_len : ∀ i < 4, (letter i).length ≤ 1 := by decide +kernel
theorem letter_ne : ∀ i < 4, ∀ k < 4, (letter i == letter k) = decide (i = k) := by decide +kernel
theorem qs_len : ∀ i < 4, (qs i).length ≤ 3 := by decide +kernel
theorem two_fact : ∀ i < 4, ∀ k < 4, (0 : Int) < (letter i ++ letter k).length ∧ (1 : Int) < (letter i ++ letter k).length ∧ Txt.item (letter i ++ letter k) 0 = letter i ∧ Txt.item (letter i ++ letter k) 1 = letter k ∧ (letter i ++ letter k).length ≤ 2 := by decide +kernel
theorem two0 {A : Around} {E : Value → Shared → Prop} {s : Shared} {Q : Value → Shared → Prop} {value slice : Expr} {t u : Tok} {i k : Nat} (hi : i < 4) (hk : k < 4) (h : Q (.str (letter i) s.toks) { s with toks := s.toks + 1 })
    (hs : subscripted slice false (.str (letter i ++ letter k) t) (.int 0 u) = operate [.str (letter i ++ letter k) t, .int 0 u] (getItem (.str (letter i ++ letter k) t) (.int 0 u)) := by with_unfolding_all rfl)
    (ht : ∀ r, letTemporaryGo value (.str (letter i ++ letter k) t) r = pure () := by intro _; with_unfolding_all rfl) :
    wpAny (model prog3 w) A (subscriptTail value slice (.str (letter i ++ letter k) t) (.int 0 u)) Q E s :=
  item_str rfl (by omega) (two_fact i hi k hk).1 (fun _ => by rw [(two_fact i hi k hk).2.2.1]; exact h) hs ht
theorem two1 {A : Around} {E : Value → Shared → Prop} {s : Shared} {Q : Value → Shared → Prop} {value slice : Expr} {t u : Tok} {i k : Nat} (hi : i < 4) (hk : k < 4) (h : Q (.str (letter k) s.toks) { s with toks := s.toks + 1 })
    (hs : subscripted slice false (.str (letter i ++ letter k) t) (.int 1 u) = operate [.str (letter i ++ letter k) t, .int 1 u] (getItem (.str (letter i ++ letter k) t) (.int 1 u)) := by with_unfolding_all rfl)
    (ht : ∀ r, letTemporaryGo value (.str (letter i ++ letter k) t) r = pure () := by intro _; with_unfolding_all rfl) :
    wpAny (model prog3 w) A (subscriptTail value slice (.str (letter i ++ letter k) t) (.int 1 u)) Q E s :=
  item_str rfl (by omega) (two_fact i hi k hk).2.1 (fun _ => by rw [(two_fact i hi k hk).2.2.2.1]; exact h) hs ht
local macro_rules | `(tactic| walk_at "call ref") => `(tactic| (k_here; (with_reducible show wpAny _ _ (call (Value.ref 203) _) _ _ _); (show wpAny _ _ (call (Value.ref 203) [Value.str _ _]) _ _ _); refine use_str (quote_c (by assumption) (stays_fr (by assumption) (by assumption)) _ (by assumption) _) ⟨rfl, Nat.le_of_ble_eq_true rfl, Nat.le_of_ble_eq_true rfl⟩ (by k_asm) (by k_asm) ?_; intro tn' h' tk' F' N'))
local macro_rules | `(tactic| walk_at "subscriptTail Name Constant str int") => `(tactic| (k_here; first | refine two0 (by assumption) (by assumption) ?_ | refine two1 (by assumption) (by assumption) ?_))
theorem name_c (G : G3 w mean mg mb h₀) {s : Shared} (hs : h₀.StaysIn s.heap) {a : Addr} {i k : Nat} {c : Int} {ta tb tc : Tok} (hT : IsTup s.heap a #[.str (letter i) ta, .str (letter k) tb, .int c tc]) (hi : i < 4) (hk : k < 4) (turn : Int) (t1 : Tok) :
    wpAny (model prog3 w) (Aq 3) (call (.ref 238) [.ref a, .int turn t1]) (Post (IsStr (nm i k (decide (turn % 2 = 1)))) s) noE s := by
  refine wpAny_call ?_
  refine enter0 (hid := []) (binds := [(Str.ofString "box", .ref a), (Str.ofString "turn", .int turn t1)]) G hs (fun _ h => nomatch h) (by k_is) (by k_is) (by rfl) (by exact Nat.le_of_ble_eq_true rfl) (BindsTo.of_eq rfl) (locs rfl) ?_ rfl rfl rfl (by decide)
  intro g L h₁ hg st F N X TT _
  subst hg
  replace hT : IsTup (hideAll s.heap (List.map (fun (x : Addr × Obj) => x.fst) [])) a #[.str (letter i) ta, .str (letter k) tb, .int c tc] := hT
  have hq1 := qs_len i hi
  have hq2 := qs_len k hk
  k_steps
  · rename Int.fmod _ _ = _ => he
    refine post_end (by assumption) ?_
    rw [nm_odd he]; exact ⟨_, rfl⟩
  · rename Int.fmod _ _ ≠ _ => he
    refine post_end (by assumption) ?_
    rw [nm_even he]; exact ⟨_, rfl⟩
theorem name_s (G : G3 w mean mg mb h₀) {s : Shared} (hs : h₀.StaysIn s.heap) {i k : Nat} {ta : Tok} (hi : i < 4) (hk : k < 4) (turn : Int) (t1 : Tok) :
    wpAny (model prog3 w) (Aq 3) (call (.ref 238) [.str (letter i ++ letter k) ta, .int turn t1]) (Post (IsStr (nm i k (decide (turn % 2 = 1)))) s) noE s := by
  refine wpAny_call ?_
  refine enter0 (hid := []) (binds := [(Str.ofString "box", .str (letter i ++ letter k) ta), (Str.ofString "turn", .int turn t1)]) G hs (fun _ h => nomatch h) (by k_is) (by k_is) (by rfl) (by exact Nat.le_of_ble_eq_true rfl) (BindsTo.of_eq rfl) (locs rfl) ?_ rfl rfl rfl (by decide)
  intro g L h₁ hg st F N X TT _
  subst hg
  have hq1 := qs_len i hi
  have hq2 := qs_len k hk
  k_steps
  · rename Int.fmod _ _ = _ => he
    refine post_end (by assumption) ?_
    rw [nm_odd he]; exact ⟨_, rfl⟩
  · rename Int.fmod _ _ ≠ _ => he
    refine post_end (by assumption) ?_
    rw [nm_even he]; exact ⟨_, rfl⟩
end
end Mine
namespace Mine
section
variable {w : World} {mean : ExcName → Option Value} {mg mb : Str → Option Value} {h₀ : Heap}
local macro_rules | `(tactic| walk_at "exec For Name Name cons nil") => `(tactic| (k_here; (rename Fr _ _ _ _ => lF'); (with_unfolding_all refine For_V lF' (by rfl) (by rfl) ?_)))
/-- a box of the list: a tuple of two letters and a number -/
structure BRow where
  a : Addr
  s : Nat
  t : Nat
  c : Nat
  ta : Tok
  tb : Tok
  tc : Tok
  n : Nat
noncomputable def BRow.obj (r : BRow) : Obj := { cls := .type "tuple", data := .seq #[.str (letter r.s) r.ta, .str (letter r.t) r.tb, .int (r.c : Int) r.tc] r.n }
noncomputable def BRow.tup (r : BRow) : Addr × Obj := (r.a, r.obj)
noncomputable def BRow.box (r : BRow) : Nat × Nat × Nat := (r.s, r.t, r.c)
noncomputable def blst (rows : List BRow) (n : Nat) : Obj := W.listOf (List.toArray (rows.map (fun r => Value.ref r.a))) n
/-- the p-th pair of gates -/
noncomputable def pr (z : Bool) (p : Nat) : Nat × Nat := (p / (siz z - 1), if p % (siz z - 1) < p / (siz z - 1) then p % (siz z - 1) else p % (siz z - 1) + 1)
noncomputable def bx1 (z : Bool) (num : Int) (p : Nat) : List (Nat × Nat × Nat) := if num / 4 ^ p % 4 < 3 then [((pr z p).1, (pr z p).2, (num / 4 ^ p % 4).toNat)] else []
noncomputable def bx (z : Bool) (num : Int) (c : Nat) : List (Nat × Nat × Nat) := (List.range c).flatMap (bx1 z num)
theorem bx_succ (z : Bool) (num : Int) (c : Nat) : bx z num (c + 1) = bx z num c ++ bx1 z num c := by unfold bx; rw [List.range_succ, List.flatMap_append]; simp
structure PostB (bs : List (Nat × Nat × Nat)) (s : Shared) (v : Value) (s' : Shared) : Prop where
  ex : ∃ D h' tk n' rows, v = .ref D ∧ s' = { s with heap := h', toks := tk } ∧ (∀ b o, s.heap.get? b = some o → h'.get? b = some o) ∧ (∀ p ∈ (D, blst rows n') :: rows.map BRow.tup, h'.get? p.1 = some p.2 ∧ s.heap.get? p.1 = none) ∧ rows.map BRow.box = bs
theorem gts_fact : ∀ z : Bool, (gts z).cps.size = siz z ∧ (gts z).cps.all (· < 128) = true := by decide +kernel
theorem gts_item0 : ∀ z : Bool, ∀ i < siz z, (gts z).cps[i]?.map (fun c => (⟨#[c]⟩ : Str)) = some (letter i) := by decide +kernel
theorem gts_item {z : Bool} {i c : Nat} (h : (gts z).cps[i]? = some c) : i < siz z ∧ (⟨#[c]⟩ : Str) = letter i := by
  have hi : i < siz z := by
    have := (Array.getElem?_eq_some_iff.mp h).1
    rwa [(gts_fact z).1] at this
  have q := gts_item0 z i hi
  rw [h] at q
  exact ⟨hi, Option.some.inj q⟩
theorem siz_le (z : Bool) : siz z ≤ 4 := by cases z <;> decide
theorem pr_fact : ∀ z : Bool, ∀ i < siz z, ∀ j < siz z, i ≠ j → pr z (i * (siz z - 1) + (if j < i then j else j - 1)) = (i, j) := by decide +kernel
local macro_rules | `(tactic| walk_at "eval Name") => `(tactic| (k_here; refine ld (by k_asm) (by assumption) ?_))
local macro_rules | `(tactic| walk_at "loadName") => `(tactic| (k_here; refine ldn (by k_asm) (by assumption) ?_))
local macro_rules | `(tactic| walk_at "call builtin:list.append") => `(tactic| (k_here; refine StopAt.p ?_))
theorem boxes_c (G : G3 w mean mg mb h₀) {s : Shared} (hs : h₀.StaysIn s.heap) {ls : Addr} {sv : List Value} {ns : List Int} (z : Bool) (hl : s.heap.IsList ls sv.toArray) (hi : IntsAre sv ns) (hnl : ns.length ≤ 63) (t1 : Tok) :
    wpAny (model prog3 w) (Aq 3) (call (.ref 231) [.ref ls, .str (gts z) t1]) (PostB (bx z (3528 + ns.sum) (siz z * (siz z - 1))) s) noE s := by
  refine wpAny_call ?_
  refine enter0 (hid := []) (binds := [(Str.ofString "script", .ref ls), (Str.ofString "gates", .str (gts z) t1)]) G hs (fun _ h => nomatch h) (by k_is) (by k_is) (by rfl) (by exact Nat.le_of_ble_eq_true rfl) (BindsTo.of_eq rfl) (locs rfl) ?_ rfl rfl rfl (by decide)
  intro g L h₁ hg st F N X TT _
  subst hg
  have hl' : (hideAll s.heap (List.map (fun (x : Addr × Obj) => x.fst) [])).IsList ls sv.toArray := hl
  k_steps
  rename_i lb hA lA hB F2 N2
  unfold Lp
  obtain ⟨hgs, hga⟩ := gts_fact z
  generalize hnum : 3528 + ns.sum = num at *
  refine loop_str (y := gts z) (fun i m news => ∃ rows n, news = rows.map BRow.tup ++ [(lb, blst rows n)] ∧ rows.map BRow.box = bx z num (i * (siz z - 1)) ∧ rows.length ≤ 20 ∧ m (Str.ofString "gates") = some (.str (gts z) t1) ∧ m (Str.ofString "boxes") = some (.ref lb) ∧ ∃ tn, m (Str.ofString "number") = some (.int (num / 4 ^ (i * (siz z - 1))) tn)) rfl hga F2 N2 ⟨[], 0, rfl, by simp [bx], Nat.zero_le _, rfl, rfl, _, by rw [Nat.zero_mul, Int.pow_zero, Int.ediv_one]; rfl⟩ ?_ ?_
  · clear F2 N2
    rintro I i c v2 m₁ news₁ h tk own hc ⟨rows, n, rfl, hrows, hrl, hm1, hm2, tn, hm3⟩ hI hlt' hown ⟨oI, hoI, hit⟩ F N
    obtain ⟨hiz, hcl⟩ := gts_item hc
    rw [hcl] at F
    replace F : Fr (hideAll s.heap (List.map (fun (x : Addr × Obj) => x.fst) [])) L h _ := F
    replace N : News (hideAll s.heap (List.map (fun (x : Addr × Obj) => x.fst) [])) L h _ := N
    k_steps
    rename Fr _ _ _ _ => F2
    rename News _ _ _ _ => N2
    unfold Lp
    refine loop_str (y := gts z) (fun j m news => ∃ rows n, news = own ++ (rows.map BRow.tup ++ [(lb, blst rows n)]) ∧ (∀ p ∈ rows.map BRow.tup ++ [(lb, blst rows n)], p.1 ≠ I) ∧ rows.map BRow.box = bx z num (i * (siz z - 1) + (if j ≤ i then j else j - 1)) ∧ rows.length ≤ 20 ∧ m (Str.ofString "gates") = some (.str (gts z) t1) ∧ m (Str.ofString "boxes") = some (.ref lb) ∧ m (Str.ofString "source") = some (.str (letter i) v2) ∧ ∃ tn, m (Str.ofString "number") = some (.int (num / 4 ^ (i * (siz z - 1) + (if j ≤ i then j else j - 1))) tn)) rfl hga F2 N2 ⟨rows, n, rfl, hI, by rw [if_pos (Nat.zero_le _)]; exact hrows, hrl, hm1, hm2, rfl, tn, by rw [if_pos (Nat.zero_le _)]; exact hm3⟩ ?_ ?_
    · clear F2 N2 hrows hm1 hm2 hm3 hI
      rintro I2 j c2 v3 m₂ news₂ h2 tk2 own2 hc2 ⟨rows, n, rfl, hI, hrows, hrl, hm1, hm2, hm4, tn, hm3⟩ hI2 hlt2' hown2 ⟨oI2, hoI2, hit2⟩ F N
      obtain ⟨hjz, hcl2⟩ := gts_item hc2
      rw [hcl2] at F
      replace F : Fr (hideAll s.heap (List.map (fun (x : Addr × Obj) => x.fst) [])) L h2 _ := F
      replace N : News (hideAll s.heap (List.map (fun (x : Addr × Obj) => x.fst) [])) L h2 _ := N
      have hi4 : i < 4 := Nat.lt_of_lt_of_le hiz (siz_le z)
      have hj4 : j < 4 := Nat.lt_of_lt_of_le hjz (siz_le z)
      have hl1 := letter_len i hi4
      have hl2 := letter_len j hj4
      have hl3 := letter_ne i hi4 j hj4
      by_cases hij : i = j
      · subst hij
        have hx : (letter i != letter i) = false := by rw [bne, hl3, decide_eq_true rfl]; rfl
        k_steps
        refine TurnEnd.next F N (fun p hp => ?_) ⟨rows, n, rfl, hI, ?_, hrl, hm1, hm2, hm4, tn, ?_⟩
        · exact hI2 p hp
        · rw [hrows, if_pos (Nat.le_refl _), if_neg (by omega)]; rfl
        · rw [if_neg (by omega)]
          rw [if_pos (Nat.le_refl _)] at hm3
          exact hm3
      · have hx : (letter i != letter j) = true := by rw [bne, hl3, decide_eq_false hij]; rfl
        have hpr := pr_fact z i hiz j hjz hij
        have hcs : i * (siz z - 1) + (if j + 1 ≤ i then j + 1 else j + 1 - 1) = i * (siz z - 1) + (if j ≤ i then j else j - 1) + 1 := by
          by_cases h : j < i
          · rw [if_pos (by omega), if_pos (by omega)]; omega
          · rw [if_neg (by omega), if_neg (by omega)]; omega
        have hpe : (if j < i then j else j - 1) = (if j ≤ i then j else j - 1) := by
          by_cases h : j < i
          · rw [if_pos h, if_pos (by omega)]
          · rw [if_neg h, if_neg (by omega)]
        rw [hpe] at hpr
        generalize hp : i * (siz z - 1) + (if j ≤ i then j else j - 1) = p at *
        generalize hq : num / 4 ^ p = q at hm3
        have hqf : Int.fmod q 4 = (((q % 4).toNat : Nat) : Int) := by
          rw [Int.fmod_eq_emod_of_nonneg _ (by decide)]; omega
        have hbs : bx z num (p + 1) = bx z num p ++ bx1 z num p := bx_succ z num p
        have hb1 : bx1 z num p = if q % 4 < 3 then [(i, j, (q % 4).toNat)] else [] := by unfold bx1; rw [hpr, hq]
        have hnum' : num / 4 ^ (p + 1) = q.fdiv 4 := by
          rw [Int.fdiv_eq_ediv_of_nonneg _ (by decide), ← hq, Int.pow_succ, Int.ediv_ediv_of_nonneg (by exact Int.pow_nonneg (by decide))]
        have hlI : lb ≠ I := hI (lb, blst rows n) (List.mem_append_right _ (.head _))
        have hlI2 : lb ≠ I2 := hI2 (lb, blst rows n) (List.mem_append_right _ (List.mem_append_right _ (.head _)))
        k_steps
        · rename_i hc3 D hD FD ND lD
          refine ⟨?_⟩
          rw [Int.fmod_eq_emod_of_nonneg _ (by decide)] at hc3
          obtain ⟨r, hr, hra, hrb⟩ : ∃ r : BRow, r.tup = (D, { cls := .type "tuple", data := .seq #[Value.str (letter i) v2, Value.str (letter j) v3, Value.int (Int.fmod q 4) (tk + 1)] 0 }) ∧ r.a = D ∧ r.box = (i, j, (q % 4).toNat) := ⟨⟨D, i, j, (q % 4).toNat, v2, v3, tk + 1, 0⟩, by unfold BRow.tup BRow.obj; rw [hqf], rfl, rfl⟩
          have ND' : News _ _ _ ((own2 ++ (own ++ ((rows ++ [r]).map BRow.tup))) ++ [(lb, W.listOf (List.toArray (rows.map fun r => Value.ref r.a)) n)]) := fun q hq => ND q (by
            rw [← hr]
            simp only [List.map_append, List.map_cons, List.map_nil, List.mem_append, List.mem_cons, List.not_mem_nil, or_false, blst] at hq ⊢
            rcases hq with (h | h | h | h) | h
            · exact .inr (.inl h)
            · exact .inr (.inr (.inl h))
            · exact .inr (.inr (.inr (.inl h)))
            · exact .inl h
            · exact .inr (.inr (.inr (.inr h))))
          have ho : ∀ q ∈ own2 ++ (own ++ ((rows ++ [r]).map BRow.tup)), q.1 ≠ lb := fun q hq => by
            rcases List.mem_append.mp hq with hq | hq
            · rw [hown2 q hq]; exact Ne.symm hlI2
            · rcases List.mem_append.mp hq with hq | hq
              · rw [hown q hq]; exact Ne.symm hlI
              · intro e
                have a1 := (ND' q (List.mem_append_left _ (List.mem_append_right _ (List.mem_append_right _ hq)))).1
                have a2 := (ND' (lb, _) (List.mem_append_right _ (.head _))).1
                obtain ⟨r', _, rfl⟩ := List.mem_map.mp hq
                rw [e] at a1
                rw [a2] at a1
                exact cls_ne a1 fun h => absurd (Value.type.inj h) (by decide)
          refine append_use FD ND' ho (by rw [List.length_map]; omega) ?_
          intro h5 F5 N5
          rw [← hra] at N5
          have e5 : W.listOf (List.toArray ((rows.map fun r => Value.ref r.a) ++ [Value.ref r.a])) (n + 1) = blst (rows ++ [r]) (n + 1) := by unfold blst; rw [List.map_append]; rfl
          rw [e5] at N5
          have hlen : rows.length = (bx z num p).length := by rw [← hrows, List.length_map]
          have hpl : p < siz z * (siz z - 1) := by
            rw [← hp]
            have : ∀ z : Bool, ∀ i < siz z, ∀ j < siz z, i ≠ j → i * (siz z - 1) + (if j ≤ i then j else j - 1) < siz z * (siz z - 1) := by decide +kernel
            exact this z i hiz j hjz hij
          have hbl : (bx z num p).length ≤ p := by
            unfold bx
            rw [List.length_flatMap]
            have : ∀ l : List Nat, (l.map fun a => (bx1 z num a).length).sum ≤ l.length := fun l => by
              induction l with
              | nil => exact Nat.le_refl _
              | cons a r ih =>
                rw [List.map_cons, List.sum_cons, List.length_cons]
                have : (bx1 z num a).length ≤ 1 := by unfold bx1; split <;> simp
                omega
            have := this (List.range p)
            rwa [List.length_range] at this
          have hp12 : siz z * (siz z - 1) ≤ 12 := by cases z <;> decide
          k_steps
          rename Fr _ _ _ _ => F6
          rename News _ _ _ _ => N6
          rw [List.append_assoc, List.append_assoc] at N6
          refine TurnEnd.next F6 (news' := own ++ ((rows ++ [r]).map BRow.tup ++ [(lb, blst (rows ++ [r]) (n + 1))])) N6 (fun q hq => ?_) ⟨rows ++ [r], n + 1, rfl, fun q hq => ?_, ?_, ?_, hm1, hm2, hm4, ?_⟩
          · rcases List.mem_append.mp hq with hq' | hq'
            · exact hI2 q (List.mem_append_left _ hq')
            · rcases List.mem_append.mp hq' with hq'' | hq''
              · obtain ⟨r', _, rfl⟩ := List.mem_map.mp hq''
                exact iter_ne (o := r'.obj) N6 (List.mem_append_left _ hoI2) hit2 (List.mem_append_right _ hq) (.inl rfl)
              · rw [List.mem_singleton.mp hq'']; exact hlI2
          · rcases List.mem_append.mp hq with hq' | hq'
            · obtain ⟨r', _, rfl⟩ := List.mem_map.mp hq'
              exact iter_ne (o := r'.obj) N6 (List.mem_append_right _ (List.mem_append_left _ hoI)) hit (List.mem_append_right _ (List.mem_append_right _ hq)) (.inl rfl)
            · rw [List.mem_singleton.mp hq']; exact hlI
          · rw [hcs, hbs, hb1, if_pos hc3, List.map_append, hrows]
            show _ ++ [r.box] = _
            rw [hrb]
          · rw [List.length_append, List.length_singleton]; omega
          · rw [hcs, hnum']; exact ⟨_, rfl⟩
        · rename ¬ _ < (3 : Int) => hc3
          rw [Int.fmod_eq_emod_of_nonneg _ (by decide)] at hc3
          rename Fr _ _ _ _ => F6
          rename News _ _ _ _ => N6
          refine TurnEnd.next F6 N6 (fun q hq => hI2 q hq) ⟨rows, n, rfl, hI, ?_, hrl, hm1, hm2, hm4, ?_⟩
          · rw [hcs, hbs, hb1, if_neg hc3, hrows, List.append_nil]
          · rw [hcs, hnum']; exact ⟨_, rfl⟩
    · clear F2 N2 hrows hm1 hm2 hm3 hI
      rintro m₂ news₂ h2 tk2 ⟨rows, n, rfl, hI, hrows, hrl, hm1, hm2, hm4, tn, hm3⟩ F N
      replace F : Fr (hideAll s.heap (List.map (fun (x : Addr × Obj) => x.fst) [])) L h2 _ := F
      replace N : News (hideAll s.heap (List.map (fun (x : Addr × Obj) => x.fst) [])) L h2 _ := N
      have e : i * (siz z - 1) + (if (gts z).cps.size ≤ i then (gts z).cps.size else (gts z).cps.size - 1) = (i + 1) * (siz z - 1) := by
        rw [hgs, if_neg (by omega), Nat.add_mul, Nat.one_mul]
      rw [e] at hrows hm3
      k_steps
      exact TurnEnd.next F N hI ⟨rows, n, rfl, hrows, hrl, hm1, hm2, tn, hm3⟩
  · clear F2 N2
    rintro m₁ news₁ h tk ⟨rows, n, rfl, hrows, hrl, hm1, hm2, tn, hm3⟩ F N
    replace F : Fr (hideAll s.heap (List.map (fun (x : Addr × Obj) => x.fst) [])) L h _ := F
    replace N : News (hideAll s.heap (List.map (fun (x : Addr × Obj) => x.fst) [])) L h _ := N
    rw [hgs] at hrows
    k_steps
    exact ⟨lb, h, _, n, rows, rfl, rfl, F.keep, fun p hp => ⟨(N p (by
      rcases List.mem_cons.mp hp with rfl | hp
      · exact List.mem_append_right _ (.head _)
      · exact List.mem_append_left _ hp)).1, (N p (by
      rcases List.mem_cons.mp hp with rfl | hp
      · exact List.mem_append_right _ (.head _)
      · exact List.mem_append_left _ hp)).2.2⟩, hrows⟩
end
end Mine
namespace Mine
section
variable {w : World} {mean : ExcName → Option Value} {mg mb : Str → Option Value} {h₀ : Heap}
/-- the table of the boxes: one header a box, c tokens in each -/
structure Wf1 (bs : List (Nat × Nat × Nat)) (kvs : List (Str × Str)) (c : Nat → Nat → Nat) : Prop where
  hit : ∀ b ∈ bs, ∃ k, kvs.filter (fun kv => decide (Txt.lower kv.1 = lowN b.1 b.2.1)) = [(k, vstr (c b.1 b.2.1))]
  miss : ∀ s < 4, ∀ t < 4, (∀ b ∈ bs, ¬ (b.1 = s ∧ b.2.1 = t)) → kvs.filter (fun kv => decide (Txt.lower kv.1 = lowN s t)) = []
  len : kvs.length = bs.length
  klen : ∀ kv ∈ kvs, kv.1.length ≤ 20
structure BxOK (bs : List (Nat × Nat × Nat)) : Prop where
  s : ∀ b ∈ bs, b.1 < 4 ∧ b.2.1 < 4 ∧ b.1 ≠ b.2.1
  c : ∀ b ∈ bs, b.2.2 < 3
  nd : (bs.map fun b => (b.1, b.2.1)).Nodup
  len : bs.length ≤ 12
theorem find_filter {kvs : List (Str × Str)} {p : Str × Str → Bool} : kvs.find? p = (kvs.filter p).head? := by
  induction kvs with
  | nil => rfl
  | cons a r ih => 
    rw [List.find?_cons, List.filter_cons]
    cases p a with
    | true => rfl
    | false => exact ih
noncomputable def tokOf (bs : List (Nat × Nat × Nat)) (s t : Nat) : Nat := match bs.find? (fun b => decide (b.1 = s ∧ b.2.1 = t)) with | some b => b.2.2 | none => 0
theorem tok_at {bs : List (Nat × Nat × Nat)} (h : (bs.map fun b => (b.1, b.2.1)).Nodup) {b : Nat × Nat × Nat} (hb : b ∈ bs) : tokOf bs b.1 b.2.1 = b.2.2 := by
  induction bs with
  | nil => cases hb
  | cons a r ih =>
    rw [List.map_cons, List.nodup_cons] at h
    unfold tokOf
    rw [List.find?_cons]
    rcases List.mem_cons.mp hb with rfl | hb
    · simp
    · have : ¬ (a.1 = b.1 ∧ a.2.1 = b.2.1) := fun e => h.1 (List.mem_map.mpr ⟨b, hb, by rw [e.1, e.2]⟩)
      rw [decide_eq_false this]
      exact ih h.2 hb
/-- one box more -/
theorem wf1_snoc {bs : List (Nat × Nat × Nat)} {kvs : List (Str × Str)} {c : Nat → Nat → Nat} (W : Wf1 bs kvs c) {b : Nat × Nat × Nat} (h1 : b.1 < 4) (h2 : b.2.1 < 4) (hs : ∀ b ∈ bs, b.1 < 4 ∧ b.2.1 < 4) (hn : ∀ b' ∈ bs, ¬ (b'.1 = b.1 ∧ b'.2.1 = b.2.1)) {x : Str} (hx : Txt.lower x = lowN b.1 b.2.1) (hxl : x.length ≤ 20) : Wf1 (bs ++ [b]) (kvs ++ [(x, vstr (c b.1 b.2.1))]) c := by
  refine ⟨fun b' hb' => ?_, fun s hs' t ht hno => ?_, by simp [W.len], fun kv hkv => ?_⟩
  · rw [List.filter_append]
    rcases List.mem_append.mp hb' with hb' | hb'
    · obtain ⟨k, e⟩ := W.hit b' hb'
      refine ⟨k, ?_⟩
      rw [e, List.filter_cons, decide_eq_false (fun q => hn b' hb' (low_inj (hs b' hb').1 (hs b' hb').2 h1 h2 (q.symm.trans hx)))]
      rfl
    · rw [List.mem_singleton.mp hb']
      refine ⟨x, ?_⟩
      rw [W.miss _ h1 _ h2 hn, List.filter_cons, decide_eq_true hx]
      rfl
  · rw [List.filter_append, W.miss s hs' t ht fun b' hb' => hno b' (List.mem_append_left _ hb'), List.filter_cons, decide_eq_false fun q => hno b (List.mem_append_right _ (.head _)) (low_inj h1 h2 hs' ht (hx.symm.trans q))]
    rfl
  · rcases List.mem_append.mp hkv with h | h
    · exact W.klen kv h
    · rw [List.mem_singleton.mp h]; exact hxl
end
end Mine
namespace Mine
section
variable {w : World} {mean : ExcName → Option Value} {mg mb : Str → Option Value} {h₀ : Heap}
noncomputable def upd (c : Nat → Nat → Nat) (s t n : Nat) : Nat → Nat → Nat := fun s' t' => if s' = s ∧ t' = t then n else c s' t'
theorem upd_eq (c : Nat → Nat → Nat) (s t n : Nat) : upd c s t n s t = n := if_pos ⟨rfl, rfl⟩
theorem upd_ne {c : Nat → Nat → Nat} {s t n s' t' : Nat} (h : ¬ (s' = s ∧ t' = t)) : upd c s t n s' t' = c s' t' := if_neg h
theorem filter_ne {kvs : List (Str × Str)} {y z : Str} (h : y ≠ z) : (kvs.filter (fun kv => decide (Txt.lower kv.1 ≠ y))).filter (fun kv => decide (Txt.lower kv.1 = z)) = kvs.filter (fun kv => decide (Txt.lower kv.1 = z)) := by
  rw [List.filter_filter]
  refine List.filter_congr fun kv _ => ?_
  by_cases e : Txt.lower kv.1 = z
  · have : Txt.lower kv.1 ≠ y := fun q => h (q.symm.trans e)
    simp [e, Ne.symm h]
  · simp [e]
theorem filter_len {kvs : List (Str × Str)} {y : Str} : (kvs.filter (fun kv => decide (Txt.lower kv.1 ≠ y))).length + (kvs.filter (fun kv => decide (Txt.lower kv.1 = y))).length = kvs.length := by
  induction kvs with
  | nil => rfl
  | cons a r ih =>
    rw [List.filter_cons, List.filter_cons]
    by_cases e : Txt.lower a.1 = y
    · simp only [e, ne_eq, not_true, decide_false, decide_true, if_true, Bool.false_eq_true, if_false, List.length_cons]; simp only [ne_eq] at ih; omega
    · simp only [e, ne_eq, not_false_eq_true, decide_true, decide_false, if_true, Bool.false_eq_true, if_false, List.length_cons]; simp only [ne_eq] at ih; omega
theorem wf1_set {bs : List (Nat × Nat × Nat)} {rows rows' : List Row} {c : Nat → Nat → Nat} (W : Wf1 bs (kvsOf rows) c) (hs : ∀ b ∈ bs, b.1 < 4 ∧ b.2.1 < 4) {b : Nat × Nat × Nat} (hb : b ∈ bs) {x : Str} (hx : Txt.lower x = lowN b.1 b.2.1) (hxl : x.length ≤ 20) {n : Nat} {r : Row} (hk : r.k = x) (hv : r.v = vstr n)
    (e : rows' = (rows.filter fun r => decide (Txt.lower r.k ≠ Txt.lower x)) ++ [r]) : Wf1 bs (kvsOf rows') (upd c b.1 b.2.1 n) ∧ rows'.length = rows.length := by
  have hkv : kvsOf rows' = (kvsOf rows).filter (fun kv => decide (Txt.lower kv.1 ≠ lowN b.1 b.2.1)) ++ [(x, vstr n)] := by
    rw [e, kvsOf, List.map_append, kvsOf, List.filter_map, hx]
    rw [show [r].map (fun r => (r.k, r.v)) = [(x, vstr n)] by simp [hk, hv]]
    rfl
  obtain ⟨k0, h0⟩ := W.hit b hb
  have hl := filter_len (kvs := kvsOf rows) (y := lowN b.1 b.2.1)
  rw [h0] at hl
  have hlen : rows'.length = rows.length := by
    have : (kvsOf rows').length = (kvsOf rows).length := by rw [hkv, List.length_append]; simpa using hl
    simpa [kvsOf] using this
  refine ⟨⟨fun b' hb' => ?_, fun s hs' t ht hno => ?_, ?_, fun kv h => ?_⟩, hlen⟩
  · rw [hkv, List.filter_append]
    by_cases q : lowN b.1 b.2.1 = lowN b'.1 b'.2.1
    · obtain ⟨q1, q2⟩ := low_inj (hs b hb).1 (hs b hb).2 (hs b' hb').1 (hs b' hb').2 q
      refine ⟨x, ?_⟩
      rw [← q1, ← q2, List.filter_filter, List.filter_cons, decide_eq_true hx]
      have : (kvsOf rows).filter (fun kv => decide (Txt.lower kv.1 = lowN b.1 b.2.1) && decide (Txt.lower kv.1 ≠ lowN b.1 b.2.1)) = [] := by
        rw [List.filter_eq_nil_iff]; intro kv _; by_cases q : Txt.lower kv.1 = lowN b.1 b.2.1 <;> simp [q]
      rw [this, upd_eq]; rfl
    · obtain ⟨k, h⟩ := W.hit b' hb'
      refine ⟨k, ?_⟩
      rw [filter_ne q, h, List.filter_cons, decide_eq_false (fun q' => q (hx.symm.trans q')), upd_ne (fun e => q (by rw [e.1, e.2]))]; rfl
  · have q : lowN b.1 b.2.1 ≠ lowN s t := fun q => hno b hb (low_inj (hs b hb).1 (hs b hb).2 hs' ht q)
    rw [hkv, List.filter_append, filter_ne q, W.miss s hs' t ht hno, List.filter_cons, decide_eq_false (fun q' => q (hx.symm.trans q'))]; rfl
  · rw [show (kvsOf rows').length = rows'.length by simp [kvsOf], hlen, ← W.len]; simp [kvsOf]
  · rw [hkv] at h
    rcases List.mem_append.mp h with h | h
    · exact W.klen kv (List.mem_filter.mp h).1
    · rw [List.mem_singleton.mp h]; exact hxl
end
end Mine
namespace Mine
section
variable {w : World} {mean : ExcName → Option Value} {mg mb : Str → Option Value} {h₀ : Heap}
local macro_rules | `(tactic| walk_at "exec For Name Call cons nil") => `(tactic| (k_here; (rename Fr _ _ _ _ => lF'); (with_unfolding_all refine For_V lF' (by rfl) (by rfl) ?_)))
/-- the list of boxes lies in the base heap -/
structure BxAt (h : Heap) (lb : Addr) (rows : List BRow) : Prop where
  list : ∃ n, h.get? lb = some (blst rows n)
  tup : ∀ r ∈ rows, h.get? r.a = some r.obj
theorem BxAt.at {h h' : Heap} {lb : Addr} {rows : List BRow} (B : BxAt h lb rows) (k : ∀ b o, h.get? b = some o → h'.get? b = some o) : BxAt h' lb rows := ⟨let ⟨n, e⟩ := B.list; ⟨n, k _ _ e⟩, fun r hr => k _ _ (B.tup r hr)⟩
theorem BxAt.item {h : Heap} {lb : Addr} {rows : List BRow} (B : BxAt h lb rows) : h.IsList lb (List.toArray (rows.map (fun r => Value.ref r.a))) := let ⟨n, e⟩ := B.list; ⟨_, e, rfl, n, rfl⟩
theorem BxAt.isTup {h : Heap} {lb : Addr} {rows : List BRow} (B : BxAt h lb rows) {r : BRow} (hr : r ∈ rows) : IsTup h r.a #[.str (letter r.s) r.ta, .str (letter r.t) r.tb, .int (r.c : Int) r.tc] := ⟨_, B.tup r hr, rfl, _, rfl⟩
theorem itemBL {A : Around} {E : Value → Shared → Prop} {s : Shared} {b : Heap} {L : Addr} {m : Str → Option Value} {value slice : PySem.Expr} {l : Addr} {vs : List Value} {k : Nat} {u : Tok} {v : Value} {Q : Value → Shared → Prop}
    (F : Fr b L s.heap m) (hl₀ : b.IsList l vs.toArray) (hx : vs[k]? = some v) (hk : vs.length ≤ 64) (h : Q v s)
    (hs : subscripted slice false (.ref l) (.int (k : Int) u) = operate [.ref l, .int (k : Int) u] (getItem (.ref l) (.int (k : Int) u)) := by with_unfolding_all rfl) :
    wpAny (model prog3 w) A (subscriptTail value slice (.ref l) (.int (k : Int) u)) Q E s := by
  have hl := hl₀.at fun o e => F.keep _ o e
  have hk' : k < vs.length := (List.getElem?_eq_some_iff.mp hx).1
  exact tail_any hl.typeIs slot_list_getitem.lookup (wpAny_getItem_list hl (Int.natCast_nonneg k) (by omega) (by simpa using hx) h) hs
theorem setd_use {A : Around} {s : Shared} {b : Heap} {L t d l : Addr} {m : Str → Option Value} {other : List (Addr × Obj)} {rows : List Row} {n : Nat} {tk0 : Tok} {Q E : Value → Shared → Prop} {x v : Str} {t1 t2 : Tok} (G : G3 w mean mg mb h₀) (st : h₀.StaysIn b) (F : Fr b L s.heap m) (N : News b L s.heap (other ++ led l n rows))
    (hi : (t, instObj 169 d) ∈ other) (hd : (d, hdrDict w l tk0) ∈ other) (ho : ∀ p ∈ other, p.1 ≠ l) (hx : x ∈ names10) (hxl : Txt.lower x ∈ names10) (hlen : x.length ≤ 20) (hv : v ∈ vs6) (hK : ∀ kv ∈ kvsOf rows, kv.1.length ≤ 20) (hno : (kvsOf rows).find? (fun kv => decide (Txt.lower kv.1 = Txt.lower x)) = none) (hc : rows.length ≤ 20) (hA : Fits A 5)
    (h : ∀ v' h' tk' n' r, r.k = x → r.v = v → Fr b L h' m → News b L h' (other ++ led l n' (rows ++ [r])) → Q v' { s with heap := h', toks := tk' }) : wpAny (model prog3 w) A (call (.ref 159) [.ref t, .str x t1, .str v t2]) Q E s := by
  have zl := N (l, lst rows n) (List.mem_append_right _ (.head _))
  have hl₀ : h₀.get? l = none := by
    cases e : h₀.get? l with
    | none => rfl
    | some o => have y := zl.2.2; rw [st _ _ e] at y; cases y
  refine use_mut (setd_c G (stays_fr st F) (tab_mem N (List.mem_append_left _ hi) (List.mem_append_left _ hd)) zl.1 hl₀ (fun r h => (N (r.a, r.obj) (List.mem_append_right _ (.tail _ (List.mem_map.mpr ⟨r, h, rfl⟩)))).1) hx hxl hlen hv hK hno hc t1 t2) hA F N ho ?_
  rintro v' h' tk' n' rows' ⟨r, rfl, rfl, rfl⟩ F' N'
  exact h v' h' tk' n' r rfl rfl F' N'
structure PostT (bs : List (Nat × Nat × Nat)) (s : Shared) (v : Value) (s' : Shared) : Prop where
  ex : ∃ t d l rows n tk0 h' tk, v = .ref t ∧ s' = { s with heap := h', toks := tk } ∧ (∀ b o, s.heap.get? b = some o → h'.get? b = some o) ∧
    (∀ p ∈ (t, instObj 169 d) :: (d, hdrDict w l tk0) :: led l n rows, h'.get? p.1 = some p.2 ∧ s.heap.get? p.1 = none) ∧ Wf1 bs (kvsOf rows) (tokOf bs)
local macro_rules | `(tactic| walk_at "eval Name") => `(tactic| (k_here; refine ld (by k_asm) (by assumption) ?_))
local macro_rules | `(tactic| walk_at "subscriptTail Name Name ref int") => `(tactic| (k_here; (with_reducible show wpAny _ _ (subscriptTail _ _ (Value.ref _) (Value.int _ _)) _ _ _); refine itemBL (by k_asm) (by assumption) (by assumption) (by assumption) ?_))
local macro_rules | `(tactic| walk_at "call builtin:len") => `(tactic| (k_here; (with_reducible show wpAny _ _ (call (Value.builtin "len") [Value.ref _]) _ _ _); refine len_use (Heap.IsList.at (by assumption) fun o e => Fr.keep (by k_asm) _ o e) (by assumption) (by assumption) ?_; intro tl' tkl'))
local macro_rules | `(tactic| walk_at "call ref") => `(tactic| (k_here; (with_reducible show wpAny _ _ (call (Value.ref 238) _) _ _ _); (show wpAny _ _ (call (Value.ref 238) [Value.ref _, Value.int _ _]) _ _ _); refine use_str (name_c (by assumption) (stays_fr (by assumption) (by k_asm)) (IsTup.keeps (by assumption) fun b o e => Fr.keep (by k_asm) b o e) (by assumption) (by assumption) _ _) ⟨rfl, Nat.le_of_ble_eq_true rfl, Nat.le_of_ble_eq_true rfl⟩ (by k_asm) (by k_asm) ?_; intro tn' h' tk' F' N'))
local macro_rules | `(tactic| walk_at "call ref") => `(tactic| (k_here; (with_reducible show wpAny _ _ (call (Value.ref 216) _) _ _ _); (show wpAny _ _ (call (Value.ref 216) [Value.str (vstr _) _]) _ _ _); refine use_str (enc_v (by assumption) (stays_fr (by assumption) (by k_asm)) _ (by assumption) _) ⟨rfl, Nat.le_of_ble_eq_true rfl, Nat.le_of_ble_eq_true rfl⟩ (by k_asm) (by k_asm) ?_; intro tn' h' tk' F' N'))
local macro_rules | `(tactic| walk_at "call ref") => `(tactic| (k_here; (with_reducible show wpAny _ _ (call (Value.ref 159) _) _ _ _); refine setd_use (by assumption) (by assumption) (by k_asm) (by k_asm) (by assumption) (by assumption) (by assumption) (by assumption) (by assumption) (by assumption) (by assumption) (by assumption) (by assumption) (by assumption) ⟨rfl, Nat.le_of_ble_eq_true rfl, Nat.le_of_ble_eq_true rfl⟩ ?_; intro v' h' tk' n' r' hrk' hrv' F' N'))
theorem table_c (G : G3 w mean mg mb h₀) {s : Shared} (hs : h₀.StaysIn s.heap) {lb : Addr} {brs : List BRow} (B : BxAt s.heap lb brs) (O : BxOK (brs.map BRow.box)) :
    wpAny (model prog3 w) (Aq 8) (call (.ref 245) [.ref lb]) (PostT (w := w) (brs.map BRow.box) s) noE s := by
  refine wpAny_call ?_
  refine enter0 (hid := []) (binds := [(Str.ofString "boxes", .ref lb)]) G hs (fun _ h => nomatch h) (by k_is) (by k_is) (by rfl) (by exact Nat.le_of_ble_eq_true rfl) (BindsTo.of_eq rfl) (locs rfl) ?_ rfl rfl rfl (by decide)
  intro g L h₁ hg st F N X TT _
  subst hg
  replace B : BxAt (hideAll s.heap (List.map (fun (x : Addr × Obj) => x.fst) [])) lb brs := B
  have hBl := B.item
  have hbl : brs.length ≤ 12 := by have := O.len; rwa [List.length_map] at this
  have hsz : (List.toArray (brs.map (fun r => Value.ref r.a))).size = brs.length := by simp
  have hb1000 : brs.length ≤ 1000 := by omega
  have hbv : (brs.map (fun r => Value.ref r.a)).length ≤ 64 := by rw [List.length_map]; omega
  k_steps
  rename Fr _ _ _ _ => F2
  rename News _ _ _ _ => N2
  refine new_use (kvs := []) (its := []) G st F2 X N2 (fun h' _ N' => ⟨⟨_, (N' _ (.head _)).1⟩, rfl, fun i a kv h => nomatch h⟩) (fun _ h => nomatch h) ⟨rfl, Nat.le_of_ble_eq_true rfl, Nat.le_of_ble_eq_true rfl⟩ ?_
  clear F2 N2
  rename Addr => l
  intro t d h2 tk2 tk0 F N hlt1 hlt2
  k_steps
  rename IsRange _ _ _ _ _ _ _ _ => hrg
  rename Fr _ _ _ _ => F2
  rename News _ _ _ _ => N2
  unfold Lp
  have hsm : ∀ k < 13, Builtin.Range.small 0 ((k : Nat) : Int) 1 = true ∧ Builtin.Range.rangeSize 0 ((k : Nat) : Int) 1 = (k : Int) := by decide +kernel
  have hll : l < d := hlt1 _ (.head _)
  refine loop_range (n := brs.length) (fun k m news => ∃ rows n, news = [(t, instObj 169 d), (d, hdrDict w l tk0)] ++ led l n rows ∧ Wf1 ((brs.map BRow.box).take k) (kvsOf rows) (tokOf (brs.map BRow.box)) ∧ m (Str.ofString "boxes") = some (.ref lb) ∧ m (Str.ofString "table") = some (.ref t)) rfl hrg (hsm _ (by omega)).1 (hsm _ (by omega)).2 F2 N2 ⟨[], 0, rfl, ⟨fun b hb => (nomatch hb), fun s _ t _ _ => rfl, rfl, fun kv h => (nomatch h)⟩, rfl, rfl⟩ ?_ ?_
  · clear F2 N2 hrg
    rintro I k u m₁ news₁ h tk own hk ⟨rows, n, rfl, W, hm1, hm2⟩ hI hlt hown ⟨oI, hoI, hit⟩ F N
    replace F : Fr (hideAll s.heap (List.map (fun (x : Addr × Obj) => x.fst) [])) L h _ := F
    replace N : News (hideAll s.heap (List.map (fun (x : Addr × Obj) => x.fst) [])) L h _ := N
    obtain ⟨r, hr⟩ : ∃ r, brs[k]? = some r := ⟨_, List.getElem?_eq_getElem hk⟩
    have hrm : r ∈ brs := List.mem_of_getElem? hr
    have hrv : (brs.map (fun r => Value.ref r.a))[k]? = some (.ref r.a) := by rw [List.getElem?_map, hr]; rfl
    have hT := B.isTup hrm
    obtain ⟨hr1, hr2, hr3⟩ := O.s r.box (List.mem_map.mpr ⟨r, hrm, rfl⟩)
    have hrc : r.c < 3 := O.c r.box (List.mem_map.mpr ⟨r, hrm, rfl⟩)
    replace hr1 : r.s < 4 := hr1
    replace hr2 : r.t < 4 := hr2
    replace hr3 : r.s ≠ r.t := hr3
    k_steps
    rename IsRange _ _ _ _ _ _ _ _ => hrg
    rename Fr _ _ _ _ => F2
    rename News _ _ _ _ => N2
    unfold Lp
    refine loop_range (n := r.c) (fun i m news => news = own ++ ([(t, instObj 169 d), (d, hdrDict w l tk0)] ++ led l n rows) ∧ m (Str.ofString "boxes") = some (.ref lb) ∧ m (Str.ofString "table") = some (.ref t) ∧ m (Str.ofString "turn") = some (.int (k : Int) u) ∧ ∃ tv, m (Str.ofString "value") = some (.str (vstr i) tv)) rfl hrg (hsm _ (by omega)).1 (hsm _ (by omega)).2 F2 N2 ⟨rfl, hm1, hm2, rfl, _, rfl⟩ ?_ ?_
    · clear F2 N2 hrg hm1 hm2
      rintro I2 i u2 m₂ news₂ h2 tk2 own2 hic ⟨rfl, hm1, hm2, hm3, tv, hm4⟩ hI2 hlt2' hown2 hit2 F N
      replace F : Fr (hideAll s.heap (List.map (fun (x : Addr × Obj) => x.fst) [])) L h2 _ := F
      replace N : News (hideAll s.heap (List.map (fun (x : Addr × Obj) => x.fst) [])) L h2 _ := N
      have hi5 : i < 5 := by omega
      k_steps
      rename Fr _ _ _ _ => F3
      rename News _ _ _ _ => N3
      exact TurnEnd.next F3 N3 hI2 ⟨rfl, hm1, hm2, hm3, _, rfl⟩
    · clear F2 N2 hrg hm1 hm2
      rintro m₂ news₂ h2 tk2 ⟨rfl, hm1, hm2, hm3, tv, hm4⟩ F N
      replace F : Fr (hideAll s.heap (List.map (fun (x : Addr × Obj) => x.fst) [])) L h2 _ := F
      replace N : News (hideAll s.heap (List.map (fun (x : Addr × Obj) => x.fst) [])) L h2 _ := N
      have hlI : l ≠ I := hI (l, lst rows n) (List.mem_append_right _ (.head _))
      obtain ⟨other, hoe, hoi, hod, ho⟩ : ∃ other, other = own ++ [(t, instObj 169 d), (d, hdrDict w l tk0)] ∧ (t, instObj 169 d) ∈ other ∧ (d, hdrDict w l tk0) ∈ other ∧ ∀ p ∈ other, p.1 ≠ l := by
        refine ⟨_, rfl, by simp, by simp, fun p hp => ?_⟩
        rcases List.mem_append.mp hp with hp | hp
        · rw [hown p hp]; exact Ne.symm hlI
        · rcases List.mem_cons.mp hp with rfl | hp
          · exact Nat.ne_of_gt (Nat.lt_trans hll hlt2)
          · rw [List.mem_singleton.mp hp]; exact Nat.ne_of_gt hll
      rw [← List.append_assoc, ← hoe] at N
      obtain ⟨f1, f2, f3, f4⟩ := nm_fact r.s hr1 r.t hr2 (decide ((k : Int) % 2 = 1))
      have hnm := nm_mem r.s hr1 r.t hr2 (decide ((k : Int) % 2 = 1)) (.inl hr3)
      have hnl : Txt.lower (nm r.s r.t (decide ((k : Int) % 2 = 1))) ∈ names10 := by rw [f1]; exact f3
      have hv6 : vstr r.c ∈ vs6 := by
        have : ∀ c < 3, vstr c ∈ vs6 := by decide +kernel
        exact this r.c hrc
      have hbt : ((brs.map BRow.box).take k).length ≤ 12 := by rw [List.length_take, List.length_map]; omega
      have hK : ∀ kv ∈ kvsOf rows, kv.1.length ≤ 20 := W.klen
      have hrl : rows.length ≤ 20 := by
        have := W.len
        simp only [kvsOf, List.length_map] at this
        omega
      have htk : ∀ b ∈ (brs.map BRow.box).take k, b.1 < 4 ∧ b.2.1 < 4 := fun b hb => let q := O.s b (List.mem_of_mem_take hb); ⟨q.1, q.2.1⟩
      have hbox : (brs.map BRow.box)[k]? = some r.box := by rw [List.getElem?_map, hr]; rfl
      have hne : ∀ b' ∈ (brs.map BRow.box).take k, ¬ (b'.1 = r.box.1 ∧ b'.2.1 = r.box.2.1) := fun b' hb' e => by
        have hnd := O.nd
        rw [← List.take_append_drop k (brs.map BRow.box), List.map_append, List.nodup_append] at hnd
        refine hnd.2.2 (b'.1, b'.2.1) (List.mem_map.mpr ⟨b', hb', rfl⟩) (r.box.1, r.box.2.1) (List.mem_map.mpr ⟨r.box, ?_, rfl⟩) (by rw [e.1, e.2])
        exact List.mem_of_getElem? (i := 0) (by rw [List.getElem?_drop]; exact hbox)
      have hno : (kvsOf rows).find? (fun kv => decide (Txt.lower kv.1 = Txt.lower (nm r.s r.t (decide ((k : Int) % 2 = 1))))) = none := by
        rw [f1, find_filter, W.miss r.s hr1 r.t hr2 hne]; rfl
      k_steps
      rename Row => r'
      rename Fr _ _ _ _ => F3
      rename News _ _ _ _ => N3
      rw [hoe, List.append_assoc] at N3
      have W' : Wf1 ((brs.map BRow.box).take (k + 1)) (kvsOf (rows ++ [r'])) (tokOf (brs.map BRow.box)) := by
        rw [List.take_add_one, hbox]
        have := wf1_snoc W (b := r.box) hr1 hr2 htk hne f1 f2
        rw [tok_at O.nd (List.mem_of_getElem? hbox)] at this
        rw [show kvsOf (rows ++ [r']) = kvsOf rows ++ [(nm r.s r.t (decide ((k : Int) % 2 = 1)), vstr r.box.2.2)] by
          unfold kvsOf
          rw [List.map_append]
          show _ ++ [(r'.k, r'.v)] = _
          rename r'.k = _ => e1
          rename r'.v = _ => e2
          rw [e1, e2]; rfl]
        exact this
      refine TurnEnd.next F3 N3 (fun p hp => ?_) ⟨_, _, rfl, W', hm1, hm2⟩
      rcases List.mem_append.mp hp with hp' | hp'
      · exact hI p (List.mem_append_left _ hp')
      · refine iter_ne (o := p.2) N3 (List.mem_append_left _ hoI) hit (List.mem_append_right _ hp) ?_
        rcases List.mem_cons.mp hp' with rfl | hp'
        · exact .inr rfl
        · obtain ⟨r, _, rfl⟩ := List.mem_map.mp hp'; exact .inl rfl
  · clear F2 N2 hrg
    rintro m₁ news₁ h tk ⟨rows, n, rfl, W, hm1, hm2⟩ F N
    rw [show brs.length = (brs.map BRow.box).length by rw [List.length_map], List.take_length] at W
    k_steps
    exact ⟨t, d, l, rows, n, tk0, h, _, rfl, rfl, F.keep, fun p hp => ⟨(N p hp).1, (N p hp).2.2⟩, W⟩
end
end Mine
namespace Mine
section
variable {w : World} {mean : ExcName → Option Value} {mg mb : Str → Option Value} {h₀ : Heap}
local macro_rules | `(tactic| walk_at "exec For") => `(tactic| (k_here; (rename Fr _ _ _ _ => lF'); (with_unfolding_all refine For_V lF' (by rfl) (by rfl) ?_)))
theorem rows_at2 {b : Heap} {L : Addr} {h : Heap} {m : Str → Option Value} {l : Addr} {rows₀ rows : List Row} {n : Nat} {other tups : List (Addr × Obj)} (F : Fr b L h m) (N : News b L h (other ++ (l, lst rows n) :: tups)) (hr : ∀ r ∈ rows₀, b.get? r.a = some r.obj) (hT : InT rows₀ tups rows) : ∀ r ∈ rows, h.get? r.a = some r.obj := fun r h =>
  (hT r h).elim (fun q => F.keep _ _ (hr r q)) fun q => (N _ (List.mem_append_right _ (.tail _ q))).1
theorem get_led {A : Around} {s : Shared} {b : Heap} {L t d l : Addr} {m : Str → Option Value} {other tups : List (Addr × Obj)} {rows₀ rows : List Row} {n : Nat} {Q E : Value → Shared → Prop} {bs : List (Nat × Nat × Nat)} {c : Nat → Nat → Nat} {i k : Nat} {o : Bool} {tk : Tok} (G : G3 w mean mg mb h₀) (st : h₀.StaysIn b) (F : Fr b L s.heap m) (N : News b L s.heap (other ++ (l, lst rows n) :: tups)) (T : TabAt w b t d l)
    (hr : ∀ r ∈ rows₀, b.get? r.a = some r.obj) (hT : InT rows₀ tups rows) (W : Wf1 bs (kvsOf rows) c) (hi : i < 4) (hk : k < 4) (hb : ∃ x, (i, k, x) ∈ bs) (hA : Fits A 3)
    (h : ∀ tt h' tk', Fr b L h' m → News b L h' (other ++ (l, lst rows n) :: tups) → Q (.str (vstr (c i k)) tt) { s with heap := h', toks := tk' }) : wpAny (model prog3 w) A (call (.ref 116) [.ref t, .str (nm i k o) tk]) Q E s := by
  obtain ⟨f1, f2, f3, _⟩ := nm_fact i hi k hk o
  obtain ⟨x, hx⟩ := hb
  obtain ⟨kk, hk1⟩ := W.hit _ hx
  refine use_str (x := vstr (c i k)) (wpAny_mono (get_c G (stays_fr st F) (T.at F.keep) (rows_of (N _ (List.mem_append_right _ (.head _))).1 (rows_at2 F N hr hT)) tk (f1 ▸ f3) f2 W.klen) (fun v s' p => ⟨?_, p.keeps⟩) fun _ _ e => e) hA F N h
  have q := p.val
  rw [f1, find_filter, hk1] at q
  exact q
theorem seti_led {A : Around} {s : Shared} {b : Heap} {L t d l : Addr} {m : Str → Option Value} {other tups : List (Addr × Obj)} {rows₀ rows : List Row} {n x : Nat} {Q E : Value → Shared → Prop} {bs : List (Nat × Nat × Nat)} {c : Nat → Nat → Nat} {i k : Nat} {o : Bool} {t1 t2 : Tok} (G : G3 w mean mg mb h₀) (st : h₀.StaysIn b) (F : Fr b L s.heap m) (N : News b L s.heap (other ++ (l, lst rows n) :: tups)) (T : TabAt w b t d l)
    (hr : ∀ r ∈ rows₀, b.get? r.a = some r.obj) (hT : InT rows₀ tups rows) (ho : ∀ p ∈ other, p.1 ≠ l) (htl : ∀ p ∈ tups, p.1 ≠ l) (W : Wf1 bs (kvsOf rows) c) (O : BxOK bs) (hb : ∃ x, (i, k, x) ∈ bs) (hx : x < 6) (hA : Fits A 5)
    (h : ∀ v' h' tk' n' rows' tups', Wf1 bs (kvsOf rows') (upd c i k x) → rows'.length = rows.length → InT rows₀ tups' rows' → (∀ p ∈ tups', p.1 ≠ l ∧ (p ∈ tups ∨ p.2.cls = .type "tuple")) → Fr b L h' m → News b L h' (other ++ (l, lst rows' n') :: tups') → Q v' { s with heap := h', toks := tk' }) :
    wpAny (model prog3 w) A (call (.ref 84) [.ref t, .str (nm i k o) t1, .str (vstr x) t2]) Q E s := by
  obtain ⟨y, hy⟩ := hb
  obtain ⟨hi, hk, hne⟩ := O.s _ hy
  obtain ⟨f1, f2, f3, _⟩ := nm_fact i hi k hk o
  have hl₀ : h₀.get? l = none := by
    cases e : h₀.get? l with
    | none => rfl
    | some o => have y := (N (l, lst rows n) (List.mem_append_right _ (.head _))).2.2; rw [st _ _ e] at y; cases y
  have hv : vstr x ∈ vs6 := by
    have : ∀ x < 6, vstr x ∈ vs6 := by decide +kernel
    exact this x hx
  have hrl : rows.length ≤ 12 := by
    have := W.len
    have := O.len
    simp only [kvsOf, List.length_map] at *
    omega
  refine use_mut2 (seti_c G (stays_fr st F) (T.at F.keep) (N _ (List.mem_append_right _ (.head _))).1 hl₀ (rows_at2 F N hr hT) (nm_mem i hi k hk o (.inl hne)) (f1 ▸ f3) hv f2 (fun r h => W.klen (r.k, r.v) (List.mem_map.mpr ⟨r, h, rfl⟩)) (by omega) t1 t2) hA F N ho hT htl ?_
  rintro v' h' tk' n' rows' tups' ⟨r, hrk, hrv, e⟩ hT' htl' F' N'
  obtain ⟨w1, w2⟩ := wf1_set W (fun b hb => ⟨(O.s b hb).1, (O.s b hb).2.1⟩) hy f1 f2 hrk hrv e
  exact h v' h' tk' n' rows' tups' w1 w2 hT' htl' F' N'
noncomputable def fire (c : Nat → Nat → Nat) (g : Nat) : Nat → Nat → Nat := fun s t => if s = g then c s t + 1 else if t = g then c s t - 1 else c s t
noncomputable def fireI (c : Nat → Nat → Nat) (g : Nat) (done : List (Nat × Nat × Nat)) : Nat → Nat → Nat := fun s t => if (done.any fun b => b.1 == s && b.2.1 == t) then fire c g s t else c s t
theorem fireI_snoc (c : Nat → Nat → Nat) (g : Nat) (done : List (Nat × Nat × Nat)) (b : Nat × Nat × Nat) : fireI c g (done ++ [b]) = upd (fireI c g done) b.1 b.2.1 (fire c g b.1 b.2.1) := by
  funext s t
  unfold fireI upd
  rw [List.any_append]
  by_cases h : s = b.1 ∧ t = b.2.1
  · rw [if_pos h, h.1, h.2]; simp
  · rw [if_neg h]
    have : (b.1 == s && b.2.1 == t) = false := by
      rw [Bool.and_eq_false_iff]
      by_cases q : b.1 = s
      · right; simp; intro e; exact h ⟨q.symm, e.symm⟩
      · left; simp [q]
    rw [show ([b].any fun b => b.1 == s && b.2.1 == t) = false by rw [List.any_cons, this]; rfl, Bool.or_false]
theorem fireI_not {c : Nat → Nat → Nat} {g : Nat} {done : List (Nat × Nat × Nat)} {b : Nat × Nat × Nat} (h : ∀ b' ∈ done, ¬ (b'.1 = b.1 ∧ b'.2.1 = b.2.1)) : fireI c g done b.1 b.2.1 = c b.1 b.2.1 := by
  unfold fireI
  rw [if_neg]
  intro q
  obtain ⟨b', hb', e⟩ := List.any_eq_true.mp q
  simp at e
  exact h b' hb' e
theorem wf1_congr {bs : List (Nat × Nat × Nat)} {kvs : List (Str × Str)} {c c' : Nat → Nat → Nat} (W : Wf1 bs kvs c) (h : ∀ b ∈ bs, c b.1 b.2.1 = c' b.1 b.2.1) : Wf1 bs kvs c' := ⟨fun b hb => by rw [← h b hb]; exact W.hit b hb, W.miss, W.len, W.klen⟩
theorem dec_eq : ∀ n < 6, (decV n == Str.ofString "") = decide (n = 0) := by decide +kernel
local macro_rules | `(tactic| walk_at "eval Name") => `(tactic| (k_here; refine ld (by k_asm) (by assumption) ?_))
local macro_rules | `(tactic| k_inst) => `(tactic| exact inst_tab (by assumption) (by assumption) (by k_asm))
local macro_rules | `(tactic| walk_at "call ref") => `(tactic| (k_here; (with_reducible show wpAny _ _ (call (Value.ref 238) _) _ _ _); (show wpAny _ _ (call (Value.ref 238) [Value.ref _, Value.int _ _]) _ _ _); refine use_str (name_c (by assumption) (stays_fr (by assumption) (by k_asm)) (IsTup.keeps (by assumption) fun b o e => Fr.keep (by k_asm) b o e) (by assumption) (by assumption) _ _) ⟨rfl, Nat.le_of_ble_eq_true rfl, Nat.le_of_ble_eq_true rfl⟩ (by k_asm) (by k_asm) ?_; intro tn' h' tk' F' N'))
local macro_rules | `(tactic| walk_at "call ref") => `(tactic| (k_here; (with_reducible show wpAny _ _ (call (Value.ref 216) _) _ _ _); (show wpAny _ _ (call (Value.ref 216) [Value.str (vstr _) _]) _ _ _); refine use_str (enc_v (by assumption) (stays_fr (by assumption) (by k_asm)) _ (by assumption) _) ⟨rfl, Nat.le_of_ble_eq_true rfl, Nat.le_of_ble_eq_true rfl⟩ (by k_asm) (by k_asm) ?_; intro tn' h' tk' F' N'))
local macro_rules | `(tactic| walk_at "call ref") => `(tactic| (k_here; (with_reducible show wpAny _ _ (call (Value.ref 224) _) _ _ _); (show wpAny _ _ (call (Value.ref 224) [Value.str (vstr _) _]) _ _ _); refine use_str (dec_v (by assumption) (stays_fr (by assumption) (by k_asm)) _ (by assumption) _) ⟨rfl, Nat.le_of_ble_eq_true rfl, Nat.le_of_ble_eq_true rfl⟩ (by k_asm) (by k_asm) ?_; intro tn' h' tk' F' N'))
local macro_rules | `(tactic| walk_at "call ref") => `(tactic| (k_here; (with_reducible show wpAny _ _ (call (Value.ref 116) _) _ _ _); (show wpAny _ _ (call (Value.ref 116) [Value.ref _, Value.str _ _]) _ _ _); refine get_led (by assumption) (by assumption) (by k_asm) (by k_asm) (by assumption) (by assumption) (by assumption) (by assumption) (by assumption) (by assumption) (by assumption) ⟨rfl, Nat.le_of_ble_eq_true rfl, Nat.le_of_ble_eq_true rfl⟩ ?_; intro tn' h' tk' F' N'))
theorem get_led' {A : Around} {s : Shared} {b : Heap} {L t d l : Addr} {m : Str → Option Value} {other tups : List (Addr × Obj)} {rows₀ rows : List Row} {n y : Nat} {Q E : Value → Shared → Prop} {bs : List (Nat × Nat × Nat)} {c : Nat → Nat → Nat} {i k : Nat} {o : Bool} {tk : Tok} (G : G3 w mean mg mb h₀) (st : h₀.StaysIn b) (F : Fr b L s.heap m) (N : News b L s.heap (other ++ (l, lst rows n) :: tups)) (T : TabAt w b t d l)
    (hr : ∀ r ∈ rows₀, b.get? r.a = some r.obj) (hT : InT rows₀ tups rows) (W : Wf1 bs (kvsOf rows) c) (hi : i < 4) (hk : k < 4) (hb : ∃ x, (i, k, x) ∈ bs) (hy : c i k = y) (hA : Fits A 3)
    (h : ∀ tt h' tk', Fr b L h' m → News b L h' (other ++ (l, lst rows n) :: tups) → Q (.str (vstr y) tt) { s with heap := h', toks := tk' }) : wpAny (model prog3 w) A (call (.ref 116) [.ref t, .str (nm i k o) tk]) Q E s := by
  subst hy; exact get_led G st F N T hr hT W hi hk hb hA h
local macro_rules | `(tactic| walk_at "call ref") => `(tactic| (k_here; (with_reducible show wpAny _ _ (call (Value.ref 116) _) _ _ _); (show wpAny _ _ (call (Value.ref 116) [Value.ref _, Value.str _ _]) _ _ _); refine get_led' (by assumption) (by assumption) (by k_asm) (by k_asm) (by assumption) (by assumption) (by assumption) (by assumption) (by assumption) (by assumption) (by assumption) (by assumption) ⟨rfl, Nat.le_of_ble_eq_true rfl, Nat.le_of_ble_eq_true rfl⟩ ?_; intro tn' h' tk' F' N'))
local macro_rules | `(tactic| walk_at "call ref") => `(tactic| (k_here; (with_reducible show wpAny _ _ (call (Value.ref 84) _) _ _ _); (show wpAny _ _ (call (Value.ref 84) [Value.ref _, Value.str _ _, Value.str (vstr _) _]) _ _ _); refine seti_led (by assumption) (by assumption) (by k_asm) (by k_asm) (by assumption) (by assumption) (by assumption) (by assumption) (by assumption) (by assumption) (by assumption) (by assumption) (by assumption) ⟨rfl, Nat.le_of_ble_eq_true rfl, Nat.le_of_ble_eq_true rfl⟩ ?_; intro v' h' tk' n' rows' tups' W' hc' hT' htl' F' N'))
theorem try_c (G : G3 w mean mg mb h₀) {s : Shared} (hs : h₀.StaysIn s.heap) {t d l lb : Addr} {rows : List Row} {n : Nat} (T : TabAt w s.heap t d l) (hl : s.heap.get? l = some (lst rows n)) (hl₀ : h₀.get? l = none) (hr : ∀ r ∈ rows, s.heap.get? r.a = some r.obj)
    {brs : List BRow} (B : BxAt s.heap lb brs) (hlb : lb ≠ l) (O : BxOK (brs.map BRow.box)) {c : Nat → Nat → Nat} (W : Wf1 (brs.map BRow.box) (kvsOf rows) c) {gt : Nat} (hg : gt < 4) (hcap : ∀ b ∈ brs.map BRow.box, c b.1 b.2.1 < 6 ∧ (b.1 = gt → c b.1 b.2.1 < 5)) (turn : Int) (t1 t2 : Tok) :
    wpAny (model prog3 w) (Aq 8) (call (.ref 252) [.ref t, .ref lb, .str (letter gt) t1, .int turn t2]) (PostM (fun v rows' => ((∃ b ∈ brs.map BRow.box, b.2.1 = gt ∧ c b.1 b.2.1 = 0) ∧ (∃ tv, v = .int 0 tv) ∧ rows' = rows) ∨ ((∀ b ∈ brs.map BRow.box, b.2.1 = gt → c b.1 b.2.1 ≠ 0) ∧ (∃ tv, v = .int 1 tv) ∧ Wf1 (brs.map BRow.box) (kvsOf rows') (fire c gt) ∧ rows'.length = rows.length)) l rows s) noE s := by
  refine wpAny_call ?_
  refine enter0 (hid := [(l, lst rows n)]) (binds := [(Str.ofString "table", .ref t), (Str.ofString "boxes", .ref lb), (Str.ofString "gate", .str (letter gt) t1), (Str.ofString "turn", .int turn t2)]) G hs (fun p h => by cases List.mem_singleton.mp h; exact ⟨hl, hl₀⟩) (by k_is) (by k_is) (by rfl) (by exact Nat.le_of_ble_eq_true rfl) (BindsTo.of_eq rfl) (locs rfl) ?_ rfl rfl rfl (by decide)
  intro g L h₁ hgg st F N X TT hlt
  obtain ⟨hne, T', hr'⟩ := hide1 hgg T hl hr
  obtain ⟨tk0, hd⟩ := T'.dict
  have hi0 := T'.inst
  have B' : BxAt g lb brs := ⟨let ⟨n, e⟩ := B.list; ⟨n, hne _ _ hlb e⟩, fun r hr => hne _ _ (fun e => by have q := B.tup r hr; rw [e, hl] at q; exact cls_ne q fun h => absurd (Value.type.inj h) (by decide)) (B.tup r hr)⟩
  have hBl := B'.item
  have hbl : brs.length ≤ 12 := by have := O.len; rwa [List.length_map] at this
  have hlg := letter_len gt hg
  have hBsz : (List.toArray (brs.map (fun r => Value.ref r.a))).size = brs.length := by simp
  have hlbL : lb ≠ L := fun e => by
    obtain ⟨n, q⟩ := B'.list
    exact Nat.lt_irrefl _ (Nat.lt_of_lt_of_le (e ▸ Heap.lt_size q) F.above)
  have hlbI : ∀ {h : Heap} {m : Str → Option Value} {I : Addr} {oI : Obj} {all : List (Addr × Obj)}, News g L h all → (I, oI) ∈ all → lb ≠ I := fun N hm e => by
    obtain ⟨n, q⟩ := B'.list
    have := (N _ hm).2.2
    rw [← e, q] at this; cases this
  k_steps
  rename Fr _ _ _ _ => F2
  rename News _ _ _ _ => N2
  unfold Lp
  refine loop_list (ax := lb) (items := List.toArray (brs.map (fun r => Value.ref r.a))) (fun i m news => news = [(l, lst rows n)] ∧ (∀ b ∈ (brs.map BRow.box).take i, b.2.1 = gt → c b.1 b.2.1 ≠ 0) ∧ m (Str.ofString "table") = some (.ref t) ∧ m (Str.ofString "boxes") = some (.ref lb) ∧ m (Str.ofString "gate") = some (.str (letter gt) t1) ∧ m (Str.ofString "turn") = some (.int turn t2)) rfl (hBl.at fun o e => F2.keep _ o e) hlbL F2 N2 ⟨rfl, fun b hb => (nomatch hb), rfl, rfl, rfl, rfl⟩ ?_ ?_
  · clear F2 N2
    rintro I i v m₁ news₁ h tk own hiv ⟨rfl, hno, hm1, hm2, hm3, hm4⟩ hI hlt' hown hit F N
    replace F : Fr g L h _ := F
    replace N : News g L h _ := N
    obtain ⟨r, hri, rfl⟩ : ∃ r, brs[i]? = some r ∧ v = .ref r.a := by
      have q : (brs.map (fun r => Value.ref r.a))[i]? = some v := by simpa using hiv
      rw [List.getElem?_map] at q
      obtain ⟨r, hr, e⟩ := Option.map_eq_some_iff.mp q
      exact ⟨r, hr, e.symm⟩
    have hrm : r ∈ brs := List.mem_of_getElem? hri
    have hbm : r.box ∈ brs.map BRow.box := List.mem_map.mpr ⟨r, hrm, rfl⟩
    have hbi : (brs.map BRow.box)[i]? = some r.box := by rw [List.getElem?_map, hri]; rfl
    have hTt := B'.isTup hrm
    obtain ⟨hr1, hr2, hr3⟩ := O.s r.box hbm
    replace hr1 : r.s < 4 := hr1
    replace hr2 : r.t < 4 := hr2
    have hex : ∃ x, (r.s, r.t, x) ∈ brs.map BRow.box := ⟨r.c, hbm⟩
    have hc6 : c r.s r.t < 6 := (hcap r.box hbm).1
    have hdec := dec_eq (c r.s r.t) hc6
    have hT0 : InT rows [] rows := fun r h => .inl h
    have hlt1 := letter_len r.t hr2
    have hxx := letter_ne r.t hr2 gt hg
    have htake : ∀ (b : Nat × Nat × Nat), b ∈ (brs.map BRow.box).take (i + 1) → b ∈ (brs.map BRow.box).take i ∨ b = r.box := fun b hb => by
      rw [List.take_add_one, hbi] at hb
      exact (List.mem_append.mp hb).imp id fun q => List.mem_singleton.mp q
    by_cases htg : r.t = gt
    · have hx1 : (letter r.t == letter gt) = true := by rw [hxx, decide_eq_true htg]
      by_cases hc0 : c r.s r.t = 0
      · have hx2 : (decV 0 == Str.ofString "") = true := by decide +kernel
        have h06 : 0 < 6 := by decide
        k_steps
        rename Fr _ _ _ _ => F3
        rename News _ _ _ _ => N3
        exact postM_end (rows' := rows) (n' := n) hne hr' F3 N3 (by simp) (fun r h => .inl h) (.inl ⟨⟨r.box, hbm, htg, hc0⟩, ⟨_, rfl⟩, rfl⟩)
      · have hx2 : (decV (c r.s r.t) == Str.ofString "") = false := by rw [hdec, decide_eq_false hc0]
        k_steps
        rename Fr _ _ _ _ => F3
        rename News _ _ _ _ => N3
        refine TurnEnd.next F3 N3 hI ⟨rfl, fun b hb e => ?_, hm1, hm2, hm3, hm4⟩
        rcases htake b hb with q | q
        · exact hno b q e
        · rw [q]; exact hc0
    · have hx1 : (letter r.t == letter gt) = false := by rw [hxx, decide_eq_false htg]
      k_steps
      refine TurnEnd.next F N hI ⟨rfl, fun b hb e => ?_, hm1, hm2, hm3, hm4⟩
      rcases htake b hb with q | q
      · exact hno b q e
      · rw [q] at e; exact absurd e htg
  · clear F2 N2
    rintro m₁ news₁ h tk ⟨rfl, hno, hm1, hm2, hm3, hm4⟩ F N
    replace F : Fr g L h _ := F
    replace N : News g L h _ := N
    have hBm : brs.length = (brs.map BRow.box).length := by rw [List.length_map]
    rw [hBsz, hBm, List.take_length] at hno
    k_steps
    rename Fr _ _ _ _ => F2
    rename News _ _ _ _ => N2
    unfold Lp
    refine loop_list (ax := lb) (items := List.toArray (brs.map (fun r => Value.ref r.a))) (fun i m news => ∃ rows' n' tups, news = (l, lst rows' n') :: tups ∧ InT rows tups rows' ∧ (∀ p ∈ tups, p.1 ≠ l ∧ p.2.cls = .type "tuple") ∧ Wf1 (brs.map BRow.box) (kvsOf rows') (fireI c gt ((brs.map BRow.box).take i)) ∧ rows'.length = rows.length ∧ m (Str.ofString "table") = some (.ref t) ∧ m (Str.ofString "gate") = some (.str (letter gt) t1) ∧ m (Str.ofString "turn") = some (.int turn t2)) rfl (hBl.at fun o e => F2.keep _ o e) hlbL F2 N2 ⟨rows, n, [], rfl, fun r h => .inl h, fun p h => (nomatch h), wf1_congr W fun b hb => (by rw [List.take_zero]; exact (fireI_not fun b' h => absurd h List.not_mem_nil).symm), rfl, hm1, hm3, hm4⟩ ?_ ?_
    · clear F2 N2 hm1 hm2 hm3 hm4
      rintro I i v m₂ news₂ h2 tk2 own hiv ⟨rows', n', tups, rfl, hT, htl, W', hrl, hm1, hm3, hm4⟩ hI hlt' hown ⟨oI, hoI, hit⟩ F N
      replace F : Fr g L h2 _ := F
      replace N : News g L h2 _ := N
      obtain ⟨r, hri, rfl⟩ : ∃ r, brs[i]? = some r ∧ v = .ref r.a := by
        have q : (brs.map (fun r => Value.ref r.a))[i]? = some v := by simpa using hiv
        rw [List.getElem?_map] at q
        obtain ⟨r, hr, e⟩ := Option.map_eq_some_iff.mp q
        exact ⟨r, hr, e.symm⟩
      have hrm : r ∈ brs := List.mem_of_getElem? hri
      have hbm : r.box ∈ brs.map BRow.box := List.mem_map.mpr ⟨r, hrm, rfl⟩
      have hbi : (brs.map BRow.box)[i]? = some r.box := by rw [List.getElem?_map, hri]; rfl
      have hTt := B'.isTup hrm
      obtain ⟨hr1, hr2, hr3⟩ := O.s r.box hbm
      replace hr1 : r.s < 4 := hr1
      replace hr2 : r.t < 4 := hr2
      replace hr3 : r.s ≠ r.t := hr3
      have hex : ∃ x, (r.s, r.t, x) ∈ brs.map BRow.box := ⟨r.c, hbm⟩
      obtain ⟨hc6, hc5⟩ := hcap r.box hbm
      have hnd : ∀ b' ∈ (brs.map BRow.box).take i, ¬ (b'.1 = r.box.1 ∧ b'.2.1 = r.box.2.1) := fun b' hb' e => by
        have hnd := O.nd
        rw [← List.take_append_drop i (brs.map BRow.box), List.map_append, List.nodup_append] at hnd
        refine hnd.2.2 (b'.1, b'.2.1) (List.mem_map.mpr ⟨b', hb', rfl⟩) (r.box.1, r.box.2.1) (List.mem_map.mpr ⟨r.box, ?_, rfl⟩) (by rw [e.1, e.2])
        exact List.mem_of_getElem? (i := 0) (by rw [List.getElem?_drop]; exact hbi)
      have hcur : fireI c gt ((brs.map BRow.box).take i) r.s r.t = c r.s r.t := fireI_not hnd
      have hsn : fireI c gt ((brs.map BRow.box).take (i + 1)) = upd (fireI c gt ((brs.map BRow.box).take i)) r.s r.t (fire c gt r.s r.t) := by
        rw [List.take_add_one, hbi]; exact fireI_snoc _ _ _ _
      have hlI : l ≠ I := hI (l, lst rows' n') (.head _)
      have htl' : ∀ p ∈ tups, p.1 ≠ l := fun p hp => (htl p hp).1
      have hoo : ∀ p ∈ own, p.1 ≠ l := fun p hp => by
        rcases hown p hp with e | e
        · rw [e]; exact Ne.symm hlI
        · rw [e]; exact hlb
      have hlt1 := letter_len r.t hr2
      have hls1 := letter_len r.s hr1
      have hxt := letter_ne r.t hr2 gt hg
      have hxs := letter_ne r.s hr1 gt hg
      generalize fireI c gt ((brs.map BRow.box).take i) = cur at W' hcur hsn
      have fin : ∀ Q' s' h' tk' m' n'' rows'' tups'' x, x = fire c gt r.s r.t → Wf1 (brs.map BRow.box) (kvsOf rows'') (upd cur r.s r.t x) → rows''.length = rows'.length → InT rows tups'' rows'' → (∀ p ∈ tups'', p.1 ≠ l ∧ (p ∈ tups ∨ p.2.cls = .type "tuple")) → Fr g L h' m' → News g L h' (own ++ (l, lst rows'' n'') :: tups'') →
          m' (Str.ofString "table") = some (.ref t) → m' (Str.ofString "gate") = some (.str (letter gt) t1) → m' (Str.ofString "turn") = some (.int turn t2) →
          TurnEnd g L I own (fun m news => ∃ rows' n' tups, news = (l, lst rows' n') :: tups ∧ InT rows tups rows' ∧ (∀ p ∈ tups, p.1 ≠ l ∧ p.2.cls = .type "tuple") ∧ Wf1 (brs.map BRow.box) (kvsOf rows') (fireI c gt ((brs.map BRow.box).take (i + 1))) ∧ rows'.length = rows.length ∧ m (Str.ofString "table") = some (.ref t) ∧ m (Str.ofString "gate") = some (.str (letter gt) t1) ∧ m (Str.ofString "turn") = some (.int turn t2)) s' Q' .next { s' with heap := h', toks := tk' } := by
        intro Q' s' h' tk' m' n'' rows'' tups'' x ex w1 w2 w3 w4 F' N' e1 e3 e4
        have w5 : ∀ p ∈ tups'', p.1 ≠ l ∧ p.2.cls = .type "tuple" := fun p hp => ⟨(w4 p hp).1, (w4 p hp).2.elim (fun q => (htl p q).2) id⟩
        refine TurnEnd.next F' N' (fun p hp => ?_) ⟨rows'', n'', tups'', rfl, w3, w5, ?_, w2.trans hrl, e1, e3, e4⟩
        · rcases List.mem_cons.mp hp with rfl | hp'
          · exact hlI
          · exact iter_ne (o := p.2) N' (List.mem_append_left _ hoI) hit (List.mem_append_right _ hp) (.inl (w5 p hp').2)
        · rw [hsn, ← ex]; exact w1
      have hupd : upd cur r.s r.t (cur r.s r.t) = cur := by
        funext s t; unfold upd; split
        · rename_i e; rw [e.1, e.2]
        · rfl
      by_cases hsg : r.s = gt
      · have hx1 : (letter r.s == letter gt) = true := by rw [hxs, decide_eq_true hsg]
        have hx2 : (letter r.t == letter gt) = false := by rw [hxt, decide_eq_false fun e => hr3 (hsg.trans e.symm)]
        have hc5' : c r.s r.t < 5 := hc5 hsg
        have hc6' : c r.s r.t + 1 < 6 := by omega
        have hfi : c r.s r.t + 1 = fire c gt r.s r.t := by unfold fire; rw [if_pos hsg]
        k_steps
        rename Fr _ _ _ _ => F3
        rename News _ _ _ _ => N3
        exact fin _ { s with heap := h2, toks := tk2 } _ _ _ _ _ _ _ hfi (by assumption) (by assumption) (by assumption) (by assumption) F3 N3 hm1 hm3 hm4
      · have hx1 : (letter r.s == letter gt) = false := by rw [hxs, decide_eq_false hsg]
        by_cases htg : r.t = gt
        · have hx2 : (letter r.t == letter gt) = true := by rw [hxt, decide_eq_true htg]
          obtain ⟨y, hy⟩ : ∃ y, c r.s r.t = y + 1 := by
            have : c r.s r.t ≠ 0 := hno r.box hbm htg
            exact ⟨c r.s r.t - 1, by omega⟩
          have hfi : y = fire c gt r.s r.t := by unfold fire; rw [if_neg hsg, if_pos htg]; omega
          replace hc6 : c r.s r.t < 6 := hc6
          rw [hy] at hcur hc6
          have hy6 : y < 6 := by omega
          k_steps
          rename Fr _ _ _ _ => F3
          rename News _ _ _ _ => N3
          exact fin _ { s with heap := h2, toks := tk2 } _ _ _ _ _ _ _ hfi (by assumption) (by assumption) (by assumption) (by assumption) F3 N3 hm1 hm3 hm4
        · have hx2 : (letter r.t == letter gt) = false := by rw [hxt, decide_eq_false htg]
          have hfi : cur r.s r.t = fire c gt r.s r.t := by unfold fire; rw [if_neg hsg, if_neg htg, hcur]
          k_steps
          rename Fr _ _ _ _ => F3
          rename News _ _ _ _ => N3
          exact fin _ { s with heap := h2, toks := tk2 } _ _ _ _ _ _ _ hfi (by rw [hupd]; exact W') rfl hT (fun p hp => ⟨(htl p hp).1, .inl hp⟩) F3 N3 hm1 hm3 hm4
    · clear F2 N2
      rintro m₂ news₂ h2 tk2 ⟨rows', n', tups, rfl, hT, htl, W', hrl, hm1, hm3, hm4⟩ F N
      replace F : Fr g L h2 _ := F
      replace N : News g L h2 _ := N
      rw [hBsz, hBm, List.take_length] at W'
      k_steps
      refine postM_end hne hr' F N (.head _) (fun r h => (hT r h).imp id fun q => .tail _ q) (.inr ⟨hno, ⟨_, rfl⟩, wf1_congr W' fun b hb => ?_, hrl⟩)
      unfold fireI
      rw [if_pos (List.any_eq_true.mpr ⟨b, hb, by simp⟩)]
end
end Mine
namespace Mine
/-! comprehensions by an invariant: lists and dicts, one clause or two, without tests -/
noncomputable def IterZ (o : Obj) : Prop := o.cls ≠ .type "tuple" ∧ o.cls ≠ .type "list" ∧ o.cls ≠ .type "dict"
section
variable {prog : Program} {w : World} {A : Around}
noncomputable abbrev nb (prog : Program) (w : World) (A : Around) (env : Env) (R : Result → Shared → Prop) : Value → Shared → Prop := notedBy (model prog w) A env fun e s' => R (.error e) s'
structure LoopTree (prog : Program) (w : World) (A : Around) (e : Expr) (depth : Nat) (it acc : Value) (env : Env) (x : Str) (px : Pos) (T : Sem PUnit) : Prop where
  run : ∀ (I : Nat → Shared → Prop) (R : Result → Shared → Prop),
    (∀ n s, I n s → wpAny (model prog w) A (pyNext it) (fun r s₁ => match r with
      | none => R (.ok .next) s₁
      | some v => wpAny (model prog w) A (assign (.Name x px) env v) (fun _ s₂ => wpAny (model prog w) A T (fun _ s₃ => ∃ m, m < n ∧ I m s₃) (nb prog w A env R) s₂) (nb prog w A env R) s₁) (nb prog w A env R) s) →
    ∀ n s, I n s → codeAny (model prog w) A (.compLoop e depth it acc env) R s
theorem loopTree_of {e : Expr} {depth : Nat} {it acc : Value} {env : Env} {x : Str} {px p : Pos} {T : Sem PUnit}
    (hq : (Code.compLoop e depth it acc env).quiet = true) (hu : A.under (.compLoop e depth it acc env) = A)
    (hden : (model prog w).den (.compLoop e depth it acc env) = (compTurn e depth it acc env).onRaise (fun x => do noteFrame x env; theTreesLotGoes x))
    (h : compTurn e depth it acc env = (standAt p >>= fun _ => pyNext it >>= fun r => match r with
      | none => pure (.done .next)
      | some v => letOwnedTupleGo (.Name x px) it v >>= fun _ => assign (.Name x px) env v >>= fun _ => T >>= fun _ => again (.compLoop e depth it acc env))) :
    LoopTree prog w A e depth it acc env x px T := by
  refine ⟨fun I R turn n s hI => codeAny_loop hq I (fun n s hI => ?_) n hI⟩
  rw [hden, h, hu]
  refine wpAny_noted ?_
  refine wpAny_bind (wpAny_standAt (wpAny_bind (wpAny_mono (turn n s hI) (fun r s₁ h₁ => ?_) fun _ _ h' => h')))
  cases r with
  | none => exact wpAny_pure h₁
  | some v =>
    refine wpAny_bind (wpAny_of_eq (by rfl) ?_)
    exact wpAny_bind (wpAny_mono h₁ (fun _ s₂ h₂ => wpAny_bind (wpAny_mono h₂ (fun _ s₃ h₃ => wpAny_pure ⟨rfl, h₃⟩) fun _ _ h' => h')) fun _ _ h' => h')
noncomputable def emitL (elt : Expr) (acc : Value) (env : Env) : Sem PUnit := eval elt env >>= fun x => call (.builtin "list.append") [acc, x] >>= fun _ => pure ()
noncomputable def emitD (kx vx : Expr) (D : Addr) (env : Env) : Sem PUnit := eval kx env >>= fun kv => holding [kv] (eval vx env) >>= fun vv => standAt { kx.pos with endLine := vx.pos.endLine, endCol := vx.pos.endCol } >>= fun _ => holding [kv, vv] (dictSet D kv vv)
noncomputable def innerT (e : Expr) (iter : Expr) (acc : Value) (env : Env) : Sem PUnit := eval iter env >>= fun x => standAt iter.pos >>= fun _ => foldedSetIterable iter env x >>= fun x => holding [x] (pyIter x) >>= fun it => runOwn (.compStart e 1 it acc env) env >>= fun _ => pure ()
theorem lt_list1 {elt iter : Expr} {x : Str} {px : Pos} {scope : Scope} {pos : Pos} {it acc : Value} {env : Env} : LoopTree prog w A (.ListComp elt [⟨.Name x px, iter, [], 0⟩] scope pos) 0 it acc env x px (emitL elt acc env) :=
  loopTree_of (p := iter.pos) rfl rfl rfl rfl
theorem lt_dict1 {kx vx iter : Expr} {x : Str} {px : Pos} {scope : Scope} {pos : Pos} {it : Value} {D : Addr} {env : Env} : LoopTree prog w A (.DictComp kx vx [⟨.Name x px, iter, [], 0⟩] scope pos) 0 it (.ref D) env x px (emitD kx vx D env) :=
  loopTree_of (p := iter.pos) rfl rfl rfl rfl
theorem lt_listO {elt iter iter₂ : Expr} {x x₂ : Str} {px px₂ : Pos} {scope : Scope} {pos : Pos} {it acc : Value} {env : Env} : LoopTree prog w A (.ListComp elt [⟨.Name x px, iter, [], 0⟩, ⟨.Name x₂ px₂, iter₂, [], 0⟩] scope pos) 0 it acc env x px (innerT (.ListComp elt [⟨.Name x px, iter, [], 0⟩, ⟨.Name x₂ px₂, iter₂, [], 0⟩] scope pos) iter₂ acc env) :=
  loopTree_of (p := iter.pos) rfl rfl rfl (by unfold innerT; simp only [bind_assoc, pure_bind]; rfl)
theorem lt_listI {elt iter iter₂ : Expr} {x x₂ : Str} {px px₂ : Pos} {scope : Scope} {pos : Pos} {it acc : Value} {env : Env} : LoopTree prog w A (.ListComp elt [⟨.Name x px, iter, [], 0⟩, ⟨.Name x₂ px₂, iter₂, [], 0⟩] scope pos) 1 it acc env x₂ px₂ (emitL elt acc env) :=
  loopTree_of (p := iter₂.pos) rfl rfl rfl rfl
theorem lt_dictO {kx vx iter iter₂ : Expr} {x x₂ : Str} {px px₂ : Pos} {scope : Scope} {pos : Pos} {it acc : Value} {env : Env} : LoopTree prog w A (.DictComp kx vx [⟨.Name x px, iter, [], 0⟩, ⟨.Name x₂ px₂, iter₂, [], 0⟩] scope pos) 0 it acc env x px (innerT (.DictComp kx vx [⟨.Name x px, iter, [], 0⟩, ⟨.Name x₂ px₂, iter₂, [], 0⟩] scope pos) iter₂ acc env) :=
  loopTree_of (p := iter.pos) rfl rfl rfl (by unfold innerT; simp only [bind_assoc, pure_bind]; rfl)
theorem lt_dictI {kx vx iter iter₂ : Expr} {x x₂ : Str} {px px₂ : Pos} {scope : Scope} {pos : Pos} {it : Value} {D : Addr} {env : Env} : LoopTree prog w A (.DictComp kx vx [⟨.Name x px, iter, [], 0⟩, ⟨.Name x₂ px₂, iter₂, [], 0⟩] scope pos) 1 it (.ref D) env x₂ px₂ (emitD kx vx D env) :=
  loopTree_of (p := iter₂.pos) rfl rfl rfl rfl
/-! the source -/
noncomputable def SrcZ (prog : Program) (w : World) (A : Around) (n : Nat) (P : Nat → Value → Prop) (B : List Addr) (xv : Value) (s₁ : Shared) : Prop :=
  (∀ b ∈ B, b < s₁.heap.objs.size) ∧ ∃ (oI : Obj) (St : Nat → Heap → Prop), oI.isFreed = false ∧ Walks prog w A s₁.heap.objs.size (s₁.heap.objs.size :: B) [s₁.heap.objs.size] n P St ∧ St 0 (s₁.heap.push oI) ∧
    (∀ i h, St i h → ∃ o, h.get? s₁.heap.objs.size = some o ∧ IterZ o) ∧ ∀ (Q E : Value → Shared → Prop), Q (.ref s₁.heap.objs.size) { s₁ with heap := s₁.heap.push oI } → wpAny (model prog w) A (pyIter xv) Q E s₁
theorem src_text {y : Str} {t : Tok} {s₁ : Shared} (hh : A.handled = none) (hasc : y.cps.all (· < 128) = true) : SrcZ prog w A y.cps.size (SignAt y) [] (.str y t) s₁ :=
  ⟨fun _ h => (nomatch h), _, _, rfl, Walks.strAscii hh _ y t, ⟨_, Heap.get?_push_size _ rfl, rfl, rfl⟩, fun i h st => by
    obtain ⟨o, ho, hc, _⟩ := st
    exact ⟨o, ho, by rw [hc]; exact fun e => absurd (Value.type.inj e) (by decide), by rw [hc]; exact fun e => absurd (Value.type.inj e) (by decide), by rw [hc]; exact fun e => absurd (Value.type.inj e) (by decide)⟩, fun Q E q => wpAny_pyIter_ascii hasc q⟩
theorem src_list {ax : Addr} {its : Array Value} {s₁ : Shared} (hh : A.handled = none) (hl : s₁.heap.IsList ax its) : SrcZ prog w A its.size (fun i v => its[i]? = some v) [ax] (.ref ax) s₁ := by
  have hlt : ax < s₁.heap.objs.size := by obtain ⟨_, e, _⟩ := hl; exact Heap.lt_size e
  refine ⟨fun b h => by rw [List.mem_singleton.mp h]; exact hlt, _, _, rfl, Walks.list hh _ ax (Nat.ne_of_lt hlt) its, ⟨⟨_, Heap.get?_push_size _ rfl, rfl, rfl⟩, hl.push _⟩, fun i h st => ?_, fun Q E q => wpAny_pyIter_list hl q⟩
  obtain ⟨⟨o, ho, hc, _⟩, _⟩ := st
  exact ⟨o, ho, by rw [hc]; exact fun e => absurd (Value.type.inj e) (by decide), by rw [hc]; exact fun e => absurd (Value.type.inj e) (by decide), by rw [hc]; exact fun e => absurd (Value.type.inj e) (by decide)⟩
theorem src_rangeZ {r : Addr} {b : Int} {t u v : Tok} {n : Nat} {s₁ : Shared} (hh : A.handled = none) (hr : IsRange s₁.heap r 0 b 1 t u v) (hsm : Builtin.Range.small 0 b 1 = true) (hn : Builtin.Range.rangeSize 0 b 1 = ((n : Nat) : Int)) : SrcZ prog w A n (fun i v => ∃ t, v = .int (0 + (i : Int)) t) [] (.ref r) s₁ := by
  refine ⟨fun _ h => (nomatch h), _, _, rfl, LCg.range_walks hh 0 n, ?_, fun i h st => ?_, fun Q E q => wpAny_pyIter_range hr hsm q⟩
  · show IsRangeIter _ _ _ _ _
    rw [hn]; simpa using Heap.get?_push_size _ rfl
  · exact ⟨_, st, fun e => absurd (Value.type.inj e) (by decide), fun e => absurd (Value.type.inj e) (by decide), fun e => absurd (Value.type.inj e) (by decide)⟩
/-! the loop -/
noncomputable def TurnC (h₀ : Heap) (L : Addr) (m : Str → Option Value) (I C : Addr) (own : List (Addr × Obj)) (J : (Str → Option Value) → List (Addr × Obj) → Prop) (s₁ s₂ : Shared) : Prop :=
  ∃ h' tk m' oC news', s₂ = { s₁ with heap := h', toks := tk } ∧ Fr h₀ L h' m ∧ LCg.NsObj oC m' ∧ News h₀ L h' (own ++ (C, oC) :: news') ∧ (∀ p ∈ news', p.1 ≠ I ∧ p.1 ≠ C) ∧ J m' news'
theorem cl_walk {e : Expr} {depth : Nat} {I : Addr} {acc : Value} {env : Env} {x : Str} {px : Pos} {T : Sem PUnit} {B : List Addr} {n : Nat} {P : Nat → Value → Prop} {St : Nat → Heap → Prop} {C L : Addr} {h₀ : Heap} {m : Str → Option Value} {R : Result → Shared → Prop} {s : Shared} {m₁ : Str → Option Value} {news : List (Addr × Obj)}
    (LT : LoopTree prog w A e depth (.ref I) acc env x px T) (W : Walks prog w A I (I :: B) [I] n P St) (hC : env.locals = C) (hx : env.kindOf x = some .local) (hp : (env.scope.kind == .class || (env.scope.kind == .module && env.locals != env.globals)) = false)
    (J : Nat → (Str → Option Value) → List (Addr × Obj) → Prop) (hIL : L ≠ I) (hCI : C ≠ I) (hBL : L ∉ B) (hBC : C ∉ B) (hI₀ : h₀.get? I = none) (hCL : C ≠ L) (hC₀ : h₀.get? C = none)
    (hIo : ∀ i h, St i h → ∃ o, h.get? I = some o ∧ IterZ o) (hst : St 0 s.heap) (F : Fr h₀ L s.heap m) (hns : s.heap.Ns C m₁) (N : News h₀ L s.heap news) (off : ∀ p ∈ news, p.1 ≠ I ∧ p.1 ≠ C) (hj : J 0 m₁ news)
    (turn : ∀ i v m₁ oC own news₁ h tk (E' : Value → Shared → Prop), i < n → P i v → J i m₁ news₁ → (∀ p ∈ news₁, p.1 ≠ I ∧ p.1 ≠ C) → (∀ p ∈ own, p.1 = I ∨ p.1 ∈ B) → (∃ oI, (I, oI) ∈ own ∧ IterZ oI) → LCg.NsObj oC (fun y => if y = x then some v else m₁ y) → Fr h₀ L h m → News h₀ L h (own ++ (C, oC) :: news₁) →
      wpAny (model prog w) A T (fun _ s' => TurnC h₀ L m I C own (J (i + 1)) { s with heap := h, toks := tk } s') E' { s with heap := h, toks := tk })
    (done : ∀ m₁ news₁ h tk, J n m₁ news₁ → (∀ p ∈ news₁, p.1 ≠ I ∧ p.1 ≠ C) → Fr h₀ L h m → h.Ns C m₁ → News h₀ L h news₁ → R (.ok .next) { s with heap := h, toks := tk }) :
    codeAny (model prog w) A (.compLoop e depth (.ref I) acc env) R s := by
  subst hC
  refine LT.run (fun k s' => ∃ h' tk i m₁ news₁, s' = { s with heap := h', toks := tk } ∧ i ≤ n ∧ k = n + 1 - i ∧ St i h' ∧ Fr h₀ L h' m ∧ h'.Ns env.locals m₁ ∧ News h₀ L h' news₁ ∧ (∀ p ∈ news₁, p.1 ≠ I ∧ p.1 ≠ env.locals) ∧ J i m₁ news₁) R ?_ (n + 1) s
    ⟨s.heap, s.toks, 0, m₁, news, rfl, Nat.zero_le _, rfl, hst, F, hns, N, off, hj⟩
  rintro k s' ⟨h', tk, i, m₂, news₂, rfl, hi, rfl, hst', F', hn', N', off', hj'⟩
  by_cases hlt : i < n
  · refine W.item i _ _ _ hlt hst' fun v h₂ tk₂ hPv hst₂ hk₂ => ?_
    have hk₂' : ∀ b o, b ≠ I → h'.get? b = some o → h₂.get? b = some o := fun b o hb e => hk₂ b o (by simpa using hb) e
    refine wpAny_assign_Name (wpAny_storeName_local hx (hn'.at' fun o e => hk₂' _ o hCI e) (fun h₃ hn₃ hs₃ => ?_) hp)
    have hst₃ : St (i + 1) h₃ := W.frame _ _ _ hst₂ fun b hb o e => hs₃.extBut b o (fun q => by
      rcases List.mem_cons.mp hb with rfl | hb
      · exact hCI q.symm
      · exact hBC (q ▸ hb)) e
    obtain ⟨oI, heI, hIt⟩ := hIo _ _ hst₃
    obtain ⟨oC, heC, hoC⟩ := LCg.ns_obj hn₃
    have F₃ : Fr h₀ L h₃ m := (LCg.fr_but F' hk₂ hIL hI₀).change hs₃ hCL hC₀
    have N₃ : News h₀ L h₃ news₂ := fun p hp => ⟨hs₃.extBut _ _ (off' p hp).2 (hk₂' _ _ (off' p hp).1 (N' p hp).1), (N' p hp).2⟩
    obtain ⟨own, ho1, ho2, ho3⟩ : ∃ own : List (Addr × Obj), (∀ p ∈ own, p.1 = I ∨ p.1 ∈ B) ∧ (∀ p ∈ own, h₃.get? p.1 = some p.2 ∧ p.1 ≠ L ∧ h₀.get? p.1 = none) ∧ (∀ b ∈ I :: B, ∀ o, h₀.get? b = none → h₃.get? b = some o → (b, o) ∈ own) := by
      refine ⟨(I :: B).filterMap fun b => match h₀.get? b, h₃.get? b with | none, some o => some (b, o) | _, _ => none, fun p hp => ?_, fun p hp => ?_, fun b hb o e1 e2 => ?_⟩
      · obtain ⟨b, hb, e⟩ := List.mem_filterMap.mp hp
        split at e
        · cases e; exact List.mem_cons.mp hb
        · cases e
      · obtain ⟨b, hb, e⟩ := List.mem_filterMap.mp hp
        split at e
        · rename_i e1 e2
          cases e
          refine ⟨e2, ?_, e1⟩
          rcases List.mem_cons.mp hb with rfl | hb
          · exact Ne.symm hIL
          · exact fun q => hBL (by have q' : b = L := q; rw [← q']; exact hb)
        · cases e
      · exact List.mem_filterMap.mpr ⟨b, hb, by rw [e1, e2]⟩
    have NA : News h₀ L h₃ (own ++ (env.locals, oC) :: news₂) := fun p hp => by
      rcases List.mem_append.mp hp with hp | hp
      · exact ho2 p hp
      · rcases List.mem_cons.mp hp with rfl | hp
        · exact ⟨heC, hCL, hC₀⟩
        · exact N₃ p hp
    refine wpAny_mono (turn i v m₂ oC own news₂ h₃ _ _ hlt hPv hj' off' ho1 ⟨oI, ho3 I (.head _) oI hI₀ heI, hIt⟩ hoC F₃ NA) (fun _ s₄ h₄ => ?_) fun _ _ e => e
    obtain ⟨h₄, tk₄, m₄, oC₄, news₄, rfl, F₄, hoC₄, N₄, off₄, J₄⟩ := h₄
    have zC := (N₄ (env.locals, oC₄) (List.mem_append_right _ (.head _))).1
    refine ⟨n + 1 - (i + 1), by omega, h₄, tk₄, i + 1, m₄, news₄, rfl, hlt, rfl, W.frame _ _ _ hst₃ fun b hb o e => ?_, F₄, hoC₄.ns zC, fun p hp => N₄ p (List.mem_append_right _ (.tail _ hp)), off₄, J₄⟩
    cases q : h₀.get? b with
    | none => exact (N₄ _ (List.mem_append_left _ (ho3 b hb o q e))).1
    | some o' =>
      have := F₃.keep _ _ q
      rw [e] at this; cases this
      exact F₄.keep _ _ q
  · obtain rfl : i = n := Nat.le_antisymm hi (Nat.not_lt.mp hlt)
    refine W.done _ _ _ hst' fun h₂ tk₂ hk₂ => ?_
    have hk₂' : ∀ b o, b ≠ I → h'.get? b = some o → h₂.get? b = some o := fun b o hb e => hk₂ b o (by simpa using hb) e
    exact done m₂ news₂ h₂ tk₂ hj' off' (LCg.fr_but F' hk₂ hIL hI₀) (hn'.at' fun o e => hk₂' _ o hCI e) fun p hp => ⟨hk₂' _ _ (off' p hp).1 (N' p hp).1, (N' p hp).2⟩
end
end Mine
namespace Mine
section
variable {prog : Program} {w : World} {A : Around}
theorem start_Z {e : Expr} {depth : Nat} {it acc : Value} {env : Env} {R : Result → Shared → Prop} {s : Shared} {t iter : Expr} {ifs : List Expr}
    (hq : (Code.compLoop e depth it acc env).quiet = true) (hu : A.under (.compStart e depth it acc env) = A)
    (hden : (model prog w).den (.compStart e depth it acc env) = (compStart e depth it acc env).onRaise (fun x => do noteFrame x env; standAt theWindowsPlace))
    (hcl : (clausesOf e)[depth]? = some ⟨t, iter, ifs, 0⟩)
    (hs : ∀ (Q E : Value → Shared → Prop), Q it s → wpAny (model prog w) A (pyIter it) Q E s)
    (h : codeAny (model prog w) A (.compLoop e depth it acc env) R s) : codeAny (model prog w) A (.compStart e depth it acc env) R s := by
  refine codeAny_of_tree ?_
  rw [hden, hu]
  refine wpAny_notedAt ?_
  unfold compStart
  rw [hcl]
  show wpAny _ _ (ask >>= _) _ _ s
  refine wpAny_bind (wpAny_askSetting (wpAny_ite ?_))
  split
  · first
      | exact wpAny_bind (wpAny_pure (wpAny_pure (And.intro hq h)))
      | exact wpAny_pure (And.intro hq h)
  · first
      | exact wpAny_bind (wpAny_rule (wpAny_bind (wpAny_standAt (wpAny_bind (hs _ _ (wpAny_pure (And.intro hq h)))))))
      | (refine wpAny_bind (wpAny_rule ?_); show wpAny _ _ (standAt iter.pos >>= _) _ _ s; exact wpAny_bind (wpAny_standAt (wpAny_bind (hs _ _ (wpAny_pure (And.intro hq h))))))
noncomputable def OutZ (prog : Program) (w : World) (A : Around) (env : Env) (scope : Scope) (cl : List (Str × Addr)) (e : Expr) (newAcc : Sem Value) (RR : Value → Addr → Result → Shared → Prop) (E : Value → Shared → Prop) (xv : Value) (s₁ : Shared) : Prop :=
  wpAny (model prog w) A (pyIter xv) (fun it s₂ => wpAny (model prog w) A newAcc (fun acc s₃ => wpAny (model prog w) A (newFunctionEnv scope env.globals cl [] env.qual none .none (some env)) (fun cenv s₄ =>
      codeAny (model prog w) A (.compStart e 0 it acc { cenv with scope := relabel scope env }) (RR acc cenv.locals) s₄) E s₃) E s₂) E s₁
theorem outZ_intro {env : Env} {scope : Scope} {cl : List (Str × Addr)} {e : Expr} {newAcc : Sem Value} {oD : Obj} {RR : Value → Addr → Result → Shared → Prop} {E : Value → Shared → Prop} {xv : Value} {s₁ : Shared} {x : Str} {px : Pos} {T : Addr → Addr → Sem PUnit}
    {n : Nat} {P : Nat → Value → Prop} {B : List Addr} {h₀ : Heap} {L : Addr} {m : Str → Option Value} {news : List (Addr × Obj)} (J : Addr → Nat → (Str → Option Value) → List (Addr × Obj) → Prop)
    (hnew : ∀ (s : Shared) (Q E' : Value → Shared → Prop), Q (.ref s.heap.objs.size) { s with heap := s.heap.push oD } → wpAny (model prog w) A newAcc Q E' s) (hfr : oD.isFreed = false)
    (LTr : ∀ I D C, LoopTree prog w A e 0 (.ref I) (.ref D) (compEnvC scope cl C env) x px (T D C))
    (ST : ∀ I D C R s, (∀ (Q E : Value → Shared → Prop), Q (.ref I) s → wpAny (model prog w) A (pyIter (.ref I)) Q E s) → codeAny (model prog w) A (.compLoop e 0 (.ref I) (.ref D) (compEnvC scope cl C env)) R s → codeAny (model prog w) A (.compStart e 0 (.ref I) (.ref D) (compEnvC scope cl C env)) R s)
    (hcell : ∀ y ∈ scope.names, y.2 ≠ .cell) (hkind : scope.kind = .function) (hx : scope.names.lookup x = some .local)
    (S : SrcZ prog w A n P B xv s₁) (F : Fr h₀ L s₁.heap m) (N : News h₀ L s₁.heap news) (hBL : L ∉ B)
    (hj : ∀ D, J D 0 (fun _ => none) ((D, oD) :: news))
    (turn : ∀ D C I i v m₁ oC own news₁ h tk (E' : Value → Shared → Prop), i < n → P i v → J D i m₁ news₁ → (∀ p ∈ news, p.1 < D ∧ p.1 < I) → I < D ∧ D < C → (∀ p ∈ news₁, p.1 ≠ I ∧ p.1 ≠ C) → (∀ p ∈ own, p.1 = I ∨ p.1 ∈ B) → (∃ oI, (I, oI) ∈ own ∧ IterZ oI) → LCg.NsObj oC (fun y => if y = x then some v else m₁ y) → Fr h₀ L h m → News h₀ L h (own ++ (C, oC) :: news₁) →
      wpAny (model prog w) A (T D C) (fun _ s' => TurnC h₀ L m I C own (J D (i + 1)) { s₁ with heap := h, toks := tk } s') E' { s₁ with heap := h, toks := tk })
    (done : ∀ D C m₁ news₁ h tk, J D n m₁ news₁ → (∀ p ∈ news, p.1 < D) → (∀ p ∈ news₁, p.1 ≠ C) → C ≠ L → h₀.get? C = none → Fr h₀ L h m → h.Ns C m₁ → News h₀ L h news₁ → RR (.ref D) C (.ok .next) { s₁ with heap := h, toks := tk }) :
    OutZ prog w A env scope cl e newAcc RR E xv s₁ := by
  obtain ⟨hB, oI, St, hfI, W, hst, hIo, hit⟩ := S
  refine hit _ _ (hnew _ _ _ (wpAny_newFunctionEnv hcell (by intro y hy; simp at hy) (fun h₁ hns₁ hsb₁ => ?_) hkind))
  dsimp only at hns₁ hsb₁ ⊢
  generalize hI : s₁.heap.objs.size = I at *
  have hD : (s₁.heap.push oI).objs.size = I + 1 := by rw [Heap.size_push, hI]
  generalize hDD : (s₁.heap.push oI).objs.size = D at *
  have hC : ((s₁.heap.push oI).push oD).objs.size = D + 1 := by rw [Heap.size_push, hDD]
  generalize hCC : ((s₁.heap.push oI).push oD).objs.size = C at *
  have hID : @LT.lt Nat _ I D := by omega
  have hDC : @LT.lt Nat _ D C := by omega
  have hIC : @LT.lt Nat _ I C := Nat.lt_trans hID hDC
  have nlt : ∀ {a b : Nat}, a < b → a ≠ b := fun h => Nat.ne_of_lt h
  have old : ∀ b o, s₁.heap.get? b = some o → h₁.get? b = some o := fun b o e => by
    have hb : @LT.lt Nat _ b I := hI ▸ Heap.lt_size e
    exact hsb₁.extBut b o (nlt (Nat.lt_trans hb hIC)) (Heap.get?_push_of_some _ (Heap.get?_push_of_some _ (Heap.get?_push_of_some _ e)))
  have oldI : ∀ o, (s₁.heap.push oI).get? I = some o → h₁.get? I = some o := fun o e => hsb₁.extBut I o (nlt hIC) (Heap.get?_push_of_some _ (Heap.get?_push_of_some _ e))
  have hgD : h₁.get? D = some oD := hsb₁.extBut _ _ (nlt hDC) (Heap.get?_push_of_some _ (hDD ▸ Heap.get?_push_size _ hfr))
  have fresh₀ : ∀ a : Nat, I ≤ a → h₀.get? a = none := fun a ha => by
    cases e : h₀.get? a with
    | none => rfl
    | some o' =>
      have q : @LT.lt Nat _ a I := hI ▸ Heap.lt_size (F.keep a o' e)
      exact absurd q (Nat.not_lt.mpr ha)
  have hLlt : @LT.lt Nat _ L I := hI ▸ F.ns.lt
  have hNlt : ∀ p ∈ news, @LT.lt Nat _ p.1 I := fun p hp => hI ▸ Heap.lt_size (N p hp).1
  have hBC : C ∉ B := fun h => absurd (Nat.lt_trans (hB _ h) hIC) (Nat.lt_irrefl _)
  have hst₁ : St 0 h₁ := W.frame _ _ _ hst fun b hb o e => by
    rcases List.mem_cons.mp hb with rfl | hb
    · exact oldI o e
    · refine hsb₁.extBut b o (fun q => hBC (q ▸ hb)) (Heap.get?_push_of_some _ (Heap.get?_push_of_some _ e))
  have hLI : L ≠ I := nlt hLlt
  have hCI : C ≠ I := (nlt hIC).symm
  have hCL : C ≠ L := (nlt (Nat.lt_trans hLlt hIC)).symm
  refine ST _ _ _ _ _ (fun Q E q => W.self 0 _ _ _ hst₁ q) ?_
  refine cl_walk (s := { s₁ with heap := h₁, toks := _ }) (LTr I D C) W (C := C) rfl (lookup_relabel_local hx) (by simp [compEnvC, relabel, hkind]) (J D) hLI hCI hBL hBC (fresh₀ _ (Nat.le_refl _)) hCL (fresh₀ _ (Nat.le_of_lt hIC)) hIo hst₁ (F.keeps old) hns₁
    (news := (D, oD) :: news) (fun p hp => ?_) (fun p hp => ?_) (hj D) ?_ ?_
  · rcases List.mem_cons.mp hp with rfl | hp
    · exact ⟨hgD, (nlt (Nat.lt_trans hLlt hID)).symm, fresh₀ _ (Nat.le_of_lt hID)⟩
    · exact ⟨old _ _ (N p hp).1, (N p hp).2⟩
  · rcases List.mem_cons.mp hp with rfl | hp
    · exact ⟨(nlt hID).symm, nlt hDC⟩
    · exact ⟨nlt (hNlt p hp), nlt (Nat.lt_trans (hNlt p hp) hIC)⟩
  · intro i v m₁ oC own news₁ h tk E' hi hP hj' off hown hIm hoC F' N'
    exact turn D C I i v m₁ oC own news₁ h tk E' hi hP hj' (fun p hp => ⟨Nat.lt_trans (hNlt p hp) hID, hNlt p hp⟩) ⟨hID, hDC⟩ off hown hIm hoC F' N'
  · intro m₁ news₁ h tk hj' off F' hn' N'
    exact done D C m₁ news₁ h tk hj' (fun p hp => Nat.lt_trans (hNlt p hp) hID) (fun p hp => (off p hp).2) hCL (fresh₀ _ (Nat.le_of_lt hIC)) F' hn' N'
theorem rr_eval {E Q : Value → Shared → Prop} {h₀ h : Heap} {L C D : Addr} {m m₁ : Str → Option Value} {news : List (Addr × Obj)} {s₁ : Shared} {tk : Nat} (hCN : ∀ p ∈ news, p.1 ≠ C) (hCL : C ≠ L) (hC₀ : h₀.get? C = none) (F : Fr h₀ L h m) (hn : h.Ns C m₁) (N : News h₀ L h news)
    (q : ∀ h', Fr h₀ L h' m → News h₀ L h' news → Q (.ref D) { s₁ with heap := h', toks := tk }) : compPost (model prog w) A E none Q (.ref D) C (.ok .next) { s₁ with heap := h, toks := tk } :=
  ⟨m₁, hn, fun h' hs => q h' (F.change hs hCL hC₀) fun p hp => ⟨hs.extBut _ _ (hCN p hp) (N p hp).1, (N p hp).2⟩⟩
theorem rr_assign {E : Value → Shared → Prop} {Q : Flow → Shared → Prop} {h₀ h : Heap} {L C D : Addr} {m m₁ : Str → Option Value} {news : List (Addr × Obj)} {s₁ : Shared} {tk : Nat} {env : Env} {y : Str} {py : Pos} (hCN : ∀ p ∈ news, p.1 ≠ C) (hCL : C ≠ L) (hC₀ : h₀.get? C = none) (F : Fr h₀ L h m) (hn : h.Ns C m₁) (N : News h₀ L h news)
    (hL : env.locals = L) (hy : env.kindOf y = some .local) (hp : (env.scope.kind == .class || (env.scope.kind == .module && env.locals != env.globals)) = false)
    (q : ∀ h' tk', Fr h₀ L h' (fun z => if z = y then some (.ref D) else m z) → News h₀ L h' news → Q .next { s₁ with heap := h', toks := tk' }) : compPost (model prog w) A E (some (assign (.Name y py) env)) (fun _ s' => Q .next s') (.ref D) C (.ok .next) { s₁ with heap := h, toks := tk } := by
  subst hL
  show wpAny _ A (assign (.Name y py) env (.ref D)) _ _ _
  refine wpAny_assign_Name (wpAny_storeName_local hy F.ns (fun h₂ hn₂ hs₂ => ?_) hp)
  have hL₀ : h₀.get? env.locals = none := Heap.get?_none_of_le F.above
  have F₂ : Fr h₀ env.locals h₂ (fun z => if z = y then some (.ref D) else m z) := ⟨hn₂, fun b o e => hs₂.extBut b o (fun q => by rw [q, hL₀] at e; cases e) (F.keep b o e), F.above⟩
  refine ⟨m₁, hn.sameBut hs₂ hCL, fun h₃ hs₃ => q h₃ _ (F₂.change hs₃ hCL hC₀) fun p hp => ?_⟩
  have z : h₂.get? p.1 = some p.2 := hs₂.extBut _ _ (N p hp).2.1 (N p hp).1
  exact ⟨hs₃.extBut _ _ (hCN p hp) z, (N p hp).2⟩
theorem new_list : ∀ (s : Shared) (Q E' : Value → Shared → Prop), Q (.ref s.heap.objs.size) { s with heap := s.heap.push (LCg.lst []) } → wpAny (model prog w) A (newList []) Q E' s := fun _ _ _ h => wpAny_newObj_type h
noncomputable def dct0 : Obj := { cls := .type "dict", data := .dict #[] }
theorem new_dict : ∀ (s : Shared) (Q E' : Value → Shared → Prop), Q (.ref s.heap.objs.size) { s with heap := s.heap.push dct0 } → wpAny (model prog w) A newDict Q E' s := fun _ _ _ h => wpAny_newObj_type h
/-! the inner clause -/
noncomputable def InZ (prog : Program) (w : World) (A : Around) (e : Expr) (acc : Value) (env : Env) (Q : PUnit → Shared → Prop) (E : Value → Shared → Prop) (xv : Value) (s₁ : Shared) : Prop :=
  wpAny (model prog w) A (pyIter xv) (fun it s₂ => codeAny (model prog w) A (.compStart e 1 it acc env) (fun r s' => match r with | .ok _ => Q ⟨⟩ s' | .error x => cameBackBy (model prog w) A env E x s') s₂) E s₁
theorem inner_Z {e iter : Expr} {acc : Value} {env : Env} {Q : PUnit → Shared → Prop} {E : Value → Shared → Prop} {s : Shared} (hs : ∀ x, foldedSetIterable iter env x = pure x)
    (h : wpAny (model prog w) A (eval iter env) (InZ prog w A e acc env Q E) E s) : wpAny (model prog w) A (innerT e iter acc env) Q E s := by
  unfold innerT
  refine wpAny_bind (wpAny_mono h (fun x s₁ h₁ => ?_) fun _ _ e => e)
  refine wpAny_bind (wpAny_standAt ?_)
  rw [hs, pure_bind]
  refine wpAny_bind (wpAny_holding (wpAny_mono h₁ (fun it s₂ h₂ => ?_) fun _ _ e => e))
  refine wpAny_bind (wpAny_runOwn ?_)
  rw [Around.mark_none]
  refine codeAny_mono h₂ fun r s' hr => ?_
  cases r with
  | ok f => exact wpAny_pure hr
  | error x => exact hr
theorem inZ_intro {e : Expr} {acc : Value} {env : Env} {Q : PUnit → Shared → Prop} {E : Value → Shared → Prop} {xv : Value} {s₁ : Shared} {x : Str} {px : Pos} {T : Sem PUnit} {n : Nat} {P : Nat → Value → Prop} {B : List Addr} {h₀ : Heap} {L C : Addr} {m m₁ : Str → Option Value} {oC : Obj} {news : List (Addr × Obj)} (J : Nat → (Str → Option Value) → List (Addr × Obj) → Prop)
    (LTr : ∀ I, LoopTree prog w A e 1 (.ref I) acc env x px T)
    (ST : ∀ I R s, (∀ (Q E : Value → Shared → Prop), Q (.ref I) s → wpAny (model prog w) A (pyIter (.ref I)) Q E s) → codeAny (model prog w) A (.compLoop e 1 (.ref I) acc env) R s → codeAny (model prog w) A (.compStart e 1 (.ref I) acc env) R s)
    (hC : env.locals = C) (hx : env.kindOf x = some .local) (hp : (env.scope.kind == .class || (env.scope.kind == .module && env.locals != env.globals)) = false)
    (S : SrcZ prog w A n P B xv s₁) (F : Fr h₀ L s₁.heap m) (hoC : LCg.NsObj oC m₁) (N : News h₀ L s₁.heap ((C, oC) :: news)) (off : ∀ p ∈ news, p.1 ≠ C) (hBL : L ∉ B) (hBC : C ∉ B) (hj : J 0 m₁ news)
    (turn : ∀ I i v m₁ oC own news₁ h tk (E' : Value → Shared → Prop), i < n → P i v → J i m₁ news₁ → (∀ p ∈ news, p.1 < I) → (∀ p ∈ news₁, p.1 ≠ I ∧ p.1 ≠ C) → (∀ p ∈ own, p.1 = I ∨ p.1 ∈ B) → (∃ oI, (I, oI) ∈ own ∧ IterZ oI) → LCg.NsObj oC (fun y => if y = x then some v else m₁ y) → Fr h₀ L h m → News h₀ L h (own ++ (C, oC) :: news₁) →
      wpAny (model prog w) A T (fun _ s' => TurnC h₀ L m I C own (J (i + 1)) { s₁ with heap := h, toks := tk } s') E' { s₁ with heap := h, toks := tk })
    (done : ∀ m₁ oC news₁ h tk, J n m₁ news₁ → (∀ p ∈ news₁, p.1 ≠ C) → Fr h₀ L h m → LCg.NsObj oC m₁ → News h₀ L h ((C, oC) :: news₁) → Q ⟨⟩ { s₁ with heap := h, toks := tk }) :
    InZ prog w A e acc env Q E xv s₁ := by
  obtain ⟨hB, oI, St, hfI, W, hst, hIo, hit⟩ := S
  refine hit _ _ ?_
  have fresh₀ : h₀.get? s₁.heap.objs.size = none := by
    cases e : h₀.get? s₁.heap.objs.size with
    | none => rfl
    | some o' => exact absurd (Heap.lt_size (F.keep _ o' e)) (Nat.lt_irrefl _)
  have hLlt : L < s₁.heap.objs.size := F.ns.lt
  have hClt : C < s₁.heap.objs.size := Heap.lt_size (N _ (.head _)).1
  have hNlt : ∀ p ∈ news, p.1 < s₁.heap.objs.size := fun p hp => Heap.lt_size (N p (.tail _ hp)).1
  have zC := N (C, oC) (.head _)
  refine ST _ _ _ (fun Q E q => W.self 0 _ _ _ hst q) ?_
  refine cl_walk (s := { s₁ with heap := s₁.heap.push oI }) (LTr _) W (C := C) hC hx hp J (Nat.ne_of_lt hLlt) (Nat.ne_of_lt hClt) hBL hBC fresh₀ zC.2.1 zC.2.2 hIo hst (F.push _) (hoC.ns (Heap.get?_push_of_some _ zC.1)) (news := news)
    (fun p hp => ⟨Heap.get?_push_of_some _ (N p (.tail _ hp)).1, (N p (.tail _ hp)).2⟩) (fun p hp => ⟨Nat.ne_of_lt (hNlt p hp), off p hp⟩) hj ?_ ?_
  · intro i v m₁ oC own news₁ h tk E' hi hP hj' off hown hIm hoC F' N'
    exact turn _ i v m₁ oC own news₁ h tk E' hi hP hj' hNlt off hown hIm hoC F' N'
  · intro m₁ news₁ h tk hj' off F' hn' N'
    obtain ⟨oC', e1, e2⟩ := LCg.ns_obj hn'
    refine done m₁ oC' news₁ h tk hj' (fun p hp => (off p hp).2) F' e2 fun p hp => ?_
    rcases List.mem_cons.mp hp with rfl | hp
    · exact ⟨e1, zC.2⟩
    · exact N' p hp
end
end Mine
namespace Mine
/-! dicts by texts -/
section
variable {K : Type} [DecidableEq K]
theorem valueAt_nil (k : K) : valueAt ([] : List (K × Value)) k = none := rfl
theorem valueAt_cons (p : K × Value) (r : List (K × Value)) (k : K) : valueAt (p :: r) k = if p.1 = k then some p.2 else valueAt r k := by
  unfold valueAt
  rw [List.find?_cons]
  by_cases h : p.1 = k
  · simp [h]
  · simp [h]
theorem valueAt_app (a b : List (K × Value)) (k : K) : valueAt (a ++ b) k = match valueAt a k with | some v => some v | none => valueAt b k := by
  induction a with
  | nil => rfl
  | cons p r ih =>
    rw [List.cons_append, valueAt_cons, valueAt_cons, ih]
    by_cases h : p.1 = k <;> simp [h]
theorem valueAt_map (kvs : List (K × Value)) (k : K) (v : Value) (k' : K) : valueAt (kvs.map (fun kv => if kv.1 = k then (kv.1, v) else kv)) k' = if k' = k then (valueAt kvs k).map (fun _ => v) else valueAt kvs k' := by
  induction kvs with
  | nil => simp [valueAt_nil]
  | cons p r ih =>
    rw [List.map_cons, valueAt_cons, ih]
    by_cases h : p.1 = k
    · rw [if_pos h, valueAt_cons, valueAt_cons, if_pos h]
      by_cases h2 : k' = k
      · simp [h, h2]
      · have : ¬ p.1 = k' := fun e => h2 (e.symm.trans h)
        simp [h2, this]
    · rw [if_neg h, valueAt_cons, valueAt_cons, if_neg h]
      by_cases h2 : k' = k
      · subst h2; simp [h]
      · simp [h2]
theorem valueAt_none {kvs : List (K × Value)} {k : K} (h : k ∉ kvs.map (·.1)) : valueAt kvs k = none := by
  induction kvs with
  | nil => rfl
  | cons p r ih =>
    rw [List.map_cons, List.mem_cons, not_or] at h
    rw [valueAt_cons, if_neg (Ne.symm h.1), ih h.2]
theorem valueAt_some {kvs : List (K × Value)} {k : K} (h : k ∈ kvs.map (·.1)) : ∃ v, valueAt kvs k = some v := by
  induction kvs with
  | nil => cases h
  | cons p r ih =>
    rw [valueAt_cons]
    by_cases e : p.1 = k
    · exact ⟨_, by rw [if_pos e]⟩
    · rw [if_neg e]
      exact ih ((List.mem_cons.mp h).resolve_left (Ne.symm e))
theorem any_key {kvs : List (K × Value)} {k : K} : (kvs.any fun kv => kv.1 = k) = true ↔ k ∈ kvs.map (·.1) := by
  rw [List.any_eq_true, List.mem_map]
  exact ⟨fun ⟨p, h, e⟩ => ⟨p, h, of_decide_eq_true e⟩, fun ⟨p, h, e⟩ => ⟨p, h, decide_eq_true e⟩⟩
theorem valueAt_stored (kvs : List (K × Value)) (k : K) (v : Value) (k' : K) : valueAt (stored kvs k v) k' = if k' = k then some v else valueAt kvs k' := by
  unfold stored
  by_cases h : (kvs.any fun kv => kv.1 = k) = true
  · rw [if_pos h, valueAt_map]
    obtain ⟨u, hu⟩ := valueAt_some (any_key.mp h)
    rw [hu]; rfl
  · rw [if_neg h, valueAt_app]
    have hn : k ∉ kvs.map (·.1) := fun q => h (any_key.mpr q)
    by_cases h2 : k' = k
    · rw [if_pos h2, h2, valueAt_none hn, valueAt_cons, if_pos rfl]
    · rw [if_neg h2, valueAt_cons, if_neg (Ne.symm h2), valueAt_nil]
      cases valueAt kvs k' <;> rfl
theorem stored_old {kvs : List (K × Value)} {k : K} (v : Value) (h : k ∈ kvs.map (·.1)) : (stored kvs k v).map (·.1) = kvs.map (·.1) := by
  unfold stored
  rw [if_pos (any_key.mpr h), List.map_map]
  refine List.map_congr_left fun p _ => ?_
  by_cases e : p.1 = k <;> simp [e]
theorem stored_new {kvs : List (K × Value)} {k : K} (v : Value) (h : k ∉ kvs.map (·.1)) : (stored kvs k v).map (·.1) = kvs.map (·.1) ++ [k] := by
  unfold stored
  rw [if_neg (fun q => h (any_key.mp q)), List.map_append]; rfl
end
/-- a dict of ints by texts -/
structure DInt (kvs : List (Str × Value)) (ks : List Str) (f : Str → Int) : Prop where
  keys : kvs.map (·.1) = ks
  val : ∀ k ∈ ks, ∃ t, valueAt kvs k = some (.int (f k) t)
theorem DInt.nil (f : Str → Int) : DInt [] [] f := ⟨rfl, fun _ h => nomatch h⟩
theorem DInt.congr {kvs : List (Str × Value)} {ks : List Str} {f g : Str → Int} (d : DInt kvs ks f) (h : ∀ k ∈ ks, f k = g k) : DInt kvs ks g := ⟨d.keys, fun k hk => by rw [← h k hk]; exact d.val k hk⟩
theorem DInt.put {kvs : List (Str × Value)} {ks : List Str} {f : Str → Int} (d : DInt kvs ks f) {k : Str} (hk : k ∈ ks) (x : Int) (t : Tok) : DInt (stored kvs k (.int x t)) ks (fun y => if y = k then x else f y) := by
  refine ⟨(stored_old _ (d.keys ▸ hk)).trans d.keys, fun y hy => ?_⟩
  rw [valueAt_stored]
  by_cases e : y = k
  · exact ⟨t, by rw [if_pos e, if_pos e]⟩
  · rw [if_neg e, if_neg e]; exact d.val y hy
theorem DInt.add {kvs : List (Str × Value)} {ks : List Str} {f : Str → Int} (d : DInt kvs ks f) {k : Str} (hk : k ∉ ks) (t : Tok) : DInt (stored kvs k (.int (f k) t)) (ks ++ [k]) f := by
  refine ⟨(stored_new _ (d.keys ▸ hk)).trans (by rw [d.keys]), fun y hy => ?_⟩
  rw [valueAt_stored]
  by_cases e : y = k
  · exact ⟨t, by rw [if_pos e, e]⟩
  · rw [if_neg e]
    rcases List.mem_append.mp hy with h | h
    · exact d.val y h
    · exact absurd (List.mem_singleton.mp h) e
section
variable {prog : Program} {w : World}
theorem dct0_is : dct0.IsDictOf (PySem.strKind prog w) [] := ⟨#[], _, ⟨rfl, rfl, rfl⟩, rfl, fun _ he => by simp at he, .nil, List.nodup_nil⟩
end
end Mine
namespace Mine
section
variable {prog : Program} {w : World} {A : Around} {E : Value → Shared → Prop} {s : Shared} {env : Env} {kx vx elt iter : Expr} {x y : Str} {px py : Pos} {ifs : List Expr} {gs : List Comprehension} {scope : Scope} {cl : List (Str × Addr)} {pos spos : Pos}
theorem ListComp_Z {Q : Value → Shared → Prop} (hclos : closureFor scope env = pure cl) (hkind : scope.kind = .function) (hnames : ∀ z ∈ scope.names, z.2 = .local → scope.names.lookup z.1 = some .local)
    (h : wpAny (model prog w) A (eval iter env) (OutZ prog w A env scope cl (.ListComp elt (⟨.Name x px, iter, ifs, 0⟩ :: gs) scope pos) (newList []) (compPost (model prog w) A E none Q) E) E s)
    (hs : ∀ x, foldedSetIterable iter env x = pure x := by intro _; rfl) : wpAny (model prog w) A (eval (.ListComp elt (⟨.Name x px, iter, ifs, 0⟩ :: gs) scope pos) env) Q E s := by
  rw [eval_ListComp]
  exact wpAny_comprehension_free (use := none) rfl hs hclos hkind hnames h
theorem DictComp_Z {Q : Value → Shared → Prop} (hclos : closureFor scope env = pure cl) (hkind : scope.kind = .function) (hnames : ∀ z ∈ scope.names, z.2 = .local → scope.names.lookup z.1 = some .local)
    (h : wpAny (model prog w) A (eval iter env) (OutZ prog w A env scope cl (.DictComp kx vx (⟨.Name x px, iter, ifs, 0⟩ :: gs) scope pos) newDict (compPost (model prog w) A E none Q) E) E s)
    (hs : ∀ x, foldedSetIterable iter env x = pure x := by intro _; rfl) : wpAny (model prog w) A (eval (.DictComp kx vx (⟨.Name x px, iter, ifs, 0⟩ :: gs) scope pos) env) Q E s := by
  rw [arm_eval_DictComp]
  exact wpAny_comprehension_free (use := none) rfl hs hclos hkind hnames h
theorem Assign_DictZ {Q : Flow → Shared → Prop} (hsw : swapsWith (.DictComp kx vx (⟨.Name x px, iter, ifs, 0⟩ :: gs) scope pos) (some (.Name y py)) spos.line env = pure true)
    (hclos : closureFor scope env = pure cl) (hkind : scope.kind = .function) (hnames : ∀ z ∈ scope.names, z.2 = .local → scope.names.lookup z.1 = some .local)
    (h : wpAny (model prog w) A (eval iter env) (OutZ prog w A env scope cl (.DictComp kx vx (⟨.Name x px, iter, ifs, 0⟩ :: gs) scope pos) newDict (compPost (model prog w) A E (some (assign (.Name y py) env)) (fun _ s' => Q .next s')) E) E s)
    (hs : ∀ x, foldedSetIterable iter env x = pure x := by intro _; rfl) : wpAny (model prog w) A (exec (.Assign [.Name y py] (.DictComp kx vx (⟨.Name x px, iter, ifs, 0⟩ :: gs) scope pos) spos) env) Q E s := by
  rw [exec_Assign_Name_used _ _ _ _ hsw]
  refine wpAny_bind (wpAny_standAt (wpAny_bind ?_))
  show wpAny _ A (do let _ ← comprehension (.DictComp kx vx (⟨.Name x px, iter, ifs, 0⟩ :: gs) scope pos) scope env _ newDict false (eval iter env) (some (assign (.Name y py) env))) _ _ s
  exact wpAny_bind (wpAny_mono (wpAny_comprehension_free (use := some (assign (.Name y py) env)) (Q := fun _ s' => Q .next s') rfl hs hclos hkind hnames h) (fun _ s' hq => wpAny_pure (wpAny_pure hq)) fun _ _ e => e)
theorem Assign_ListZ {Q : Flow → Shared → Prop} (hsw : swapsWith (.ListComp elt (⟨.Name x px, iter, ifs, 0⟩ :: gs) scope pos) (some (.Name y py)) spos.line env = pure true)
    (hclos : closureFor scope env = pure cl) (hkind : scope.kind = .function) (hnames : ∀ z ∈ scope.names, z.2 = .local → scope.names.lookup z.1 = some .local)
    (h : wpAny (model prog w) A (eval iter env) (OutZ prog w A env scope cl (.ListComp elt (⟨.Name x px, iter, ifs, 0⟩ :: gs) scope pos) (newList []) (compPost (model prog w) A E (some (assign (.Name y py) env)) (fun _ s' => Q .next s')) E) E s)
    (hs : ∀ x, foldedSetIterable iter env x = pure x := by intro _; rfl) : wpAny (model prog w) A (exec (.Assign [.Name y py] (.ListComp elt (⟨.Name x px, iter, ifs, 0⟩ :: gs) scope pos) spos) env) Q E s := by
  rw [exec_Assign_Name_used _ _ _ _ hsw]
  refine wpAny_bind (wpAny_standAt (wpAny_bind ?_))
  show wpAny _ A (do let _ ← comprehension (.ListComp elt (⟨.Name x px, iter, ifs, 0⟩ :: gs) scope pos) scope env _ (newList []) false (eval iter env) (some (assign (.Name y py) env))) _ _ s
  exact wpAny_bind (wpAny_mono (wpAny_comprehension_free (use := some (assign (.Name y py) env)) (Q := fun _ s' => Q .next s') rfl hs hclos hkind hnames h) (fun _ s' hq => wpAny_pure (wpAny_pure hq)) fun _ _ e => e)
theorem emitD_Z {D : Addr} {Q : PUnit → Shared → Prop} (h : wpAny (model prog w) A (eval kx env) (fun kv s₁ => wpAny (model prog w) A (eval vx env) (fun vv s₂ => wpAny (model prog w) A (dictSet D kv vv) (fun _ s₃ => Q ⟨⟩ s₃) E s₂) E s₁) E s) : wpAny (model prog w) A (emitD kx vx D env) Q E s := by
  unfold emitD
  exact wpAny_bind (wpAny_mono h (fun kv s₁ h₁ => wpAny_bind (wpAny_holding (wpAny_mono h₁ (fun vv s₂ h₂ => wpAny_bind (wpAny_standAt (wpAny_holding (wpAny_mono h₂ (fun _ _ h => h) fun _ _ e => e)))) fun _ _ e => e))) fun _ _ e => e)
theorem emitL_Z {acc : Value} {Q : PUnit → Shared → Prop} (h : wpAny (model prog w) A (eval elt env) (fun v s₁ => wpAny (model prog w) A (call (.builtin "list.append") [acc, v]) (fun _ s₂ => Q ⟨⟩ s₂) E s₁) E s) : wpAny (model prog w) A (emitL elt acc env) Q E s := by
  unfold emitL
  exact wpAny_bind (wpAny_mono h (fun v s₁ h₁ => wpAny_bind (wpAny_mono h₁ (fun _ s₂ h₂ => wpAny_pure h₂) fun _ _ e => e)) fun _ _ e => e)
end
section
variable {prog : Program} {w : World} {A : Around} {E : Value → Shared → Prop} {s : Shared} {h₀ : Heap} {L D : Addr} {m : Str → Option Value} {other rest : List (Addr × Obj)} {oD : Obj} {kvs : List (Str × Value)} {k : Str} {t : Tok} {v : Value}
theorem dictSet_use {Q : Unit → Shared → Prop} (F : Fr h₀ L s.heap m) (N : News h₀ L s.heap (other ++ (D, oD) :: rest)) (h1 : ∀ p ∈ other, p.1 ≠ D) (h2 : ∀ p ∈ rest, p.1 ≠ D) (hd : oD.IsDictOf (PySem.strKind prog w) kvs) (hsz : kvs.length ≤ 1000)
    (h : ∀ h' o', Fr h₀ L h' m → News h₀ L h' (other ++ (D, o') :: rest) → o'.IsDictOf (PySem.strKind prog w) (stored kvs k v) → Q () { s with heap := h', toks := s.toks + 1 }) : wpAny (model prog w) A (dictSet D (.str k t) v) Q E s := by
  have hm := N (D, oD) (List.mem_append_right _ (.head _))
  refine wpAny_dictSet_pairs (hsz := Nat.le_trans hsz (by rw [sizeLine_eq]; exact Nat.le_of_ble_eq_true rfl)) (strKind_is prog w k t) (Heap.dictOf_iff.mpr ⟨oD, hm.1, hd⟩) fun h' hmm hs => ?_
  obtain ⟨o', ho', hd'⟩ := Heap.dictOf_iff.mp hmm
  exact h h' o' (F.change hs hm.2.1 hm.2.2) (N.setIn h1 h2 hs ho') hd'
theorem setItem_use {Q : Unit → Shared → Prop} (F : Fr h₀ L s.heap m) (N : News h₀ L s.heap (other ++ (D, oD) :: rest)) (h1 : ∀ p ∈ other, p.1 ≠ D) (h2 : ∀ p ∈ rest, p.1 ≠ D) (hd : oD.IsDictOf (PySem.strKind prog w) kvs) (hsz : kvs.length ≤ 1000)
    (h : ∀ h' o', Fr h₀ L h' m → News h₀ L h' (other ++ (D, o') :: rest) → o'.IsDictOf (PySem.strKind prog w) (stored kvs k v) → Q () { s with heap := h', toks := s.toks + 1 }) : wpAny (model prog w) A (setItem (.ref D) (.str k t) v) Q E s := by
  have hm := N (D, oD) (List.mem_append_right _ (.head _))
  refine wpAny_setItem_pairs (hsz := Nat.le_trans hsz (by rw [sizeLine_eq]; exact Nat.le_of_ble_eq_true rfl)) (strKind_is prog w k t) (Heap.dictOf_iff.mpr ⟨oD, hm.1, hd⟩) fun h' hmm hs => ?_
  obtain ⟨o', ho', hd'⟩ := Heap.dictOf_iff.mp hmm
  exact h h' o' (F.change hs hm.2.1 hm.2.2) (N.setIn h1 h2 hs ho') hd'
theorem dict_cls (hd : oD.IsDictOf (PySem.strKind prog w) kvs) : oD.cls = .type "dict" := let ⟨_, _, h, _⟩ := hd; h.1
/-- two entries of other classes lie at other places -/
theorem cls_off {h : Heap} {all : List (Addr × Obj)} {a b : Addr} {o o' : Obj} (N : News h₀ L h all) (h1 : (a, o) ∈ all) (h2 : (b, o') ∈ all) (hc : o.cls ≠ o'.cls) : a ≠ b := fun e => by
  have a1 := (N _ h1).1
  have a2 := (N _ h2).1
  simp only [e] at a1 a2
  rw [a1] at a2
  cases a2
  exact hc rfl
theorem ty_ne {a b : String} (h : a ≠ b) : Value.type a ≠ Value.type b := fun e => h (Value.type.inj e)
end
end Mine
namespace Mine
/-- a dict of ints, its keys told by an index -/
structure DV {ι : Type} (key : ι → Str) (idx : List ι) (kvs : List (Str × Value)) (x : ι → Int) : Prop where
  keys : kvs.map (·.1) = idx.map key
  val : ∀ i ∈ idx, ∃ t, valueAt kvs (key i) = some (.int (x i) t)
section
variable {ι : Type} {key : ι → Str} {idx : List ι} {kvs : List (Str × Value)} {x x' : ι → Int}
theorem DV.nil : DV key [] [] x := ⟨rfl, fun _ h => nomatch h⟩
theorem DV.congr (d : DV key idx kvs x) (h : ∀ i ∈ idx, x i = x' i) : DV key idx kvs x' := ⟨d.keys, fun i hi => by rw [← h i hi]; exact d.val i hi⟩
theorem DV.len (d : DV key idx kvs x) : kvs.length = idx.length := by have := congrArg List.length d.keys; simpa using this
theorem DV.put (d : DV key idx kvs x) {i : ι} (hi : i ∈ idx) (inj : ∀ j ∈ idx, key j = key i → j = i) (v : Int) (t : Tok) (h1 : x' i = v) (h2 : ∀ j ∈ idx, j ≠ i → x' j = x j) : DV key idx (stored kvs (key i) (.int v t)) x' := by
  refine ⟨(stored_old _ (d.keys ▸ List.mem_map_of_mem hi)).trans d.keys, fun j hj => ?_⟩
  rw [valueAt_stored]
  by_cases e : key j = key i
  · exact ⟨t, by rw [if_pos e, inj j hj e, h1]⟩
  · rw [if_neg e, h2 j hj fun q => e (q ▸ rfl)]; exact d.val j hj
theorem DV.add (d : DV key idx kvs x) {i : ι} (hi : key i ∉ idx.map key) (t : Tok) : DV key (idx ++ [i]) (stored kvs (key i) (.int (x i) t)) x := by
  refine ⟨(stored_new _ (d.keys ▸ hi)).trans (by rw [d.keys, List.map_append]; rfl), fun j hj => ?_⟩
  rw [valueAt_stored]
  by_cases e : key j = key i
  · rw [if_pos e]
    rcases List.mem_append.mp hj with h | h
    · exact absurd (e ▸ List.mem_map_of_mem h) hi
    · exact ⟨t, by rw [List.mem_singleton.mp h]⟩
  · rw [if_neg e]
    rcases List.mem_append.mp hj with h | h
    · exact d.val j h
    · exact absurd (by rw [List.mem_singleton.mp h]) e
end
end Mine
namespace Mine
section
variable {prog : Program} {w : World} {A : Around} {E : Value → Shared → Prop} {s : Shared} {env : Env} {h₀ : Heap} {elts : List Expr} {k : Nat} {tp pos : Pos} {iter : Expr} {body : List Stmt} {Q : Flow → Shared → Prop}
/-- a loop over a list of tuples, each taken apart -/
noncomputable def LpT (prog : Program) (w : World) (A : Around) (b : Heap) (env : Env) (target : Expr) (body : List Stmt) (Q : Flow → Shared → Prop) (E : Value → Shared → Prop) (xv : Value) (s₁ : Shared) : Prop := wpAny (model prog w) A (pyIter xv) (fun it s₂ => LoopAtT prog w A b env target body Q E it s₂) E s₁
theorem For_T {m : Str → Option Value} (_F : Fr h₀ env.locals s.heap m)
    (h : wpAny (model prog w) A (eval iter env) (fun xv s₁ => LpT prog w A h₀ env (.Tuple elts k tp) body Q E xv s₁) E s)
    (hs : ∀ x, foldedSetIterable iter env x = pure x := by intro _; rfl) (hE : PassesOwn (model prog w) A env E := by passes_own) :
    wpAny (model prog w) A (exec (.For (.Tuple elts k tp) iter body [] pos) env) Q E s := For_invT h₀ h hs
noncomputable def TurnT (h₀ : Heap) (L : Addr) (I : Addr) (own : List (Addr × Obj)) (J : (Str → Option Value) → List (Addr × Obj) → Prop) (s₁ : Shared) (f : Flow) (s₂ : Shared) : Prop := LoopStepU h₀ L [I] own J s₁ f s₂
theorem TurnT.next {L I : Addr} {own news' : List (Addr × Obj)} {J : (Str → Option Value) → List (Addr × Obj) → Prop} {s₁ : Shared} {h' : Heap} {tk : Nat} {m' : Str → Option Value} (F : Fr h₀ L h' m') (N : News h₀ L h' (own ++ news')) (hI : ∀ p ∈ news', p.1 ≠ I) (hj : J m' news') :
    TurnT h₀ L I own J s₁ .next { s₁ with heap := h', toks := tk } := LoopStepU.intro F N (fun p hp q => hI p hp (List.mem_singleton.mp q)) hj
theorem loop_tup {ax : Addr} {items : Array Value} {m₀ : Str → Option Value} {news : List (Addr × Obj)} (J : Nat → (Str → Option Value) → List (Addr × Obj) → Prop)
    (hh : A.handled = none) (hl : s.heap.IsList ax items) (hax : ax ≠ env.locals) (F : Fr h₀ env.locals s.heap m₀) (N : News h₀ env.locals s.heap news) (hj : J 0 m₀ news)
    (turn : ∀ I i v m₁ news₁ (s₁ : Shared) own, items[i]? = some v → J i m₁ news₁ → (∀ p ∈ news₁, p.1 ≠ I) → (∀ p ∈ news, p.1 < I) → (∀ p ∈ own, p.1 = I ∨ p.1 = ax) → (∃ oI, (I, oI) ∈ own ∧ IterZ oI) → Fr h₀ env.locals s₁.heap m₁ → News h₀ env.locals s₁.heap (own ++ news₁) →
      wpAny (model prog w) A (assign (.Tuple elts k tp) env v) (fun _ s₃ => wpAny (model prog w) A (execs body env) (TurnT h₀ env.locals I own (J (i + 1)) s₁) E s₃) E s₁)
    (done : ∀ m₁ news₁ h tk, J items.size m₁ news₁ → Fr h₀ env.locals h m₁ → News h₀ env.locals h news₁ → Q .next { s with heap := h, toks := tk }) :
    LpT prog w A h₀ env (.Tuple elts k tp) body Q E (.ref ax) s := by
  have hlt : ∀ p ∈ news, p.1 < s.heap.objs.size := fun p hp => Heap.lt_size (N p hp).1
  have hal : ax < s.heap.objs.size := by obtain ⟨_, e, _⟩ := hl; exact Heap.lt_size e
  refine wpAny_pyIter_list hl ?_
  generalize hI : s.heap.objs.size = I at *
  have W := Walks.list (prog := prog) (w := w) (A := A) hh I ax (Nat.ne_of_lt hal) items
  have hI₀ : h₀.get? I = none := by
    cases e : h₀.get? I with
    | none => rfl
    | some o => exact absurd (Heap.lt_size (F.keep _ _ e)) (hI ▸ Nat.lt_irrefl _)
  refine ⟨I, [I, ax], [I], items.size, (fun i v => items[i]? = some v), (fun i h => h.IsListIter I ax i ∧ h.IsList ax items), m₀, news, J, rfl, W, ?_, fun b hb => List.mem_singleton.mp hb ▸ hI₀, fun p hp hm => absurd (List.mem_singleton.mp hm) (Nat.ne_of_lt (hlt p hp)), ⟨⟨_, by subst hI; exact Heap.get?_push_size _ rfl, rfl, rfl⟩, hl.push _⟩, F.push _, fun p hp => ⟨Heap.get?_push_of_some _ (N p hp).1, (N p hp).2⟩, ?_, hj, ?_, ?_⟩
  · intro hm
    rcases List.mem_cons.mp hm with e | hm
    · exact absurd F.ns.lt (by rw [hI, e]; exact Nat.lt_irrefl _)
    · exact hax (List.mem_singleton.mp hm).symm
  · intro i s' v Q' st q
    cases v with
    | ref T => exact wpAny_letOwnedTupleGo_listiter st.1 q
    | _ => exact wpAny_of_eq (by rfl) q
  · rintro i v m₁ news₁ s₁ own hi hP hJ hoff hown hget hall hst₁ F₁ N₁
    obtain ⟨⟨o, ho, hc, hr⟩, _⟩ := hst₁
    refine turn I i v m₁ news₁ s₁ own hP hJ (fun p hp e => hoff p hp (List.mem_singleton.mpr e)) hlt (fun p hp => (List.mem_cons.mp (hown p hp)).imp id List.mem_singleton.mp) ⟨o, hall I (.head _) hI₀ o ho, ?_⟩ F₁ N₁
    exact ⟨by rw [hc]; exact fun e => absurd (Value.type.inj e) (by decide), by rw [hc]; exact fun e => absurd (Value.type.inj e) (by decide), by rw [hc]; exact fun e => absurd (Value.type.inj e) (by decide)⟩
  · intro h' tk m' news' F' N' hoff hJ
    exact done m' news' h' tk hJ F' N'
end
end Mine
namespace Mine
section
variable {prog : Program} {w : World} {A : Around}
/-! a comprehension whose target is a cell (a comprehension within reads it) -/
noncomputable def cell0 : Obj := { cls := .type "cell", data := .cell none }
noncomputable def cdict : Obj := { cls := .type "dict", data := .dict #[] }
theorem newComp1 {scope : Scope} {globals : Addr} {cl : List (Str × Addr)} {qual : Str} {outer : Env} {x : Str} {E : Value → Shared → Prop} {s : Shared} {Q : Env → Shared → Prop}
    (hcf : ∀ n, cellsFrom n scope.names cl = (x, n) :: cl) (hpc : ∀ h, pushCells h scope.names = h.push cell0)
    (hQ : Q { scope, locals := s.heap.objs.size, globals, cells := (x, s.heap.objs.size + 1) :: cl, qual, func := none, code := outer.code, frame := outer.frame, builtins := outer.builtins } { s with heap := (s.heap.push cdict).push cell0 }) :
    wpAny (model prog w) A (newFunctionEnv scope globals cl [] qual none .none (some outer)) Q E s := by
  simp only [newFunctionEnv, Option.isSome_some, if_true]
  refine wpAny_bind (wpAny_alloc ?_)
  refine wpAny_bind (wpAny_layCells _ (fun name kind cells => by cases hkc : kind == NameKind.cell <;> simp [hkc]) _ _ _ _ ?_)
  rw [hcf, hpc]
  rw [show ({ s with heap := s.heap.push { cls := .type "dict", data := .dict #[] } } : Shared).heap.objs.size = s.heap.objs.size + 1 from Heap.size_push ..]
  exact wpAny_bind (wpAny_pure (wpAny_pure hQ))
noncomputable def TurnK (h₀ : Heap) (L : Addr) (m : Str → Option Value) (I C K : Addr) (own : List (Addr × Obj)) (J : List (Addr × Obj) → Prop) (s₁ s₂ : Shared) : Prop :=
  ∃ h' tk m' oC oK v' news', s₂ = { s₁ with heap := h', toks := tk } ∧ Fr h₀ L h' m ∧ LCg.NsObj oC m' ∧ oK.data = .cell v' ∧ News h₀ L h' (own ++ (K, oK) :: (C, oC) :: news') ∧ (∀ p ∈ news', p.1 ≠ I ∧ p.1 ≠ C ∧ p.1 ≠ K) ∧ J news'
theorem clc_walk {e : Expr} {depth : Nat} {I : Addr} {acc : Value} {env : Env} {x : Str} {px : Pos} {T : Sem PUnit} {B : List Addr} {n : Nat} {P : Nat → Value → Prop} {St : Nat → Heap → Prop} {C K L : Addr} {h₀ : Heap} {m : Str → Option Value} {R : Result → Shared → Prop} {s : Shared} {m₀ : Str → Option Value} {v₀ : Option Value} {news : List (Addr × Obj)}
    (LT : LoopTree prog w A e depth (.ref I) acc env x px T) (W : Walks prog w A I (I :: B) [I] n P St) (hC : env.locals = C) (hx : env.kindOf x = some .cell) (hk : env.scope.kind = .function) (hK : env.cells.lookup x = some K)
    (J : Nat → List (Addr × Obj) → Prop) (hIL : L ≠ I) (hCI : C ≠ I) (hKI : K ≠ I) (hKC : K ≠ C) (hKL : K ≠ L) (hBL : L ∉ B) (hBC : C ∉ B) (hBK : K ∉ B) (hI₀ : h₀.get? I = none) (hCL : C ≠ L) (hC₀ : h₀.get? C = none) (hK₀ : h₀.get? K = none)
    (hIo : ∀ i h, St i h → ∃ o, h.get? I = some o ∧ IterZ o) (hst : St 0 s.heap) (F : Fr h₀ L s.heap m) (hns : s.heap.Ns C m₀) (hcl : s.heap.IsCell K v₀) (N : News h₀ L s.heap news) (off : ∀ p ∈ news, p.1 ≠ I ∧ p.1 ≠ C ∧ p.1 ≠ K) (hj : J 0 news)
    (turn : ∀ i v m₁ oC oK own news₁ h tk (E' : Value → Shared → Prop), i < n → P i v → J i news₁ → (∀ p ∈ news₁, p.1 ≠ I ∧ p.1 ≠ C ∧ p.1 ≠ K) → (∀ p ∈ own, p.1 = I ∨ p.1 ∈ B) → (∃ oI, (I, oI) ∈ own ∧ IterZ oI) → LCg.NsObj oC m₁ → oK.data = .cell (some v) → Fr h₀ L h m → News h₀ L h (own ++ (K, oK) :: (C, oC) :: news₁) →
      wpAny (model prog w) A T (fun _ s' => TurnK h₀ L m I C K own (J (i + 1)) { s with heap := h, toks := tk } s') E' { s with heap := h, toks := tk })
    (done : ∀ m₁ news₁ h tk, J n news₁ → (∀ p ∈ news₁, p.1 ≠ I ∧ p.1 ≠ C ∧ p.1 ≠ K) → Fr h₀ L h m → h.Ns C m₁ → News h₀ L h news₁ → R (.ok .next) { s with heap := h, toks := tk }) :
    codeAny (model prog w) A (.compLoop e depth (.ref I) acc env) R s := by
  subst hC
  refine LT.run (fun k s' => ∃ h' tk i m₁ v₁ news₁, s' = { s with heap := h', toks := tk } ∧ i ≤ n ∧ k = n + 1 - i ∧ St i h' ∧ Fr h₀ L h' m ∧ h'.Ns env.locals m₁ ∧ h'.IsCell K v₁ ∧ News h₀ L h' news₁ ∧ (∀ p ∈ news₁, p.1 ≠ I ∧ p.1 ≠ env.locals ∧ p.1 ≠ K) ∧ J i news₁) R ?_ (n + 1) s
    ⟨s.heap, s.toks, 0, m₀, v₀, news, rfl, Nat.zero_le _, rfl, hst, F, hns, hcl, N, off, hj⟩
  rintro k s' ⟨h', tk, i, m₂, v₂, news₂, rfl, hi, rfl, hst', F', hn', hc', N', off', hj'⟩
  by_cases hlt : i < n
  · refine W.item i _ _ _ hlt hst' fun v h₂ tk₂ hPv hst₂ hk₂ => ?_
    have hk₂' : ∀ b o, b ≠ I → h'.get? b = some o → h₂.get? b = some o := fun b o hb e => hk₂ b o (by simpa using hb) e
    have hc₂ : h₂.IsCell K v₂ := let ⟨o, e, d⟩ := hc'; ⟨o, hk₂' _ _ hKI e, d⟩
    refine wpAny_assign_Name (wpAny_storeName_cell hk hx hK hc₂ fun h₃ hc₃ hs₃ => ?_)
    have hst₃ : St (i + 1) h₃ := W.frame _ _ _ hst₂ fun b hb o e => hs₃.extBut b o (fun q => by
      rcases List.mem_cons.mp hb with rfl | hb
      · exact hKI q.symm
      · exact hBK (q ▸ hb)) e
    obtain ⟨oI, heI, hIt⟩ := hIo _ _ hst₃
    have hn₃ : h₃.Ns env.locals m₂ := (hn'.at' fun o e => hk₂' _ o hCI e).sameBut hs₃ (Ne.symm hKC)
    obtain ⟨oC, heC, hoC⟩ := LCg.ns_obj hn₃
    obtain ⟨oK, heK, hoK⟩ := hc₃
    have F₃ : Fr h₀ L h₃ m := (LCg.fr_but F' hk₂ hIL hI₀).change hs₃ hKL hK₀
    have N₃ : News h₀ L h₃ news₂ := fun p hp => ⟨hs₃.extBut _ _ (off' p hp).2.2 (hk₂' _ _ (off' p hp).1 (N' p hp).1), (N' p hp).2⟩
    obtain ⟨own, ho1, ho2, ho3⟩ : ∃ own : List (Addr × Obj), (∀ p ∈ own, p.1 = I ∨ p.1 ∈ B) ∧ (∀ p ∈ own, h₃.get? p.1 = some p.2 ∧ p.1 ≠ L ∧ h₀.get? p.1 = none) ∧ (∀ b ∈ I :: B, ∀ o, h₀.get? b = none → h₃.get? b = some o → (b, o) ∈ own) := by
      refine ⟨(I :: B).filterMap fun b => match h₀.get? b, h₃.get? b with | none, some o => some (b, o) | _, _ => none, fun p hp => ?_, fun p hp => ?_, fun b hb o e1 e2 => ?_⟩
      · obtain ⟨b, hb, e⟩ := List.mem_filterMap.mp hp
        split at e
        · cases e; exact List.mem_cons.mp hb
        · cases e
      · obtain ⟨b, hb, e⟩ := List.mem_filterMap.mp hp
        split at e
        · rename_i e1 e2
          cases e
          refine ⟨e2, ?_, e1⟩
          rcases List.mem_cons.mp hb with rfl | hb
          · exact Ne.symm hIL
          · exact fun q => hBL (by have q' : b = L := q; rw [← q']; exact hb)
        · cases e
      · exact List.mem_filterMap.mpr ⟨b, hb, by rw [e1, e2]⟩
    have NA : News h₀ L h₃ (own ++ (K, oK) :: (env.locals, oC) :: news₂) := fun p hp => by
      rcases List.mem_append.mp hp with hp | hp
      · exact ho2 p hp
      · rcases List.mem_cons.mp hp with rfl | hp
        · exact ⟨heK, hKL, hK₀⟩
        · rcases List.mem_cons.mp hp with rfl | hp
          · exact ⟨heC, hCL, hC₀⟩
          · exact N₃ p hp
    refine wpAny_mono (turn i v m₂ oC oK own news₂ h₃ _ _ hlt hPv hj' off' ho1 ⟨oI, ho3 I (.head _) oI hI₀ heI, hIt⟩ hoC hoK F₃ NA) (fun _ s₄ h₄ => ?_) fun _ _ e => e
    obtain ⟨h₄, tk₄, m₄, oC₄, oK₄, v₄, news₄, rfl, F₄, hoC₄, hoK₄, N₄, off₄, J₄⟩ := h₄
    have zC := (N₄ (env.locals, oC₄) (List.mem_append_right _ (.tail _ (.head _)))).1
    have zK := (N₄ (K, oK₄) (List.mem_append_right _ (.head _))).1
    refine ⟨n + 1 - (i + 1), by omega, h₄, tk₄, i + 1, m₄, v₄, news₄, rfl, hlt, rfl, W.frame _ _ _ hst₃ fun b hb o e => ?_, F₄, hoC₄.ns zC, ⟨oK₄, zK, hoK₄⟩, fun p hp => N₄ p (List.mem_append_right _ (.tail _ (.tail _ hp))), off₄, J₄⟩
    cases q : h₀.get? b with
    | none => exact (N₄ _ (List.mem_append_left _ (ho3 b hb o q e))).1
    | some o' =>
      have := F₃.keep _ _ q
      rw [e] at this; cases this
      exact F₄.keep _ _ q
  · obtain rfl : i = n := Nat.le_antisymm hi (Nat.not_lt.mp hlt)
    refine W.done _ _ _ hst' fun h₂ tk₂ hk₂ => ?_
    have hk₂' : ∀ b o, b ≠ I → h'.get? b = some o → h₂.get? b = some o := fun b o hb e => hk₂ b o (by simpa using hb) e
    exact done m₂ news₂ h₂ tk₂ hj' off' (LCg.fr_but F' hk₂ hIL hI₀) (hn'.at' fun o e => hk₂' _ o hCI e) fun p hp => ⟨hk₂' _ _ (off' p hp).1 (N' p hp).1, (N' p hp).2⟩
theorem outC_intro {env : Env} {scope : Scope} {cl : List (Str × Addr)} {e : Expr} {newAcc : Sem Value} {oD : Obj} {RR : Value → Addr → Result → Shared → Prop} {E : Value → Shared → Prop} {xv : Value} {s₁ : Shared} {x : Str} {px : Pos} {T : Addr → Addr → Addr → Sem PUnit}
    {n : Nat} {P : Nat → Value → Prop} {B : List Addr} {h₀ : Heap} {L : Addr} {m : Str → Option Value} {news : List (Addr × Obj)} (J : Addr → Nat → List (Addr × Obj) → Prop)
    (hnew : ∀ (s : Shared) (Q E' : Value → Shared → Prop), Q (.ref s.heap.objs.size) { s with heap := s.heap.push oD } → wpAny (model prog w) A newAcc Q E' s) (hfr : oD.isFreed = false)
    (hcf : ∀ n, cellsFrom n scope.names cl = (x, n) :: cl) (hpc : ∀ h, pushCells h scope.names = h.push cell0)
    (LTr : ∀ I D C K, LoopTree prog w A e 0 (.ref I) (.ref D) (compEnvC scope ((x, K) :: cl) C env) x px (T D C K))
    (ST : ∀ I D C K R s, (∀ (Q E : Value → Shared → Prop), Q (.ref I) s → wpAny (model prog w) A (pyIter (.ref I)) Q E s) → codeAny (model prog w) A (.compLoop e 0 (.ref I) (.ref D) (compEnvC scope ((x, K) :: cl) C env)) R s → codeAny (model prog w) A (.compStart e 0 (.ref I) (.ref D) (compEnvC scope ((x, K) :: cl) C env)) R s)
    (hkind : (relabel scope env).kind = .function) (hx : ∀ C K, (compEnvC scope ((x, K) :: cl) C env).kindOf x = some .cell)
    (S : SrcZ prog w A n P B xv s₁) (F : Fr h₀ L s₁.heap m) (N : News h₀ L s₁.heap news) (hBL : L ∉ B)
    (hj : ∀ D, J D 0 ((D, oD) :: news))
    (turn : ∀ D C K I i v m₁ oC oK own news₁ h tk (E' : Value → Shared → Prop), i < n → P i v → J D i news₁ → (∀ p ∈ news, p.1 < D ∧ p.1 < I) → I < D ∧ D < C ∧ C < K → (∀ p ∈ news₁, p.1 ≠ I ∧ p.1 ≠ C ∧ p.1 ≠ K) → (∀ p ∈ own, p.1 = I ∨ p.1 ∈ B) → (∃ oI, (I, oI) ∈ own ∧ IterZ oI) → LCg.NsObj oC m₁ → oK.data = .cell (some v) → Fr h₀ L h m → News h₀ L h (own ++ (K, oK) :: (C, oC) :: news₁) →
      wpAny (model prog w) A (T D C K) (fun _ s' => TurnK h₀ L m I C K own (J D (i + 1)) { s₁ with heap := h, toks := tk } s') E' { s₁ with heap := h, toks := tk })
    (done : ∀ D C m₁ news₁ h tk, J D n news₁ → (∀ p ∈ news, p.1 < D) → (∀ p ∈ news₁, p.1 ≠ C) → C ≠ L → h₀.get? C = none → Fr h₀ L h m → h.Ns C m₁ → News h₀ L h news₁ → RR (.ref D) C (.ok .next) { s₁ with heap := h, toks := tk }) :
    OutZ prog w A env scope cl e newAcc RR E xv s₁ := by
  obtain ⟨hB, oI, St, hfI, W, hst, hIo, hit⟩ := S
  refine hit _ _ (hnew _ _ _ (newComp1 hcf hpc ?_))
  dsimp only
  generalize hI : s₁.heap.objs.size = I at *
  have hD : (s₁.heap.push oI).objs.size = I + 1 := by rw [Heap.size_push, hI]
  generalize hDD : (s₁.heap.push oI).objs.size = D at *
  have hC : ((s₁.heap.push oI).push oD).objs.size = D + 1 := by rw [Heap.size_push, hDD]
  generalize hCC : ((s₁.heap.push oI).push oD).objs.size = C at *
  have hKK : (((s₁.heap.push oI).push oD).push cdict).objs.size = C + 1 := by rw [Heap.size_push, hCC]
  have hID : @LT.lt Nat _ I D := by omega
  have hDC : @LT.lt Nat _ D C := by omega
  have hIC : @LT.lt Nat _ I C := Nat.lt_trans hID hDC
  have nlt : ∀ {a b : Nat}, a < b → a ≠ b := fun h => Nat.ne_of_lt h
  generalize hh₁ : (((s₁.heap.push oI).push oD).push cdict).push cell0 = h₁
  have old : ∀ b o, s₁.heap.get? b = some o → h₁.get? b = some o := fun b o e => hh₁ ▸ Heap.get?_push_of_some _ (Heap.get?_push_of_some _ (Heap.get?_push_of_some _ (Heap.get?_push_of_some _ e)))
  have oldI : ∀ b o, (s₁.heap.push oI).get? b = some o → h₁.get? b = some o := fun b o e => hh₁ ▸ Heap.get?_push_of_some _ (Heap.get?_push_of_some _ (Heap.get?_push_of_some _ e))
  have hgD : h₁.get? D = some oD := hh₁ ▸ Heap.get?_push_of_some _ (Heap.get?_push_of_some _ (hDD ▸ Heap.get?_push_size _ hfr))
  have hns₁ : h₁.Ns C (fun _ => none) := by
    have q := Heap.Ns.new ((s₁.heap.push oI).push oD) (.type "dict")
    rw [hCC] at q
    exact q.keeps fun b o e => hh₁ ▸ Heap.get?_push_of_some _ e
  have hcell : h₁.IsCell (C + 1) none := ⟨cell0, hh₁ ▸ hKK ▸ Heap.get?_push_size _ rfl, rfl⟩
  have fresh₀ : ∀ a : Nat, I ≤ a → h₀.get? a = none := fun a ha => by
    cases e : h₀.get? a with
    | none => rfl
    | some o' =>
      have q : @LT.lt Nat _ a I := hI ▸ Heap.lt_size (F.keep a o' e)
      exact absurd q (Nat.not_lt.mpr ha)
  have hLlt : @LT.lt Nat _ L I := hI ▸ F.ns.lt
  have hNlt : ∀ p ∈ news, @LT.lt Nat _ p.1 I := fun p hp => hI ▸ Heap.lt_size (N p hp).1
  have hBC : C ∉ B := fun h => absurd (Nat.lt_trans (hB _ h) hIC) (Nat.lt_irrefl _)
  have hBK : C + 1 ∉ B := fun h => absurd (Nat.lt_trans (hB _ h) (Nat.lt_succ_of_lt hIC)) (Nat.lt_irrefl _)
  have hst₁ : St 0 h₁ := W.frame _ _ _ hst fun b hb o e => oldI b o e
  have hLI : L ≠ I := nlt hLlt
  have hCI : C ≠ I := (nlt hIC).symm
  have hCL : C ≠ L := (nlt (Nat.lt_trans hLlt hIC)).symm
  refine ST _ _ _ _ _ _ (fun Q E q => W.self 0 _ _ _ hst₁ q) ?_
  refine clc_walk (s := { s₁ with heap := h₁, toks := _ }) (LTr I D C (C + 1)) W (C := C) (K := C + 1) rfl (hx _ _) hkind (by simp [compEnvC]) (J D) hLI hCI (nlt (Nat.lt_succ_of_lt hIC)).symm (Nat.succ_ne_self C) (nlt (Nat.lt_trans hLlt (Nat.lt_succ_of_lt hIC))).symm hBL hBC hBK (fresh₀ _ (Nat.le_refl _)) hCL (fresh₀ _ (Nat.le_of_lt hIC)) (fresh₀ _ (Nat.le_of_lt (Nat.lt_succ_of_lt hIC))) hIo hst₁ (F.keeps old) hns₁ hcell
    (news := (D, oD) :: news) (fun p hp => ?_) (fun p hp => ?_) (hj D) ?_ ?_
  · rcases List.mem_cons.mp hp with rfl | hp
    · exact ⟨hgD, (nlt (Nat.lt_trans hLlt hID)).symm, fresh₀ _ (Nat.le_of_lt hID)⟩
    · exact ⟨old _ _ (N p hp).1, (N p hp).2⟩
  · rcases List.mem_cons.mp hp with rfl | hp
    · exact ⟨(nlt hID).symm, nlt hDC, nlt (Nat.lt_succ_of_lt hDC)⟩
    · exact ⟨nlt (hNlt p hp), nlt (Nat.lt_trans (hNlt p hp) hIC), nlt (Nat.lt_trans (hNlt p hp) (Nat.lt_succ_of_lt hIC))⟩
  · intro i v m₁ oC oK own news₁ h tk E' hi hP hj' off hown hIm hoC hoK F' N'
    exact turn D C (C + 1) I i v m₁ oC oK own news₁ h tk E' hi hP hj' (fun p hp => ⟨Nat.lt_trans (hNlt p hp) hID, hNlt p hp⟩) ⟨hID, hDC, Nat.lt_succ_self C⟩ off hown hIm hoC hoK F' N'
  · intro m₁ news₁ h tk hj' off F' hn' N'
    exact done D C m₁ news₁ h tk hj' (fun p hp => Nat.lt_trans (hNlt p hp) hID) (fun p hp => (off p hp).2.1) hCL (fresh₀ _ (Nat.le_of_lt hIC)) F' hn' N'
end
end Mine
namespace Mine
section
variable {prog : Program} {w : World} {A : Around}
/-! a clause with one test -/
noncomputable def condT (c : Expr) (env : Env) (T : Sem PUnit) : Sem PUnit := isTrue c env (eval c env) >>= fun ok => if ok = true then T else pure ⟨⟩
theorem condT_Z {c : Expr} {env : Env} {T : Sem PUnit} {Q : PUnit → Shared → Prop} {E : Value → Shared → Prop} {s : Shared} (h : wpAny (model prog w) A (isTrue c env (eval c env)) (fun ok s₁ => if ok = true then wpAny (model prog w) A T Q E s₁ else Q ⟨⟩ s₁) E s) : wpAny (model prog w) A (condT c env T) Q E s := by
  refine wpAny_bind (wpAny_mono h (fun ok s₁ h₁ => ?_) fun _ _ e => e)
  cases ok with
  | true => exact h₁
  | false => exact wpAny_pure h₁
theorem lt_listT {elt iter test : Expr} {x : Str} {px : Pos} {scope : Scope} {pos : Pos} {it acc : Value} {env : Env} : LoopTree prog w A (.ListComp elt [⟨.Name x px, iter, [test], 0⟩] scope pos) 0 it acc env x px (condT test env (emitL elt acc env)) :=
  loopTree_of (p := iter.pos) rfl rfl rfl (by
    let ag := again (.compLoop (.ListComp elt [⟨.Name x px, iter, [test], 0⟩] scope pos) 0 it acc env)
    show (standAt iter.pos >>= fun _ => pyNext it >>= fun r => match r with
      | none => pure (.done .next)
      | some v => letOwnedTupleGo (.Name x px) it v >>= fun _ => assign (.Name x px) env v >>= fun _ =>
          (forIn [test] true fun c s => if s = true then (isTrue c env (eval c env) >>= fun ok => pure (ForInStep.yield ok)) else pure (ForInStep.yield s)) >>= fun s => if s = true then (emitL elt acc env >>= fun _ => ag) else ag) = _
    refine congrArg (fun f => standAt iter.pos >>= f) (funext fun _ => congrArg (fun f => pyNext it >>= f) (funext fun r => ?_))
    cases r with
    | none => rfl
    | some v =>
      refine congrArg (fun f => letOwnedTupleGo (.Name x px) it v >>= f) (funext fun _ => congrArg (fun f => assign (.Name x px) env v >>= f) (funext fun _ => ?_))
      unfold condT
      simp only [List.forIn_cons, List.forIn_nil, bind_assoc, pure_bind, if_true]
      refine congrArg (fun f => isTrue test env (eval test env) >>= f) (funext fun ok => ?_)
      cases ok <;> rfl)
end
end Mine
namespace Mine
/-! the plain law of 01: gates that open -/
inductive Reach (n : Nat) (bs : List (Nat × Nat × Nat)) : (Nat → Nat) → Prop
  | start : Reach n bs (fun _ => 0)
  | fire {x : Nat → Nat} {g : Nat} : Reach n bs x → g < n → x g < 3 → (∀ b ∈ bs, b.2.1 = g → x g < b.2.2 + x b.1) → Reach n bs (fun i => if i = g then x i + 1 else x i)
noncomputable def far0 (bs : List (Nat × Nat × Nat)) (s t : Nat) : Int := match bs.find? (fun b => decide (b.1 = s ∧ b.2.1 = t)) with | some b => (b.2.2 : Int) | none => 99
noncomputable def fstep (k : Nat) (g : Nat → Nat → Int) : Nat → Nat → Int := fun s t => if g s k + g k t < g s t then g s k + g k t else g s t
noncomputable def fw (g : Nat → Nat → Int) : Nat → Nat → Nat → Int
  | 0 => g
  | k + 1 => fstep k (fw g k)
structure BsOK (n : Nat) (bs : List (Nat × Nat × Nat)) : Prop where
  s : ∀ b ∈ bs, b.1 < n ∧ b.2.1 < n ∧ b.1 ≠ b.2.1
  nd : (bs.map fun b => (b.1, b.2.1)).Nodup
theorem far0_at {bs : List (Nat × Nat × Nat)} (h : (bs.map fun b => (b.1, b.2.1)).Nodup) {b : Nat × Nat × Nat} (hb : b ∈ bs) : far0 bs b.1 b.2.1 = (b.2.2 : Int) := by
  induction bs with
  | nil => cases hb
  | cons a r ih =>
    rw [List.map_cons, List.nodup_cons] at h
    unfold far0
    rw [List.find?_cons]
    rcases List.mem_cons.mp hb with rfl | hb
    · simp
    · have : ¬ (a.1 = b.1 ∧ a.2.1 = b.2.1) := fun e => h.1 (List.mem_map.mpr ⟨b, hb, by rw [e.1, e.2]⟩)
      rw [decide_eq_false this]
      exact ih h.2 hb
theorem far0_cases (bs : List (Nat × Nat × Nat)) (s t : Nat) : far0 bs s t = 99 ∨ ∃ c : Nat, (s, t, c) ∈ bs ∧ far0 bs s t = (c : Int) := by
  unfold far0
  cases h : bs.find? (fun b => decide (b.1 = s ∧ b.2.1 = t)) with
  | none => exact .inl rfl
  | some b =>
    have h1 := List.find?_some h
    have h2 := List.mem_of_find?_eq_some h
    simp at h1
    obtain ⟨b1, b2, b3⟩ := b
    obtain ⟨rfl, rfl⟩ := h1
    exact .inr ⟨b3, h2, rfl⟩
theorem far0_nn (bs : List (Nat × Nat × Nat)) (s t : Nat) : 0 ≤ far0 bs s t := by
  rcases far0_cases bs s t with e | ⟨c, _, e⟩ <;> omega
theorem fstep_le (k : Nat) (g : Nat → Nat → Int) (s t : Nat) : fstep k g s t ≤ g s t ∧ fstep k g s t ≤ g s k + g k t := by
  unfold fstep; split <;> omega
theorem fstep_or (k : Nat) (g : Nat → Nat → Int) (s t : Nat) : fstep k g s t = g s t ∨ fstep k g s t = g s k + g k t := by
  unfold fstep; split <;> simp
theorem fw_nn {g : Nat → Nat → Int} (h : ∀ s t, 0 ≤ g s t) : ∀ k s t, 0 ≤ fw g k s t
  | 0, s, t => h s t
  | k + 1, s, t => by
    show 0 ≤ fstep k (fw g k) s t
    have a := fw_nn h k
    rcases fstep_or k (fw g k) s t with e | e
    · rw [e]; exact a s t
    · rw [e]; have := a s k; have := a k t; omega
theorem fw_mono {g : Nat → Nat → Int} (s t : Nat) : ∀ {k k' : Nat}, k ≤ k' → fw g k' s t ≤ fw g k s t := by
  intro k k' h
  induction h with
  | refl => exact Int.le_refl _
  | step _ ih => exact Int.le_trans (fstep_le _ _ s t).1 ih
theorem fw_row {g : Nat → Nat → Int} (h : ∀ s t, 0 ≤ g s t) (k s : Nat) : fstep k g s k = g s k ∧ fstep k g k s = g k s := by
  have := h k k
  constructor
  · rcases fstep_or k g s k with e | e
    · exact e
    · have := (fstep_le k g s k).1; omega
  · rcases fstep_or k g k s with e | e
    · exact e
    · have := (fstep_le k g k s).1; omega
theorem fw_tri {g : Nat → Nat → Int} (h : ∀ s t, 0 ≤ g s t) : ∀ k m, m < k → ∀ s t, fw g k s t ≤ fw g k s m + fw g k m t
  | 0, m, hm, _, _ => absurd hm (Nat.not_lt_zero _)
  | k + 1, m, hm, s, t => by
    show fstep k (fw g k) s t ≤ fstep k (fw g k) s m + fstep k (fw g k) m t
    have nn := fw_nn h k
    generalize hD : fw g k = D at *
    by_cases e : m = k
    · subst e
      rw [(fw_row nn m s).1, (fw_row nn m t).2]
      exact (fstep_le m D s t).2
    · have T := fun s t => fw_tri h k m (by omega) s t
      rw [hD] at T
      have l := fstep_le k D s t
      have n1 := nn k k
      have t1 := T s t
      have t2 := T s k
      have t3 := T k t
      have t4 := T k k
      rcases fstep_or k D s m with e1 | e1 <;> rcases fstep_or k D m t with e2 | e2 <;> rw [e1, e2] <;> omega
theorem fw_dual {bs : List (Nat × Nat × Nat)} {x : Nat → Nat} (hx : ∀ i, x i ≤ 3) (hb : ∀ b ∈ bs, x b.2.1 ≤ b.2.2 + x b.1) : ∀ k s t, (x t : Int) ≤ x s + fw (far0 bs) k s t
  | 0, s, t => by
    show (x t : Int) ≤ x s + far0 bs s t
    rcases far0_cases bs s t with e | ⟨c, hc, e⟩
    · have := hx t; omega
    · have := hb _ hc; simp only at this; omega
  | k + 1, s, t => by
    show (x t : Int) ≤ x s + fstep k (fw (far0 bs) k) s t
    have a := fw_dual hx hb k
    rcases fstep_or k (fw (far0 bs) k) s t with e | e
    · rw [e]; exact a s t
    · rw [e]; have := a s k; have := a k t; omega
theorem fw_last {n : Nat} {bs : List (Nat × Nat × Nat)} : ∀ k, k ≤ n → ∀ s t, fw (far0 bs) k s t = 0 → ∃ y, (y, t, 0) ∈ bs ∧ (y = s ∨ fw (far0 bs) n s y ≤ 0)
  | 0, _, s, t, h => by
    have h' : far0 bs s t = 0 := h
    rcases far0_cases bs s t with e | ⟨c, hc, e⟩
    · omega
    · have : c = 0 := by omega
      subst this
      exact ⟨s, hc, .inl rfl⟩
  | k + 1, hk, s, t, h => by
    have h' : fstep k (fw (far0 bs) k) s t = 0 := h
    rcases fstep_or k (fw (far0 bs) k) s t with e | e
    · exact fw_last k (by omega) s t (by omega)
    · have a := fw_nn (far0_nn bs) k s k
      have b := fw_nn (far0_nn bs) k k t
      obtain ⟨y, hy, q⟩ := fw_last (n := n) (bs := bs) k (by omega) k t (by omega)
      have m1 : fw (far0 bs) n s k ≤ 0 := by have := fw_mono (g := far0 bs) s k (k := k) (k' := n) (by omega); omega
      refine ⟨y, hy, .inr ?_⟩
      rcases q with rfl | q
      · exact m1
      · have := fw_tri (far0_nn bs) n k (by omega) s y
        omega
theorem reach_facts {n : Nat} {bs : List (Nat × Nat × Nat)} (O : BsOK n bs) {x : Nat → Nat} (h : Reach n bs x) : (∀ i, x i ≤ 3) ∧ (∀ b ∈ bs, x b.2.1 ≤ b.2.2 + x b.1) ∧ (∀ z, fw (far0 bs) n z z = 0 → x z = 0) := by
  induction h with
  | start => exact ⟨fun _ => Nat.zero_le _, fun _ _ => Nat.zero_le _, fun _ _ => rfl⟩
  | @fire x g _ hg h3 hf ih =>
    obtain ⟨i1, i2, i3⟩ := ih
    refine ⟨fun i => ?_, fun b hb => ?_, fun z hz => ?_⟩
    · have := i1 i
      by_cases e : i = g
      · subst e; simp only [if_true]; omega
      · simp only [e, if_false]; omega
    · have := i2 b hb
      obtain ⟨_, _, hne⟩ := O.s b hb
      by_cases e : b.2.1 = g
      · have e2 : b.1 ≠ g := fun q => hne (q.trans e.symm)
        have := hf b hb e
        simp only [e, e2, if_true, if_false]; omega
      · by_cases e2 : b.1 = g
        · simp only [e, e2, if_true, if_false]; rw [e2] at this; omega
        · simp only [e, e2, if_false]; omega
    · by_cases e : z = g
      · exfalso
        subst e
        obtain ⟨y, hy, q⟩ := fw_last n (Nat.le_refl _) z z hz
        have hne := (O.s _ hy).2.2
        rcases q with q | q
        · exact hne q
        · have t := fw_tri (far0_nn bs) n z hg y y
          have m := fw_mono (g := far0 bs) y z (Nat.zero_le n)
          have m' : fw (far0 bs) n y z ≤ far0 bs y z := m
          have f := far0_at O.nd hy
          simp only at f
          have nn := fw_nn (far0_nn bs) n y y
          have := i3 y (by omega)
          have := hf _ hy rfl
          simp only at this
          omega
      · simp only [e, if_false]; exact i3 z hz
theorem pigeonF : ∀ a b c d e : Fin 4, a = b ∨ a = c ∨ a = d ∨ a = e ∨ b = c ∨ b = d ∨ b = e ∨ c = d ∨ c = e ∨ d = e := by decide +kernel
theorem pigeon5 {a b c d e : Nat} (ha : a < 4) (hb : b < 4) (hc : c < 4) (hd : d < 4) (he : e < 4) : a = b ∨ a = c ∨ a = d ∨ a = e ∨ b = c ∨ b = d ∨ b = e ∨ c = d ∨ c = e ∨ d = e := by
  have := pigeonF ⟨a, ha⟩ ⟨b, hb⟩ ⟨c, hc⟩ ⟨d, hd⟩ ⟨e, he⟩
  simpa only [Fin.mk.injEq] using this
structure DueIs (n : Nat) (F : Nat → Nat → Int) (i : Nat) (d : Int) : Prop where
  le3 : d ≤ 3
  le : ∀ o < n, F o o = 0 → d ≤ F o i
  at' : d = 3 ∨ ∃ o < n, F o o = 0 ∧ d = F o i
theorem min_level {P : Nat → Prop} (f : Nat → Nat) : ∀ k j, f j ≤ k → P j → ∃ j0, P j0 ∧ ∀ j', P j' → f j0 ≤ f j'
  | 0, j, h, hj => ⟨j, hj, fun j' _ => by omega⟩
  | k + 1, j, h, hj => by
    by_cases q : ∃ j', P j' ∧ f j' < f j
    · obtain ⟨j', a, b⟩ := q
      exact min_level f k j' (by omega) a
    · exact ⟨j, hj, fun j' h' => Nat.le_of_not_lt fun l => q ⟨j', h', l⟩⟩
noncomputable def iter (p : Nat → Nat) : Nat → Nat → Nat
  | 0, j => j
  | k + 1, j => p (iter p k j)
theorem plain1 {n : Nat} {bs : List (Nat × Nat × Nat)} (O : BsOK n bs) (hn : n ≤ 4) {x : Nat → Nat} (h : Reach n bs x) (st : ∀ g < n, x g < 3 → ∃ b ∈ bs, b.2.1 = g ∧ b.2.2 + x b.1 ≤ x g) {i : Nat} (hi : i < n) {d : Int} (D : DueIs n (fw (far0 bs) n) i d) : (x i : Int) = d := by
  obtain ⟨r1, r2, r3⟩ := reach_facts O h
  have dual := fw_dual r1 r2 n
  have nn := fw_nn (far0_nn bs) n
  have tri := fw_tri (far0_nn bs) n
  have low : ∀ b ∈ bs, fw (far0 bs) n b.1 b.2.1 ≤ (b.2.2 : Int) := fun b hb => by
    have m : fw (far0 bs) n b.1 b.2.1 ≤ far0 bs b.1 b.2.1 := fw_mono _ _ (Nat.zero_le n)
    rw [far0_at O.nd hb] at m; exact m
  generalize fw (far0 bs) n = F at *
  have up : (x i : Int) ≤ d := by
    rcases D.at' with e | ⟨o, _, ho, e⟩
    · have := r1 i; omega
    · have := dual o i
      have := r3 o ho
      omega
  refine Int.le_antisymm up (Int.not_lt.mp fun lt => ?_)
  let Df : Nat → Prop := fun j => j < n ∧ x j < 3 ∧ ∀ o < n, F o o = 0 → (x j : Int) < F o j
  have hDi : Df i := ⟨hi, by have := D.le3; omega, fun o ho hz => by have := D.le o ho hz; omega⟩
  have pred : ∀ j, Df j → ∃ s c, (s, j, c) ∈ bs ∧ c + x s = x j ∧ Df s := by
    rintro j ⟨hj, hj3, hjo⟩
    obtain ⟨⟨s, t, c⟩, hb, e, hle⟩ := st j hj hj3
    simp only at e hle
    subst e
    have inv := r2 _ hb
    simp only at inv
    refine ⟨s, c, hb, by omega, (O.s _ hb).1, by omega, fun o ho hz => ?_⟩
    have q1 := hjo o ho hz
    have q2 := tri s (O.s _ hb).1 o t
    have q3 := low _ hb
    simp only at q3
    omega
  obtain ⟨j0, hj0, hmin⟩ := min_level (P := Df) x (x i) i (Nat.le_refl _) hDi
  have zp : ∀ j, ∃ s, (Df j ∧ x j = x j0) → (Df s ∧ x s = x j0 ∧ F s j ≤ 0) := by
    intro j
    by_cases q : Df j ∧ x j = x j0
    · obtain ⟨s, c, hb, e, hs⟩ := pred j q.1
      have m := hmin s hs
      have l := low _ hb
      simp only at l
      exact ⟨s, fun _ => ⟨hs, by omega, by omega⟩⟩
    · exact ⟨0, fun h => absurd h q⟩
  obtain ⟨p, hp⟩ := Classical.axiomOfChoice zp
  have it : ∀ k, Df (iter p k j0) ∧ x (iter p k j0) = x j0 := by
    intro k
    induction k with
    | zero => exact ⟨hj0, rfl⟩
    | succ k ih => have := hp _ ih; exact ⟨this.1, this.2.1⟩
  have ch : ∀ a k, F (iter p (a + k + 1) j0) (iter p a j0) ≤ 0 := by
    intro a k
    induction k with
    | zero => exact (hp _ (it a)).2.2
    | succ k ih =>
      have q1 := (hp _ (it (a + k + 1))).2.2
      have q2 := tri (iter p (a + k + 1) j0) (it (a + k + 1)).1.1 (iter p (a + (k + 1) + 1) j0) (iter p a j0)
      have q3 : F (iter p (a + (k + 1) + 1) j0) (iter p (a + k + 1) j0) ≤ 0 := q1
      omega
  have cyc : ∀ a k, iter p a j0 = iter p (a + k + 1) j0 → False := by
    intro a k e
    have q := ch a k
    rw [← e] at q
    have := nn (iter p a j0) (iter p a j0)
    have z : F (iter p a j0) (iter p a j0) = 0 := by omega
    have := (it a).1.2.2 _ (it a).1.1 z
    omega
  have l4 : ∀ k, iter p k j0 < 4 := fun k => Nat.lt_of_lt_of_le (it k).1.1 hn
  rcases pigeon5 (l4 0) (l4 1) (l4 2) (l4 3) (l4 4) with e | e | e | e | e | e | e | e | e | e
  · exact cyc 0 0 e
  · exact cyc 0 1 e
  · exact cyc 0 2 e
  · exact cyc 0 3 e
  · exact cyc 1 0 e
  · exact cyc 1 1 e
  · exact cyc 1 2 e
  · exact cyc 2 0 e
  · exact cyc 2 1 e
  · exact cyc 3 0 e
end Mine
namespace Mine
noncomputable def sumX (x : Nat → Nat) : Nat → Nat
  | 0 => 0
  | n + 1 => sumX x n + x n
theorem sumX_fire (x : Nat → Nat) (g : Nat) : ∀ n, sumX (fun i => if i = g then x i + 1 else x i) n = sumX x n + (if g < n then 1 else 0)
  | 0 => by simp [sumX]
  | n + 1 => by
    unfold sumX
    rw [sumX_fire x g n]
    by_cases h : n = g
    · subst h; simp; omega
    · simp only [h, if_false]
      by_cases h2 : g < n
      · rw [if_pos h2, if_pos (by omega)]; omega
      · rw [if_neg h2, if_neg (by omega)]; omega
theorem sumX_le (x : Nat → Nat) (h : ∀ i, x i ≤ 3) : ∀ n, sumX x n ≤ 3 * n
  | 0 => Nat.le_refl _
  | n + 1 => by have := sumX_le x h n; have := h n; unfold sumX; omega
theorem idle_all {T n g : Nat} (hg : g < n) (hT : n ≤ T) : ∃ j, j < n ∧ (T - 1 - j) % n = g := by
  refine ⟨(T - 1 - g) % n, Nat.mod_lt _ (by omega), ?_⟩
  have h := Nat.div_add_mod (T - 1 - g) n
  generalize hm : (T - 1 - g) % n = r at *
  generalize (T - 1 - g) / n = q at *
  have e : T - 1 - r = g + n * q := by omega
  rw [e, Nat.add_mul_mod_self_left, Nat.mod_eq_of_lt hg]
noncomputable def stuckAt (bs : List (Nat × Nat × Nat)) (x : Nat → Nat) (g : Nat) : Prop := x g < 3 → ∃ b ∈ bs, b.2.1 = g ∧ b.2.2 + x b.1 ≤ x g
structure IdleOK (n : Nat) (bs : List (Nat × Nat × Nat)) (x : Nat → Nat) (len turn idle : Nat) : Prop where
  le : idle ≤ n
  leT : idle ≤ turn
  early : turn < len → idle = 0
  st : ∀ j < idle, stuckAt bs x ((turn - 1 - j) % n)
theorem IdleOK.zero {n : Nat} {bs : List (Nat × Nat × Nat)} {x : Nat → Nat} {len turn : Nat} : IdleOK n bs x len turn 0 := ⟨Nat.zero_le _, Nat.zero_le _, fun _ => rfl, fun _ h => absurd h (Nat.not_lt_zero _)⟩
theorem IdleOK.more {n : Nat} {bs : List (Nat × Nat × Nat)} {x : Nat → Nat} {len turn idle : Nat} (h : IdleOK n bs x len turn idle) (hi : idle < n) (hl : ¬ turn < len) (hs : stuckAt bs x (turn % n)) : IdleOK n bs x len (turn + 1) (idle + 1) := by
  refine ⟨hi, by have := h.leT; omega, fun q => by omega, fun j hj => ?_⟩
  cases j with
  | zero => rw [show turn + 1 - 1 - 0 = turn by omega]; exact hs
  | succ j => rw [show turn + 1 - 1 - (j + 1) = turn - 1 - j by omega]; exact h.st j (by omega)
theorem IdleOK.fin {n : Nat} {bs : List (Nat × Nat × Nat)} {x : Nat → Nat} {len turn idle : Nat} (h : IdleOK n bs x len turn idle) (hi : ¬ idle < n) : ∀ g < n, stuckAt bs x g := by
  intro g hg
  have e : idle = n := by have := h.le; omega
  obtain ⟨j, hj, q⟩ := idle_all hg (T := turn) (by have := h.leT; omega)
  have := h.st j (by omega)
  rwa [q] at this
noncomputable def meas (n : Nat) (x : Nat → Nat) (len turn idle : Nat) : Nat := (len - turn) + (12 - sumX x n) * 5 + (4 - idle)
theorem meas_fire {n : Nat} {x : Nat → Nat} {len turn idle g : Nat} (hn : n ≤ 4) (h3 : ∀ i, (if i = g then x i + 1 else x i) ≤ 3) (hg : g < n) (hi : idle ≤ n) : meas n (fun i => if i = g then x i + 1 else x i) len (turn + 1) 0 < meas n x len turn idle := by
  have a := sumX_le _ h3 n
  have b := sumX_fire x g n
  rw [if_pos hg] at b
  unfold meas
  rw [b] at a ⊢
  omega
theorem meas_early {n : Nat} {x : Nat → Nat} {len turn : Nat} (h : turn < len) : meas n x len (turn + 1) 0 < meas n x len turn 0 := by unfold meas; omega
theorem meas_idle {n : Nat} {x : Nat → Nat} {len turn idle : Nat} (hn : n ≤ 4) (hi : idle < n) : meas n x len (turn + 1) (idle + 1) < meas n x len turn idle := by unfold meas; omega
end Mine
namespace Mine
/-- one middle gate, the pairs before (s0, t0) done -/
noncomputable def mix (k : Nat) (g : Nat → Nat → Int) (s0 t0 : Nat) : Nat → Nat → Int := fun s t => if s < s0 ∨ (s = s0 ∧ t < t0) then fstep k g s t else g s t
theorem mix_start (k : Nat) (g : Nat → Nat → Int) (s t : Nat) : mix k g 0 0 s t = g s t := if_neg (by omega)
theorem mix_row (k : Nat) (g : Nat → Nat → Int) {n s0 s t : Nat} (ht : t < n) : mix k g s0 n s t = mix k g (s0 + 1) 0 s t := by
  unfold mix
  by_cases h : s < s0 ∨ (s = s0 ∧ t < n)
  · rw [if_pos h, if_pos (by omega)]
  · rw [if_neg h, if_neg (by omega)]
theorem mix_end (k : Nat) (g : Nat → Nat → Int) {n s t : Nat} (hs : s < n) : mix k g n 0 s t = fstep k g s t := if_pos (.inl hs)
theorem mix_at (k : Nat) (g : Nat → Nat → Int) (s0 t0 : Nat) : mix k g s0 t0 s0 t0 = g s0 t0 := if_neg (by omega)
theorem mix_col {g : Nat → Nat → Int} (h : ∀ s t, 0 ≤ g s t) (k s0 t0 s : Nat) : mix k g s0 t0 s k = g s k ∧ mix k g s0 t0 k s = g k s := by
  obtain ⟨a, b⟩ := fw_row h k s
  unfold mix
  exact ⟨by split; exact a; rfl, by split; exact b; rfl⟩
theorem mix_put (k : Nat) (g : Nat → Nat → Int) (s0 t0 : Nat) : mix k g s0 (t0 + 1) s0 t0 = (if g s0 k + g k t0 < g s0 t0 then g s0 k + g k t0 else g s0 t0) := if_pos (by omega)
theorem mix_else (k : Nat) (g : Nat → Nat → Int) {s0 t0 s t : Nat} (h : ¬ (s = s0 ∧ t = t0)) : mix k g s0 (t0 + 1) s t = mix k g s0 t0 s t := by
  unfold mix
  by_cases q : s < s0 ∨ (s = s0 ∧ t < t0)
  · rw [if_pos q, if_pos (by omega)]
  · rw [if_neg q, if_neg (by omega)]
theorem far0_nil (s t : Nat) : far0 [] s t = 99 := rfl
theorem far0_snoc {l : List (Nat × Nat × Nat)} {b : Nat × Nat × Nat} (hn : ∀ b' ∈ l, ¬ (b'.1 = b.1 ∧ b'.2.1 = b.2.1)) (s t : Nat) : far0 (l ++ [b]) s t = if s = b.1 ∧ t = b.2.1 then (b.2.2 : Int) else far0 l s t := by
  unfold far0
  rw [List.find?_append]
  by_cases h : s = b.1 ∧ t = b.2.1
  · rw [if_pos h]
    have : l.find? (fun b' => decide (b'.1 = s ∧ b'.2.1 = t)) = none := by
      rw [List.find?_eq_none]
      intro b' hb' q
      have q' := of_decide_eq_true q
      exact hn b' hb' ⟨q'.1.trans h.1, q'.2.trans h.2⟩
    rw [this, List.find?_cons, decide_eq_true (show b.1 = s ∧ b.2.1 = t from ⟨h.1.symm, h.2.symm⟩)]
    rfl
  · rw [if_neg h]
    have : [b].find? (fun b' => decide (b'.1 = s ∧ b'.2.1 = t)) = none := by
      rw [List.find?_cons, decide_eq_false (fun q => h ⟨q.1.symm, q.2.symm⟩)]; rfl
    rw [this, Option.or_none]
noncomputable def allPairs (n : Nat) : List (Nat × Nat) := (List.range n).flatMap fun s => (List.range n).map fun t => (s, t)
theorem mem_allPairs {n : Nat} {p : Nat × Nat} : p ∈ allPairs n ↔ p.1 < n ∧ p.2 < n := by
  unfold allPairs
  rw [List.mem_flatMap]
  constructor
  · rintro ⟨s, hs, h⟩
    obtain ⟨t, ht, rfl⟩ := List.mem_map.mp h
    exact ⟨List.mem_range.mp hs, List.mem_range.mp ht⟩
  · rintro ⟨h1, h2⟩
    exact ⟨p.1, List.mem_range.mpr h1, List.mem_map.mpr ⟨p.2, List.mem_range.mpr h2, rfl⟩⟩
noncomputable def dueL (n : Nat) (F : Nat → Nat → Int) (i : Nat) : List Int := [3] ++ ((List.range n).filter fun o => decide (F o o = 0)).map fun o => F o i
theorem dueL_is {n : Nat} {F : Nat → Nat → Int} {i : Nat} {d : Int} (h1 : d ∈ dueL n F i) (h2 : ∀ a ∈ dueL n F i, d ≤ a) : DueIs n F i d := by
  unfold dueL at h1 h2
  refine ⟨h2 3 (by simp), fun o ho hz => h2 _ (List.mem_append_right _ (List.mem_map.mpr ⟨o, List.mem_filter.mpr ⟨List.mem_range.mpr ho, decide_eq_true hz⟩, rfl⟩)), ?_⟩
  rcases List.mem_append.mp h1 with h | h
  · exact .inl (List.mem_singleton.mp h)
  · obtain ⟨o, ho, rfl⟩ := List.mem_map.mp h
    obtain ⟨a, b⟩ := List.mem_filter.mp ho
    exact .inr ⟨o, List.mem_range.mp a, of_decide_eq_true b, rfl⟩
end Mine
namespace Mine
section
variable {w : World} {mean : ExcName → Option Value} {mg mb : Str → Option Value} {h₀ : Heap}
noncomputable def cOf (bs : List (Nat × Nat × Nat)) (x : Nat → Nat) : Nat → Nat → Nat := fun s t => tokOf bs s t + x s - x t
noncomputable def gi (z : Bool) (q : Int) : Nat := (q % (siz z : Int)).toNat
theorem siz_ge (z : Bool) : 3 ≤ siz z := by cases z <;> decide
theorem gi_ok (z : Bool) (q : Int) : Int.fmod q (siz z : Int) = (gi z q : Int) ∧ gi z q < siz z := by
  have h3 := siz_ge z
  have h1 := Int.emod_nonneg q (show (siz z : Int) ≠ 0 by omega)
  have h2 := Int.emod_lt_of_pos q (show (0 : Int) < (siz z : Int) by omega)
  rw [Int.fmod_eq_emod_of_nonneg _ (by omega)]
  unfold gi
  omega
theorem gi_nat (z : Bool) (k : Nat) : gi z (k : Int) = k % siz z := by unfold gi; omega
theorem len_gts {A : Around} {E : Value → Shared → Prop} {s : Shared} {z : Bool} {t : Tok} {Q : Value → Shared → Prop} (h : ∀ t tk, Q (.int (siz z : Int) t) { s with toks := tk }) : wpAny (model prog3 w) A (call (.builtin "len") [.str (gts z) t]) Q E s := by
  have e : ∀ z : Bool, (gts z).length = siz z := by decide +kernel
  refine len_str (by rw [e]; cases z <;> decide) ?_
  rw [e]
  exact h _ _
theorem item_gts {A : Around} {E : Value → Shared → Prop} {s : Shared} {Q : Value → Shared → Prop} {value slice : Expr} {t u : Tok} {z : Bool} {i : Int} {k : Nat} (e : i = (k : Int)) (hk : k < siz z) (h : Q (.str (letter k) s.toks) { s with toks := s.toks + 1 })
    (hs : subscripted slice false (.str (gts z) t) (.int i u) = operate [.str (gts z) t, .int i u] (getItem (.str (gts z) t) (.int i u)) := by with_unfolding_all rfl)
    (ht : ∀ r, letTemporaryGo value (.str (gts z) t) r = pure () := by intro _; with_unfolding_all rfl) :
    wpAny (model prog3 w) A (subscriptTail value slice (.str (gts z) t) (.int i u)) Q E s := by
  subst e
  have h1 : ∀ z : Bool, ∀ k < siz z, fitsSsize (k : Int) = true ∧ (k : Int) < (gts z).length ∧ Txt.item (gts z) (k : Int) = letter k := by decide +kernel
  obtain ⟨a, b, c⟩ := h1 z k hk
  exact item_str a (by omega) b (fun _ => by rw [c]; exact h) hs ht
theorem letter_inj {i k : Nat} (hi : i < 4) (hk : k < 4) (h : letter i = letter k) : i = k := by
  have := letter_ne i hi k hk
  rw [h] at this
  simpa using this.symm
theorem rr_assign2 {prog : Program} {A : Around} {E : Value → Shared → Prop} {Q : Shared → Prop} {h₀ h : Heap} {L C D : Addr} {m m₁ : Str → Option Value} {news : List (Addr × Obj)} {s₁ : Shared} {tk : Nat} {env : Env} {y : Str} {py : Pos} (hCN : ∀ p ∈ news, p.1 ≠ C) (hCL : C ≠ L) (hC₀ : h₀.get? C = none) (F : Fr h₀ L h m) (hn : h.Ns C m₁) (N : News h₀ L h news)
    (hL : env.locals = L) (hy : env.kindOf y = some .local) (hp : (env.scope.kind == .class || (env.scope.kind == .module && env.locals != env.globals)) = false)
    (q : ∀ h' tk', Fr h₀ L h' (fun z => if z = y then some (.ref D) else m z) → News h₀ L h' news → Q { s₁ with heap := h', toks := tk' }) : compPost (model prog w) A E (some (assign (.Name y py) env)) (fun _ s' => Q s') (.ref D) C (.ok .next) { s₁ with heap := h, toks := tk } :=
  rr_assign (Q := fun _ s' => Q s') hCN hCL hC₀ F hn N hL hy hp q
structure PostG (w : World) (z : Bool) (bs : List (Nat × Nat × Nat)) (l : Addr) (rows : List Row) (s : Shared) (v : Value) (s' : Shared) : Prop where
  ex : ∃ D od kvs x h' tk rows' n', v = .ref D ∧ s' = { s with heap := h', toks := tk } ∧ (∀ b o, b ≠ l → s.heap.get? b = some o → h'.get? b = some o) ∧ h'.get? l = some (lst rows' n') ∧ (∀ r ∈ rows', h'.get? r.a = some r.obj) ∧ (∀ r ∈ rows', r ∈ rows ∨ s.heap.get? r.a = none) ∧ rows'.length = rows.length ∧
    Wf1 bs (kvsOf rows') (cOf bs x) ∧ h'.get? D = some od ∧ s.heap.get? D = none ∧ od.IsDictOf (PySem.strKind prog3 w) kvs ∧ DV letter (List.range (siz z)) kvs (fun i => (x i : Int)) ∧ Reach (siz z) bs x ∧ (∀ g < siz z, stuckAt bs x g)
theorem bare {g h : Heap} {l a : Addr} (hne : ∀ a o, a ≠ l → h.get? a = some o → g.get? a = some o) (e : g.get? a = none) (n : a ≠ l) : h.get? a = none := by
  cases q : h.get? a with
  | none => rfl
  | some o => rw [hne a o n q] at e; cases e
theorem offD {b h : Heap} {L D l : Addr} {od : Obj} {kvs : List (Str × Value)} {rows : List Row} {n : Nat} {tups : List (Addr × Obj)} (N : News b L h ([(D, od)] ++ (l, lst rows n) :: tups)) (hd : od.IsDictOf (PySem.strKind prog3 w) kvs) (hlD : l < D) (h : ∀ p ∈ tups, p.1 ≠ l ∧ p.2.cls = .type "tuple") : ∀ p ∈ (l, lst rows n) :: tups, p.1 ≠ D := fun p hp => by
  rcases List.mem_cons.mp hp with rfl | hp'
  · exact Nat.ne_of_lt hlD
  · refine cls_off (o := p.2) N (List.mem_append_right _ (.tail _ hp')) (.head _) ?_
    rw [(h p hp').2, dict_cls hd]
    exact ty_ne (by decide)
theorem tupT {tups tups' : List (Addr × Obj)} {l : Addr} (h : ∀ p ∈ tups, p.1 ≠ l ∧ p.2.cls = .type "tuple") (h' : ∀ p ∈ tups', p.1 ≠ l ∧ (p ∈ tups ∨ p.2.cls = .type "tuple")) : ∀ p ∈ tups', p.1 ≠ l ∧ p.2.cls = .type "tuple" := fun p hp => ⟨(h' p hp).1, (h' p hp).2.elim (fun q => (h p q).2) id⟩
theorem cof_at {bs : List (Nat × Nat × Nat)} (O : BxOK bs) (x : Nat → Nat) {b : Nat × Nat × Nat} (hb : b ∈ bs) : cOf bs x b.1 b.2.1 = b.2.2 + x b.1 - x b.2.1 := by
  unfold cOf; rw [tok_at O.nd hb]
theorem cof_fire {bs : List (Nat × Nat × Nat)} {kvs : List (Str × Str)} {x : Nat → Nat} {g : Nat} (O : BxOK bs) (hb : ∀ b ∈ bs, x b.2.1 ≤ b.2.2 + x b.1) (W : Wf1 bs kvs (fire (cOf bs x) g)) : Wf1 bs kvs (cOf bs (fun i => if i = g then x i + 1 else x i)) := wf1_congr W fun b h => by
  have e := cof_at O x h
  have e' := cof_at O (fun i => if i = g then x i + 1 else x i) h
  have q := hb b h
  have ne := (O.s b h).2.2
  rw [e']
  unfold fire
  rw [e]
  by_cases h1 : b.1 = g
  · rw [if_pos h1, if_pos h1, if_neg fun h2 => ne (h1.trans h2.symm)]; omega
  · rw [if_neg h1, if_neg h1]
    by_cases h2 : b.2.1 = g
    · rw [if_pos h2, if_pos h2]; omega
    · rw [if_neg h2, if_neg h2]
theorem cof_cap {bs : List (Nat × Nat × Nat)} {x : Nat → Nat} {g : Nat} (O : BxOK bs) (hx : ∀ i, x i ≤ 3) (h3 : x g < 3) : ∀ b ∈ bs, cOf bs x b.1 b.2.1 < 6 ∧ (b.1 = g → cOf bs x b.1 b.2.1 < 5) := fun b h => by
  have e := cof_at O x h
  have c := O.c b h
  have a := hx b.1
  rw [e]
  refine ⟨by omega, fun q => ?_⟩
  rw [q] at a ⊢
  omega
theorem can_fire {bs : List (Nat × Nat × Nat)} {x : Nat → Nat} {g : Nat} (O : BxOK bs) (h : ∀ b ∈ bs, b.2.1 = g → cOf bs x b.1 b.2.1 ≠ 0) : ∀ b ∈ bs, b.2.1 = g → x g < b.2.2 + x b.1 := fun b hb q => by
  have := h b hb q
  rw [cof_at O x hb, q] at this
  omega
theorem stuck_of {bs : List (Nat × Nat × Nat)} {x : Nat → Nat} {g : Nat} (O : BxOK bs) (h : ∃ b ∈ bs, b.2.1 = g ∧ cOf bs x b.1 b.2.1 = 0) : stuckAt bs x g := fun _ => by
  obtain ⟨b, hb, q, e⟩ := h
  rw [cof_at O x hb, q] at e
  exact ⟨b, hb, q, by omega⟩
theorem bsok {n : Nat} {bs : List (Nat × Nat × Nat)} (O : BxOK bs) (h : ∀ b ∈ bs, b.1 < n ∧ b.2.1 < n) : BsOK n bs := ⟨fun b hb => ⟨(h b hb).1, (h b hb).2, (O.s b hb).2.2⟩, O.nd⟩
theorem try_led {A : Around} {s : Shared} {b : Heap} {L t d l lb : Addr} {m : Str → Option Value} {other tups : List (Addr × Obj)} {rows₀ rows : List Row} {n : Nat} {Q E : Value → Shared → Prop} {brs : List BRow} {c : Nat → Nat → Nat} {gt : Nat} {turn : Int} {t1 t2 : Tok} (G : G3 w mean mg mb h₀) (st : h₀.StaysIn b) (F : Fr b L s.heap m) (N : News b L s.heap (other ++ (l, lst rows n) :: tups)) (T : TabAt w b t d l)
    (hr : ∀ r ∈ rows₀, b.get? r.a = some r.obj) (hT : InT rows₀ tups rows) (ho : ∀ p ∈ other, p.1 ≠ l) (htl : ∀ p ∈ tups, p.1 ≠ l) (B : BxAt b lb brs) (hlb : lb ≠ l) (O : BxOK (brs.map BRow.box)) (W : Wf1 (brs.map BRow.box) (kvsOf rows) c) (hg : gt < 4) (hcap : ∀ b ∈ brs.map BRow.box, c b.1 b.2.1 < 6 ∧ (b.1 = gt → c b.1 b.2.1 < 5)) (hA : Fits A 8)
    (h0 : ∀ tv h' tk' n' rows' tups', (∃ b ∈ brs.map BRow.box, b.2.1 = gt ∧ c b.1 b.2.1 = 0) → rows' = rows → InT rows₀ tups' rows' → (∀ p ∈ tups', p.1 ≠ l ∧ (p ∈ tups ∨ p.2.cls = .type "tuple")) → Fr b L h' m → News b L h' (other ++ (l, lst rows' n') :: tups') → Q (.int 0 tv) { s with heap := h', toks := tk' })
    (h1 : ∀ tv h' tk' n' rows' tups', (∀ b ∈ brs.map BRow.box, b.2.1 = gt → c b.1 b.2.1 ≠ 0) → Wf1 (brs.map BRow.box) (kvsOf rows') (fire c gt) → rows'.length = rows.length → InT rows₀ tups' rows' → (∀ p ∈ tups', p.1 ≠ l ∧ (p ∈ tups ∨ p.2.cls = .type "tuple")) → Fr b L h' m → News b L h' (other ++ (l, lst rows' n') :: tups') → Q (.int 1 tv) { s with heap := h', toks := tk' }) :
    wpAny (model prog3 w) A (call (.ref 252) [.ref t, .ref lb, .str (letter gt) t1, .int turn t2]) Q E s := by
  have hl₀ : h₀.get? l = none := by
    cases e : h₀.get? l with
    | none => rfl
    | some o => have y := (N (l, lst rows n) (List.mem_append_right _ (.head _))).2.2; rw [st _ _ e] at y; cases y
  refine use_mut2 (try_c G (stays_fr st F) (T.at F.keep) (N _ (List.mem_append_right _ (.head _))).1 hl₀ (rows_at2 F N hr hT) (B.at F.keep) hlb O W hg hcap turn t1 t2) hA F N ho hT htl ?_
  rintro v h' tk' n' rows' tups' (⟨hz, ⟨tv, rfl⟩, e⟩ | ⟨hz, ⟨tv, rfl⟩, W', e⟩) hT' htl' F' N'
  · exact h0 tv h' tk' n' rows' tups' hz e hT' htl' F' N'
  · exact h1 tv h' tk' n' rows' tups' hz W' e hT' htl' F' N'
local macro_rules | `(tactic| walk_at "eval Name") => `(tactic| (k_here; refine ld (by k_asm) (by assumption) ?_))
local macro_rules | `(tactic| walk_at "loadName") => `(tactic| (k_here; refine ldn (by k_asm) (by assumption) ?_))
local macro_rules | `(tactic| walk_at "call builtin:len") => `(tactic| (k_here; (with_reducible show wpAny _ _ (call (Value.builtin "len") [Value.str (gts _) _]) _ _ _); refine len_gts ?_; intro tl' tkl'))
local macro_rules | `(tactic| walk_at "subscriptTail Name BinOp str int") => `(tactic| (k_here; refine item_gts (by assumption) (by assumption) ?_))
local macro_rules | `(tactic| walk_at "subscriptTail Name Name ref str") => `(tactic| (k_here; refine kda_item (knd := PySem.strKind _ _) (by k_asm) (by k_mem) (by k_asm) (strKind_is _ _ _ _) (by assumption) ?_))
local macro_rules | `(tactic| walk_at "call ref") => `(tactic| (k_here; (with_reducible show wpAny _ _ (call (Value.ref 252) _) _ _ _); refine StopAt.p ?_))
theorem get_use {A : Around} {E : Value → Shared → Prop} {s : Shared} {b : Heap} {L D : Addr} {news : List (Addr × Obj)} {od : Obj} {kvs : List (Str × Value)} {k : Str} {t : Tok} {v : Value} {Q : Value → Shared → Prop} (N : News b L s.heap news) (hp : (D, od) ∈ news) (hd : od.IsDictOf (PySem.strKind prog3 w) kvs) (hl : valueAt kvs k = some v) (h : Q v { s with toks := s.toks + 1 }) : wpAny (model prog3 w) A (getItem (.ref D) (.str k t)) Q E s :=
  wpAny_getItem_of (strKind_is _ _ _ _) (kda_dict N hp hd).mapOf hl h
local macro_rules | `(tactic| walk_at "getItem ref str") => `(tactic| (k_here; refine get_use (by k_asm) (by k_mem) (by k_asm) (by assumption) ?_))
local macro_rules | `(tactic| walk_at "setItem ref str") => `(tactic| (k_here; refine StopAt.p ?_))
local macro_rules | `(tactic| walk_at "exec While Compare cons nil") => `(tactic| (k_here; refine StopAt.p ?_))
theorem run_c (G : G3 w mean mg mb h₀) {s : Shared} (hs : h₀.StaysIn s.heap) {t d l lb ls : Addr} {rows : List Row} {n : Nat} (T : TabAt w s.heap t d l) (hl : s.heap.get? l = some (lst rows n)) (hl₀ : h₀.get? l = none) (hr : ∀ r ∈ rows, s.heap.get? r.a = some r.obj)
    {brs : List BRow} (B : BxAt s.heap lb brs) (hlb : lb ≠ l) (O : BxOK (brs.map BRow.box)) {z : Bool} (hz : ∀ b ∈ brs.map BRow.box, b.1 < siz z ∧ b.2.1 < siz z) (W : Wf1 (brs.map BRow.box) (kvsOf rows) (tokOf (brs.map BRow.box)))
    {sv : List Value} {ns : List Int} (hls : s.heap.IsList ls sv.toArray) (hlsl : ls ≠ l) (hI : IntsAre sv ns) (hn : ns.length ≤ 63) (t1 : Tok) :
    wpAny (model prog3 w) (Aq 9) (call (.ref 257) [.ref t, .ref lb, .str (gts z) t1, .ref ls]) (PostG w z (brs.map BRow.box) l rows s) noE s := by
  refine wpAny_call ?_
  refine enter0 (hid := [(l, lst rows n)]) (binds := [(Str.ofString "table", .ref t), (Str.ofString "boxes", .ref lb), (Str.ofString "gates", .str (gts z) t1), (Str.ofString "script", .ref ls)]) G hs (fun p h => by cases List.mem_singleton.mp h; exact ⟨hl, hl₀⟩) (by k_is) (by k_is) (by rfl) (by exact Nat.le_of_ble_eq_true rfl) (BindsTo.of_eq rfl) (locs rfl) ?_ rfl rfl rfl (by decide)
  intro g L h₁ hgg st F N X TT hlt
  obtain ⟨hne, T', hr'⟩ := hide1 hgg T hl hr
  have B' : BxAt g lb brs := ⟨let ⟨n, e⟩ := B.list; ⟨n, hne _ _ hlb e⟩, fun r hr => hne _ _ (fun e => by have q := B.tup r hr; rw [e, hl] at q; exact cls_ne q fun h => absurd (Value.type.inj h) (by decide)) (B.tup r hr)⟩
  have hls' : g.IsList ls sv.toArray := let ⟨o, e, r⟩ := hls; ⟨o, hne _ _ hlsl e, r⟩
  refine wpAny_execs_cons ?_
  refine Assign_DictZ (by rfl) (by with_unfolding_all rfl) (by rfl) (by decide) ?_
  k_steps
  obtain ⟨hgs, hga⟩ := gts_fact z
  have h4 := siz_le z
  refine outZ_intro (x := Str.ofString "gate") (fun D i mC nw => ∃ oD kvs, nw = (D, oD) :: [(l, lst rows n)] ∧ oD.IsDictOf (PySem.strKind prog3 w) kvs ∧ DV letter (List.range i) kvs (fun _ => 0)) new_dict rfl (fun I D C => lt_dict1) (fun I D C R s hs h => start_Z rfl rfl rfl rfl hs h) (by decide) rfl rfl (src_text rfl hga) F N (fun h => nomatch h) (fun D => ⟨dct0, [], rfl, dct0_is, DV.nil⟩) ?_ ?_
  · clear F N
    rintro D C I i v m₁ oC own news₁ h tk E' hi ⟨c, u, hc, rfl⟩ ⟨oD, kvs, rfl, hd, dv⟩ hN hID off hown ⟨oI, hoI, hit⟩ hns F N
    obtain ⟨hiz, hcl⟩ := gts_item hc
    rw [hcl] at hns
    obtain ⟨m₂, e2, hm⟩ : ∃ m₂ : Str → Option Value, m₂ = (fun y => if y = Str.ofString "gate" then some (.str (letter i) u) else m₁ y) ∧ m₂ (Str.ofString "gate") = some (.str (letter i) u) := ⟨_, rfl, if_pos rfl⟩
    rw [← e2] at hns
    have N1 : News g L h ((own ++ [(C, oC)]) ++ (D, oD) :: [(l, lst rows n)]) := by simpa using N
    have hCm : (C, oC) ∈ (own ++ [(C, oC)]) ++ (D, oD) :: [(l, lst rows n)] := by simp
    clear N
    refine emitD_Z ?_
    k_steps
    have hik : i ∉ List.range i := by simp
    have hi4 : i < 4 := Nat.lt_of_lt_of_le hiz h4
    have hkn : letter i ∉ (List.range i).map letter := fun q => by
      obtain ⟨j, hj, e⟩ := List.mem_map.mp q
      have hj' := List.mem_range.mp hj
      have := letter_inj (Nat.lt_trans hj' hi4) hi4 e
      omega
    have hlD : l < D := (hN (l, lst rows n) (.head _)).1
    refine dictSet_use F N1 (fun p hp => ?_) (fun p hp => ?_) hd (by rw [dv.len, List.length_range]; omega) ?_
    · rcases List.mem_append.mp hp with hp | hp
      · rcases hown p hp with e | e
        · rw [e]; exact Nat.ne_of_lt hID.1
        · cases e
      · rw [List.mem_singleton.mp hp]; exact Ne.symm (off (D, oD) (.head _)).2
    · rw [List.mem_singleton.mp hp]; exact Nat.ne_of_lt hlD
    intro h' o' F' N' hd'
    refine ⟨h', _, m₂, oC, (D, o') :: [(l, lst rows n)], rfl, F', hns, by simpa using N', fun p hp => ?_, o', _, rfl, hd', ?_⟩
    · rcases List.mem_cons.mp hp with rfl | hp
      · exact off (D, oD) (.head _)
      · exact off p (.tail _ hp)
    · rw [List.range_succ]
      exact dv.add hkn _
  · clear F N
    rintro D C m₁ news₁ h tk ⟨oD, kvs, rfl, hd, dv⟩ hND hCN hCL hC₀ F hn N
    refine rr_assign2 hCN hCL hC₀ F hn N rfl (by rfl) (by rfl) ?_
    clear F hn N
    intro h2 tk2 F N
    dsimp only
    rw [hgs] at dv
    k_steps
    rename Fr _ _ _ _ => F2
    rename News _ _ _ _ => N2
    refine ⟨While_inv (fun q m news => ∃ turn idle x od kvs rows' n' tups tt ti, q = meas (siz z) x ns.length turn idle ∧ news = (D, od) :: (l, lst rows' n') :: tups ∧ od.IsDictOf (PySem.strKind prog3 w) kvs ∧ DV letter (List.range (siz z)) kvs (fun i => (x i : Int)) ∧ Reach (siz z) (brs.map BRow.box) x ∧ IdleOK (siz z) (brs.map BRow.box) x ns.length turn idle ∧ Wf1 (brs.map BRow.box) (kvsOf rows') (cOf (brs.map BRow.box) x) ∧ rows'.length = rows.length ∧ InT rows tups rows' ∧ (∀ p ∈ tups, p.1 ≠ l ∧ p.2.cls = .type "tuple") ∧
      m (Str.ofString "table") = some (.ref t) ∧ m (Str.ofString "boxes") = some (.ref lb) ∧ m (Str.ofString "gates") = some (.str (gts z) t1) ∧ m (Str.ofString "script") = some (.ref ls) ∧ m (Str.ofString "opened") = some (.ref D) ∧ m (Str.ofString "turn") = some (.int (turn : Int) tt) ∧ m (Str.ofString "idle") = some (.int (idle : Int) ti)) F2 (fun p hp => N2 p (.tail _ hp)) ⟨0, 0, fun _ => 0, oD, kvs, rows, n, [], _, _, rfl, rfl, hd, dv, .start, .zero, W, rfl, fun r h => .inl h, fun p h => (nomatch h), rfl, rfl, rfl, rfl, rfl, rfl, rfl⟩ ?_⟩
    clear F2 N2 hd dv
    rintro q m₂ news₂ h3 tk3 F N ⟨turn, idle, x, od, kvs₂, rows', n', tups, tt, ti, rfl, rfl, hd, dv, hR, hI2, W2, hrl, hT, htl, e1, e2, e3, e4, e5, e6, e7⟩
    have hll : sv.toArray.size = ns.length := by rw [List.size_toArray]; exact hI.length
    have hln : ns.length ≤ 64 := by omega
    replace N : News g L h3 ([(D, od)] ++ (l, lst rows' n') :: tups) := N
    have hlD : l < D := hND (l, lst rows n) (.head _)
    by_cases hid : idle < siz z
    · have hid' : (idle : Int) < (siz z : Int) := by omega
      obtain ⟨hx3, hfeas, -⟩ := reach_facts (bsok O hz) hR
      by_cases htn : turn < ns.length
      · have htn' : (turn : Int) < (ns.length : Int) := by omega
        obtain ⟨gt, hgl, hge⟩ : ∃ gt, gt < siz z ∧ (ns.getD (turn : Int).toNat 0).fmod (siz z : Int) = (gt : Int) := ⟨gi z _, (gi_ok z _).2, (gi_ok z _).1⟩
        obtain ⟨tv, hva⟩ := dv.val gt (List.mem_range.mpr hgl)
        by_cases hx : x gt < 3
        · have hx' : (x gt : Int) < 3 := by omega
          k_steps
          rename Fr _ _ _ _ => F3
          rename News _ _ _ _ => N3
          refine ⟨try_led G st F3 N3 T' hr' hT (fun p hp => by rw [List.mem_singleton.mp hp]; exact Nat.ne_of_gt hlD) (fun p hp => (htl p hp).1) B' hlb O W2 (by omega) (fun b hb => ⟨(cof_cap O hx3 hx b hb).1, (cof_cap O hx3 hx b hb).2⟩) ⟨rfl, Nat.le_of_ble_eq_true rfl, Nat.le_of_ble_eq_true rfl⟩ ?_ ?_⟩
          · intro tv' h' tk' n'' rows'' tups'' hz0 er hT' htl' F' N'
            subst er
            k_steps
            rename Fr _ _ _ _ => F4
            rename News _ _ _ _ => N4
            refine ⟨setItem_use (other := []) (oD := od) (rest := (l, lst rows'' n'') :: tups'') F4 N4 (fun p hp => nomatch hp) (offD N4 hd hlD (tupT htl htl')) hd (by rw [dv.len, List.length_range]; omega) ?_⟩
            intro h5 o5 F5 N5 hd5
            k_steps
            rename Fr _ _ _ _ => F6
            rename News _ _ _ _ => N6
            exact WhileStep.intro F6 N6 (by rw [hI2.early htn]; exact meas_early htn) ⟨turn + 1, 0, x, o5, _, rows'', n'', tups'', _, _, rfl, rfl, hd5, (dv.put (x' := fun i => (x i : Int)) (List.mem_range.mpr hgl) (fun j hj e => letter_inj (Nat.lt_of_lt_of_le (List.mem_range.mp hj) h4) (Nat.lt_of_lt_of_le hgl h4) e) _ _ (by simp) (fun j _ hj => rfl)), hR, .zero, W2, hrl, hT', (tupT htl htl'), e1, e2, e3, e4, e5, rfl, rfl⟩
          · intro tv' h' tk' n'' rows'' tups'' hz0 W' er hT' htl' F' N'
            have hR' := Reach.fire hR hgl hx (can_fire O hz0)
            k_steps
            rename Fr _ _ _ _ => F4
            rename News _ _ _ _ => N4
            refine ⟨setItem_use (other := []) (oD := od) (rest := (l, lst rows'' n'') :: tups'') F4 N4 (fun p hp => nomatch hp) (offD N4 hd hlD (tupT htl htl')) hd (by rw [dv.len, List.length_range]; omega) ?_⟩
            intro h5 o5 F5 N5 hd5
            k_steps
            rename Fr _ _ _ _ => F6
            rename News _ _ _ _ => N6
            exact WhileStep.intro F6 N6 (meas_fire h4 (reach_facts (bsok O hz) hR').1 hgl hI2.le) ⟨turn + 1, 0, (fun i => if i = gt then x i + 1 else x i), o5, _, rows'', n'', tups'', _, _, rfl, rfl, hd5, (dv.put (x' := fun i => ((if i = gt then x i + 1 else x i : Nat) : Int)) (List.mem_range.mpr hgl) (fun j hj e => letter_inj (Nat.lt_of_lt_of_le (List.mem_range.mp hj) h4) (Nat.lt_of_lt_of_le hgl h4) e) _ _ (by simp) (fun j _ hj => by simp [hj])), hR', .zero, (cof_fire O hfeas W'), (er.trans hrl), hT', (tupT htl htl'), e1, e2, e3, e4, e5, rfl, rfl⟩
        · have hx' : ¬ (x gt : Int) < 3 := by omega
          k_steps
          rename Fr _ _ _ _ => F4
          rename News _ _ _ _ => N4
          refine ⟨setItem_use (other := []) (oD := od) (rest := (l, lst rows' n') :: tups) F4 N4 (fun p hp => nomatch hp) (offD N4 hd hlD htl) hd (by rw [dv.len, List.length_range]; omega) ?_⟩
          intro h5 o5 F5 N5 hd5
          k_steps
          rename Fr _ _ _ _ => F6
          rename News _ _ _ _ => N6
          exact WhileStep.intro F6 N6 (by rw [hI2.early htn]; exact meas_early htn) ⟨turn + 1, 0, x, o5, _, rows', n', tups, _, _, rfl, rfl, hd5, (dv.put (x' := fun i => (x i : Int)) (List.mem_range.mpr hgl) (fun j hj e => letter_inj (Nat.lt_of_lt_of_le (List.mem_range.mp hj) h4) (Nat.lt_of_lt_of_le hgl h4) e) _ _ (by simp) (fun j _ hj => rfl)), hR, .zero, W2, hrl, hT, htl, e1, e2, e3, e4, e5, rfl, rfl⟩
      · have htn' : ¬ (turn : Int) < (ns.length : Int) := by omega
        obtain ⟨gt, hgl, hge, hgm⟩ : ∃ gt, gt < siz z ∧ (turn : Int).fmod (siz z : Int) = (gt : Int) ∧ gt = turn % siz z := ⟨gi z _, (gi_ok z _).2, (gi_ok z _).1, gi_nat z turn⟩
        obtain ⟨tv, hva⟩ := dv.val gt (List.mem_range.mpr hgl)
        by_cases hx : x gt < 3
        · have hx' : (x gt : Int) < 3 := by omega
          k_steps
          rename Fr _ _ _ _ => F3
          rename News _ _ _ _ => N3
          refine ⟨try_led G st F3 N3 T' hr' hT (fun p hp => by rw [List.mem_singleton.mp hp]; exact Nat.ne_of_gt hlD) (fun p hp => (htl p hp).1) B' hlb O W2 (by omega) (fun b hb => ⟨(cof_cap O hx3 hx b hb).1, (cof_cap O hx3 hx b hb).2⟩) ⟨rfl, Nat.le_of_ble_eq_true rfl, Nat.le_of_ble_eq_true rfl⟩ ?_ ?_⟩
          · intro tv' h' tk' n'' rows'' tups'' hz0 er hT' htl' F' N'
            subst er
            k_steps
            rename Fr _ _ _ _ => F4
            rename News _ _ _ _ => N4
            refine ⟨setItem_use (other := []) (oD := od) (rest := (l, lst rows'' n'') :: tups'') F4 N4 (fun p hp => nomatch hp) (offD N4 hd hlD (tupT htl htl')) hd (by rw [dv.len, List.length_range]; omega) ?_⟩
            intro h5 o5 F5 N5 hd5
            k_steps
            rename Fr _ _ _ _ => F6
            rename News _ _ _ _ => N6
            exact WhileStep.intro F6 N6 (meas_idle h4 hid) ⟨turn + 1, (idle + 1), x, o5, _, rows'', n'', tups'', _, _, rfl, rfl, hd5, (dv.put (x' := fun i => (x i : Int)) (List.mem_range.mpr hgl) (fun j hj e => letter_inj (Nat.lt_of_lt_of_le (List.mem_range.mp hj) h4) (Nat.lt_of_lt_of_le hgl h4) e) _ _ (by simp) (fun j _ hj => rfl)), hR, (hI2.more hid htn (hgm ▸ stuck_of O hz0)), W2, hrl, hT', (tupT htl htl'), e1, e2, e3, e4, e5, rfl, rfl⟩
          · intro tv' h' tk' n'' rows'' tups'' hz0 W' er hT' htl' F' N'
            have hR' := Reach.fire hR hgl hx (can_fire O hz0)
            k_steps
            rename Fr _ _ _ _ => F4
            rename News _ _ _ _ => N4
            refine ⟨setItem_use (other := []) (oD := od) (rest := (l, lst rows'' n'') :: tups'') F4 N4 (fun p hp => nomatch hp) (offD N4 hd hlD (tupT htl htl')) hd (by rw [dv.len, List.length_range]; omega) ?_⟩
            intro h5 o5 F5 N5 hd5
            k_steps
            rename Fr _ _ _ _ => F6
            rename News _ _ _ _ => N6
            exact WhileStep.intro F6 N6 (meas_fire h4 (reach_facts (bsok O hz) hR').1 hgl hI2.le) ⟨turn + 1, 0, (fun i => if i = gt then x i + 1 else x i), o5, _, rows'', n'', tups'', _, _, rfl, rfl, hd5, (dv.put (x' := fun i => ((if i = gt then x i + 1 else x i : Nat) : Int)) (List.mem_range.mpr hgl) (fun j hj e => letter_inj (Nat.lt_of_lt_of_le (List.mem_range.mp hj) h4) (Nat.lt_of_lt_of_le hgl h4) e) _ _ (by simp) (fun j _ hj => by simp [hj])), hR', .zero, (cof_fire O hfeas W'), (er.trans hrl), hT', (tupT htl htl'), e1, e2, e3, e4, e5, rfl, rfl⟩
        · have hx' : ¬ (x gt : Int) < 3 := by omega
          k_steps
          rename Fr _ _ _ _ => F4
          rename News _ _ _ _ => N4
          refine ⟨setItem_use (other := []) (oD := od) (rest := (l, lst rows' n') :: tups) F4 N4 (fun p hp => nomatch hp) (offD N4 hd hlD htl) hd (by rw [dv.len, List.length_range]; omega) ?_⟩
          intro h5 o5 F5 N5 hd5
          k_steps
          rename Fr _ _ _ _ => F6
          rename News _ _ _ _ => N6
          exact WhileStep.intro F6 N6 (meas_idle h4 hid) ⟨turn + 1, (idle + 1), x, o5, _, rows', n', tups, _, _, rfl, rfl, hd5, (dv.put (x' := fun i => (x i : Int)) (List.mem_range.mpr hgl) (fun j hj e => letter_inj (Nat.lt_of_lt_of_le (List.mem_range.mp hj) h4) (Nat.lt_of_lt_of_le hgl h4) e) _ _ (by simp) (fun j _ hj => rfl)), hR, (hI2.more hid htn (hgm ▸ fun q => absurd q hx)), W2, hrl, hT, htl, e1, e2, e3, e4, e5, rfl, rfl⟩
    · have hid' : ¬ (idle : Int) < (siz z : Int) := by omega
      k_steps
      rename Fr _ _ _ _ => F2
      rename News _ _ _ _ => N2
      exact ⟨⟨D, od, kvs₂, x, _, _, rows', n', rfl, rfl, fun b o hb e => F2.keep _ _ (hne b o hb e), (N2 (l, lst rows' n') (List.mem_append_right _ (.head _))).1, rows_at2 F2 N2 hr' hT, fun r h => (hT r h).imp id fun q => bare hne (N2 _ (List.mem_append_right _ (.tail _ q))).2.2 (htl _ q).1, hrl, W2, (N2 (D, od) (.head _)).1, bare hne (N2 (D, od) (.head _)).2.2 (Nat.ne_of_gt hlD), hd, dv, hR, hI2.fin hid⟩⟩
end
end Mine
namespace Mine
section
variable {w : World} {mean : ExcName → Option Value} {mg mb : Str → Option Value} {h₀ : Heap}
local macro_rules | `(tactic| walk_at "exec For") => `(tactic| (k_here; (rename Fr _ _ _ _ => lF'); (with_unfolding_all refine For_V lF' (by rfl) (by rfl) ?_)))
noncomputable def kp (p : Nat × Nat) : Str := letter p.1 ++ letter p.2
noncomputable def prefP (n i : Nat) : List (Nat × Nat) := (List.range i).flatMap fun s => (List.range n).map fun t => (s, t)
theorem prefP_succ (n i : Nat) : prefP n (i + 1) = prefP n i ++ (List.range n).map fun t => (i, t) := by
  unfold prefP; rw [List.range_succ, List.flatMap_append]; simp
theorem kp_inj : ∀ a < 4, ∀ b < 4, ∀ c < 4, ∀ d < 4, ¬ kp (a, b) = kp (c, d) ∨ (a = c ∧ b = d) := by decide +kernel
theorem kp_eq {a b c d : Nat} (h1 : a < 4) (h2 : b < 4) (h3 : c < 4) (h4 : d < 4) (h : kp (a, b) = kp (c, d)) : a = c ∧ b = d := (kp_inj a h1 b h2 c h3 d h4).resolve_left fun q => q h
theorem prefP_mem {n i : Nat} {p : Nat × Nat} : p ∈ prefP n i ↔ p.1 < i ∧ p.2 < n := by
  unfold prefP
  simp only [List.mem_flatMap, List.mem_map, List.mem_range]
  constructor
  · rintro ⟨s, hs, t, ht, rfl⟩; exact ⟨hs, ht⟩
  · rintro ⟨h1, h2⟩; exact ⟨p.1, h1, p.2, h2, rfl⟩
theorem prefP_all (n : Nat) : prefP n n = allPairs n := rfl
theorem prefP_len (n i : Nat) : (prefP n i).length = i * n := by
  induction i with
  | zero => simp [prefP]
  | succ i ih => rw [prefP_succ, List.length_append, ih]; simp [Nat.succ_mul]
theorem storeC {prog : Program} {A : Around} {E : Value → Shared → Prop} {s : Shared} {b : Heap} {L c : Addr} {m : Str → Option Value} {other rest : List (Addr × Obj)} {oc : Obj} {v₀ : Option Value} {v : Value} {env : Env} {name : Str} {Q : Unit → Shared → Prop} (F : Fr b L s.heap m) (N : News b L s.heap (other ++ (c, oc) :: rest)) (h1 : ∀ p ∈ other, p.1 ≠ c) (h2 : ∀ p ∈ rest, p.1 ≠ c) (hd : oc.data = .cell v₀) (hk : env.scope.kind = .function) (hl : env.kindOf name = some .cell) (hc : env.cells.lookup name = some c)
    (h : ∀ h' o', o'.data = .cell (some v) → Fr b L h' m → News b L h' (other ++ (c, o') :: rest) → Q () { s with heap := h' }) : wpAny (model prog w) A (storeName env name v) Q E s := by
  have hm := N (c, oc) (List.mem_append_right _ (.head _))
  refine wpAny_storeName_cell hk hl hc ⟨oc, hm.1, hd⟩ fun h' ⟨o', ho', hd'⟩ hs => ?_
  exact h h' o' hd' (F.change hs hm.2.1 hm.2.2) (N.setIn h1 h2 hs ho')
theorem kp_inj2 {n : Nat} (h4 : n ≤ 4) {p q : Nat × Nat} (hp : p ∈ allPairs n) (hq : q ∈ allPairs n) (e : kp p = kp q) : p = q := by
  obtain ⟨a, b⟩ := p
  obtain ⟨c, d⟩ := q
  have h1 := mem_allPairs.mp hp
  have h2 := mem_allPairs.mp hq
  simp only at h1 h2
  have := kp_eq (by omega) (by omega) (by omega) (by omega) e
  rw [this.1, this.2]
theorem dv_len {kvs : List (Str × Value)} {x : Nat × Nat → Int} {n : Nat} (h4 : n ≤ 4) (dv : DV kp (allPairs n) kvs x) : kvs.length ≤ 1000 := by
  rw [dv.len, ← prefP_all, prefP_len]
  have : n * n ≤ 4 * 4 := Nat.mul_le_mul h4 h4
  omega
local macro_rules | `(tactic| walk_at "eval Name") => `(tactic| (k_here; refine ldLoc (by k_asm) (by assumption) ?_))
local macro_rules | `(tactic| walk_at "subscriptTail Name BinOp ref str") => `(tactic| (k_here; refine kda_item (knd := PySem.strKind _ _) (by k_asm) (by first | assumption | k_mem) (by k_asm) (strKind_is _ _ _ _) (by assumption) ?_))
structure StopAt2 (P : Prop) : Prop where
  p : P
local macro_rules | `(tactic| walk_at "call builtin:list.append") => `(tactic| (k_here; refine StopAt2.p ?_))
local macro_rules | `(tactic| walk_at "eval ListComp") => `(tactic| (k_here; refine StopAt2.p ?_))
local macro_rules | `(tactic| walk_at "setItem ref str") => `(tactic| (k_here; refine StopAt2.p ?_))
local macro_rules | `(tactic| walk_at "exec For Tuple Name cons nil") => `(tactic| (k_here; (rename Fr _ _ _ _ => lF'); (with_unfolding_all refine For_T lF' ?_)))
structure PostD (w : World) (z : Bool) (bs : List (Nat × Nat × Nat)) (s : Shared) (v : Value) (s' : Shared) : Prop where
  ex : ∃ D od kvs x h' tk, v = .ref D ∧ s' = { s with heap := h', toks := tk } ∧ (∀ b o, s.heap.get? b = some o → h'.get? b = some o) ∧ h'.get? D = some od ∧ s.heap.get? D = none ∧ od.IsDictOf (PySem.strKind prog3 w) kvs ∧ DV letter (List.range (siz z)) kvs x ∧ ∀ j < siz z, DueIs (siz z) (fw (far0 bs) (siz z)) j (x j)
theorem due_c (G : G3 w mean mg mb h₀) {s : Shared} (hs : h₀.StaysIn s.heap) {lb : Addr}
    {brs : List BRow} (B : BxAt s.heap lb brs) (O : BxOK (brs.map BRow.box)) {z : Bool} (hz : ∀ b ∈ brs.map BRow.box, b.1 < siz z ∧ b.2.1 < siz z) (t1 : Tok) :
    wpAny (model prog3 w) (Aq 9) (call (.ref 262) [.ref lb, .str (gts z) t1]) (PostD w z (brs.map BRow.box) s) noE s := by
  refine wpAny_call ?_
  refine enterC (hid := []) (binds := [(Str.ofString "boxes", .ref lb), (Str.ofString "gates", .str (gts z) t1)]) G hs (fun p h => nomatch h) (by k_is) (by k_is) (by rfl) (by exact Nat.le_of_ble_eq_true rfl) (BindsTo.of_eq rfl) rfl (by decide +kernel) ?_ rfl rfl rfl
  intro g L h₁ tk cells hgg st F N Y X TT hlt
  have B' : BxAt g lb brs := hgg ▸ B
  obtain ⟨of, og, hE, d2, d1⟩ := CellsAre.two Y
  subst hE
  clear Y
  replace d1 : og.data = .cell (some (.str (gts z) t1)) := d1
  replace d2 : of.data = .cell none := d2
  simp only [List.cons_append, List.nil_append] at N
  dsimp only
  obtain ⟨hgs, hga⟩ := gts_fact z
  have h4 := siz_le z
  refine wpAny_execs_cons ?_
  refine wpAny_Assign_Name ?_
  refine DictComp_Z (by with_unfolding_all rfl) (by rfl) (by decide) ?_
  k_steps
  refine outZ_intro (x := Str.ofString "source") (fun D i mC nw => ∃ oD kvs, nw = (D, oD) :: [(L + 1 + 1, of), (L + 1, og)] ∧ oD.IsDictOf (PySem.strKind prog3 w) kvs ∧ DV kp (prefP (siz z) i) kvs (fun _ => 99)) new_dict rfl (fun I D C => lt_dictO) (fun I D C R s hs h => start_Z rfl rfl rfl rfl hs h) (by decide) rfl rfl (src_text rfl hga) F N (fun h => nomatch h) (fun D => ⟨dct0, [], rfl, dct0_is, DV.nil⟩) ?_ ?_
  · clear F N
    rintro D C I i v m₁ oC own news₁ h tk E' hi ⟨c, u, hc, rfl⟩ ⟨oD, kvs, rfl, hd, dv⟩ hN hID off hown ⟨oI, hoI, hit⟩ hns F N
    obtain ⟨hiz, hcl⟩ := gts_item hc
    rw [hcl] at hns
    obtain ⟨m₂, e2, hm⟩ : ∃ m₂ : Str → Option Value, m₂ = (fun y => if y = Str.ofString "source" then some (.str (letter i) u) else m₁ y) ∧ m₂ (Str.ofString "source") = some (.str (letter i) u) := ⟨_, rfl, if_pos rfl⟩
    rw [← e2] at hns
    have hi4 : i < 4 := Nat.lt_of_lt_of_le hiz h4
    have hIC : I ≠ C := Nat.ne_of_lt (Nat.lt_trans hID.1 hID.2)
    have hownC : ∀ p ∈ own, p.1 ≠ C := fun p hp => (hown p hp).elim (fun e => e ▸ hIC) fun e => nomatch e
    have hownD : ∀ p ∈ own, p.1 ≠ D := fun p hp => (hown p hp).elim (fun e => e ▸ Nat.ne_of_lt hID.1) fun e => nomatch e
    refine inner_Z (by intro _; rfl) ?_
    k_steps
    refine inZ_intro (x := Str.ofString "target") (C := C) (m₁ := m₂) (news := own ++ (D, oD) :: [(L + 1 + 1, of), (L + 1, og)]) (fun j mC nw => mC (Str.ofString "source") = some (.str (letter i) u) ∧ ∃ oD kvs, nw = own ++ (D, oD) :: [(L + 1 + 1, of), (L + 1, og)] ∧ oD.IsDictOf (PySem.strKind prog3 w) kvs ∧ DV kp (prefP (siz z) i ++ (List.range j).map fun t => (i, t)) kvs (fun _ => 99)) (fun I => lt_dictI) (fun I R s hs h => start_Z rfl rfl rfl rfl hs h) rfl (by rfl) (by rfl) (src_text rfl hga) F hns (fun p hp => N p (by simpa [or_left_comm, or_assoc] using hp)) (fun p hp => (List.mem_append.mp hp).elim (hownC p) fun q => (off p q).2) (fun h => nomatch h) (fun h => nomatch h) ⟨hm, oD, kvs, rfl, hd, by simpa using dv⟩ ?_ ?_
    · clear F N hns hm hd dv
      rintro I₂ j v m₃ oC₂ own₂ news₂ h2 tk2 E₂ hj ⟨c₂, u₂, hc₂, rfl⟩ ⟨hm, oD₂, kvs₂, rfl, hd, dv⟩ hN₂ off₂ hown₂ ⟨oI₂, hoI₂, hit₂⟩ hns F N
      obtain ⟨hjz, hcl₂⟩ := gts_item hc₂
      rw [hcl₂] at hns
      obtain ⟨m₄, e4, hm4, hm5⟩ : ∃ m₄ : Str → Option Value, m₄ = (fun y => if y = Str.ofString "target" then some (.str (letter j) u₂) else m₃ y) ∧ m₄ (Str.ofString "target") = some (.str (letter j) u₂) ∧ m₄ (Str.ofString "source") = some (.str (letter i) u) := ⟨_, rfl, if_pos rfl, hm⟩
      rw [← e4] at hns
      have hj4 : j < 4 := Nat.lt_of_lt_of_le hjz h4
      have N1 : News g L h2 ((own₂ ++ (C, oC₂) :: own) ++ (D, oD₂) :: [(L + 1 + 1, of), (L + 1, og)]) := by simpa using N
      have hCm : (C, oC₂) ∈ (own₂ ++ (C, oC₂) :: own) ++ (D, oD₂) :: [(L + 1 + 1, of), (L + 1, og)] := by simp
      clear N
      have hli := letter_len i hi4
      have hlj := letter_len j hj4
      refine emitD_Z ?_
      k_steps
      have hkn : kp (i, j) ∉ (prefP (siz z) i ++ (List.range j).map fun t => (i, t)).map kp := fun q => by
        obtain ⟨⟨a, b⟩, hab, e⟩ := List.mem_map.mp q
        have hb : a ≤ i ∧ b < siz z ∧ (a = i → b < j) := by
          rcases List.mem_append.mp hab with h | h
          · have := prefP_mem.mp h; exact ⟨Nat.le_of_lt this.1, this.2, fun e => absurd this.1 (by omega)⟩
          · obtain ⟨t, ht, e⟩ := List.mem_map.mp h
            cases e
            have := List.mem_range.mp ht
            exact ⟨Nat.le_refl _, by omega, fun _ => this⟩
        have := kp_eq (by omega) (by omega) hi4 hj4 e
        have := hb.2.2 this.1
        omega
      have hlen : kvs₂.length ≤ 1000 := by
        rw [dv.len, List.length_append, prefP_len, List.length_map, List.length_range]
        have : i * siz z ≤ 4 * 4 := Nat.mul_le_mul (by omega) h4
        omega
      refine dictSet_use F N1 (fun p hp => ?_) (fun p hp => ?_) hd hlen ?_
      · rcases List.mem_append.mp hp with hp | hp
        · rcases hown₂ p hp with e | e
          · rw [e]; exact Ne.symm (off₂ (D, oD₂) (by simp)).1
          · cases e
        · rcases List.mem_cons.mp hp with rfl | hp
          · exact Nat.ne_of_gt hID.2
          · exact hownD p hp
      · exact Nat.ne_of_lt (hN p hp).1
      intro h' o' F' N' hd'
      refine ⟨h', _, m₄, oC₂, own ++ (D, o') :: [(L + 1 + 1, of), (L + 1, og)], rfl, F', hns, by simpa using N', fun p hp => ?_, hm5, o', _, rfl, hd', ?_⟩
      · rcases List.mem_append.mp hp with hp' | hp'
        · exact off₂ p (List.mem_append_left _ hp')
        · rcases List.mem_cons.mp hp' with rfl | hp'
          · exact off₂ (D, oD₂) (by simp)
          · exact off₂ p (List.mem_append_right _ (.tail _ hp'))
      · rw [List.range_succ, List.map_append, ← List.append_assoc]
        exact dv.add hkn _
    · clear F N hns hm hd dv
      rintro m₃ oC₂ news₂ h2 tk2 ⟨hm, oD₂, kvs₂, rfl, hd, dv⟩ off₂ F hns N
      refine ⟨h2, _, m₃, oC₂, (D, oD₂) :: [(L + 1 + 1, of), (L + 1, og)], rfl, F, hns, fun p hp => N p (by simpa [or_left_comm, or_assoc] using hp), fun p hp => ?_, oD₂, kvs₂, rfl, hd, ?_⟩
      · rcases List.mem_cons.mp hp with rfl | hp
        · exact off (D, oD) (.head _)
        · exact off p (.tail _ hp)
      · rw [hgs, ← prefP_succ] at dv
        exact dv
  · clear F N
    rintro D C m₁ news₁ h tk ⟨oD, kvs, rfl, hd, dv⟩ hND hCN hCL hC₀ F hn N
    refine rr_eval hCN hCL hC₀ F hn N ?_
    clear F hn N
    intro h2 F N
    rw [hgs, prefP_all] at dv
    refine storeC (other := [(D, oD)]) (rest := [(L + 1, og)]) F N (fun p hp => ?_) (fun p hp => ?_) d2 rfl (by rfl) (by rfl) ?_
    · rw [List.mem_singleton.mp hp]; exact Nat.ne_of_gt (hND (L + 1 + 1, of) (.head _))
    · rw [List.mem_singleton.mp hp]; exact Nat.ne_of_lt (Nat.lt_succ_self (L + 1))
    clear F N d2
    intro h3 of d2 F N
    k_steps
    rename Fr _ _ _ _ => F
    rename News _ _ _ _ => N
    have hlbL : lb ≠ L := fun e => by
      obtain ⟨n, q⟩ := B'.list
      exact Nat.lt_irrefl _ (Nat.lt_of_lt_of_le (e ▸ Heap.lt_size q) F.above)
    have hDlb : D ≠ lb := fun e => by
      obtain ⟨n, q⟩ := B'.list
      have := (N (D, oD) (.head _)).2.2
      rw [show (D, oD).1 = lb from e, q] at this; cases this
    have hND' : ∀ a ∈ [L + 1 + 1, L + 1], a < D := fun a ha => by
      rcases List.mem_cons.mp ha with rfl | ha
      · exact hND (L + 1 + 1, _) (.head _)
      · rw [List.mem_singleton.mp ha]; exact hND (L + 1, og) (.tail _ (.head _))
    have hBsz : (List.toArray (brs.map (fun r => Value.ref r.a))).size = brs.length := by simp
    refine loop_tup (ax := lb) (items := List.toArray (brs.map (fun r => Value.ref r.a))) (fun i m nw => ∃ oD kvs, nw = (D, oD) :: [(L + 1 + 1, of), (L + 1, og)] ∧ oD.IsDictOf (PySem.strKind prog3 w) kvs ∧ DV kp (allPairs (siz z)) kvs (fun p => far0 ((brs.map BRow.box).take i) p.1 p.2)) rfl (B'.item.at fun o e => F.keep _ o e) hlbL F N ⟨oD, kvs, rfl, hd, dv.congr fun p _ => (far0_nil _ _).symm⟩ ?_ ?_
    · clear F N hd dv
      rintro I i v m₁ news₁ s₁ own hiv ⟨oD, kvs, rfl, hd, dv⟩ hI hlt' hown hit F N
      obtain ⟨r, hri, rfl⟩ : ∃ r, brs[i]? = some r ∧ v = .ref r.a := by
        have q : (brs.map (fun r => Value.ref r.a))[i]? = some v := by simpa using hiv
        rw [List.getElem?_map] at q
        obtain ⟨r, hr, e⟩ := Option.map_eq_some_iff.mp q
        exact ⟨r, hr, e.symm⟩
      have hrm : r ∈ brs := List.mem_of_getElem? hri
      have hbm : r.box ∈ brs.map BRow.box := List.mem_map.mpr ⟨r, hrm, rfl⟩
      have hTt := B'.isTup hrm
      obtain ⟨hr1, hr2, hr3⟩ := O.s r.box hbm
      replace hr1 : r.s < 4 := hr1
      replace hr2 : r.t < 4 := hr2
      have hls := letter_len r.s hr1
      have hlt2 := letter_len r.t hr2
      have hpm : (r.s, r.t) ∈ allPairs (siz z) := mem_allPairs.mpr (hz r.box hbm)
      have hbi : (brs.map BRow.box)[i]? = some r.box := by rw [List.getElem?_map, hri]; rfl
      have hnd : ∀ b' ∈ (brs.map BRow.box).take i, ¬ (b'.1 = r.box.1 ∧ b'.2.1 = r.box.2.1) := fun b' hb' e => by
        have hnd := O.nd
        rw [← List.take_append_drop i (brs.map BRow.box), List.map_append, List.nodup_append] at hnd
        refine hnd.2.2 (b'.1, b'.2.1) (List.mem_map.mpr ⟨b', hb', rfl⟩) (r.box.1, r.box.2.1) (List.mem_map.mpr ⟨r.box, ?_, rfl⟩) (by rw [e.1, e.2])
        exact List.mem_of_getElem? (i := 0) (by rw [List.getElem?_drop]; exact hbi)
      have htk : (brs.map BRow.box).take (i + 1) = (brs.map BRow.box).take i ++ [r.box] := by rw [List.take_add_one, hbi]; rfl
      have hDc : ∀ p ∈ [(L + 1 + 1, of), (L + 1, og)], p.1 ≠ D := fun p hp => Nat.ne_of_lt (hND' p.1 (by simpa using List.mem_map.mpr ⟨p, hp, rfl⟩))
      k_steps
      rename Fr _ _ _ _ => F3
      rename News _ _ _ _ => N3
      refine ⟨setItem_use (other := own) (oD := oD) (rest := [(L + 1 + 1, of), (L + 1, og)]) F3 N3 (fun p hp => ?_) hDc hd (dv_len h4 dv) ?_⟩
      · rcases hown p hp with e | e
        · rw [e]; exact Ne.symm (hI (D, oD) (.head _))
        · rw [e]; exact fun e' => hDlb e'.symm
      intro h5 o5 F5 N5 hd5
      k_steps
      have dv' : DV kp (allPairs (siz z)) (stored kvs (letter r.s ++ letter r.t) (.int (r.c : Int) r.tc)) (fun p => far0 ((brs.map BRow.box).take (i + 1)) p.1 p.2) := by
        refine dv.put (i := (r.s, r.t)) hpm (fun j hj e => kp_inj2 h4 hj hpm e) _ _ ?_ ?_
        · show far0 ((brs.map BRow.box).take (i + 1)) r.s r.t = _
          rw [htk, far0_snoc hnd]
          exact if_pos ⟨rfl, rfl⟩
        · intro j hj hne
          show far0 ((brs.map BRow.box).take (i + 1)) j.1 j.2 = _
          rw [htk, far0_snoc hnd, if_neg]
          rintro ⟨e1, e2⟩
          exact hne (Prod.ext e1 e2)
      refine TurnT.next F5 N5 (fun p hp => ?_) ⟨o5, _, rfl, hd5, dv'⟩
      rcases List.mem_cons.mp hp with rfl | hp
      · exact hI (D, oD) (.head _)
      · exact hI p (.tail _ hp)
    · clear F N hd dv
      rintro m₁ news₁ h tk ⟨oD, kvs, rfl, hd, dv⟩ F N
      have hBm : brs.length = (brs.map BRow.box).length := by rw [List.length_map]
      rw [hBsz, hBm, List.take_length] at dv
      generalize hbs : brs.map BRow.box = bs at *
      have hDc : ∀ p ∈ [(L + 1 + 1, of), (L + 1, og)], p.1 ≠ D := fun p hp => Nat.ne_of_lt (hND' p.1 (by simpa using List.mem_map.mpr ⟨p, hp, rfl⟩))
      k_steps
      rename Fr _ _ _ _ => F2
      rename News _ _ _ _ => N2
      unfold Lp
      refine loop_str (fun k m nw => ∃ oD kvs, nw = (D, oD) :: [(L + 1 + 1, of), (L + 1, og)] ∧ oD.IsDictOf (PySem.strKind prog3 w) kvs ∧ DV kp (allPairs (siz z)) kvs (fun p => fw (far0 bs) k p.1 p.2)) rfl hga F2 N2 ⟨oD, kvs, rfl, hd, dv⟩ ?_ ?_
      · clear F2 N2 hd dv
        rintro I k c u m₂ news₂ h2 tk2 own hc ⟨oD, kvs, rfl, hd, dv⟩ hI hlt' hown ⟨oI, hoI, hit⟩ F N
        have hDI : D ≠ I := hI (D, oD) (.head _)
        obtain ⟨hkz, hcl⟩ := gts_item hc
        rw [hcl] at F
        have hk4 : k < 4 := Nat.lt_of_lt_of_le hkz h4
        have hnn := fw_nn (far0_nn bs) k
        generalize hGd : fw (far0 bs) k = Gd at dv hnn
        obtain ⟨m₃, e3, hm⟩ : ∃ m₃ : Str → Option Value, m₃ = (fun y => if y = Str.ofString "middle" then some (.str (letter k) u) else m₂ y) ∧ m₃ (Str.ofString "middle") = some (.str (letter k) u) := ⟨_, rfl, if_pos rfl⟩
        rw [← e3] at F
        k_steps
        rename Fr _ _ _ _ => F
        rename News _ _ _ _ => N
        unfold Lp
        refine loop_str (fun i m nw => m (Str.ofString "middle") = some (.str (letter k) u) ∧ ∃ oD kvs, nw = own ++ (D, oD) :: [(L + 1 + 1, of), (L + 1, og)] ∧ oD.IsDictOf (PySem.strKind prog3 w) kvs ∧ DV kp (allPairs (siz z)) kvs (fun p => mix k Gd i 0 p.1 p.2)) rfl hga F N ⟨hm, oD, kvs, rfl, hd, dv.congr fun p _ => (mix_start _ _ _ _).symm⟩ ?_ ?_
        · clear F N hd dv hm
          rintro I₂ i c₂ u₂ m₄ news₂ h5 tk5 own₂ hc₂ ⟨hm, oD, kvs, rfl, hd, dv⟩ hI₂ hlt₂ hown₂ ⟨oI₂, hoI₂, hit₂⟩ F N
          have hDI₂ : D ≠ I₂ := hI₂ (D, oD) (by simp)
          obtain ⟨hiz, hcl₂⟩ := gts_item hc₂
          rw [hcl₂] at F
          obtain ⟨m₅, e5, hm5, hs5⟩ : ∃ m₅ : Str → Option Value, m₅ = (fun y => if y = Str.ofString "source" then some (.str (letter i) u₂) else m₄ y) ∧ m₅ (Str.ofString "middle") = some (.str (letter k) u) ∧ m₅ (Str.ofString "source") = some (.str (letter i) u₂) := ⟨_, rfl, hm, if_pos rfl⟩
          rw [← e5] at F
          k_steps
          rename Fr _ _ _ _ => F
          rename News _ _ _ _ => N
          unfold Lp
          refine loop_str (fun j m nw => m (Str.ofString "middle") = some (.str (letter k) u) ∧ m (Str.ofString "source") = some (.str (letter i) u₂) ∧ ∃ oD kvs, nw = own₂ ++ (own ++ (D, oD) :: [(L + 1 + 1, of), (L + 1, og)]) ∧ oD.IsDictOf (PySem.strKind prog3 w) kvs ∧ DV kp (allPairs (siz z)) kvs (fun p => mix k Gd i j p.1 p.2)) rfl hga F N ⟨hm5, hs5, oD, kvs, rfl, hd, dv⟩ ?_ ?_
          · clear F N hd dv hm hm5 hs5
            rintro I₃ j c₃ u₃ m₆ news₃ h6 tk6 own₃ hc₃ ⟨hm, hms, oD, kvs, rfl, hd, dv⟩ hI₃ hlt₃ hown₃ ⟨oI₃, hoI₃, hit₃⟩ F N
            obtain ⟨hjz, hcl₃⟩ := gts_item hc₃
            rw [hcl₃] at F
            obtain ⟨m₇, e7, hm7, hs7, ht7⟩ : ∃ m₇ : Str → Option Value, m₇ = (fun y => if y = Str.ofString "target" then some (.str (letter j) u₃) else m₆ y) ∧ m₇ (Str.ofString "middle") = some (.str (letter k) u) ∧ m₇ (Str.ofString "source") = some (.str (letter i) u₂) ∧ m₇ (Str.ofString "target") = some (.str (letter j) u₃) := ⟨_, rfl, hm, hms, if_pos rfl⟩
            rw [← e7] at F
            have hi4 : i < 4 := Nat.lt_of_lt_of_le hiz h4
            have hj4 : j < 4 := Nat.lt_of_lt_of_le hjz h4
            have hlk := letter_len k hk4
            have hli := letter_len i hi4
            have hlj := letter_len j hj4
            have hpm : (i, j) ∈ allPairs (siz z) := mem_allPairs.mpr ⟨hiz, hjz⟩
            obtain ⟨ta, ha⟩ : ∃ t, valueAt kvs (letter i ++ letter j) = some (.int (Gd i j) t) := by
              obtain ⟨t, q⟩ := dv.val (i, j) hpm
              exact ⟨t, by rw [show letter i ++ letter j = kp (i, j) from rfl, q]; exact congrArg (fun y => some (Value.int y t)) (mix_at k Gd i j)⟩
            obtain ⟨tb, hb⟩ : ∃ t, valueAt kvs (letter i ++ letter k) = some (.int (Gd i k) t) := by
              obtain ⟨t, q⟩ := dv.val (i, k) (mem_allPairs.mpr ⟨hiz, hkz⟩)
              exact ⟨t, by rw [show letter i ++ letter k = kp (i, k) from rfl, q]; exact congrArg (fun y => some (Value.int y t)) (mix_col hnn k i j i).1⟩
            obtain ⟨tc, hcv⟩ : ∃ t, valueAt kvs (letter k ++ letter j) = some (.int (Gd k j) t) := by
              obtain ⟨t, q⟩ := dv.val (k, j) (mem_allPairs.mpr ⟨hkz, hjz⟩)
              exact ⟨t, by rw [show letter k ++ letter j = kp (k, j) from rfl, q]; exact congrArg (fun y => some (Value.int y t)) (mix_col hnn k i j j).2⟩
            have mD : (D, oD) ∈ own₃ ++ (own₂ ++ (own ++ (D, oD) :: [(L + 1 + 1, of), (L + 1, og)])) := by simp
            have mf : (L + 1 + 1, of) ∈ own₃ ++ (own₂ ++ (own ++ (D, oD) :: [(L + 1 + 1, of), (L + 1, og)])) := by simp
            have mg' : (L + 1, og) ∈ own₃ ++ (own₂ ++ (own ++ (D, oD) :: [(L + 1 + 1, of), (L + 1, og)])) := by simp
            k_steps
            rename Fr _ _ _ _ => F3
            rename News _ _ _ _ => N3
            have N4 : News g L _ ((own₃ ++ own₂ ++ own) ++ (D, oD) :: [(L + 1 + 1, of), (L + 1, og)]) := fun p hp => N3 p (by simpa [or_assoc] using hp)
            refine ⟨setItem_use (other := own₃ ++ own₂ ++ own) (oD := oD) (rest := [(L + 1 + 1, of), (L + 1, og)]) F3 N4 (fun p hp => ?_) hDc hd (dv_len h4 dv) ?_⟩
            · rcases List.mem_append.mp hp with hp | hp
              · rcases List.mem_append.mp hp with hp | hp
                · rw [hown₃ p hp]; exact Ne.symm (hI₃ (D, oD) (by simp))
                · rw [hown₂ p hp]; exact Ne.symm hDI₂
              · rw [hown p hp]; exact Ne.symm hDI
            intro h7 o7 F7 N7 hd7
            have dv' := fun t => dv.put (x' := fun p : Nat × Nat => mix k Gd i (j + 1) p.1 p.2) hpm (fun q hq e => kp_inj2 h4 hq hpm e) (if Gd i k + Gd k j < Gd i j then Gd i k + Gd k j else Gd i j) t (mix_put k Gd i j) (fun q hq hne => mix_else k Gd fun e => hne (Prod.ext e.1 e.2))
            k_steps
            refine TurnEnd.next F7 (fun p hp => N7 p (by simpa [or_assoc] using hp)) (news' := own₂ ++ (own ++ (D, o7) :: [(L + 1 + 1, of), (L + 1, og)])) (fun p hp => ?_) ⟨hm7, hs7, o7, _, rfl, hd7, dv' _⟩
            rcases List.mem_append.mp hp with hp | hp
            · exact hI₃ p (List.mem_append_left _ hp)
            · rcases List.mem_append.mp hp with hp | hp
              · exact hI₃ p (by simp [hp])
              · rcases List.mem_cons.mp hp with rfl | hp
                · exact hI₃ (D, oD) (by simp)
                · exact hI₃ p (by simp at hp ⊢; simp [hp])
          · clear F N hd dv
            rintro m₆ news₃ h6 tk6 ⟨hm, hms, oD, kvs, rfl, hd, dv⟩ F N
            k_steps
            refine TurnEnd.next F N (fun p hp => ?_) ⟨hm, oD, kvs, rfl, hd, dv.congr fun p hp => ?_⟩
            · rcases List.mem_append.mp hp with hp | hp
              · exact hI₂ p (List.mem_append_left _ hp)
              · rcases List.mem_cons.mp hp with rfl | hp
                · exact hDI₂
                · exact hI₂ p (by simp at hp ⊢; simp [hp])
            · rw [hgs]; exact mix_row k Gd (mem_allPairs.mp hp).2
        · clear F N hd dv
          rintro m₄ news₂ h5 tk5 ⟨hm, oD, kvs, rfl, hd, dv⟩ F N
          k_steps
          refine TurnEnd.next F N (fun p hp => ?_) ⟨oD, kvs, rfl, hd, dv.congr fun p hp => ?_⟩
          · rcases List.mem_cons.mp hp with rfl | hp
            · exact hDI
            · exact hI p (.tail _ hp)
          · rw [hgs, mix_end k Gd (mem_allPairs.mp hp).1, ← hGd]; rfl
      · clear F2 N2 hd dv
        rintro m₂ news₂ h2 tk2 ⟨oD, kvs, rfl, hd, dv⟩ F N
        rw [hgs] at dv
        k_steps
        refine DictComp_Z (by with_unfolding_all rfl) (by rfl) (by decide) ?_
        k_steps
        refine outC_intro (x := Str.ofString "gate") (fun D2 i nw => ∃ o2 kvs2 x', nw = (D2, o2) :: (D, oD) :: [(L + 1 + 1, of), (L + 1, og)] ∧ o2.IsDictOf (PySem.strKind prog3 w) kvs2 ∧ DV letter (List.range i) kvs2 x' ∧ ∀ j < i, DueIs (siz z) (fw (far0 bs) (siz z)) j (x' j)) new_dict rfl (by intro n; rfl) (by intro h; rfl) (fun I D C K => lt_dict1) (by intro I D C K R s hs h; exact start_Z rfl rfl rfl rfl hs h) (by rfl) (by intro C K; rfl) (src_text rfl hga) F N (fun h => nomatch h) (fun D2 => ⟨dct0, [], fun _ => 0, rfl, dct0_is, DV.nil, fun j h => absurd h (Nat.not_lt_zero _)⟩) ?_ ?_
        · clear F N
          rintro D2 C2 K I i v mC oC oK own news₁ h6 tk6 E' hi ⟨c, u, hc, rfl⟩ ⟨o2, kvs2, x', rfl, hd2, dv2, hdue⟩ hN2 hID off hown ⟨oI, hoI, hit⟩ hnsC hoK F N
          obtain ⟨hiz, hcl⟩ := gts_item hc
          rw [hcl] at hoK
          have hi4 : i < 4 := Nat.lt_of_lt_of_le hiz h4
          have mK : (K, oK) ∈ own ++ (K, oK) :: (C2, oC) :: (D2, o2) :: (D, oD) :: [(L + 1 + 1, of), (L + 1, og)] := by simp
          refine emitD_Z ?_
          refine kcf_cell (c := K) (o := oK) N (by rfl) mK hoK ?_
          k_steps
          rename Fr _ _ _ _ => F2
          rename News _ _ _ _ => N2
          refine ⟨ListComp_Z (by with_unfolding_all rfl) (by rfl) (by decide) ?_⟩
          refine kcf_cell (c := L + 1) (o := og) N2 (by rfl) (by simp) d1 ?_
          generalize hFd : fw (far0 bs) (siz z) = Fd at dv hdue ⊢
          generalize hrest : (_ :: (own ++ (K, oK) :: (C2, oC) :: (D2, o2) :: (D, oD) :: [(L + 1 + 1, of), (L + 1, og)]) : List (Addr × Obj)) = rest at N2
          have mK2 : (K, oK) ∈ rest := hrest ▸ by simp
          have mD2 : (D, oD) ∈ rest := hrest ▸ by simp
          have mf2 : (L + 1 + 1, of) ∈ rest := hrest ▸ by simp
          have mg2 : (L + 1, og) ∈ rest := hrest ▸ by simp
          refine outZ_intro (x := Str.ofString "one") (fun D4 j mC nw => ∃ ys n, nw = (D4, W.listOf (List.toArray ys) n) :: rest ∧ IntsAre ys (((List.range j).filter fun o => decide (Fd o o = 0)).map fun o => Fd o i)) new_list rfl (by intro I D C; exact lt_listT) (by intro I D C R s hs h; exact start_Z rfl rfl rfl rfl hs h) (by decide) (by rfl) (by rfl) (src_text rfl hga) F2 N2 (fun h => nomatch h) ?_ ?_ ?_
          · exact fun D4 => ⟨[], 0, rfl, IntsAre.nil⟩
          · clear F2 N2
            rintro D4 C4 I4 j v m₁ oC4 own4 news₁ h7 tk7 E7 hj ⟨c4, u4, hc4, rfl⟩ ⟨ys, n4, rfl, hys⟩ hN4 hID4 off4 hown4 ⟨oI4, hoI4, hit4⟩ hns4 F N
            obtain ⟨hjz, hcl4⟩ := gts_item hc4
            rw [hcl4] at hns4
            have hj4 : j < 4 := Nat.lt_of_lt_of_le hjz h4
            obtain ⟨ta, ha⟩ : ∃ t, valueAt kvs (letter j ++ letter j) = some (.int (Fd j j) t) := dv.val (j, j) (mem_allPairs.mpr ⟨hjz, hjz⟩)
            obtain ⟨tb, hb⟩ : ∃ t, valueAt kvs (letter j ++ letter i) = some (.int (Fd j i) t) := dv.val (j, i) (mem_allPairs.mpr ⟨hjz, hiz⟩)
            obtain ⟨m₂', e2', hm2'⟩ : ∃ m₂ : Str → Option Value, m₂ = (fun y => if y = Str.ofString "one" then some (.str (letter j) u4) else m₁ y) ∧ m₂ (Str.ofString "one") = some (.str (letter j) u4) := ⟨_, rfl, if_pos rfl⟩
            rw [← e2'] at hns4
            have hlj := letter_len j hj4
            have hli := letter_len i hi4
            have wk : ∀ p ∈ rest, p ∈ own4 ++ (C4, oC4) :: (D4, W.listOf (List.toArray ys) n4) :: rest := fun p hp => by simp [hp]
            have mK2 := wk _ mK2
            have mD2 := wk _ mD2
            have mf2 := wk _ mf2
            have mC4 : (C4, oC4) ∈ own4 ++ (C4, oC4) :: (D4, W.listOf (List.toArray ys) n4) :: rest := by simp
            refine condT_Z ?_
            by_cases h0 : Fd j j = 0
            · k_steps
              · refine emitL_Z ?_
                k_steps
                rename Fr _ _ _ _ => F3
                rename News _ _ _ _ => N3
                have N5 : News g L _ ((own4 ++ (C4, oC4) :: rest) ++ [(D4, W.listOf (List.toArray ys) n4)]) := fun p hp => N3 p (by simp at hp ⊢; rcases hp with h | h | h | h <;> simp [h])
                refine ⟨append_use F3 N5 (fun p hp => ?_) ?_ ?_⟩
                · rcases List.mem_append.mp hp with hp | hp
                  · rcases hown4 p hp with e | e
                    · rw [e]; exact Nat.ne_of_lt hID4.1
                    · cases e
                  · rcases List.mem_cons.mp hp with rfl | hp
                    · exact Nat.ne_of_gt hID4.2
                    · exact Nat.ne_of_lt (hN4 p hp).1
                · have q := hys.length
                  rw [List.length_map] at q
                  have := List.length_filter_le (fun o => decide (Fd o o = 0)) (List.range j)
                  rw [List.length_range] at this
                  omega
                intro h8 F8 N8
                refine ⟨h8, _, m₂', oC4, (D4, W.listOf (List.toArray (ys ++ [.int (Fd j i) tb])) (n4 + 1)) :: rest, rfl, F8, hns4, fun p hp => N8 p (by simp at hp ⊢; rcases hp with h | h | h | h <;> simp [h]), fun p hp => ?_, ys ++ [.int (Fd j i) tb], n4 + 1, rfl, ?_⟩
                · rcases List.mem_cons.mp hp with rfl | hp
                  · exact off4 (D4, W.listOf (List.toArray ys) n4) (.head _)
                  · exact off4 p (.tail _ hp)
                · rw [List.range_succ, List.filter_append, List.map_append]
                  simpa [h0] using ints_snoc hys (Fd j i) tb
              · exact absurd h0 (by assumption)
            · k_steps
              · exact absurd (by assumption) h0
              · refine ⟨_, _, m₂', oC4, (D4, W.listOf (List.toArray ys) n4) :: rest, rfl, by assumption, hns4, by assumption, off4, ys, n4, rfl, ?_⟩
                rw [List.range_succ, List.filter_append, List.map_append]
                simpa [h0] using hys
          · clear F2 N2
            rintro D4 C4 m₁ news₁ h7 tk7 ⟨ys, n4, rfl, hys⟩ hND4 hCN4 hCL4 hC₀4 F hn N
            refine rr_eval hCN4 hCL4 hC₀4 F hn N ?_
            clear F hn N
            intro h8 F N
            rw [hgs] at hys
            k_steps
            have hyl : (List.map (fun o => Fd o i) (List.filter (fun o => decide (Fd o o = 0)) (List.range (siz z)))).length ≤ 4 := by
              rw [List.length_map]
              have := List.length_filter_le (fun o => decide (Fd o o = 0)) (List.range (siz z))
              rw [List.length_range] at this
              omega
            refine add_lists_ints (vs := [.int 3 _]) (ns := [3]) F N ⟨_, (N _ (List.mem_cons_of_mem _ (hrest ▸ List.mem_cons_self))).1, rfl, _, rfl⟩ ⟨_, (N _ (.head _)).1, rfl, _, rfl⟩ (ints_snoc IntsAre.nil 3 _) hys ?_ (Nat.le_trans (show 1 + _ ≤ 5 by omega) (by decide))
            intro h9 F9 N9 hi9
            k_steps
            rename Fr _ _ _ _ => F3
            rename News _ _ _ _ => N3
            rename _ ∈ [3] ++ _ => hM1
            rename ∀ a, a ∈ [3] ++ _ → _ => hM2
            have N5 : News g L _ ((own ++ (K, oK) :: (C2, oC) :: []) ++ (D2, o2) :: ((D, oD) :: [(L + 1 + 1, of), (L + 1, og)])) := fun p hp => N3 p (by subst hrest; simp at hp ⊢; rcases hp with h | h | h | h | h | h | h <;> simp [h])
            have hkn : letter i ∉ (List.range i).map letter := fun q => by
              obtain ⟨j, hj, e⟩ := List.mem_map.mp q
              have hj' := List.mem_range.mp hj
              have := letter_inj (Nat.lt_trans hj' hi4) hi4 e
              omega
            refine dictSet_use F3 N5 (fun p hp => ?_) (fun p hp => Nat.ne_of_lt (hN2 p hp).1) hd2 (by rw [dv2.len, List.length_range]; omega) ?_
            · rcases List.mem_append.mp hp with hp | hp
              · rcases hown p hp with e | e
                · rw [e]; exact Nat.ne_of_lt hID.1
                · cases e
              · rcases List.mem_cons.mp hp with rfl | hp
                · exact Nat.ne_of_gt (Nat.lt_trans hID.2.1 hID.2.2)
                · rw [List.mem_singleton.mp hp]; exact Nat.ne_of_gt hID.2.1
            intro h10 o10 F10 N10 hd10
            rename Int => M0
            have hdue' := dueL_is (n := siz z) (F := Fd) (i := i) hM1 hM2
            refine ⟨h10, _, mC, oC, oK, _, (D2, o10) :: (D, oD) :: [(L + 1 + 1, of), (L + 1, og)], rfl, F10, hnsC, hoK, by simpa using N10, fun p hp => ?_, o10, _, fun y => if y = i then M0 else x' y, rfl, hd10, ?_, fun j hj => ?_⟩
            · rcases List.mem_cons.mp hp with rfl | hp
              · exact off (D2, o2) (.head _)
              · exact off p (.tail _ hp)
            · rw [List.range_succ]
              have q := DV.add (x := fun y => if y = i then M0 else x' y) (dv2.congr fun j hj => (if_neg (Nat.ne_of_lt (List.mem_range.mp hj))).symm) hkn
              simp only [if_pos] at q
              exact q _
            · by_cases e : j = i
              · subst e; simpa using hdue'
              · simpa [e] using hdue j (by omega)
        · clear F N
          rintro D2 C2 m₁ news₁ h6 tk6 ⟨o2, kvs2, x', rfl, hd2, dv2, hdue⟩ hND2 hCN2 hCL2 hC₀2 F hn N
          refine rr_eval hCN2 hCL2 hC₀2 F hn N ?_
          clear F hn N
          intro h7 F N
          rw [hgs] at dv2 hdue
          k_steps
          rename Fr _ _ _ _ => F3
          rename News _ _ _ _ => N3
          exact ⟨⟨D2, o2, kvs2, x', _, _, rfl, rfl, fun b o e => F3.keep _ _ (hgg ▸ e), (N3 _ (.head _)).1, (by have q := (N3 _ (.head _)).2.2; rw [hgg] at q; exact q), hd2, dv2, hdue⟩⟩
end
end Mine
namespace Mine
section
variable {w : World} {mean : ExcName → Option Value} {mg mb : Str → Option Value} {h₀ : Heap}
theorem get_some (G : G3 w mean mg mb h₀) {s : Shared} (hs : h₀.StaysIn s.heap) {t d l : Addr} {its : List Addr} {kvs : List (Str × Str)} (T : TabAt w s.heap t d l) (R : RowsAt s.heap l its kvs) {x : Str} (tk : Tok) (hx : Txt.lower x ∈ names10) (hlen : x.length ≤ 20) (hK : ∀ kv ∈ kvs, kv.1.length ≤ 20) {k y : Str} (hit : kvs.find? (fun kv => decide (Txt.lower kv.1 = Txt.lower x)) = some (k, y)) :
    wpAny (model prog3 w) (Aq 3) (call (.ref 116) [.ref t, .str x tk]) (Post (IsStr y) s) noE s := by
  refine wpAny_mono (get_c G hs T R tk hx hlen hK) (fun v s' p => ⟨?_, p.keeps⟩) fun _ _ x => x
  have q := p.val
  rw [hit] at q
  exact q
local macro_rules | `(tactic| walk_at "call ref") => `(tactic| (k_here; (with_reducible show wpAny _ _ (call (Value.ref 116) _) _ _ _); (show wpAny _ _ (call (Value.ref 116) [Value.ref _, Value.str _ _]) _ _ _); refine use_str (get_some (by assumption) (stays_fr (by assumption) (by assumption)) (TabAt.at (by assumption) (Fr.keep (by assumption))) (RowsAt.at (by assumption) (Fr.keep (by assumption))) _ (by assumption) (by assumption) (by assumption) (by assumption)) ⟨rfl, Nat.le_of_ble_eq_true rfl, Nat.le_of_ble_eq_true rfl⟩ (by k_asm) (by k_asm) ?_; intro tn' h' tk' F' N'))
local macro_rules | `(tactic| k_inst) => `(tactic| exact inst_tab (by assumption) (by assumption) (by k_asm))
/-- setdefault of a key that is there: its value, nothing is stored -/
theorem setd_old (G : G3 w mean mg mb h₀) {s : Shared} (hs : h₀.StaysIn s.heap) {t d l : Addr} {its : List Addr} {kvs : List (Str × Str)} (T : TabAt w s.heap t d l) (R : RowsAt s.heap l its kvs)
    {x v k y : Str} (hx : Txt.lower x ∈ names10) (hlen : x.length ≤ 20) (hK : ∀ kv ∈ kvs, kv.1.length ≤ 20) (hit : kvs.find? (fun kv => decide (Txt.lower kv.1 = Txt.lower x)) = some (k, y)) (t1 t2 : Tok) :
    wpAny (model prog3 w) (Aq 5) (call (.ref 159) [.ref t, .str x t1, .str v t2]) (Post (IsStr y) s) noE s := by
  refine wpAny_call ?_
  refine enter0 (hid := []) (binds := [(Str.ofString "self", .ref t), (Str.ofString "name", .str x t1), (Str.ofString "value", .str v t2)]) G hs (fun _ h => nomatch h) (by k_is) (by k_is) (by rfl) (by exact Nat.le_of_ble_eq_true rfl) (BindsTo.of_eq rfl) (locs rfl) ?_ rfl rfl rfl (by decide)
  intro g L h₁ hg st F N X TT _
  subst hg
  replace T : TabAt w (hideAll s.heap (List.map (fun (x : Addr × Obj) => x.fst) [])) t d l := T
  replace R : RowsAt (hideAll s.heap (List.map (fun (x : Addr × Obj) => x.fst) [])) l its kvs := R
  obtain ⟨tk0, hd⟩ := T.dict
  have hi0 := T.inst
  k_steps
  exact post_end (by assumption) ⟨_, rfl⟩
end
end Mine
namespace Mine
noncomputable def fst2 (b : Nat × Nat × Nat) : Nat × Nat := (b.1, b.2.1)
theorem sub_filter {α : Type} [BEq α] [LawfulBEq α] {l' l : List α} (h : l'.Sublist l) (hn : l.Nodup) : l.filter (fun a => decide (a ∈ l')) = l' := by
  induction h with
  | slnil => rfl
  | @cons l' l a h ih =>
    have hn' := List.nodup_cons.mp hn
    rw [List.filter_cons, if_neg (by simpa using fun q => hn'.1 (h.subset q))]
    exact ih hn'.2
  | @cons_cons l' l a h ih =>
    have hn' := List.nodup_cons.mp hn
    rw [List.filter_cons, if_pos (by simp)]
    congr 1
    refine (List.filter_congr fun b hb => ?_).trans (ih hn'.2)
    have : b ≠ a := fun e => hn'.1 (e ▸ hb)
    simp [this]
theorem bx_sub (z : Bool) (num : Int) : ∀ c, ((bx z num c).map fst2).Sublist ((List.range c).map (pr z))
  | 0 => .slnil
  | c + 1 => by
    rw [bx_succ, List.range_succ, List.map_append, List.map_append]
    refine (bx_sub z num c).append ?_
    unfold bx1
    split
    · exact .refl _
    · exact .cons _ .slnil
theorem prs_fact : ∀ z : Bool, ((List.range (siz z * (siz z - 1))).map (pr z)).Nodup ∧ ((List.range (siz z * (siz z - 1))).map (pr z)).length ≤ 12 ∧ ((List.range (siz z * (siz z - 1))).map (pr z)).all (fun p => decide (p.1 < siz z ∧ p.2 < siz z ∧ p.1 ≠ p.2)) = true ∧ (allPairs (siz z)).Nodup ∧ (allPairs (siz z)).filter (fun p => decide (p.1 ≠ p.2)) = (List.range (siz z * (siz z - 1))).map (pr z) := by decide +kernel
theorem bx_at (z : Bool) (num : Int) {b : Nat × Nat × Nat} (h : b ∈ bx z num (siz z * (siz z - 1))) : b.1 < siz z ∧ b.2.1 < siz z ∧ b.1 ≠ b.2.1 := by
  have q := (bx_sub z num _).subset (List.mem_map_of_mem (f := fst2) h)
  exact of_decide_eq_true (List.all_eq_true.mp (prs_fact z).2.2.1 _ q)
theorem bx_ok (z : Bool) (num : Int) : BxOK (bx z num (siz z * (siz z - 1))) := by
  have h4 : ∀ z : Bool, siz z ≤ 4 := by decide
  refine ⟨fun b hb => ?_, fun b hb => ?_, ?_, ?_⟩
  · have := bx_at z num hb
    have := h4 z
    exact ⟨by omega, by omega, by omega⟩
  · unfold bx at hb
    obtain ⟨p, _, hp⟩ := List.mem_flatMap.mp hb
    unfold bx1 at hp
    split at hp
    · rw [List.mem_singleton.mp hp]
      show (num / 4 ^ p % 4).toNat < 3
      omega
    · cases hp
  · exact (bx_sub z num _).nodup (prs_fact z).1
  · have := (bx_sub z num (siz z * (siz z - 1))).length_le
    rw [List.length_map] at this
    exact Nat.le_trans this (prs_fact z).2.1
theorem bx_pairs (z : Bool) (num : Int) : (allPairs (siz z)).filter (fun p => decide (p ∈ (bx z num (siz z * (siz z - 1))).map fst2)) = (bx z num (siz z * (siz z - 1))).map fst2 := by
  refine sub_filter ((bx_sub z num _).trans ?_) (prs_fact z).2.2.2.1
  rw [← (prs_fact z).2.2.2.2]
  exact List.filter_sublist
end Mine
namespace Mine
structure BoolP (r : Bool) (b : Heap) (L : Addr) (m : Str → Option Value) (news : List (Addr × Obj)) (s : Shared) (v : Bool) (s' : Shared) : Prop where
  ex : ∃ h' tk', v = r ∧ s' = { s with heap := h', toks := tk' } ∧ Fr b L h' m ∧ News b L h' news
theorem BoolP.intro {r v : Bool} {b : Heap} {L : Addr} {m : Str → Option Value} {news : List (Addr × Obj)} {s : Shared} {h' : Heap} {tk : Nat} (hv : v = r) (F : Fr b L h' m) (N : News b L h' news) : BoolP r b L m news s v { s with heap := h', toks := tk } := ⟨⟨h', tk, hv, rfl, F, N⟩⟩
section
variable {prog : Program} {w : World} {A : Around} {E : Value → Shared → Prop}
theorem take_one {β : Type} {xs : List β} {i : Nat} {b : β} (h : xs[i]? = some b) : xs.take (i + 1) = xs.take i ++ [b] := by rw [List.take_add_one, h]; rfl
/-- a list comprehension of one clause whose element leaves the ledger as it is -/
theorem lc_rel {β : Type} {env : Env} {scope : Scope} {cl : List (Str × Addr)} {elt iter : Expr} {x : Str} {px pos : Pos} {Q : Value → Shared → Prop} {xv : Value} {s₁ : Shared} {n : Nat} {P : Nat → Value → Prop} {B : List Addr} {h₀ : Heap} {L : Addr} {m : Str → Option Value} {news : List (Addr × Obj)}
    (R : β → Value → Prop) (xs : List β) (hn : xs.length = n) (hsz : n ≤ 1000) (hcell : ∀ y ∈ scope.names, y.2 ≠ .cell) (hkind : scope.kind = .function) (hx : scope.names.lookup x = some .local)
    (S : SrcZ prog w A n P B xv s₁) (F : Fr h₀ L s₁.heap m) (N : News h₀ L s₁.heap news) (hBL : L ∉ B) (hBD : ∀ a ∈ B, ∃ o, (a, o) ∈ news ∨ h₀.get? a = some o)
    (turn : ∀ i v b m₂ C oC rest h tk (E' : Value → Shared → Prop), P i v → xs[i]? = some b → m₂ x = some v → LCg.NsObj oC m₂ → (C, oC) ∈ rest → (∀ p ∈ news, p ∈ rest) → Fr h₀ L h m → News h₀ L h rest →
      wpAny (model prog w) A (eval elt (compEnvC scope cl C env)) (ValP (R b) h₀ L m rest { s₁ with heap := h, toks := tk }) E' { s₁ with heap := h, toks := tk })
    (done : ∀ D vs k h tk, Rels R xs vs → (∀ p ∈ news, p.1 < D) → Fr h₀ L h m → News h₀ L h ((D, W.listOf (List.toArray vs) k) :: news) → Q (.ref D) { s₁ with heap := h, toks := tk }) :
    OutZ prog w A env scope cl (.ListComp elt [⟨.Name x px, iter, [], 0⟩] scope pos) (newList []) (compPost (model prog w) A E none Q) E xv s₁ := by
  refine outZ_intro (x := x) (fun D i mC nw => ∃ ys k, nw = (D, W.listOf (List.toArray ys) k) :: news ∧ Rels R (xs.take i) ys) new_list rfl (by intro I D C; exact lt_list1) (by intro I D C R s hs h; exact start_Z rfl rfl rfl rfl hs h) hcell hkind hx S F N hBL (fun D => ⟨[], 0, rfl, trivial⟩) ?_ ?_
  · clear F N
    rintro D C I i v m₁ oC own news₁ h tk E' hi hP ⟨ys, k, rfl, hys⟩ hN hID off hown _ hns F N
    obtain ⟨b, hb⟩ : ∃ b, xs[i]? = some b := ⟨_, List.getElem?_eq_getElem (hn ▸ hi)⟩
    refine emitL_Z ?_
    refine wpAny_mono (turn i v b _ C oC (own ++ (C, oC) :: (D, W.listOf (List.toArray ys) k) :: news) h tk E' hP hb (if_pos rfl) hns (by simp) (fun p hp => by simp [hp]) F N) (fun y s' hq => ?_) fun _ _ e => e
    obtain ⟨h', tk', hR, rfl, F', N'⟩ := hq.ex
    have N5 : News h₀ L h' ((own ++ (C, oC) :: news) ++ [(D, W.listOf (List.toArray ys) k)]) := fun p hp => N' p (by simp at hp ⊢; rcases hp with h | h | h | h <;> simp [h])
    have hyl : ys.length = (xs.take i).length := by
      have aux : ∀ {xs : List β} {vs : List Value}, Rels R xs vs → vs.length = xs.length := by
        intro xs
        induction xs with
        | nil => intro vs h; cases vs with
          | nil => rfl
          | cons a r => exact h.elim
        | cons a r ih => intro vs h; cases vs with
          | nil => exact h.elim
          | cons a' r' => simp [ih h.2]
      exact aux hys
    refine append_use F' N5 (fun p hp => ?_) (by rw [hyl, List.length_take]; omega) ?_
    · rcases List.mem_append.mp hp with hp | hp
      · rcases hown p hp with e | e
        · rw [e]; exact Nat.ne_of_lt hID.1
        · obtain ⟨o, ho⟩ := hBD _ e
          rcases ho with ho | ho
          · exact Nat.ne_of_lt (hN _ ho).1
          · intro q
            have z := (N (D, W.listOf (List.toArray ys) k) (by simp)).2.2
            rw [show (D, W.listOf (List.toArray ys) k).1 = p.1 from q.symm, ho] at z
            cases z
      · rcases List.mem_cons.mp hp with rfl | hp
        · exact Nat.ne_of_gt hID.2
        · exact Nat.ne_of_lt (hN p hp).1
    intro h8 F8 N8
    refine ⟨h8, _, _, oC, (D, W.listOf (List.toArray (ys ++ [y])) (k + 1)) :: news, rfl, F8, hns, fun p hp => N8 p (by simp at hp ⊢; rcases hp with h | h | h | h <;> simp [h]), fun p hp => ?_, ys ++ [y], k + 1, rfl, ?_⟩
    · rcases List.mem_cons.mp hp with rfl | hp
      · exact off (D, W.listOf (List.toArray ys) k) (.head _)
      · exact off p (.tail _ hp)
    · rw [take_one hb]; exact hys.snoc hR
  · clear F N
    rintro D C m₁ news₁ h tk ⟨ys, k, rfl, hys⟩ hND hCN hCL hC₀ F hn' N
    refine rr_eval hCN hCL hC₀ F hn' N ?_
    intro h' F' N'
    rw [← hn, List.take_length] at hys
    exact done D ys k h' tk hys hND F' N'
theorem rels_len {β : Type} {R : β → Value → Prop} : ∀ {xs : List β} {vs : List Value}, Rels R xs vs → vs.length = xs.length
  | [], [], _ => rfl
  | _ :: _, _ :: _, h => by simp [rels_len h.2]
  | [], _ :: _, h => (show False from h).elim
  | _ :: _, [], h => (show False from h).elim
/-- the same with a test -/
theorem lc_test {β : Type} {env : Env} {scope : Scope} {cl : List (Str × Addr)} {elt iter test : Expr} {x : Str} {px pos : Pos} {Q : Value → Shared → Prop} {xv : Value} {s₁ : Shared} {n : Nat} {P : Nat → Value → Prop} {B : List Addr} {h₀ : Heap} {L : Addr} {m : Str → Option Value} {news : List (Addr × Obj)}
    (R : β → Value → Prop) (f : β → Bool) (xs : List β) (hn : xs.length = n) (hsz : n ≤ 1000) (hcell : ∀ y ∈ scope.names, y.2 ≠ .cell) (hkind : scope.kind = .function) (hx : scope.names.lookup x = some .local)
    (S : SrcZ prog w A n P B xv s₁) (F : Fr h₀ L s₁.heap m) (N : News h₀ L s₁.heap news) (hBL : L ∉ B) (hBD : ∀ a ∈ B, ∃ o, (a, o) ∈ news ∨ h₀.get? a = some o)
    (tst : ∀ i v b m₂ C oC rest h tk (E' : Value → Shared → Prop), P i v → xs[i]? = some b → m₂ x = some v → LCg.NsObj oC m₂ → (C, oC) ∈ rest → (∀ p ∈ news, p ∈ rest) → Fr h₀ L h m → News h₀ L h rest →
      wpAny (model prog w) A (isTrue test (compEnvC scope cl C env) (eval test (compEnvC scope cl C env))) (BoolP (f b) h₀ L m rest { s₁ with heap := h, toks := tk }) E' { s₁ with heap := h, toks := tk })
    (turn : ∀ i v b m₂ C oC rest h tk (E' : Value → Shared → Prop), P i v → xs[i]? = some b → m₂ x = some v → LCg.NsObj oC m₂ → (C, oC) ∈ rest → (∀ p ∈ news, p ∈ rest) → Fr h₀ L h m → News h₀ L h rest →
      wpAny (model prog w) A (eval elt (compEnvC scope cl C env)) (ValP (R b) h₀ L m rest { s₁ with heap := h, toks := tk }) E' { s₁ with heap := h, toks := tk })
    (done : ∀ D vs k h tk, Rels R (xs.filter f) vs → (∀ p ∈ news, p.1 < D) → Fr h₀ L h m → News h₀ L h ((D, W.listOf (List.toArray vs) k) :: news) → Q (.ref D) { s₁ with heap := h, toks := tk }) :
    OutZ prog w A env scope cl (.ListComp elt [⟨.Name x px, iter, [test], 0⟩] scope pos) (newList []) (compPost (model prog w) A E none Q) E xv s₁ := by
  refine outZ_intro (x := x) (fun D i mC nw => ∃ ys k, nw = (D, W.listOf (List.toArray ys) k) :: news ∧ Rels R ((xs.take i).filter f) ys) new_list rfl (by intro I D C; exact lt_listT) (by intro I D C R s hs h; exact start_Z rfl rfl rfl rfl hs h) hcell hkind hx S F N hBL (fun D => ⟨[], 0, rfl, trivial⟩) ?_ ?_
  · clear F N
    rintro D C I i v m₁ oC own news₁ h tk E' hi hP ⟨ys, k, rfl, hys⟩ hN hID off hown _ hns F N
    obtain ⟨b, hb⟩ : ∃ b, xs[i]? = some b := ⟨_, List.getElem?_eq_getElem (hn ▸ hi)⟩
    refine condT_Z ?_
    refine wpAny_mono (tst i v b _ C oC (own ++ (C, oC) :: (D, W.listOf (List.toArray ys) k) :: news) h tk E' hP hb (if_pos rfl) hns (by simp) (fun p hp => by simp [hp]) F N) (fun ok s' hq => ?_) fun _ _ e => e
    obtain ⟨h2, tk2, rfl, rfl, F2, N2⟩ := hq.ex
    by_cases hf : f b = true
    · rw [if_pos hf]
      refine emitL_Z ?_
      refine wpAny_mono (turn i v b _ C oC (own ++ (C, oC) :: (D, W.listOf (List.toArray ys) k) :: news) h2 tk2 E' hP hb (if_pos rfl) hns (by simp) (fun p hp => by simp [hp]) F2 N2) (fun y s' hq => ?_) fun _ _ e => e
      obtain ⟨h', tk', hR, rfl, F', N'⟩ := hq.ex
      have N5 : News h₀ L h' ((own ++ (C, oC) :: news) ++ [(D, W.listOf (List.toArray ys) k)]) := fun p hp => N' p (by simp at hp ⊢; rcases hp with h | h | h | h <;> simp [h])
      refine append_use F' N5 (fun p hp => ?_) (by
        have := List.length_filter_le f (xs.take i)
        rw [rels_len hys]
        rw [List.length_take] at this; omega) ?_
      · rcases List.mem_append.mp hp with hp | hp
        · rcases hown p hp with e | e
          · rw [e]; exact Nat.ne_of_lt hID.1
          · obtain ⟨o, ho⟩ := hBD _ e
            rcases ho with ho | ho
            · exact Nat.ne_of_lt (hN _ ho).1
            · intro q
              have z := (N (D, W.listOf (List.toArray ys) k) (by simp)).2.2
              rw [show (D, W.listOf (List.toArray ys) k).1 = p.1 from q.symm, ho] at z
              cases z
        · rcases List.mem_cons.mp hp with rfl | hp
          · exact Nat.ne_of_gt hID.2
          · exact Nat.ne_of_lt (hN p hp).1
      intro h8 F8 N8
      refine ⟨h8, _, _, oC, (D, W.listOf (List.toArray (ys ++ [y])) (k + 1)) :: news, rfl, F8, hns, fun p hp => N8 p (by simp at hp ⊢; rcases hp with h | h | h | h <;> simp [h]), fun p hp => ?_, ys ++ [y], k + 1, rfl, ?_⟩
      · rcases List.mem_cons.mp hp with rfl | hp
        · exact off (D, W.listOf (List.toArray ys) k) (.head _)
        · exact off p (.tail _ hp)
      · rw [take_one hb, List.filter_append, List.filter_cons, if_pos hf]; exact hys.snoc hR
    · rw [if_neg hf]
      refine ⟨h2, _, _, oC, (D, W.listOf (List.toArray ys) k) :: news, rfl, F2, hns, N2, off, ys, k, rfl, ?_⟩
      rw [take_one hb, List.filter_append, List.filter_cons, if_neg hf]; simpa using hys
  · clear F N
    rintro D C m₁ news₁ h tk ⟨ys, k, rfl, hys⟩ hND hCN hCL hC₀ F hn' N
    refine rr_eval hCN hCL hC₀ F hn' N ?_
    intro h' F' N'
    rw [← hn, List.take_length] at hys
    exact done D ys k h' tk hys hND F' N'
/-! lists of texts compared -/
theorem reads_strs {h : Heap} : ∀ {xs : List Str} {vs : List Value}, Rels IsStr xs vs → ReadsAll h vs (xs.map PyData.str) []
  | [], [], _ => .nil
  | x :: xs, v :: vs, q => by
    obtain ⟨⟨t, rfl⟩, r⟩ := q
    have := ReadsAll.cons (Reads.str (h := h) x t) (reads_strs (h := h) r)
    simpa using this
  | [], _ :: _, h => (show False from h).elim
  | _ :: _, [], h => (show False from h).elim
theorem lay_strs : ∀ {xs : List Str}, (∀ x ∈ xs, PySem.PyData.strOk x = true) → PyData.canLayAll0 (xs.map PyData.str) = true ∧ PyData.depthAll (xs.map PyData.str) = 0
  | [], _ => ⟨by simp [PyData.canLayAll0], by simp [PyData.depthAll]⟩
  | x :: r, h => by
    obtain ⟨a, b⟩ := lay_strs fun y hy => h y (.tail _ hy)
    simp only [List.map_cons, PyData.canLayAll0, PyData.canLay0, PyData.depthAll, PyData.depth, a, b, h x (.head _)]
    simp
theorem shaped_strs {xs : List Str} (h : ∀ x ∈ xs, PySem.PyData.strOk x = true) : PySem.SeqAt.shaped (.list (xs.map PyData.str)) = true := by
  obtain ⟨a, b⟩ := lay_strs h
  show (PyData.canLay0 (.list (xs.map PyData.str)) && decide (PyData.depth (.list (xs.map PyData.str)) ≤ 64)) = true
  simp only [PyData.canLay0, PyData.depth, a, b]
  decide
theorem ne_strs {s : Shared} {a b : Addr} {xs : List Str} {vs us : List Value} {Q : Value → Shared → Prop} (ha : s.heap.IsList a vs.toArray) (hb : s.heap.IsList b us.toArray) (hv : Rels IsStr xs vs) (hu : Rels IsStr xs us) (hx : ∀ x ∈ xs, PySem.PyData.strOk x = true) (hA : A.units + 64 < cLine)
    (h : Q (.bool false) s) : wpAny (model prog w) A (compareOp .NotEq (.ref a) (.ref b)) Q E s := by
  obtain ⟨o, ho, hc, n, hd⟩ := ha
  obtain ⟨o', ho', hc', n', hd'⟩ := hb
  refine ne_dataH (Reads.list ho hc hd (by simpa using reads_strs hv)) (Reads.list ho' hc' hd' (by simpa using reads_strs hu)) (shaped_strs hx) (shaped_strs hx) hA ?_
  rw [PySem.SeqAt.eqv_refl _ (PySem.SeqAt.canLay_of_shaped (shaped_strs hx))]
  exact h
end
end Mine
namespace Mine
noncomputable abbrev stL : Option Stmt := stA MineX.P0 [34]
noncomputable def lawEnv (L fa : Addr) (cr : Value) : Env := envOfC (fName stL) (fScope stL) L fa cr
structure Tail (k : Nat) (rest : List Stmt) : Prop where
  h : rest = (fBody stL).drop k
/-- the law's statements from the k-th on -/
noncomputable def LawGoal (k : Nat) (w : World) (L fa : Addr) (cr : Value) (Q : Flow → Shared → Prop) (E : Value → Shared → Prop) (s : Shared) : Prop :=
  wpAny (model prog3 w) (callerA.deeper (lawEnv L fa cr)) (execs ((fBody stL).drop k) (lawEnv L fa cr)) Q E s
section
variable {w : World} {L fa : Addr} {cr : Value} {Q : Flow → Shared → Prop} {E : Value → Shared → Prop} {s : Shared} {name : Str} {params : Arguments} {dec : List Expr} {ret : Option Expr} {tp : List TypeParam} {scope : Scope} {ts : Option Scope} {bind : Str} {pos : Pos} {rest : List Stmt}
theorem expose_0_3 {s0 s1 s2 : Stmt} (hst : stA MineX.P0 [34] = some (.FunctionDef name params (s0 :: s1 :: s2 :: rest) dec ret tp scope ts bind pos))
    (h : ∀ rest', Tail 3 rest' → wpAny (model prog3 w) (callerA.deeper (envOfC name scope L fa cr)) (execs (s0 :: s1 :: s2 :: rest') (envOfC name scope L fa cr)) Q E s) : LawGoal 0 w L fa cr Q E s := by
  have e1 : lawEnv L fa cr = envOfC name scope L fa cr := by unfold lawEnv stL; rw [hst]; rfl
  have e2 : (fBody stL).drop 0 = s0 :: s1 :: s2 :: (fBody stL).drop 3 := by unfold stL; rw [hst]; rfl
  unfold LawGoal
  rw [e1, e2]
  exact h _ ⟨rfl⟩
theorem back_0_3 {s0 s1 s2 : Stmt} {rest' : List Stmt} (hst : stA MineX.P0 [34] = some (.FunctionDef name params (s0 :: s1 :: s2 :: rest) dec ret tp scope ts bind pos)) (hr : Tail 3 rest')
    (h : LawGoal 3 w L fa cr Q E s) : wpAny (model prog3 w) (callerA.deeper (envOfC name scope L fa cr)) (execs rest' (envOfC name scope L fa cr)) Q E s := by
  have e1 : lawEnv L fa cr = envOfC name scope L fa cr := by unfold lawEnv stL; rw [hst]; rfl
  unfold LawGoal at h
  rw [e1] at h
  rw [hr.h]
  exact h
theorem expose_3_4 {s0 s1 s2 s3 : Stmt} (hst : stA MineX.P0 [34] = some (.FunctionDef name params (s0 :: s1 :: s2 :: s3 :: rest) dec ret tp scope ts bind pos))
    (h : ∀ rest', Tail 4 rest' → wpAny (model prog3 w) (callerA.deeper (envOfC name scope L fa cr)) (execs (s3 :: rest') (envOfC name scope L fa cr)) Q E s) : LawGoal 3 w L fa cr Q E s := by
  have e1 : lawEnv L fa cr = envOfC name scope L fa cr := by unfold lawEnv stL; rw [hst]; rfl
  have e2 : (fBody stL).drop 3 = s3 :: (fBody stL).drop 4 := by unfold stL; rw [hst]; rfl
  unfold LawGoal
  rw [e1, e2]
  exact h _ ⟨rfl⟩
theorem back_3_4 {s0 s1 s2 s3 : Stmt} {rest' : List Stmt} (hst : stA MineX.P0 [34] = some (.FunctionDef name params (s0 :: s1 :: s2 :: s3 :: rest) dec ret tp scope ts bind pos)) (hr : Tail 4 rest')
    (h : LawGoal 4 w L fa cr Q E s) : wpAny (model prog3 w) (callerA.deeper (envOfC name scope L fa cr)) (execs rest' (envOfC name scope L fa cr)) Q E s := by
  have e1 : lawEnv L fa cr = envOfC name scope L fa cr := by unfold lawEnv stL; rw [hst]; rfl
  unfold LawGoal at h
  rw [e1] at h
  rw [hr.h]
  exact h
theorem expose_4_5 {s0 s1 s2 s3 s4 : Stmt} (hst : stA MineX.P0 [34] = some (.FunctionDef name params (s0 :: s1 :: s2 :: s3 :: s4 :: rest) dec ret tp scope ts bind pos))
    (h : ∀ rest', Tail 5 rest' → wpAny (model prog3 w) (callerA.deeper (envOfC name scope L fa cr)) (execs (s4 :: rest') (envOfC name scope L fa cr)) Q E s) : LawGoal 4 w L fa cr Q E s := by
  have e1 : lawEnv L fa cr = envOfC name scope L fa cr := by unfold lawEnv stL; rw [hst]; rfl
  have e2 : (fBody stL).drop 4 = s4 :: (fBody stL).drop 5 := by unfold stL; rw [hst]; rfl
  unfold LawGoal
  rw [e1, e2]
  exact h _ ⟨rfl⟩
theorem back_4_5 {s0 s1 s2 s3 s4 : Stmt} {rest' : List Stmt} (hst : stA MineX.P0 [34] = some (.FunctionDef name params (s0 :: s1 :: s2 :: s3 :: s4 :: rest) dec ret tp scope ts bind pos)) (hr : Tail 5 rest')
    (h : LawGoal 5 w L fa cr Q E s) : wpAny (model prog3 w) (callerA.deeper (envOfC name scope L fa cr)) (execs rest' (envOfC name scope L fa cr)) Q E s := by
  have e1 : lawEnv L fa cr = envOfC name scope L fa cr := by unfold lawEnv stL; rw [hst]; rfl
  unfold LawGoal at h
  rw [e1] at h
  rw [hr.h]
  exact h
theorem expose_5_6 {s0 s1 s2 s3 s4 s5 : Stmt} (hst : stA MineX.P0 [34] = some (.FunctionDef name params (s0 :: s1 :: s2 :: s3 :: s4 :: s5 :: rest) dec ret tp scope ts bind pos))
    (h : ∀ rest', Tail 6 rest' → wpAny (model prog3 w) (callerA.deeper (envOfC name scope L fa cr)) (execs (s5 :: rest') (envOfC name scope L fa cr)) Q E s) : LawGoal 5 w L fa cr Q E s := by
  have e1 : lawEnv L fa cr = envOfC name scope L fa cr := by unfold lawEnv stL; rw [hst]; rfl
  have e2 : (fBody stL).drop 5 = s5 :: (fBody stL).drop 6 := by unfold stL; rw [hst]; rfl
  unfold LawGoal
  rw [e1, e2]
  exact h _ ⟨rfl⟩
theorem back_5_6 {s0 s1 s2 s3 s4 s5 : Stmt} {rest' : List Stmt} (hst : stA MineX.P0 [34] = some (.FunctionDef name params (s0 :: s1 :: s2 :: s3 :: s4 :: s5 :: rest) dec ret tp scope ts bind pos)) (hr : Tail 6 rest')
    (h : LawGoal 6 w L fa cr Q E s) : wpAny (model prog3 w) (callerA.deeper (envOfC name scope L fa cr)) (execs rest' (envOfC name scope L fa cr)) Q E s := by
  have e1 : lawEnv L fa cr = envOfC name scope L fa cr := by unfold lawEnv stL; rw [hst]; rfl
  unfold LawGoal at h
  rw [e1] at h
  rw [hr.h]
  exact h
theorem expose_6_7 {s0 s1 s2 s3 s4 s5 s6 : Stmt} (hst : stA MineX.P0 [34] = some (.FunctionDef name params (s0 :: s1 :: s2 :: s3 :: s4 :: s5 :: s6 :: rest) dec ret tp scope ts bind pos))
    (h : ∀ rest', Tail 7 rest' → wpAny (model prog3 w) (callerA.deeper (envOfC name scope L fa cr)) (execs (s6 :: rest') (envOfC name scope L fa cr)) Q E s) : LawGoal 6 w L fa cr Q E s := by
  have e1 : lawEnv L fa cr = envOfC name scope L fa cr := by unfold lawEnv stL; rw [hst]; rfl
  have e2 : (fBody stL).drop 6 = s6 :: (fBody stL).drop 7 := by unfold stL; rw [hst]; rfl
  unfold LawGoal
  rw [e1, e2]
  exact h _ ⟨rfl⟩
theorem back_6_7 {s0 s1 s2 s3 s4 s5 s6 : Stmt} {rest' : List Stmt} (hst : stA MineX.P0 [34] = some (.FunctionDef name params (s0 :: s1 :: s2 :: s3 :: s4 :: s5 :: s6 :: rest) dec ret tp scope ts bind pos)) (hr : Tail 7 rest')
    (h : LawGoal 7 w L fa cr Q E s) : wpAny (model prog3 w) (callerA.deeper (envOfC name scope L fa cr)) (execs rest' (envOfC name scope L fa cr)) Q E s := by
  have e1 : lawEnv L fa cr = envOfC name scope L fa cr := by unfold lawEnv stL; rw [hst]; rfl
  unfold LawGoal at h
  rw [e1] at h
  rw [hr.h]
  exact h
theorem expose_7_9 {s0 s1 s2 s3 s4 s5 s6 s7 s8 : Stmt} (hst : stA MineX.P0 [34] = some (.FunctionDef name params (s0 :: s1 :: s2 :: s3 :: s4 :: s5 :: s6 :: s7 :: s8 :: rest) dec ret tp scope ts bind pos))
    (h : ∀ rest', Tail 9 rest' → wpAny (model prog3 w) (callerA.deeper (envOfC name scope L fa cr)) (execs (s7 :: s8 :: rest') (envOfC name scope L fa cr)) Q E s) : LawGoal 7 w L fa cr Q E s := by
  have e1 : lawEnv L fa cr = envOfC name scope L fa cr := by unfold lawEnv stL; rw [hst]; rfl
  have e2 : (fBody stL).drop 7 = s7 :: s8 :: (fBody stL).drop 9 := by unfold stL; rw [hst]; rfl
  unfold LawGoal
  rw [e1, e2]
  exact h _ ⟨rfl⟩
theorem back_7_9 {s0 s1 s2 s3 s4 s5 s6 s7 s8 : Stmt} {rest' : List Stmt} (hst : stA MineX.P0 [34] = some (.FunctionDef name params (s0 :: s1 :: s2 :: s3 :: s4 :: s5 :: s6 :: s7 :: s8 :: rest) dec ret tp scope ts bind pos)) (hr : Tail 9 rest')
    (h : LawGoal 9 w L fa cr Q E s) : wpAny (model prog3 w) (callerA.deeper (envOfC name scope L fa cr)) (execs rest' (envOfC name scope L fa cr)) Q E s := by
  have e1 : lawEnv L fa cr = envOfC name scope L fa cr := by unfold lawEnv stL; rw [hst]; rfl
  unfold LawGoal at h
  rw [e1] at h
  rw [hr.h]
  exact h
end
/-- what the ledger holds of the law's objects -/
structure LawM (w : World) (L : Addr) (z : Bool) (brs : List BRow) (lb t d l : Addr) (rows : List Row) (c : Nat → Nat → Nat) (news : List (Addr × Obj)) : Prop where
  cg : ∃ c1 t1, (L + 1, c1) ∈ news ∧ c1.data = .cell (some (.str (gts z) t1))
  ct : ∃ c2, (L + 1 + 1, c2) ∈ news ∧ c2.data = .cell (some (.ref t))
  hi : (t, instObj 169 d) ∈ news
  hd : ∃ tk0, (d, hdrDict w l tk0) ∈ news
  hl : ∃ n, (l, lst rows n) ∈ news
  hr : ∀ r ∈ rows, (r.a, r.obj) ∈ news
  hb : ∃ nb, (lb, blst brs nb) ∈ news
  hbt : ∀ r ∈ brs, r.tup ∈ news
  wf : Wf1 (brs.map BRow.box) (kvsOf rows) c
  O : BxOK (brs.map BRow.box)
  hz : ∀ b ∈ brs.map BRow.box, b.1 < siz z ∧ b.2.1 < siz z
theorem LawM.mono {w : World} {L : Addr} {z : Bool} {brs : List BRow} {lb t d l : Addr} {rows : List Row} {c : Nat → Nat → Nat} {news news' : List (Addr × Obj)} (M : LawM w L z brs lb t d l rows c news) (h : ∀ p ∈ news, p ∈ news') : LawM w L z brs lb t d l rows c news' :=
  ⟨let ⟨a, b, x, y⟩ := M.cg; ⟨a, b, h _ x, y⟩, let ⟨a, x, y⟩ := M.ct; ⟨a, h _ x, y⟩, h _ M.hi, let ⟨a, x⟩ := M.hd; ⟨a, h _ x⟩, let ⟨a, x⟩ := M.hl; ⟨a, h _ x⟩, fun r q => h _ (M.hr r q), let ⟨a, x⟩ := M.hb; ⟨a, h _ x⟩, fun r q => h _ (M.hbt r q), M.wf, M.O, M.hz⟩
theorem LawM.tab {w : World} {L : Addr} {z : Bool} {brs : List BRow} {lb t d l : Addr} {rows : List Row} {c : Nat → Nat → Nat} {news : List (Addr × Obj)} {b h : Heap} {L' : Addr} (M : LawM w L z brs lb t d l rows c news) (N : News b L' h news) : TabAt w h t d l := ⟨(N _ M.hi).1, let ⟨k, e⟩ := M.hd; ⟨k, (N _ e).1⟩⟩
theorem LawM.rowsAt {w : World} {L : Addr} {z : Bool} {brs : List BRow} {lb t d l : Addr} {rows : List Row} {c : Nat → Nat → Nat} {news : List (Addr × Obj)} {b h : Heap} {L' : Addr} (M : LawM w L z brs lb t d l rows c news) (N : News b L' h news) : RowsAt h l (rows.map (·.a)) (kvsOf rows) :=
  let ⟨_, e⟩ := M.hl; rows_of (N _ e).1 fun r q => (N _ (M.hr r q)).1
theorem LawM.bx {w : World} {L : Addr} {z : Bool} {brs : List BRow} {lb t d l : Addr} {rows : List Row} {c : Nat → Nat → Nat} {news : List (Addr × Obj)} {b h : Heap} {L' : Addr} (M : LawM w L z brs lb t d l rows c news) (N : News b L' h news) : BxAt h lb brs :=
  ⟨let ⟨n, e⟩ := M.hb; ⟨n, (N _ e).1⟩, fun r q => (N _ (M.hbt r q)).1⟩
end Mine
namespace Mine
local macro_rules | `(tactic| walk_at "none") => `(tactic| fail "none")
section
variable {w : World} {mean : ExcName → Option Value} {mg mb : Str → Option Value} {h₀ : Heap}
local macro_rules | `(tactic| walk_at "call builtin:list.append") => `(tactic| (k_here; refine StopAt2.p ?_))
theorem st_pairs {b : Heap} (G : G3 w mean mg mb b) {L fa : Addr} {cr : Value} {Q : Flow → Shared → Prop} {E : Value → Shared → Prop} {s : Shared} {m : Str → Option Value} {news : List (Addr × Obj)} {z : Bool} {brs : List BRow} {lb t d l : Addr} {rows : List Row} {c : Nat → Nat → Nat}
    (F : Fr b L s.heap m) (N : News b L s.heap news) (M : LawM w L z brs lb t d l rows c news)
    (next : ∀ P pv k h tk, Rels IsStr ((allPairs (siz z)).map kp) pv → (∀ p ∈ news, p.1 < P) → Fr b L h (fun y => if y = Str.ofString "pairs" then some (.ref P) else m y) → News b L h ((P, W.listOf (List.toArray pv) k) :: news) → LawGoal 4 w L fa cr Q E { s with heap := h, toks := tk }) : LawGoal 3 w L fa cr Q E s := by
  refine expose_3_4 (by rfl) ?_
  intro rest hrest
  have X := G.X
  have TT := G.T
  obtain ⟨hgs, hga⟩ := gts_fact z
  have h4 := siz_le z
  obtain ⟨c1, t1, hgm, hgd⟩ := M.cg
  refine wpAny_execs_cons ?_
  refine Assign_ListZ (by rfl) (by with_unfolding_all rfl) (by rfl) (by decide) ?_
  k_steps
  refine outZ_intro (x := Str.ofString "source") (fun D i mC nw => ∃ ys k, nw = (D, W.listOf (List.toArray ys) k) :: news ∧ Rels IsStr ((prefP (siz z) i).map kp) ys) new_list rfl (fun I D C => lt_listO) (fun I D C R s hs h => start_Z rfl rfl rfl rfl hs h) (by decide) rfl rfl (src_text rfl hga) F N (fun h => nomatch h) (fun D => ⟨[], 0, rfl, trivial⟩) ?_ ?_
  · clear F N
    rintro D C I i v m₁ oC own news₁ h tk E' hi ⟨ch, u, hc, rfl⟩ ⟨ys, k, rfl, hys⟩ hN hID off hown ⟨oI, hoI, hit⟩ hns F N
    obtain ⟨hiz, hcl⟩ := gts_item hc
    rw [hcl] at hns
    obtain ⟨m₂, e2, hm⟩ : ∃ m₂ : Str → Option Value, m₂ = (fun y => if y = Str.ofString "source" then some (.str (letter i) u) else m₁ y) ∧ m₂ (Str.ofString "source") = some (.str (letter i) u) := ⟨_, rfl, if_pos rfl⟩
    rw [← e2] at hns
    have hi4 : i < 4 := Nat.lt_of_lt_of_le hiz h4
    have hIC : I ≠ C := Nat.ne_of_lt (Nat.lt_trans hID.1 hID.2)
    have hownC : ∀ p ∈ own, p.1 ≠ C := fun p hp => (hown p hp).elim (fun e => e ▸ hIC) fun e => nomatch e
    have hgm2 : (L + 1, c1) ∈ own ++ (C, oC) :: (D, W.listOf (List.toArray ys) k) :: news := by simp [hgm]
    refine inner_Z (by intro _; rfl) ?_
    k_steps
    refine inZ_intro (x := Str.ofString "target") (C := C) (m₁ := m₂) (news := own ++ (D, W.listOf (List.toArray ys) k) :: news) (fun j mC nw => mC (Str.ofString "source") = some (.str (letter i) u) ∧ ∃ ys k, nw = own ++ (D, W.listOf (List.toArray ys) k) :: news ∧ Rels IsStr ((prefP (siz z) i ++ (List.range j).map fun t => (i, t)).map kp) ys) (fun I => lt_listI) (fun I R s hs h => start_Z rfl rfl rfl rfl hs h) rfl (by rfl) (by rfl) (src_text rfl hga) F hns (fun p hp => N p (by simpa [or_left_comm, or_assoc] using hp)) (fun p hp => (List.mem_append.mp hp).elim (hownC p) fun q => (off p q).2) (fun h => nomatch h) (fun h => nomatch h) ⟨hm, ys, k, rfl, by simpa using hys⟩ ?_ ?_
    · clear F N hns hm hys hgm2
      rintro I₂ j v m₃ oC₂ own₂ news₂ h2 tk2 E₂ hj ⟨c₂, u₂, hc₂, rfl⟩ ⟨hm, ys₂, k₂, rfl, hys⟩ hN₂ off₂ hown₂ ⟨oI₂, hoI₂, hit₂⟩ hns F N
      obtain ⟨hjz, hcl₂⟩ := gts_item hc₂
      rw [hcl₂] at hns
      obtain ⟨m₄, e4, hm4, hm5⟩ : ∃ m₄ : Str → Option Value, m₄ = (fun y => if y = Str.ofString "target" then some (.str (letter j) u₂) else m₃ y) ∧ m₄ (Str.ofString "target") = some (.str (letter j) u₂) ∧ m₄ (Str.ofString "source") = some (.str (letter i) u) := ⟨_, rfl, if_pos rfl, hm⟩
      rw [← e4] at hns
      have hj4 : j < 4 := Nat.lt_of_lt_of_le hjz h4
      have N1 : News b L h2 ((own₂ ++ (C, oC₂) :: own ++ news) ++ [(D, W.listOf (List.toArray ys₂) k₂)]) := fun p hp => N p (by simp at hp ⊢; rcases hp with h | h | h | h | h <;> simp [h])
      have hCm : (C, oC₂) ∈ (own₂ ++ (C, oC₂) :: own ++ news) ++ [(D, W.listOf (List.toArray ys₂) k₂)] := by simp
      clear N
      have hli := letter_len i hi4
      have hlj := letter_len j hj4
      refine emitL_Z ?_
      k_steps
      have hlen : ys₂.length ≤ 1000 := by
        rw [rels_len hys, List.length_map, List.length_append, prefP_len, List.length_map, List.length_range]
        have : i * siz z ≤ 4 * 4 := Nat.mul_le_mul (by omega) h4
        omega
      refine ⟨append_use F N1 (fun p hp => ?_) hlen ?_⟩
      · rcases List.mem_append.mp hp with hp | hp
        · rcases List.mem_append.mp hp with hp | hp
          · rcases hown₂ p hp with e | e
            · rw [e]; exact Ne.symm (off₂ (D, W.listOf (List.toArray ys₂) k₂) (by simp)).1
            · cases e
          · rcases List.mem_cons.mp hp with rfl | hp
            · exact Nat.ne_of_gt hID.2
            · rcases hown p hp with e | e
              · rw [e]; exact Nat.ne_of_lt hID.1
              · cases e
        · exact Nat.ne_of_lt (hN p hp).1
      intro h' F' N'
      rename_i tv k9 a9
      refine ⟨h', _, m₄, oC₂, own ++ (D, W.listOf (List.toArray (ys₂ ++ [.str (letter i ++ letter j) tv])) (k₂ + 1)) :: news, rfl, F', hns, fun p hp => N' p (by simp at hp ⊢; rcases hp with h | h | h | h | h <;> simp [h]), fun p hp => ?_, hm5, _, _, rfl, ?_⟩
      · rcases List.mem_append.mp hp with hp' | hp'
        · exact off₂ p (List.mem_append_left _ hp')
        · rcases List.mem_cons.mp hp' with rfl | hp'
          · exact off₂ (D, W.listOf (List.toArray ys₂) k₂) (by simp)
          · exact off₂ p (List.mem_append_right _ (.tail _ hp'))
      · have e : (prefP (siz z) i ++ (List.range (j + 1)).map (fun t => (i, t))).map kp = (prefP (siz z) i ++ (List.range j).map fun t => (i, t)).map kp ++ [letter i ++ letter j] := by simp [List.range_succ, kp]
        rw [e]
        exact hys.snoc ⟨tv, rfl⟩
    · clear F N hns hm hys
      rintro m₃ oC₂ news₂ h2 tk2 ⟨hm, ys₂, k₂, rfl, hys⟩ off₂ F hns N
      refine ⟨h2, _, m₃, oC₂, (D, W.listOf (List.toArray ys₂) k₂) :: news, rfl, F, hns, fun p hp => N p (by simpa [or_left_comm, or_assoc] using hp), fun p hp => ?_, ys₂, k₂, rfl, ?_⟩
      · rcases List.mem_cons.mp hp with rfl | hp
        · exact off (D, W.listOf (List.toArray ys) k) (.head _)
        · exact off p (.tail _ hp)
      · rw [hgs, ← prefP_succ] at hys
        exact hys
  · clear F N
    rintro D C m₁ news₁ h tk ⟨ys, k, rfl, hys⟩ hND hCN hCL hC₀ F hn N
    refine rr_assign2 hCN hCL hC₀ F hn N rfl (by rfl) (by rfl) ?_
    clear F hn N
    intro h2 tk2 F N
    rw [hgs, prefP_all] at hys
    exact back_3_4 (by rfl) hrest (next D ys k h2 tk2 hys hND F N)
end
end Mine
namespace Mine
section
variable {w : World} {mean : ExcName → Option Value} {mg mb : Str → Option Value} {h₀ : Heap}
local macro_rules | `(tactic| walk_at "eval ListComp") => `(tactic| (k_here; refine StopAt2.p ?_))
local macro_rules | `(tactic| walk_at "compareOp NotEq ref ref") => `(tactic| (k_here; refine StopAt2.p ?_))
local macro_rules | `(tactic| walk_at "call builtin:len") => `(tactic| (k_here; (with_reducible show wpAny _ _ (call (Value.builtin "len") [Value.str (gts _) _]) _ _ _); refine len_gts ?_; intro tl' tkl'))
local macro_rules | `(tactic| walk_at "call ref") => `(tactic| (k_here; (with_reducible show wpAny _ _ (call (Value.ref 203) _) _ _ _); (show wpAny _ _ (call (Value.ref 203) [Value.str _ _]) _ _ _); k_dflt (refine use_str (quote_c (by assumption) (stays_fr (by assumption) (by assumption)) _ (by assumption) _) ⟨rfl, Nat.le_of_ble_eq_true rfl, Nat.le_of_ble_eq_true rfl⟩ (by k_asm) (by k_asm) ?_); intro tn' h' tk' F' N'))
local macro_rules | `(tactic| walk_at "eval Slice") => `(tactic| (k_here; refine StopAt2.p ?_))
theorem qs_fact : qs 0 = Str.ofString "=6A" ∧ qs 1 = Str.ofString "=4A" ∧ qs 2 = Str.ofString "=6B" ∧ qs 3 = Str.ofString "=4B" := by decide +kernel
theorem qs_ok : ∀ i < 4, PyData.strOk (qs i) = true := by decide +kernel
theorem pick_q (z : Bool) (t1 t2 t3 t4 : Tok) : Rels IsStr ((List.range (siz z)).map qs) (slicePick #[Value.str (Str.ofString "=6A") t1, Value.str (Str.ofString "=4A") t2, Value.str (Str.ofString "=6B") t3, Value.str (Str.ofString "=4B") t4] none (some (siz z : Int)) none).toList := by
  obtain ⟨q0, q1, q2, q3⟩ := qs_fact
  cases z
  · exact ⟨⟨t1, by rw [q0]; rfl⟩, ⟨t2, by rw [q1]; rfl⟩, ⟨t3, by rw [q2]; rfl⟩, trivial⟩
  · exact ⟨⟨t1, by rw [q0]; rfl⟩, ⟨t2, by rw [q1]; rfl⟩, ⟨t3, by rw [q2]; rfl⟩, ⟨t4, by rw [q3]; rfl⟩, trivial⟩
theorem st_quote {b : Heap} (G : G3 w mean mg mb b) {L fa : Addr} {cr : Value} {Q : Flow → Shared → Prop} {E : Value → Shared → Prop} {s : Shared} {m : Str → Option Value} {news : List (Addr × Obj)} {z : Bool} {brs : List BRow} {lb t d l : Addr} {rows : List Row} {c : Nat → Nat → Nat}
    (F : Fr b L s.heap m) (N : News b L s.heap news) (M : LawM w L z brs lb t d l rows c news)
    (next : ∀ h tk, Fr b L h m → News b L h news → LawGoal 5 w L fa cr Q E { s with heap := h, toks := tk }) : LawGoal 4 w L fa cr Q E s := by
  refine expose_4_5 (by rfl) ?_
  intro rest hrest
  have X := G.X
  have TT := G.T
  have hst0 : b.StaysIn b := fun _ _ e => e
  obtain ⟨hgs, hga⟩ := gts_fact z
  have h4 := siz_le z
  obtain ⟨c1, t1, hgm, hgd⟩ := M.cg
  refine wpAny_execs_cons ?_
  k_steps
  refine ⟨ListComp_Z (by with_unfolding_all rfl) (by rfl) (by decide) ?_⟩
  k_steps
  refine lc_rel (fun i v => IsStr (qs i) v) (List.range (siz z)) (List.length_range.trans hgs.symm) (by rw [hgs]; omega) (by decide) (by rfl) (by rfl) (src_text rfl hga) F N (fun h => nomatch h) (fun _ h => nomatch h) ?_ ?_
  · rintro i v j m₂ C oC rst h tk E' ⟨ch, u, hc, rfl⟩ hj hm hns hC hsub F N
    obtain ⟨hiz, hcl⟩ := gts_item hc
    rw [hcl] at hm
    have hji : j = i := by
      rw [List.getElem?_range hiz] at hj
      exact (Option.some.inj hj).symm
    subst hji
    have hi4 : j < 4 := Nat.lt_of_lt_of_le hiz h4
    k_steps
    exact ValP.intro ⟨_, rfl⟩ (by assumption) (by assumption)
  · intro D vs k h tk hvs hD F N
    k_steps
    refine ⟨?_⟩
    refine wpAny_Slice ?_
    with_reducible refine evalPart_none_step ?_
    with_reducible refine evalPart_some_step ?_
    walk1
    walk1
    walk1
    walk1
    refine ldCN (by k_asm) (by rfl) (.tail _ (.tail _ hgm)) hgd ?_
    k_steps
    rename Fr _ _ _ _ => F2
    rename News _ _ _ _ => N2
    have hq := pick_q z tk (tk + 1) (tk + 1 + 1) (tk + 1 + 1 + 1)
    refine ⟨ne_strs ⟨_, (N2 (D, W.listOf (List.toArray vs) k) (.tail _ (.tail _ (.head _)))).1, rfl, _, rfl⟩ ⟨_, (N2 _ (.head _)).1, rfl, _, rfl⟩ (rels_map hvs) hq (fun x hx => ?_) (Nat.le_of_ble_eq_true rfl) ?_⟩
    · obtain ⟨i, hi, rfl⟩ := List.mem_map.mp hx
      exact qs_ok i (by have := List.mem_range.mp hi; omega)
    k_steps
    exact back_4_5 (by rfl) hrest (next _ _ F2 fun p hp => N2 p (.tail _ (.tail _ (.tail _ hp))))
end
end Mine
namespace Mine
section
variable {w : World} {mean : ExcName → Option Value} {mg mb : Str → Option Value} {h₀ : Heap}
theorem isTup_led {b h : Heap} {L : Addr} {news : List (Addr × Obj)} {r : BRow} (N : News b L h news) (hm : r.tup ∈ news) : IsTup h r.a #[.str (letter r.s) r.ta, .str (letter r.t) r.tb, .int (r.c : Int) r.tc] := ⟨_, (N _ hm).1, rfl, _, rfl⟩
section
variable {A : Around} {E : Value → Shared → Prop} {s : Shared} {Q : Value → Shared → Prop} {value slice : PySem.Expr} {a : Addr} {u : Tok} {x0 x1 x2 : Value}
theorem boxI0 (hT : IsTup s.heap a #[x0, x1, x2]) (h : Q x0 s)
    (hs : subscripted slice false (.ref a) (.int 0 u) = operate [.ref a, .int 0 u] (getItem (.ref a) (.int 0 u)) := by with_unfolding_all rfl) (hg : ∀ r, letTemporaryGo value (.ref a) r = pure () := by intro _; with_unfolding_all rfl) :
    wpAny (model prog3 w) A (subscriptTail value slice (.ref a) (.int 0 u)) Q E s := item_tuple hT (by decide) (by decide) (j := 0) rfl rfl h hs hg
theorem boxI1 (hT : IsTup s.heap a #[x0, x1, x2]) (h : Q x1 s)
    (hs : subscripted slice false (.ref a) (.int 1 u) = operate [.ref a, .int 1 u] (getItem (.ref a) (.int 1 u)) := by with_unfolding_all rfl) (hg : ∀ r, letTemporaryGo value (.ref a) r = pure () := by intro _; with_unfolding_all rfl) :
    wpAny (model prog3 w) A (subscriptTail value slice (.ref a) (.int 1 u)) Q E s := item_tuple hT (by decide) (by decide) (j := 1) rfl rfl h hs hg
theorem boxI2 (hT : IsTup s.heap a #[x0, x1, x2]) (h : Q x2 s)
    (hs : subscripted slice false (.ref a) (.int 2 u) = operate [.ref a, .int 2 u] (getItem (.ref a) (.int 2 u)) := by with_unfolding_all rfl) (hg : ∀ r, letTemporaryGo value (.ref a) r = pure () := by intro _; with_unfolding_all rfl) :
    wpAny (model prog3 w) A (subscriptTail value slice (.ref a) (.int 2 u)) Q E s := item_tuple hT (by decide) (by decide) (j := 2) rfl rfl h hs hg
end
noncomputable def m3 (c : Nat) : Str := Txt.mul (Str.ofString "3D") (c : Int)
theorem m3_ok : ∀ c : Nat, c < 6 → MulOk (Str.ofString "3D") (c : Int) := by unfold MulOk; decide +kernel
theorem m3_len : ∀ c < 6, (m3 c).length ≤ 10 ∧ Str.ofString "=" ++ m3 c = vstr c ∧ PyData.strOk (vstr c) = true := by decide +kernel
theorem mul3 {A : Around} {E : Value → Shared → Prop} {s : Shared} {Q : Value → Shared → Prop} {t u : Tok} {i : Int} {c : Nat} (e : i = (c : Int)) (hc : c < 6) (h : ∀ t' k, Q (.str (m3 c) t') { s with toks := k }) : wpAny (model prog3 w) A (binaryOp .Mult (.str (Str.ofString "3D") t) (.int i u)) Q E s := by
  subst e; exact SB.mul (m3_ok c hc) h
theorem nmT (r : BRow) (h1 : r.s < 4) (h2 : r.t < 4) (o : Bool) : Txt.lower (nm r.s r.t o) ∈ names10 ∧ (nm r.s r.t o).length ≤ 20 := by
  obtain ⟨f1, f2, f3, _⟩ := nm_fact r.s h1 r.t h2 o
  exact ⟨f1 ▸ f3, f2⟩
theorem hitT {bs : List (Nat × Nat × Nat)} {kvs : List (Str × Str)} {c : Nat → Nat → Nat} (W : Wf1 bs kvs c) (O : BxOK bs) {b : Nat × Nat × Nat} (hb : b ∈ bs) (o : Bool) : ∃ k, kvs.find? (fun kv => decide (Txt.lower kv.1 = Txt.lower (nm b.1 b.2.1 o))) = some (k, vstr (c b.1 b.2.1)) := by
  obtain ⟨h1, h2, _⟩ := O.s b hb
  obtain ⟨f1, _⟩ := nm_fact b.1 h1 b.2.1 h2 o
  obtain ⟨k, hk⟩ := W.hit b hb
  exact ⟨k, by rw [f1, find_filter, hk]; rfl⟩
theorem blst_src {A : Around} {s₁ : Shared} {lb : Addr} {brs : List BRow} (hh : A.handled = none) (B : BxAt s₁.heap lb brs) : SrcZ prog3 w A brs.length (fun i v => ∃ r, brs[i]? = some r ∧ v = .ref r.a) [lb] (.ref lb) s₁ := by
  have hsz : (List.toArray (brs.map (fun r => Value.ref r.a))).size = brs.length := by simp
  have S := src_list (prog := prog3) (w := w) hh B.item
  rw [hsz] at S
  have e : (fun (i : Nat) (v : Value) => (List.toArray (brs.map (fun r => Value.ref r.a)))[i]? = some v) = (fun i v => ∃ r, brs[i]? = some r ∧ v = .ref r.a) := by
    funext i v
    refine propext ⟨fun h => ?_, fun ⟨r, h, e⟩ => ?_⟩
    · have q : (brs.map (fun r => Value.ref r.a))[i]? = some v := by simpa using h
      rw [List.getElem?_map] at q
      obtain ⟨r, hr, e⟩ := Option.map_eq_some_iff.mp q
      exact ⟨r, hr, e.symm⟩
    · simp [h, e]
  rw [e] at S
  exact S
local macro_rules | `(tactic| walk_at "eval Name") => `(tactic| (k_here; refine ldLoc (by k_asm) (by assumption) ?_))
local macro_rules | `(tactic| walk_at "eval ListComp") => `(tactic| (k_here; refine StopAt2.p ?_))
local macro_rules | `(tactic| walk_at "compareOp NotEq ref ref") => `(tactic| (k_here; refine StopAt2.p ?_))
local macro_rules | `(tactic| walk_at "subscriptTail Name Constant ref int") => `(tactic| (k_here; first | (refine boxI0 (isTup_led (by k_asm) (by assumption)) ?_) | (refine boxI1 (isTup_led (by k_asm) (by assumption)) ?_) | (refine boxI2 (isTup_led (by k_asm) (by assumption)) ?_)))
local macro_rules | `(tactic| walk_at "call ref") => `(tactic| (k_here; (with_reducible show wpAny _ _ (call (Value.ref 238) _) _ _ _); (show wpAny _ _ (call (Value.ref 238) [Value.ref _, Value.int _ _]) _ _ _); k_dflt (refine use_str (name_c (by assumption) (stays_fr (by assumption) (by assumption)) (isTup_led (by k_asm) (by assumption)) (by assumption) (by assumption) _ _) ⟨rfl, Nat.le_of_ble_eq_true rfl, Nat.le_of_ble_eq_true rfl⟩ (by k_asm) (by k_asm) ?_); intro tn' h' tk' F' N'))
local macro_rules | `(tactic| walk_at "call ref") => `(tactic| (k_here; (with_reducible show wpAny _ _ (call (Value.ref 159) _) _ _ _); (show wpAny _ _ (call (Value.ref 159) [Value.ref _, Value.str _ _, Value.str _ _]) _ _ _); k_dflt (refine use_str (setd_old (by assumption) (stays_fr (by assumption) (by assumption)) (LawM.tab (by assumption) (by k_asm)) (LawM.rowsAt (by assumption) (by k_asm)) (by assumption) (by assumption) (by assumption) (by assumption) _ _) ⟨rfl, Nat.le_of_ble_eq_true rfl, Nat.le_of_ble_eq_true rfl⟩ (by k_asm) (by k_asm) ?_); intro tn' h' tk' F' N'))
theorem st_setd {b : Heap} (G : G3 w mean mg mb b) {L fa : Addr} {cr : Value} {Q : Flow → Shared → Prop} {E : Value → Shared → Prop} {s : Shared} {m : Str → Option Value} {news : List (Addr × Obj)} {z : Bool} {brs : List BRow} {lb t d l : Addr} {rows : List Row}
    (F : Fr b L s.heap m) (N : News b L s.heap news) (M : LawM w L z brs lb t d l rows (tokOf (brs.map BRow.box)) news) (hmb : m (Str.ofString "boxes") = some (.ref lb))
    (next : ∀ h tk, Fr b L h m → News b L h news → LawGoal 6 w L fa cr Q E { s with heap := h, toks := tk }) : LawGoal 5 w L fa cr Q E s := by
  refine expose_5_6 (by rfl) ?_
  intro rest hrest
  have X := G.X
  have TT := G.T
  have hst0 : b.StaysIn b := fun _ _ e => e
  obtain ⟨c2, hcm, hcd⟩ := M.ct
  obtain ⟨nb, hlb⟩ := M.hb
  have hbl : brs.length ≤ 12 := by have := M.O.len; rwa [List.length_map] at this
  have hLb : L ∉ [lb] := fun e => (N _ hlb).2.1 (List.mem_singleton.mp e).symm
  refine wpAny_execs_cons ?_
  k_steps
  refine ⟨ListComp_Z (by with_unfolding_all rfl) (by rfl) (by decide) ?_⟩
  k_steps
  refine lc_rel (fun (r : BRow) v => IsStr (vstr r.c) v) brs rfl (by omega) (by decide) (by rfl) (by rfl) (blst_src rfl (M.bx N)) F N hLb (fun a ha => ⟨_, .inl ((List.mem_singleton.mp ha).symm ▸ hlb)⟩) ?_ ?_
  · rintro i v r m₂ C oC rst h tk E' ⟨r', hr', rfl⟩ hr hm hns hC hsub F N
    cases hr'.symm.trans hr
    have hrm : r ∈ brs := List.mem_of_getElem? hr
    have hbm : r.box ∈ brs.map BRow.box := List.mem_map.mpr ⟨r, hrm, rfl⟩
    have M' := M.mono hsub
    have hcm' := hsub _ hcm
    have hi' := M'.hi
    obtain ⟨tk0, hd'⟩ := M'.hd
    have hrt := M'.hbt r hrm
    obtain ⟨hr1, hr2, hr3⟩ := M.O.s r.box hbm
    replace hr1 : r.s < 4 := hr1
    replace hr2 : r.t < 4 := hr2
    have hcv : tokOf (brs.map BRow.box) r.s r.t = r.c := tok_at M.O.nd hbm
    obtain ⟨hx, hlen⟩ := nmT r hr1 hr2 (decide ((0 : Int) % 2 = 1))
    have hK := M.wf.klen
    obtain ⟨kk, hit⟩ := hitT M.wf M.O hbm (decide ((0 : Int) % 2 = 1))
    replace hit : (kvsOf rows).find? (fun kv => decide (Txt.lower kv.1 = Txt.lower (nm r.s r.t (decide ((0 : Int) % 2 = 1))))) = some (kk, vstr (tokOf (brs.map BRow.box) r.s r.t)) := hit
    rw [hcv] at hit
    k_steps
    exact ValP.intro ⟨_, rfl⟩ (by assumption) (by assumption)
  · intro D vs k h tk hvs hD F N
    have M2 := M.mono (news' := (D, W.listOf (List.toArray vs) k) :: news) fun p hp => .tail _ hp
    have hlb2 : (lb, blst brs nb) ∈ (D, W.listOf (List.toArray vs) k) :: news := .tail _ hlb
    k_steps
    refine ⟨ListComp_Z (by with_unfolding_all rfl) (by rfl) (by decide) ?_⟩
    k_steps
    refine lc_rel (fun (r : BRow) v => IsStr (vstr r.c) v) brs rfl (by omega) (by decide) (by rfl) (by rfl) (blst_src rfl (M2.bx N)) F N hLb (fun a ha => ⟨_, .inl ((List.mem_singleton.mp ha).symm ▸ hlb2)⟩) ?_ ?_
    · rintro i v r m₂ C oC rst h tk E' ⟨r', hr', rfl⟩ hr hm hns hC hsub F N
      cases hr'.symm.trans hr
      have hrm : r ∈ brs := List.mem_of_getElem? hr
      have hbm : r.box ∈ brs.map BRow.box := List.mem_map.mpr ⟨r, hrm, rfl⟩
      have hrt := hsub _ (M2.hbt r hrm)
      have hc6 : r.c < 6 := by have := M.O.c _ hbm; exact Nat.lt_trans this (by decide)
      obtain ⟨hml, hmv, _⟩ := m3_len r.c hc6
      k_steps
      exact ValP.intro ⟨_, congrArg (fun y => Value.str y _) hmv⟩ (by assumption) (by assumption)
    · intro D2 vs2 k2 h2 tk2 hvs2 hD2 F2 N2
      k_steps
      refine ⟨ne_strs ⟨_, (N2 (D, W.listOf (List.toArray vs) k) (.tail _ (.head _))).1, rfl, _, rfl⟩ ⟨_, (N2 _ (.head _)).1, rfl, _, rfl⟩ (rels_map (f := fun r : BRow => vstr r.c) hvs) (rels_map (f := fun r : BRow => vstr r.c) hvs2) (fun x hx => ?_) (Nat.le_of_ble_eq_true rfl) ?_⟩
      · obtain ⟨r, hr, rfl⟩ := List.mem_map.mp hx
        exact (m3_len r.c (Nat.lt_trans (M.O.c _ (List.mem_map.mpr ⟨r, hr, rfl⟩)) (by decide))).2.2
      k_steps
      exact back_5_6 (by rfl) hrest (next _ _ F2 fun p hp => N2 p (.tail _ (.tail _ hp)))
end
end Mine
namespace Mine
section
variable {w : World} {mean : ExcName → Option Value} {mg mb : Str → Option Value} {h₀ : Heap}
theorem hitN {bs : List (Nat × Nat × Nat)} {kvs : List (Str × Str)} {c : Nat → Nat → Nat} (W : Wf1 bs kvs c) {p : Nat × Nat} (h1 : p.1 < 4) (h2 : p.2 < 4) (o : Bool) (hf : p ∉ bs.map fst2) : kvs.find? (fun kv => decide (Txt.lower kv.1 = Txt.lower (nm p.1 p.2 o))) = none := by
  obtain ⟨f1, _⟩ := nm_fact p.1 h1 p.2 h2 o
  rw [f1, find_filter, W.miss p.1 h1 p.2 h2 fun b hb e => hf (List.mem_map.mpr ⟨b, hb, Prod.ext e.1 e.2⟩)]
  rfl
theorem hitS {bs : List (Nat × Nat × Nat)} {kvs : List (Str × Str)} {c : Nat → Nat → Nat} (W : Wf1 bs kvs c) (O : BxOK bs) {p : Nat × Nat} (o : Bool) (hf : p ∈ bs.map fst2) : ∃ k y, kvs.find? (fun kv => decide (Txt.lower kv.1 = Txt.lower (nm p.1 p.2 o))) = some (k, y) := by
  obtain ⟨b, hb, rfl⟩ := List.mem_map.mp hf
  obtain ⟨k, e⟩ := hitT W O hb o
  exact ⟨k, _, e⟩
theorem nmP (p : Nat × Nat) (h1 : p.1 < 4) (h2 : p.2 < 4) (o : Bool) : Txt.lower (nm p.1 p.2 o) ∈ names10 ∧ (nm p.1 p.2 o).length ≤ 20 := by
  obtain ⟨f1, f2, f3, _⟩ := nm_fact p.1 h1 p.2 h2 o
  exact ⟨f1 ▸ f3, f2⟩
theorem kp_ok : ∀ i < 4, ∀ j < 4, PyData.strOk (kp (i, j)) = true := by decide +kernel
theorem rels_at {β : Type} {R : β → Value → Prop} : ∀ {xs : List β} {vs : List Value} {i : Nat} {v : Value}, Rels R xs vs → vs[i]? = some v → ∃ b, xs[i]? = some b ∧ R b v
  | [], [], _, _, _, h => nomatch h
  | b :: _, v :: _, 0, _, r, h => by cases h; exact ⟨b, rfl, r.1⟩
  | _ :: _, _ :: _, i + 1, _, r, h => rels_at (i := i) r.2 h
  | [], _ :: _, _, _, h, _ => (show False from h).elim
  | _ :: _, [], _, _, h, _ => (show False from h).elim
local macro_rules | `(tactic| walk_at "eval Name") => `(tactic| (k_here; refine ldLoc (by k_asm) (by assumption) ?_))
local macro_rules | `(tactic| walk_at "eval ListComp") => `(tactic| (k_here; refine StopAt2.p ?_))
local macro_rules | `(tactic| walk_at "compareOp NotEq ref ref") => `(tactic| (k_here; refine StopAt2.p ?_))
local macro_rules | `(tactic| walk_at "subscriptTail Name Constant ref int") => `(tactic| (k_here; first | (refine boxI0 (isTup_led (by k_asm) (by assumption)) ?_) | (refine boxI1 (isTup_led (by k_asm) (by assumption)) ?_) | (refine boxI2 (isTup_led (by k_asm) (by assumption)) ?_)))
local macro_rules | `(tactic| walk_at "call ref") => `(tactic| (k_here; (with_reducible show wpAny _ _ (call (Value.ref 238) _) _ _ _); (show wpAny _ _ (call (Value.ref 238) [Value.str (kp (_, _)) _, Value.int _ _]) _ _ _); k_dflt (refine use_str (name_s (by assumption) (stays_fr (by assumption) (by assumption)) (by assumption) (by assumption) _ _) ⟨rfl, Nat.le_of_ble_eq_true rfl, Nat.le_of_ble_eq_true rfl⟩ (by k_asm) (by k_asm) ?_); intro tn' h' tk' F' N'))
local macro_rules | `(tactic| walk_at "call ref") => `(tactic| (k_here; (with_reducible show wpAny _ _ (call (Value.ref 116) _) _ _ _); (show wpAny _ _ (call (Value.ref 116) [Value.ref _, Value.str _ _]) _ _ _); k_dflt (refine use_str (get_some (by assumption) (stays_fr (by assumption) (by assumption)) (LawM.tab (by assumption) (by k_asm)) (LawM.rowsAt (by assumption) (by k_asm)) _ (by assumption) (by assumption) (by assumption) (by assumption)) ⟨rfl, Nat.le_of_ble_eq_true rfl, Nat.le_of_ble_eq_true rfl⟩ (by k_asm) (by k_asm) ?_); intro tn' h' tk' F' N'))
local macro_rules | `(tactic| walk_at "call ref") => `(tactic| (k_here; (with_reducible show wpAny _ _ (call (Value.ref 116) _) _ _ _); (show wpAny _ _ (call (Value.ref 116) [Value.ref _, Value.str _ _]) _ _ _); k_dflt (refine use_val (get_none (by assumption) (stays_fr (by assumption) (by assumption)) (LawM.tab (by assumption) (by k_asm)) (LawM.rowsAt (by assumption) (by k_asm)) _ (by assumption) (by assumption) (by assumption) (by assumption)) ⟨rfl, Nat.le_of_ble_eq_true rfl, Nat.le_of_ble_eq_true rfl⟩ (by k_asm) (by k_asm) ?_); intro h' tk' F' N'))
theorem st_get {b : Heap} (G : G3 w mean mg mb b) {L fa : Addr} {cr : Value} {Q : Flow → Shared → Prop} {E : Value → Shared → Prop} {s : Shared} {m : Str → Option Value} {news : List (Addr × Obj)} {z : Bool} {brs : List BRow} {lb t d l P : Addr} {pv : List Value} {kP : Nat} {rows : List Row} {c : Nat → Nat → Nat}
    (F : Fr b L s.heap m) (N : News b L s.heap news) (M : LawM w L z brs lb t d l rows c news) (hmb : m (Str.ofString "boxes") = some (.ref lb)) (hmp : m (Str.ofString "pairs") = some (.ref P)) (hP : (P, W.listOf (List.toArray pv) kP) ∈ news)
    (hpv : Rels IsStr ((allPairs (siz z)).map kp) pv) (hpr : (allPairs (siz z)).filter (fun p => decide (p ∈ (brs.map BRow.box).map fst2)) = (brs.map BRow.box).map fst2)
    (next : ∀ h tk, Fr b L h m → News b L h news → LawGoal 7 w L fa cr Q E { s with heap := h, toks := tk }) : LawGoal 6 w L fa cr Q E s := by
  refine expose_6_7 (by rfl) ?_
  intro rest hrest
  have X := G.X
  have TT := G.T
  have hst0 : b.StaysIn b := fun _ _ e => e
  obtain ⟨c2, hcm, hcd⟩ := M.ct
  obtain ⟨nb, hlb⟩ := M.hb
  have h4 := siz_le z
  have hbl : brs.length ≤ 12 := by have := M.O.len; rwa [List.length_map] at this
  have hLb : L ∉ [lb] := fun e => (N _ hlb).2.1 (List.mem_singleton.mp e).symm
  have hLP : L ∉ [P] := fun e => (N _ hP).2.1 (List.mem_singleton.mp e).symm
  have hpl : (allPairs (siz z)).length = pv.toArray.size := by rw [List.size_toArray, rels_len hpv, List.length_map]
  have hpl2 : pv.toArray.size ≤ 1000 := by
    rw [← hpl, ← prefP_all, prefP_len]
    have : siz z * siz z ≤ 4 * 4 := Nat.mul_le_mul h4 h4
    omega
  refine wpAny_execs_cons ?_
  k_steps
  refine ⟨ListComp_Z (by with_unfolding_all rfl) (by rfl) (by decide) ?_⟩
  k_steps
  refine lc_test (fun (p : Nat × Nat) v => IsStr (kp p) v) (fun p => decide (p ∈ (brs.map BRow.box).map fst2)) (allPairs (siz z)) hpl hpl2 (by decide) (by rfl) (by rfl) (src_list rfl ⟨_, (N _ hP).1, rfl, _, rfl⟩) F N hLP (fun a ha => ⟨_, .inl ((List.mem_singleton.mp ha).symm ▸ hP)⟩) ?_ ?_ ?_
  · rintro i v p m₂ C oC rst h tk E' hv hp hm hns hC hsub F N
    obtain ⟨x, hx1, u, rfl⟩ := rels_at (i := i) (v := v) hpv (by simpa using hv)
    rw [List.getElem?_map, hp] at hx1
    cases hx1
    have hpm := mem_allPairs.mp (List.mem_of_getElem? hp)
    have hr1 : p.1 < 4 := Nat.lt_of_lt_of_le hpm.1 h4
    have hr2 : p.2 < 4 := Nat.lt_of_lt_of_le hpm.2 h4
    have M' := M.mono hsub
    have hcm' := hsub _ hcm
    have hi' := M'.hi
    obtain ⟨tk0, hd'⟩ := M'.hd
    obtain ⟨hx, hlen⟩ := nmP p hr1 hr2 (decide ((1 : Int) % 2 = 1))
    have hK := M.wf.klen
    by_cases hf : p ∈ (brs.map BRow.box).map fst2
    · obtain ⟨kk, yy, hit⟩ := hitS M.wf M.O (decide ((1 : Int) % 2 = 1)) hf
      k_steps
      exact BoolP.intro (decide_eq_true hf).symm (by assumption) (by assumption)
    · have hno := hitN M.wf hr1 hr2 (decide ((1 : Int) % 2 = 1)) hf
      k_steps
      exact BoolP.intro (decide_eq_false hf).symm (by assumption) (by assumption)
  · rintro i v p m₂ C oC rst h tk E' hv hp hm hns hC hsub F N
    obtain ⟨x, hx1, u, rfl⟩ := rels_at (i := i) (v := v) hpv (by simpa using hv)
    rw [List.getElem?_map, hp] at hx1
    cases hx1
    k_steps
    exact ValP.intro ⟨_, rfl⟩ (by assumption) (by assumption)
  · intro D vs k h tk hvs hD F N
    have M2 := M.mono (news' := (D, W.listOf (List.toArray vs) k) :: news) fun p hp => .tail _ hp
    have hlb2 : (lb, blst brs nb) ∈ (D, W.listOf (List.toArray vs) k) :: news := .tail _ hlb
    k_steps
    refine ⟨ListComp_Z (by with_unfolding_all rfl) (by rfl) (by decide) ?_⟩
    k_steps
    refine lc_rel (fun (r : BRow) v => IsStr (kp (fst2 r.box)) v) brs rfl (by omega) (by decide) (by rfl) (by rfl) (blst_src rfl (M2.bx N)) F N hLb (fun a ha => ⟨_, .inl ((List.mem_singleton.mp ha).symm ▸ hlb2)⟩) ?_ ?_
    · rintro i v r m₂ C oC rst h tk E' ⟨r', hr', rfl⟩ hr hm hns hC hsub F N
      cases hr'.symm.trans hr
      have hrm : r ∈ brs := List.mem_of_getElem? hr
      have hbm : r.box ∈ brs.map BRow.box := List.mem_map.mpr ⟨r, hrm, rfl⟩
      have hrt := hsub _ (M2.hbt r hrm)
      obtain ⟨hr1, hr2, hr3⟩ := M.O.s r.box hbm
      have hl1 := letter_len r.s hr1
      have hl2 := letter_len r.t hr2
      k_steps
      exact ValP.intro ⟨_, rfl⟩ (by assumption) (by assumption)
    · intro D2 vs2 k2 h2 tk2 hvs2 hD2 F2 N2
      k_steps
      rw [hpr] at hvs
      have hv1 : Rels IsStr (((brs.map BRow.box).map fst2).map kp) vs := rels_map hvs
      have hv2 : Rels IsStr (((brs.map BRow.box).map fst2).map kp) vs2 := by
        rw [List.map_map, List.map_map]
        exact rels_map hvs2
      refine ⟨ne_strs ⟨_, (N2 (D, W.listOf (List.toArray vs) k) (.tail _ (.head _))).1, rfl, _, rfl⟩ ⟨_, (N2 _ (.head _)).1, rfl, _, rfl⟩ hv1 hv2 (fun x hx => ?_) (Nat.le_of_ble_eq_true rfl) ?_⟩
      · obtain ⟨p, hp, rfl⟩ := List.mem_map.mp hx
        obtain ⟨b', hb, rfl⟩ := List.mem_map.mp hp
        exact kp_ok _ (M.O.s _ hb).1 _ (M.O.s _ hb).2.1
      k_steps
      exact back_6_7 (by rfl) hrest (next _ _ F2 fun p hp => N2 p (.tail _ (.tail _ hp)))
end
end Mine
namespace Mine
section
variable {w : World} {mean : ExcName → Option Value} {mg mb : Str → Option Value} {h₀ : Heap}
/-- what of the law's objects nobody changes -/
structure LawC (w : World) (L : Addr) (z : Bool) (brs : List BRow) (lb t d l : Addr) (rows : List Row) (core : List (Addr × Obj)) : Prop where
  cg : ∃ c1 t1, (L + 1, c1) ∈ core ∧ c1.data = .cell (some (.str (gts z) t1))
  ct : ∃ c2, (L + 1 + 1, c2) ∈ core ∧ c2.data = .cell (some (.ref t))
  hi : (t, instObj 169 d) ∈ core
  hd : ∃ tk0, (d, hdrDict w l tk0) ∈ core
  hr : ∀ r ∈ rows, (r.a, r.obj) ∈ core
  hb : ∃ nb, (lb, blst brs nb) ∈ core
  hbt : ∀ r ∈ brs, r.tup ∈ core
  O : BxOK (brs.map BRow.box)
  hz : ∀ b ∈ brs.map BRow.box, b.1 < siz z ∧ b.2.1 < siz z
  ho : ∀ p ∈ core, p.1 ≠ l
theorem LawC.toM {L : Addr} {z : Bool} {brs : List BRow} {lb t d l : Addr} {rows rows' : List Row} {n : Nat} {c : Nat → Nat → Nat} {core news : List (Addr × Obj)} (K : LawC w L z brs lb t d l rows core) (hl : (l, lst rows' n) ∈ news) (h : ∀ p ∈ core, p ∈ news) (hr : ∀ r ∈ rows', (r.a, r.obj) ∈ news) (W : Wf1 (brs.map BRow.box) (kvsOf rows') c) : LawM w L z brs lb t d l rows' c news :=
  ⟨let ⟨a, b, x, y⟩ := K.cg; ⟨a, b, h _ x, y⟩, let ⟨a, x, y⟩ := K.ct; ⟨a, h _ x, y⟩, h _ K.hi, let ⟨a, x⟩ := K.hd; ⟨a, h _ x⟩, ⟨n, hl⟩, hr, let ⟨a, x⟩ := K.hb; ⟨a, h _ x⟩, fun r q => h _ (K.hbt r q), W, K.O, K.hz⟩
noncomputable def rtups (rows : List Row) : List (Addr × Obj) := rows.map fun r => (r.a, r.obj)
theorem freshF {b h : Heap} {L : Addr} {m : Str → Option Value} (F : Fr b L h m) {a : Addr} (q : h.get? a = none) : a ≠ L ∧ b.get? a = none := by
  refine ⟨fun e => ?_, ?_⟩
  · obtain ⟨o, _, _, hL, _⟩ := F.ns
    rw [e] at q
    rw [q] at hL; cases hL
  · cases e : b.get? a with
    | none => rfl
    | some o => have y := F.keep _ _ e; rw [q] at y; cases y
theorem run_led {A : Around} {s : Shared} {b : Heap} (G : G3 w mean mg mb b) {L ls : Addr} {m : Str → Option Value} {Q E : Value → Shared → Prop} {z : Bool} {brs : List BRow} {lb t d l : Addr} {rows : List Row} {n : Nat} {core : List (Addr × Obj)} {sv : List Value} {ns : List Int} {t1 : Tok}
    (F : Fr b L s.heap m) (N : News b L s.heap ((l, lst rows n) :: core)) (K : LawC w L z brs lb t d l rows core) (W : Wf1 (brs.map BRow.box) (kvsOf rows) (tokOf (brs.map BRow.box)))
    (hls : b.IsList ls sv.toArray) (hI : IntsAre sv ns) (hn : ns.length ≤ 63) (hA : Fits A 9)
    (h : ∀ D od kvs x h' tk' rows' n', od.IsDictOf (PySem.strKind prog3 w) kvs → DV letter (List.range (siz z)) kvs (fun i => (x i : Int)) → Reach (siz z) (brs.map BRow.box) x → (∀ g < siz z, stuckAt (brs.map BRow.box) x g) → rows'.length = rows.length → Wf1 (brs.map BRow.box) (kvsOf rows') (cOf (brs.map BRow.box) x) →
      Fr b L h' m → News b L h' ((D, od) :: (l, lst rows' n') :: (rtups rows' ++ core)) → (∀ p ∈ core, p.1 ≠ D) → Q (.ref D) { s with heap := h', toks := tk' }) : wpAny (model prog3 w) A (call (.ref 257) [.ref t, .ref lb, .str (gts z) t1, .ref ls]) Q E s := by
  have st : b.StaysIn s.heap := F.keep
  have M : LawM w L z brs lb t d l rows (tokOf (brs.map BRow.box)) ((l, lst rows n) :: core) := K.toM (.head _) (fun p hp => .tail _ hp) (fun r hr => .tail _ (K.hr r hr)) W
  have zl := N (l, lst rows n) (.head _)
  obtain ⟨nb, hlb⟩ := K.hb
  have hlsl : ls ≠ l := fun e => by
    obtain ⟨o, ho, _⟩ := hls
    have := zl.2.2
    rw [show (l, lst rows n).1 = ls from e.symm, ho] at this
    cases this
  refine wpAny_mono (weaken (run_c G st (M.tab N) zl.1 zl.2.2 (fun r hr => (N _ (.tail _ (K.hr r hr))).1) (M.bx N) (K.ho _ hlb) K.O K.hz W (hls.at fun o e => F.keep _ o e) hlsl hI hn t1) hA.h hA.d hA.u rfl rfl) (fun v s' p => ?_) fun _ _ x => x.elim
  obtain ⟨D, od, kvs, x, h', tk, rows', n', rfl, rfl, hk, hl', hr', hnew, hlen, W', hD, hDn, hd, dv, hR, hS⟩ := p.ex
  have F' : Fr b L h' m := ⟨F.ns.at' fun o e => hk _ _ (Ne.symm zl.2.1) e, fun a o e => hk _ _ (fun q => by have y := zl.2.2; rw [show (l, lst rows n).1 = a from q.symm, e] at y; cases y) (F.keep a o e), F.above⟩
  have fD := freshF F hDn
  refine h D od kvs x h' tk rows' n' hd dv hR hS hlen W' F' (fun p hp => ?_) fun p hp e => ?_
  · rcases List.mem_cons.mp hp with rfl | hp
    · exact ⟨hD, fD⟩
    · rcases List.mem_cons.mp hp with rfl | hp
      · exact ⟨hl', zl.2⟩
      · rcases List.mem_append.mp hp with hp | hp
        · obtain ⟨r, hr, rfl⟩ := List.mem_map.mp hp
          refine ⟨hr' r hr, ?_⟩
          rcases hnew r hr with q | q
          · exact (N _ (.tail _ (K.hr r q))).2
          · exact freshF F q
        · have y := N p (.tail _ hp)
          exact ⟨hk _ _ (K.ho p hp) y.1, y.2⟩
  · have y := (N p (.tail _ hp)).1
    rw [e, hDn] at y; cases y
theorem due_led {A : Around} {s : Shared} {b : Heap} (G : G3 w mean mg mb b) {L : Addr} {m : Str → Option Value} {Q E : Value → Shared → Prop} {z : Bool} {brs : List BRow} {lb t d l : Addr} {rows : List Row} {c : Nat → Nat → Nat} {news : List (Addr × Obj)} {t1 : Tok}
    (F : Fr b L s.heap m) (N : News b L s.heap news) (M : LawM w L z brs lb t d l rows c news) (hA : Fits A 9)
    (h : ∀ D od kvs x h' tk', od.IsDictOf (PySem.strKind prog3 w) kvs → DV letter (List.range (siz z)) kvs x → (∀ j < siz z, DueIs (siz z) (fw (far0 (brs.map BRow.box)) (siz z)) j (x j)) → Fr b L h' m → News b L h' ((D, od) :: news) → Q (.ref D) { s with heap := h', toks := tk' }) :
    wpAny (model prog3 w) A (call (.ref 262) [.ref lb, .str (gts z) t1]) Q E s := by
  refine wpAny_mono (weaken (due_c G F.keep (M.bx N) M.O M.hz t1) hA.h hA.d hA.u rfl rfl) (fun v s' p => ?_) fun _ _ x => x.elim
  obtain ⟨D, od, kvs, x, h', tk, rfl, rfl, hk, hD, hDn, hd, dv, hdue⟩ := p.ex
  refine h D od kvs x h' tk hd dv hdue (F.keeps hk) fun p hp => ?_
  rcases List.mem_cons.mp hp with rfl | hp
  · exact ⟨hD, freshF F hDn⟩
  · exact (N.keeps hk) p hp
theorem keys_led {A : Around} {s : Shared} {b : Heap} (G : G3 w mean mg mb b) {L : Addr} {m : Str → Option Value} {Q E : Value → Shared → Prop} {z : Bool} {brs : List BRow} {lb t d l : Addr} {rows : List Row} {c : Nat → Nat → Nat} {news : List (Addr × Obj)}
    (F : Fr b L s.heap m) (N : News b L s.heap news) (M : LawM w L z brs lb t d l rows c news) (hc : rows.length ≤ 20) (hA : Fits A 3)
    (h : ∀ D n' vs h' tk', vs.length = rows.length → Fr b L h' m → News b L h' ((D, W.listOf (List.toArray vs) n') :: news) → Q (.ref D) { s with heap := h', toks := tk' }) :
    wpAny (model prog3 w) A (call (.ref 121) [.ref t]) Q E s := by
  obtain ⟨n, hl⟩ := M.hl
  refine wpAny_mono (weaken (keys_c G F.keep (M.tab N) (N _ hl).1 (fun r hr => (N _ (M.hr r hr)).1) (fun r hr => (N _ (M.hr r hr)).2.2) hc) hA.h hA.d hA.u rfl rfl) (fun v s' p => ?_) fun _ _ x => x.elim
  obtain ⟨D, h', tk, n', vs, rfl, rfl, hk, hDn, hD, hv⟩ := p.ex
  refine h D n' vs h' tk hv (F.keeps hk) fun p hp => ?_
  rcases List.mem_cons.mp hp with rfl | hp
  · exact ⟨hD, freshF F hDn⟩
  · exact (N.keeps hk) p hp
theorem valueAt_memN {kvs : List (Str × Value)} (hn : (kvs.map (·.1)).Nodup) {p : Str × Value} (h : p ∈ kvs) : valueAt kvs p.1 = some p.2 := by
  induction kvs with
  | nil => cases h
  | cons a r ih =>
    have hn' := List.nodup_cons.mp hn
    rw [valueAt_cons]
    rcases List.mem_cons.mp h with rfl | h
    · rw [if_pos rfl]
    · rw [if_neg fun (e : a.1 = p.1) => hn'.1 (by show a.1 ∈ List.map (fun x => x.fst) r; rw [e]; exact List.mem_map_of_mem (f := fun x : Str × Value => x.1) h)]
      exact ih hn'.2 h
theorem hits_of {A : Around} {s : Shared} {kb : List (Str × Value)} : ∀ {r : List (Str × Value)}, (∀ p ∈ r, ∃ a t t', p.2 = .int a t ∧ valueAt kb p.1 = some (.int a t')) → KeqHits A s kb r true
  | [], _ => .nil
  | p :: r, h => by
    obtain ⟨a, t, t', e, hv⟩ := h p (.head _)
    obtain ⟨k, v⟩ := p
    simp only at e hv
    subst e
    have q := KeqHits.hit (A := A) (s := s) hv (SeqAt.EqAt.int_int a t a t') (hits_of (A := A) (s := s) fun p hp => h p (.tail _ hp))
    simpa using q
theorem not_sys {b : Heap} (X : (MineX.hd.heap_39 w.params).In b) {D : Addr} (h : b.get? D = none) : (D == sysModules) = false := by
  refine beq_eq_false_iff_ne.mpr fun e => ?_
  have q := X sysModules _ (by k_is)
  rw [← e, h] at q
  cases q
theorem ne_dv {A : Around} {s : Shared} {b : Heap} (X : (MineX.hd.heap_39 w.params).In b) {L D D2 : Addr} {Q E : Value → Shared → Prop} {od od2 : Obj} {news : List (Addr × Obj)} {n : Nat} {ka kb : List (Str × Value)} {x : Nat → Int} (N : News b L s.heap news) (pa : (D, od) ∈ news) (pb : (D2, od2) ∈ news)
    (da : od.IsDictOf (PySem.strKind prog3 w) ka) (db : od2.IsDictOf (PySem.strKind prog3 w) kb) (va : DV letter (List.range n) ka x) (vb : DV letter (List.range n) kb x) (h4 : n ≤ 4) (hu : A.units < cLine) (h : Q (.bool false) s) :
    wpAny (model prog3 w) A (compareOp .NotEq (.ref D) (.ref D2)) Q E s := by
  refine kne_pairs N pa pb da db (not_sys X (N _ pa).2.2) (not_sys X (N _ pb).2.2) (va.len.trans vb.len.symm) hu (hits_of fun p hp => ?_) h
  have hn : (ka.map (·.1)).Nodup := by
    rw [va.keys]
    have : ∀ n ≤ 4, ((List.range n).map letter).Nodup := by decide +kernel
    exact this n h4
  have hk : p.1 ∈ (List.range n).map letter := va.keys ▸ List.mem_map_of_mem hp
  obtain ⟨i, hi, e⟩ := List.mem_map.mp hk
  obtain ⟨t, ht⟩ := va.val i hi
  obtain ⟨t', ht'⟩ := vb.val i hi
  rw [e] at ht ht'
  have q := valueAt_memN hn hp
  rw [ht] at q
  exact ⟨x i, t, t', (Option.some.inj q).symm, ht'⟩
end
end Mine
namespace Mine
section
variable {w : World} {mean : ExcName → Option Value} {mg mb : Str → Option Value} {h₀ : Heap}
local macro_rules | `(tactic| walk_at "eval Name") => `(tactic| (k_here; refine ldLoc (by k_asm) (by assumption) ?_))
local macro_rules | `(tactic| walk_at "compareOp NotEq ref ref") => `(tactic| (k_here; refine StopAt2.p ?_))
local macro_rules | `(tactic| walk_at "call builtin:len") => `(tactic| (k_here; refine StopAt2.p ?_))
local macro_rules | `(tactic| walk_at "call ref") => `(tactic| (k_here; (with_reducible show wpAny _ _ (call (Value.ref 257) _) _ _ _); refine StopAt2.p ?_))
local macro_rules | `(tactic| walk_at "call ref") => `(tactic| (k_here; (with_reducible show wpAny _ _ (call (Value.ref 262) _) _ _ _); refine StopAt2.p ?_))
local macro_rules | `(tactic| walk_at "call ref") => `(tactic| (k_here; (with_reducible show wpAny _ _ (call (Value.ref 121) _) _ _ _); refine StopAt2.p ?_))
theorem st_run {b : Heap} (G : G3 w mean mg mb b) {L fa : Addr} {cr : Value} {Q : Flow → Shared → Prop} {E : Value → Shared → Prop} {s : Shared} {m : Str → Option Value} {core : List (Addr × Obj)} {z : Bool} {brs : List BRow} {lb t d l ls : Addr} {rows : List Row} {n : Nat} {sv : List Value} {ns : List Int}
    (F : Fr b L s.heap m) (N : News b L s.heap ((l, lst rows n) :: core)) (K : LawC w L z brs lb t d l rows core) (W : Wf1 (brs.map BRow.box) (kvsOf rows) (tokOf (brs.map BRow.box)))
    (hls : b.IsList ls sv.toArray) (hI : IntsAre sv ns) (hn : ns.length ≤ 63) (hmb : m (Str.ofString "boxes") = some (.ref lb)) (hms : m (Str.ofString "script") = some (.ref ls))
    (next : ∀ D od kvs x h tk rows' n', od.IsDictOf (PySem.strKind prog3 w) kvs → DV letter (List.range (siz z)) kvs (fun i => (x i : Int)) → Reach (siz z) (brs.map BRow.box) x → Wf1 (brs.map BRow.box) (kvsOf rows') (cOf (brs.map BRow.box) x) →
      Fr b L h (fun y => if y = Str.ofString "opened" then some (.ref D) else m y) → News b L h ((D, od) :: (l, lst rows' n') :: (rtups rows' ++ core)) → (∀ p ∈ core, p.1 ≠ D) → LawGoal 9 w L fa cr Q E { s with heap := h, toks := tk }) : LawGoal 7 w L fa cr Q E s := by
  refine expose_7_9 (by rfl) ?_
  intro rest hrest
  have X := G.X
  have TT := G.T
  obtain ⟨c1, t1, hgm, hgd⟩ := K.cg
  obtain ⟨c2, hcm, hcd⟩ := K.ct
  obtain ⟨nb, hlb⟩ := K.hb
  obtain ⟨tk0, hd0⟩ := K.hd
  have h4 := siz_le z
  have hgm1 : (L + 1, c1) ∈ (l, lst rows n) :: core := .tail _ hgm
  have hcm1 : (L + 1 + 1, c2) ∈ (l, lst rows n) :: core := .tail _ hcm
  refine wpAny_execs_cons ?_
  k_steps
  refine ⟨run_led G F N K W hls hI hn ⟨rfl, Nat.le_of_ble_eq_true rfl, Nat.le_of_ble_eq_true rfl⟩ ?_⟩
  clear F N hgm1 hcm1
  intro D od kvs x h tk rows' n' hd dv hR hS hlen W' F N hDc
  have sub1 : ∀ p ∈ core, p ∈ (D, od) :: (l, lst rows' n') :: (rtups rows' ++ core) := fun p hp => .tail _ (.tail _ (List.mem_append_right _ hp))
  have M1 : LawM w L z brs lb t d l rows' (cOf (brs.map BRow.box) x) ((D, od) :: (l, lst rows' n') :: (rtups rows' ++ core)) := K.toM (.tail _ (.head _)) sub1 (fun r hr => .tail _ (.tail _ (List.mem_append_left _ (List.mem_map.mpr ⟨r, hr, rfl⟩)))) W'
  have hD1 : (D, od) ∈ (D, od) :: (l, lst rows' n') :: (rtups rows' ++ core) := .head _
  generalize hnw : ((D, od) :: (l, lst rows' n') :: (rtups rows' ++ core) : List (Addr × Obj)) = nw at N M1 sub1 hD1
  have hgm1 := sub1 _ hgm
  have hcm1 := sub1 _ hcm
  k_steps
  rename Fr _ _ _ _ => F1
  rename News _ _ _ _ => N1
  refine ⟨due_led G F1 N1 M1 ⟨rfl, Nat.le_of_ble_eq_true rfl, Nat.le_of_ble_eq_true rfl⟩ ?_⟩
  clear F1 N1
  intro D2 od2 kvs2 x2 h2 tk2 hd2 dv2 hdue F2 N2
  k_steps
  have hx2 : ∀ i ∈ List.range (siz z), x2 i = (x i : Int) := fun i hi => (plain1 (bsok K.O K.hz) h4 hR hS (List.mem_range.mp hi) (hdue i (List.mem_range.mp hi))).symm
  refine ⟨ne_dv X N2 (.tail _ hD1) (.head _) hd hd2 dv (dv2.congr hx2) h4 (Nat.le_of_ble_eq_true rfl) ?_⟩
  have M2 := M1.mono (news' := (D2, od2) :: nw) fun p hp => .tail _ hp
  have hcm2 : (L + 1 + 1, c2) ∈ (D2, od2) :: nw := .tail _ hcm1
  have hi2 := M2.hi
  have hd2' : (d, hdrDict w l tk0) ∈ (D2, od2) :: nw := .tail _ (sub1 _ hd0)
  k_steps
  rename Fr _ _ _ _ => F3
  rename News _ _ _ _ => N3
  have hrl : rows'.length = brs.length := by
    have := W'.len
    rwa [kvsOf, List.length_map, List.length_map] at this
  have hbl : brs.length ≤ 12 := by have := K.O.len; rwa [List.length_map] at this
  refine ⟨keys_led G F3 N3 M2 (by omega) ⟨rfl, Nat.le_of_ble_eq_true rfl, Nat.le_of_ble_eq_true rfl⟩ ?_⟩
  clear F3 N3
  intro D3 n3 vs3 h3 tk3 hv3 F3 N3
  k_steps
  refine ⟨len_use (k := brs.length) ⟨_, (N3 _ (.head _)).1, rfl, _, rfl⟩ (by rw [List.size_toArray]; omega) (by omega) ?_⟩
  intro tl tkl
  k_steps
  refine ⟨len_use (k := brs.length) ⟨_, (N3 _ (.tail _ (.tail _ (sub1 _ hlb)))).1, rfl, _, rfl⟩ (by simp) (by omega) ?_⟩
  intro tl2 tkl2
  k_steps
  · exfalso; omega
  · rename Fr _ _ _ _ => F4
    rename News _ _ _ _ => N4
    exact back_7_9 (by rfl) hrest (next D od kvs x _ _ rows' n' hd dv hR W' F4 (fun p hp => N4 p (.tail _ (.tail _ (hnw ▸ hp)))) hDc)
end
end Mine
namespace Mine
section
variable {w : World} {mean : ExcName → Option Value} {mg mb : Str → Option Value} {h₀ : Heap}
local macro_rules | `(tactic| k_room) => `(tactic| exact Nat.le_of_ble_eq_true rfl)
theorem expose_9E {L fa : Addr} {cr : Value} {Q : Flow → Shared → Prop} {E : Value → Shared → Prop} {s : Shared} {name : Str} {params : Arguments} {dec : List Expr} {ret : Option Expr} {tp : List TypeParam} {scope : Scope} {ts : Option Scope} {bind : Str} {pos : Pos} {rest : List Stmt} {s0 s1 s2 s3 s4 s5 s6 s7 s8 s9 s10 : Stmt}
    (hst : stA MineX.P0 [34] = some (.FunctionDef name params (s0 :: s1 :: s2 :: s3 :: s4 :: s5 :: s6 :: s7 :: s8 :: s9 :: s10 :: rest) dec ret tp scope ts bind pos)) (hE : PassesOwn (model prog3 w) (callerA.deeper (lawEnv L fa cr)) (lawEnv L fa cr) E)
    (h : PassesOwn (model prog3 w) (callerA.deeper (envOfC name scope L fa cr)) (envOfC name scope L fa cr) E → wpAny (model prog3 w) (callerA.deeper (envOfC name scope L fa cr)) (execs (s9 :: s10 :: rest) (envOfC name scope L fa cr)) Q E s) : LawGoal 9 w L fa cr Q E s := by
  have e1 : lawEnv L fa cr = envOfC name scope L fa cr := by unfold lawEnv stL; rw [hst]; rfl
  have e2 : (fBody stL).drop 9 = s9 :: s10 :: rest := by unfold stL; rw [hst]; rfl
  unfold LawGoal
  rw [e1, e2]
  exact h (e1 ▸ hE)
theorem getall_led {A : Around} {s : Shared} {b : Heap} (G : G3 w mean mg mb b) {L : Addr} {m : Str → Option Value} {Q E : Value → Shared → Prop} {z : Bool} {brs : List BRow} {lb t d l : Addr} {rows : List Row} {c : Nat → Nat → Nat} {sub news : List (Addr × Obj)} {i k : Nat} {o : Bool} {t1 : Tok}
    (F : Fr b L s.heap m) (N : News b L s.heap news) (M : LawM w L z brs lb t d l rows c sub) (hs : ∀ p ∈ sub, p ∈ news) (hb : ∃ x, (i, k, x) ∈ brs.map BRow.box) (hA : Fits A 3)
    (h : ∀ D n' vs h' tk', Rels IsStr [vstr (c i k)] vs → (∀ p ∈ news, p.1 ≠ D) → Fr b L h' m → News b L h' ((D, W.listOf (List.toArray vs) n') :: news) → Q (.ref D) { s with heap := h', toks := tk' }) :
    wpAny (model prog3 w) A (call (.ref 108) [.ref t, .str (nm i k o) t1]) Q E s := by
  have M' := M.mono hs
  obtain ⟨n, hl⟩ := M'.hl
  obtain ⟨x, hx⟩ := hb
  obtain ⟨h1, h2, _⟩ := M.O.s _ hx
  obtain ⟨f1, f2, f3, _⟩ := nm_fact i h1 k h2 o
  have hrl : rows.length ≤ 20 := by
    have q1 := M.wf.len
    have q2 := M.O.len
    have q3 : (kvsOf rows).length = rows.length := by simp [kvsOf]
    omega
  obtain ⟨kk, hk1⟩ := M.wf.hit _ hx
  refine wpAny_mono (weaken (getall_c G F.keep (M'.tab N) (N _ hl).1 (fun r hr => (N _ (M'.hr r hr)).1) (f1 ▸ f3) f2 (fun r hr => M.wf.klen (r.k, r.v) (List.mem_map.mpr ⟨r, hr, rfl⟩)) hrl t1) hA.h hA.d hA.u rfl rfl) (fun v s' p => ?_) fun _ _ x => x.elim
  obtain ⟨D, h', tk, n', vs, rfl, rfl, hk, hDn, hD, hv⟩ := p.ex
  have e : (rows.filter fun r => decide (Txt.lower r.k = Txt.lower (nm i k o))).map (·.v) = [vstr (c i k)] := by
    have q := congrArg (List.map (·.2)) hk1
    rw [kvsOf, List.filter_map, List.map_map] at q
    rw [f1]
    exact q
  rw [e] at hv
  refine h D n' vs h' tk hv (fun p hp e => by have y := (N p hp).1; rw [e, hDn] at y; cases y) (F.keeps hk) fun p hp => ?_
  rcases List.mem_cons.mp hp with rfl | hp
  · exact ⟨hD, freshF F hDn⟩
  · exact (N.keeps hk) p hp
theorem shaped_two {x : Str} (h : PyData.strOk x = true) : PySem.SeqAt.shaped (.list [.list [.str x], .list [.str x]]) = true := by
  show (PyData.canLay0 (.list [.list [.str x], .list [.str x]]) && decide (PyData.depth (.list [.list [.str x], .list [.str x]]) ≤ 64)) = true
  simp [PyData.canLay0, PyData.canLayAll0, PyData.depth, PyData.depthAll, h]
theorem reads_one {h : Heap} {a : Addr} {vs : List Value} {n : Nat} {x : Str} (hg : h.get? a = some (W.listOf (List.toArray vs) n)) (hv : Rels IsStr [x] vs) : Reads h (.ref a) (.list [.str x]) [a] := Reads.list hg rfl rfl (by simpa using reads_strs hv)
theorem reads_two {h : Heap} {a a1 a2 : Addr} {n n1 n2 : Nat} {vs1 vs2 : List Value} {x : Str} (hg : h.get? a = some (W.listOf #[.ref a1, .ref a2] n)) (h1 : h.get? a1 = some (W.listOf (List.toArray vs1) n1)) (h2 : h.get? a2 = some (W.listOf (List.toArray vs2) n2)) (v1 : Rels IsStr [x] vs1) (v2 : Rels IsStr [x] vs2) : ∃ as, Reads h (.ref a) (.list [.list [.str x], .list [.str x]]) as :=
  ⟨_, Reads.list hg rfl rfl (.cons (reads_one h1 v1) (.cons (reads_one h2 v2) .nil))⟩
theorem ne_two {A : Around} {s : Shared} {Q E : Value → Shared → Prop} {a a1 a2 b b1 : Addr} {n n1 n2 k k1 : Nat} {vs1 vs2 us : List Value} {x : Str} (hx : PyData.strOk x = true) (hg : s.heap.get? a = some (W.listOf #[.ref a1, .ref a2] n)) (h1 : s.heap.get? a1 = some (W.listOf (List.toArray vs1) n1)) (h2 : s.heap.get? a2 = some (W.listOf (List.toArray vs2) n2)) (v1 : Rels IsStr [x] vs1) (v2 : Rels IsStr [x] vs2)
    (gb : s.heap.get? b = some (W.listOf #[.ref b1, .ref b1] k)) (g1 : s.heap.get? b1 = some (W.listOf (List.toArray us) k1)) (u1 : Rels IsStr [x] us) (hA : A.units + 64 < cLine)
    (h : Q (.bool false) s) : wpAny (model prog3 w) A (compareOp .NotEq (.ref a) (.ref b)) Q E s := by
  obtain ⟨as, ra⟩ := reads_two hg h1 h2 v1 v2
  obtain ⟨bs, rb⟩ := reads_two gb g1 g1 u1 u1
  refine ne_dataH ra rb (shaped_two hx) (shaped_two hx) hA ?_
  rw [PySem.SeqAt.eqv_refl _ (PySem.SeqAt.canLay_of_shaped (shaped_two hx))]
  exact h
end
end Mine
namespace Mine
section
variable {w : World} {mean : ExcName → Option Value} {mg mb : Str → Option Value} {h₀ : Heap}
local macro_rules | `(tactic| walk_at "eval Name") => `(tactic| (k_here; refine ldLoc (by k_asm) (by assumption) ?_))
local macro_rules | `(tactic| walk_at "exec For Tuple Name cons nil") => `(tactic| (k_here; (rename Fr _ _ _ _ => lF'); (with_unfolding_all refine For_T lF' ?_ (hE := by assumption))))
local macro_rules | `(tactic| walk_at "eval ListComp") => `(tactic| (k_here; refine StopAt2.p ?_))
local macro_rules | `(tactic| walk_at "storeName") => `(tactic| (k_here; (with_reducible show wpAny _ _ (storeName (envOfC _ _ _ _ _) (Str.ofString "source") _) _ _ _); refine StopAt2.p ?_))
local macro_rules | `(tactic| walk_at "storeName") => `(tactic| (k_here; (with_reducible show wpAny _ _ (storeName (envOfC _ _ _ _ _) (Str.ofString "target") _) _ _ _); refine StopAt2.p ?_))
local macro_rules | `(tactic| walk_at "compareOp NotEq ref ref") => `(tactic| (k_here; refine StopAt2.p ?_))
local macro_rules | `(tactic| walk_at "binaryOp Mult str int") => `(tactic| (k_here; k_dflt (refine mul3 (by first | rfl | assumption) (by assumption) ?_); intro tm' km'))
local macro_rules | `(tactic| walk_at "subscriptTail Name Name ref str") => `(tactic| (k_here; k_dflt (refine kda_item (knd := PySem.strKind _ _) (by k_asm) (by assumption) (by assumption) (strKind_is _ _ _ _) (by assumption) ?_)))
local macro_rules | `(tactic| walk_at "call builtin:list.append") => `(tactic| (k_here; refine StopAt2.p ?_))
local macro_rules | `(tactic| walk_at "call ref") => `(tactic| (k_here; (with_reducible show wpAny _ _ (call (Value.ref 238) _) _ _ _); (show wpAny _ _ (call (Value.ref 238) [Value.str (letter _ ++ letter _) _, Value.int _ _]) _ _ _); k_dflt (refine use_str (name_s (by assumption) (stays_fr (by assumption) (by assumption)) (by assumption) (by assumption) _ _) ⟨rfl, Nat.le_of_ble_eq_true rfl, Nat.le_of_ble_eq_true rfl⟩ (by k_asm) (by k_asm) ?_); intro tn' h' tk' F' N'))
local macro_rules | `(tactic| walk_at "call ref") => `(tactic| (k_here; (with_reducible show wpAny _ _ (call (Value.ref 108) _) _ _ _); refine StopAt2.p ?_))
theorem st_loop {b : Heap} (G : G3 w mean mg mb b) {L fa : Addr} {cr : Value} {Q : Flow → Shared → Prop} {E : Value → Shared → Prop} {s : Shared} {m : Str → Option Value} {base : List (Addr × Obj)} {z : Bool} {brs : List BRow} {lb t d l D : Addr} {od c3 c4 : Obj} {v3 v4 : Option Value} {kvs : List (Str × Value)} {rows : List Row} {x : Nat → Nat}
    (hE : PassesOwn (model prog3 w) (callerA.deeper (lawEnv L fa cr)) (lawEnv L fa cr) E)
    (F : Fr b L s.heap m) (N : News b L s.heap ((L + 1 + 1 + 1 + 1, c4) :: (L + 1 + 1 + 1, c3) :: base)) (M : LawM w L z brs lb t d l rows (cOf (brs.map BRow.box) x) base) (hD : (D, od) ∈ base) (hd : od.IsDictOf (PySem.strKind prog3 w) kvs) (dv : DV letter (List.range (siz z)) kvs (fun i => (x i : Int))) (hR : Reach (siz z) (brs.map BRow.box) x)
    (d3 : c3.data = .cell v3) (d4 : c4.data = .cell v4) (off : ∀ p ∈ base, p.1 ≠ L + 1 + 1 + 1 ∧ p.1 ≠ L + 1 + 1 + 1 + 1) (hmb : m (Str.ofString "boxes") = some (.ref lb)) (hmo : m (Str.ofString "opened") = some (.ref D))
    (hQ : ∀ h tk m' nw, Fr b L h m' → News b L h nw → Q (.ret (.bool true)) { s with heap := h, toks := tk }) : LawGoal 9 w L fa cr Q E s := by
  refine expose_9E (by rfl) hE ?_
  clear hE
  intro hE
  have X := G.X
  have TT := G.T
  have hst0 : b.StaysIn b := fun _ _ e => e
  obtain ⟨c2, hcm, hcd⟩ := M.ct
  obtain ⟨nb, hlb⟩ := M.hb
  have h4 := siz_le z
  obtain ⟨hx3, hfeas, -⟩ := reach_facts (bsok M.O M.hz) hR
  refine wpAny_execs_cons ?_
  k_steps
  rename Fr _ _ _ _ => F
  have hbz : (List.toArray (brs.map (fun r => Value.ref r.a))).size = brs.length := by simp
  refine loop_tup (ax := lb) (items := List.toArray (brs.map (fun r => Value.ref r.a))) (fun i m nw => ∃ c3 c4 v3 v4, nw = (L + 1 + 1 + 1 + 1, c4) :: (L + 1 + 1 + 1, c3) :: base ∧ c3.data = .cell v3 ∧ c4.data = .cell v4 ∧ m (Str.ofString "opened") = some (.ref D)) rfl ((M.bx fun p hp => N p (.tail _ (.tail _ hp))).item) (N _ (.tail _ (.tail _ hlb))).2.1 F N ⟨c3, c4, v3, v4, rfl, d3, d4, hmo⟩ ?_ ?_
  · clear F N d3 d4 hmb hmo
    rintro I i v m₁ news₁ s₁ own hiv ⟨c3, c4, v3, v4, rfl, d3, d4, hmo⟩ hI hlt' hown hit F N
    obtain ⟨r, hri, rfl⟩ : ∃ r, brs[i]? = some r ∧ v = .ref r.a := by
      have q : (brs.map (fun r => Value.ref r.a))[i]? = some v := by simpa using hiv
      rw [List.getElem?_map] at q
      obtain ⟨r, hr, e⟩ := Option.map_eq_some_iff.mp q
      exact ⟨r, hr, e.symm⟩
    have hrm : r ∈ brs := List.mem_of_getElem? hri
    have hbm : r.box ∈ brs.map BRow.box := List.mem_map.mpr ⟨r, hrm, rfl⟩
    obtain ⟨hr1, hr2, hr3⟩ := M.O.s r.box hbm
    replace hr1 : r.s < 4 := hr1
    replace hr2 : r.t < 4 := hr2
    have hls := letter_len r.s hr1
    have hlt2 := letter_len r.t hr2
    have hown3 : ∀ p ∈ own, p.1 ≠ L + 1 + 1 + 1 := fun p hp => (hown p hp).elim (fun e => e ▸ (hI _ (.tail _ (.head _))).symm) fun e => e ▸ (off _ hlb).1
    have hown4 : ∀ p ∈ own, p.1 ≠ L + 1 + 1 + 1 + 1 := fun p hp => (hown p hp).elim (fun e => e ▸ (hI _ (.head _)).symm) fun e => e ▸ (off _ hlb).2
    have hbase : ∀ p ∈ base, p ∈ own ++ (L + 1 + 1 + 1 + 1, c4) :: (L + 1 + 1 + 1, c3) :: base := fun p hp => by simp [hp]
    have hTt := isTup_led N (hbase _ (M.hbt r hrm))
    k_steps
    rename Fr _ _ _ _ => Fa
    rename News _ _ _ _ => Na
    have Nb : News b L _ ((own ++ [(L + 1 + 1 + 1 + 1, c4)]) ++ (L + 1 + 1 + 1, c3) :: base) := fun p hp => Na p (by simpa using hp)
    refine ⟨stCN Fa Nb (by rfl) d3 (fun p hp => ?_) (fun p hp => (off p hp).1) ?_⟩
    · rcases List.mem_append.mp hp with hp | hp
      · exact hown3 p hp
      · rw [List.mem_singleton.mp hp]; exact Nat.ne_of_gt (Nat.lt_succ_self _)
    clear Fa Na Nb d3 hTt hbase
    intro h1 c3' Fa Na d3
    k_steps
    rename Fr _ _ _ _ => Fb
    rename News _ _ _ _ => Nb
    have Nc : News b L _ (own ++ (L + 1 + 1 + 1 + 1, c4) :: (L + 1 + 1 + 1, c3') :: base) := fun p hp => Nb p (by simpa using hp)
    refine ⟨stCN Fb Nc (by rfl) d4 hown4 (fun p hp => ?_) ?_⟩
    · rcases List.mem_cons.mp hp with rfl | hp
      · exact Nat.ne_of_lt (Nat.lt_succ_self _)
      · exact (off p hp).2
    clear Fb Nb Nc d4
    intro h2 c4' Fb Nb d4
    obtain ⟨ts, hvs⟩ := dv.val r.s (List.mem_range.mpr (M.hz r.box hbm).1)
    obtain ⟨tt, hvt⟩ := dv.val r.t (List.mem_range.mpr (M.hz r.box hbm).2)
    have hmD : (D, od) ∈ own ++ (L + 1 + 1 + 1 + 1, c4') :: (L + 1 + 1 + 1, c3') :: base := by simp [hD]
    have hms : (L + 1 + 1 + 1, c3') ∈ own ++ (L + 1 + 1 + 1 + 1, c4') :: (L + 1 + 1 + 1, c3') :: base := by simp
    have hmt : (L + 1 + 1 + 1 + 1, c4') ∈ own ++ (L + 1 + 1 + 1 + 1, c4') :: (L + 1 + 1 + 1, c3') :: base := by simp
    have hcv : (r.c : Int) + (x r.s : Int) - (x r.t : Int) = ((cOf (brs.map BRow.box) x r.s r.t : Nat) : Int) := by
      have q := cof_at M.O x hbm
      have f := hfeas _ hbm
      rw [show cOf (brs.map BRow.box) x r.s r.t = r.c + x r.s - x r.t from q]
      replace f : x r.t ≤ r.c + x r.s := f
      omega
    have hc6 : cOf (brs.map BRow.box) x r.s r.t < 6 := by
      have q := cof_at M.O x hbm
      have f := M.O.c _ hbm
      have a := hx3 r.s
      rw [show cOf (brs.map BRow.box) x r.s r.t = r.c + x r.s - x r.t from q]
      replace f : r.c < 3 := f
      omega
    obtain ⟨hml, hmv, hmo'⟩ := m3_len _ hc6
    generalize hcc : cOf (brs.map BRow.box) x r.s r.t = cc at hcv hc6 hml hmv hmo'
    k_steps
    rename_i td kd ad dl hd1 ld hd2 Fd Nd
    have hdl : (dl, W.listOf #[Value.str (Str.ofString "=" ++ m3 cc) td] 0) ∈ (dl, W.listOf #[Value.str (Str.ofString "=" ++ m3 cc) td] 0) :: (own ++ (L + 1 + 1 + 1 + 1, c4') :: (L + 1 + 1 + 1, c3') :: base) := .head _
    have sub1 : ∀ p ∈ own ++ (L + 1 + 1 + 1 + 1, c4') :: (L + 1 + 1 + 1, c3') :: base, p ∈ (dl, W.listOf #[Value.str (Str.ofString "=" ++ m3 cc) td] 0) :: (own ++ (L + 1 + 1 + 1 + 1, c4') :: (L + 1 + 1 + 1, c3') :: base) := fun p hp => .tail _ hp
    generalize hnw : ((dl, W.listOf #[Value.str (Str.ofString "=" ++ m3 cc) td] 0) :: (own ++ (L + 1 + 1 + 1 + 1, c4') :: (L + 1 + 1 + 1, c3') :: base) : List (Addr × Obj)) = nw at Nd hdl sub1
    have hbw : ∀ p ∈ base, p ∈ nw := fun p hp => sub1 p (by simp [hp])
    refine ⟨ListComp_Z (by with_unfolding_all rfl) (by rfl) (by decide) ?_⟩
    k_steps
    rename IsRange _ _ _ _ _ _ _ _ => hrg
    rename Fr _ _ _ _ => Fc
    rename News _ _ _ _ => Nc
    have hcm3 := hbw _ hcm
    have hms3 := sub1 _ hms
    have hmt3 := sub1 _ hmt
    have hi3 := hbw _ M.hi
    obtain ⟨tk0, hd0⟩ := M.hd
    have hd3 := hbw _ hd0
    refine outZ_intro (x := Str.ofString "turn") (n := 2) (fun D4 i mC nws => ∃ ys k ex as, nws = (D4, W.listOf (List.toArray ys) k) :: (ex ++ nw) ∧ ex = as.map (fun q : Addr × List Value × Nat => (q.1, W.listOf (List.toArray q.2.1) q.2.2)) ∧ ys = as.map (fun q => Value.ref q.1) ∧ as.length = i ∧ ∀ q ∈ as, q.1 ≠ D4 ∧ Rels IsStr [vstr cc] q.2.1) new_list rfl (by intro I D C; exact lt_list1) (by intro I D C R s hs h; exact start_Z rfl rfl rfl rfl hs h) (by decide) (by rfl) (by rfl) (src_rangeZ rfl hrg (by decide) (by decide)) Fc Nc (fun h => nomatch h) (fun D4 => ⟨[], 0, [], [], rfl, rfl, rfl, rfl, fun _ h => nomatch h⟩) ?_ ?_
    · clear Fc Nc
      rintro D4 C4 I4 j v mC oC4 own4 news4 h4' tk4 E4 hj ⟨tv, rfl⟩ ⟨ys, k4, ex, as, rfl, hex, rfl, hal, has⟩ hN4 hID4 off4 hown4 ⟨oI4, hoI4, hit4⟩ hns4 F N
      obtain ⟨m₂, e2, hm2⟩ : ∃ m₂ : Str → Option Value, m₂ = (fun y => if y = Str.ofString "turn" then some (.int (0 + (j : Int)) tv) else mC y) ∧ m₂ (Str.ofString "turn") = some (.int (0 + (j : Int)) tv) := ⟨_, rfl, if_pos rfl⟩
      rw [← e2] at hns4
      have wk : ∀ p ∈ nw, p ∈ own4 ++ (C4, oC4) :: (D4, W.listOf (List.toArray (as.map (fun q => Value.ref q.1))) k4) :: (ex ++ nw) := fun p hp => by simp [hp]
      have hC4 : (C4, oC4) ∈ own4 ++ (C4, oC4) :: (D4, W.listOf (List.toArray (as.map (fun q => Value.ref q.1))) k4) :: (ex ++ nw) := by simp
      have hcm4 := wk _ hcm3
      have hms4 := wk _ hms3
      have hmt4 := wk _ hmt3
      have hi4 := wk _ hi3
      have hd4 := wk _ hd3
      refine emitL_Z ?_
      k_steps
      rename Fr _ _ _ _ => F5
      rename News _ _ _ _ => N5
      refine ⟨getall_led G F5 N5 M (fun p hp => wk p (hbw p hp)) ⟨_, hbm⟩ ⟨rfl, Nat.le_of_ble_eq_true rfl, Nat.le_of_ble_eq_true rfl⟩ ?_⟩
      clear F5 N5
      intro D5 n5 vs5 h5 tk5 hv5 hne5 F5 N5
      rw [hcc] at hv5
      k_steps
      rename Fr _ _ _ _ => F6
      rename News _ _ _ _ => N6
      have N7 : News b L _ (((D5, W.listOf (List.toArray vs5) n5) :: (own4 ++ (C4, oC4) :: (ex ++ nw))) ++ [(D4, W.listOf (List.toArray (as.map (fun q => Value.ref q.1))) k4)]) := fun p hp => N6 p (by simp at hp ⊢; rcases hp with h | h | h | h | h | h <;> simp [h])
      refine ⟨append_use F6 N7 (fun p hp => ?_) (by rw [List.length_map]; omega) ?_⟩
      · rcases List.mem_cons.mp hp with rfl | hp
        · exact (hne5 (D4, _) (by simp; exact .inr (.inr (.inl rfl)))).symm
        · rcases List.mem_append.mp hp with hp | hp
          · rcases hown4 p hp with e | e
            · rw [e]; exact Nat.ne_of_lt hID4.1
            · cases e
          · rcases List.mem_cons.mp hp with rfl | hp
            · exact Nat.ne_of_gt hID4.2
            · rcases List.mem_append.mp hp with hp | hp
              · rw [hex] at hp
                obtain ⟨q, hq, rfl⟩ := List.mem_map.mp hp
                exact (has q hq).1
              · exact Nat.ne_of_lt (hN4 p hp).1
      intro h8 F8 N8
      refine ⟨h8, _, m₂, oC4, (D4, W.listOf (List.toArray (as.map (fun q => Value.ref q.1) ++ [.ref D5])) (k4 + 1)) :: ((ex ++ [(D5, W.listOf (List.toArray vs5) n5)]) ++ nw), rfl, F8, hns4, fun p hp => N8 p (by simp at hp ⊢; rcases hp with h | h | h | h | h | h <;> simp [h]), fun p hp => ?_, as.map (fun q => Value.ref q.1) ++ [.ref D5], k4 + 1, ex ++ [(D5, W.listOf (List.toArray vs5) n5)], as ++ [(D5, vs5, n5)], rfl, by rw [hex, List.map_append]; rfl, by rw [List.map_append]; rfl, by rw [List.length_append, hal]; rfl, fun q hq => ?_⟩
      · rcases List.mem_cons.mp hp with rfl | hp
        · exact off4 (D4, W.listOf (List.toArray (as.map (fun q => Value.ref q.1))) k4) (.head _)
        · rcases List.mem_append.mp hp with hp | hp
          · rcases List.mem_append.mp hp with hp | hp
            · exact off4 p (.tail _ (List.mem_append_left _ hp))
            · rw [List.mem_singleton.mp hp]
              exact ⟨(hne5 (I4, oI4) (List.mem_append_left _ hoI4)).symm, (hne5 (C4, oC4) hC4).symm⟩
          · exact off4 p (.tail _ (List.mem_append_right _ hp))
      · rcases List.mem_append.mp hq with hq | hq
        · exact has q hq
        · rw [List.mem_singleton.mp hq]
          exact ⟨(hne5 (D4, _) (by simp; exact .inr (.inr (.inl rfl)))).symm, hv5⟩
    · clear Fc Nc
      rintro D4 C4 mC news4 h4' tk4 ⟨ys, k4, ex, as, rfl, hex, rfl, hal, has⟩ hND4 hCN4 hCL4 hC₀4 F hn N
      refine rr_eval hCN4 hCL4 hC₀4 F hn N ?_
      clear F hn N
      intro h5 F N
      obtain ⟨q1, q2, rfl⟩ : ∃ q1 q2, as = [q1, q2] := by
        match as, hal with
        | [q1, q2], _ => exact ⟨q1, q2, rfl⟩
      k_steps
      rename Fr _ _ _ _ => F6
      rename News _ _ _ _ => N6
      have hq1 : (q1.1, W.listOf (List.toArray q1.2.1) q1.2.2) ∈ ex := by rw [hex]; exact .head _
      have hq2 : (q2.1, W.listOf (List.toArray q2.2.1) q2.2.2) ∈ ex := by rw [hex]; exact .tail _ (.head _)
      refine ⟨ne_two (x := vstr cc) hmo' (N6 (D4, _) (.tail _ (.head _))).1 (N6 _ (.tail _ (.tail _ (List.mem_append_left _ hq1)))).1 (N6 _ (.tail _ (.tail _ (List.mem_append_left _ hq2)))).1 (has q1 (.head _)).2 (has q2 (.tail _ (.head _))).2 (N6 _ (.head _)).1 (N6 _ (.tail _ (.tail _ (List.mem_append_right _ hdl)))).1 (us := [Value.str (Str.ofString "=" ++ m3 cc) td]) ⟨⟨td, congrArg (fun y => Value.str y td) hmv⟩, trivial⟩ (Nat.le_of_ble_eq_true rfl) ?_⟩
      k_steps
      rename Fr _ _ _ _ => F7
      rename News _ _ _ _ => N7
      refine TurnT.next F7 (news' := (L + 1 + 1 + 1 + 1, c4') :: (L + 1 + 1 + 1, c3') :: base) (fun p hp => N7 p (.tail _ (.tail _ (List.mem_append_right _ (sub1 p hp))))) (fun p hp => ?_) ⟨c3', c4', _, _, rfl, d3, d4, hmo⟩
      rcases List.mem_cons.mp hp with rfl | hp
      · exact hI (L + 1 + 1 + 1 + 1, c4) (.head _)
      · rcases List.mem_cons.mp hp with rfl | hp
        · exact hI (L + 1 + 1 + 1, c3) (.tail _ (.head _))
        · exact hI p (.tail _ (.tail _ hp))
  · clear F N d3 d4 hmb hmo
    rintro m₁ news₁ h tk ⟨c3, c4, v3, v4, rfl, d3, d4, hmo⟩ F N
    k_steps
    exact hQ _ _ _ _ F N
end
end Mine
namespace Mine
section
variable {w : World} {mean : ExcName → Option Value} {mg mb : Str → Option Value} {h₀ : Heap}
theorem boxes_led {A : Around} {s : Shared} {b : Heap} (G : G3 w mean mg mb b) {L ls : Addr} {m : Str → Option Value} {Q E : Value → Shared → Prop} {z : Bool} {news : List (Addr × Obj)} {sv : List Value} {ns : List Int} {t1 : Tok}
    (F : Fr b L s.heap m) (N : News b L s.heap news) (hls : b.IsList ls sv.toArray) (hI : IntsAre sv ns) (hn : ns.length ≤ 63) (hA : Fits A 3)
    (h : ∀ D h' tk' n' brs, brs.map BRow.box = bx z (3528 + ns.sum) (siz z * (siz z - 1)) → (∀ p ∈ (D, blst brs n') :: brs.map BRow.tup, ∀ q ∈ news, p.1 ≠ q.1) → Fr b L h' m → News b L h' (((D, blst brs n') :: brs.map BRow.tup) ++ news) → Q (.ref D) { s with heap := h', toks := tk' }) :
    wpAny (model prog3 w) A (call (.ref 231) [.ref ls, .str (gts z) t1]) Q E s := by
  refine wpAny_mono (weaken (boxes_c G F.keep z (hls.at fun o e => F.keep _ o e) hI hn t1) hA.h hA.d hA.u rfl rfl) (fun v s' p => ?_) fun _ _ x => x.elim
  obtain ⟨D, h', tk, n', brs, rfl, rfl, hk, hnew, hb⟩ := p.ex
  refine h D h' tk n' brs hb (fun p hp q hq e => ?_) (F.keeps hk) fun p hp => ?_
  · have y := (N q hq).1
    rw [← e, (hnew p hp).2] at y; cases y
  · rcases List.mem_append.mp hp with hp | hp
    · exact ⟨(hnew p hp).1, freshF F (hnew p hp).2⟩
    · exact (N.keeps hk) p hp
theorem table_led {A : Around} {s : Shared} {b : Heap} (G : G3 w mean mg mb b) {L lb : Addr} {m : Str → Option Value} {Q E : Value → Shared → Prop} {brs : List BRow} {nb : Nat} {news : List (Addr × Obj)}
    (F : Fr b L s.heap m) (N : News b L s.heap news) (hlb : (lb, blst brs nb) ∈ news) (hbt : ∀ r ∈ brs, r.tup ∈ news) (O : BxOK (brs.map BRow.box)) (hA : Fits A 8)
    (h : ∀ t d l rows n tk0 h' tk', Wf1 (brs.map BRow.box) (kvsOf rows) (tokOf (brs.map BRow.box)) → (∀ p ∈ (t, instObj 169 d) :: (d, hdrDict w l tk0) :: led l n rows, ∀ q ∈ news, p.1 ≠ q.1) → Fr b L h' m → News b L h' (((t, instObj 169 d) :: (d, hdrDict w l tk0) :: led l n rows) ++ news) → Q (.ref t) { s with heap := h', toks := tk' }) :
    wpAny (model prog3 w) A (call (.ref 245) [.ref lb]) Q E s := by
  refine wpAny_mono (weaken (table_c G F.keep ⟨⟨nb, (N _ hlb).1⟩, fun r hr => (N _ (hbt r hr)).1⟩ O) hA.h hA.d hA.u rfl rfl) (fun v s' p => ?_) fun _ _ x => x.elim
  obtain ⟨t, d, l, rows, n, tk0, h', tk, rfl, rfl, hk, hnew, W⟩ := p.ex
  refine h t d l rows n tk0 h' tk W (fun p hp q hq e => ?_) (F.keeps hk) fun p hp => ?_
  · have y := (N q hq).1
    rw [← e, (hnew p hp).2] at y; cases y
  · rcases List.mem_append.mp hp with hp | hp
    · exact ⟨(hnew p hp).1, freshF F (hnew p hp).2⟩
    · exact (N.keeps hk) p hp
noncomputable def zOf (ns : List Int) : Bool := decide (2 ≤ ns.length)
local macro_rules | `(tactic| walk_at "eval Name") => `(tactic| (k_here; refine ldLoc (by k_asm) (by assumption) ?_))
local macro_rules | `(tactic| walk_at "storeName") => `(tactic| (k_here; (with_reducible show wpAny _ _ (storeName (envOfC _ _ _ _ _) (Str.ofString "gates") _) _ _ _); refine StopAt2.p ?_))
local macro_rules | `(tactic| walk_at "storeName") => `(tactic| (k_here; (with_reducible show wpAny _ _ (storeName (envOfC _ _ _ _ _) (Str.ofString "table") _) _ _ _); refine StopAt2.p ?_))
local macro_rules | `(tactic| walk_at "call ref") => `(tactic| (k_here; (with_reducible show wpAny _ _ (call (Value.ref 231) _) _ _ _); refine StopAt2.p ?_))
local macro_rules | `(tactic| walk_at "call ref") => `(tactic| (k_here; (with_reducible show wpAny _ _ (call (Value.ref 245) _) _ _ _); refine StopAt2.p ?_))
theorem st_start {b : Heap} (G : G3 w mean mg mb b) {L fa ls : Addr} {cr : Value} {Q : Flow → Shared → Prop} {E : Value → Shared → Prop} {s : Shared} {m : Str → Option Value} {c1 c2 c3 c4 : Obj} {sv : List Value} {ns : List Int}
    (F : Fr b L s.heap m) (N : News b L s.heap [(L + 1 + 1 + 1 + 1, c4), (L + 1 + 1 + 1, c3), (L + 1 + 1, c2), (L + 1, c1)]) (d1 : c1.data = .cell none) (d2 : c2.data = .cell none) (d3 : c3.data = .cell none) (d4 : c4.data = .cell none)
    (hls : b.IsList ls sv.toArray) (hI : IntsAre sv ns) (hn : ns.length ≤ 63) (hms : m (Str.ofString "script") = some (.ref ls))
    (next : ∀ brs lb t d l rows n core h tk, brs.map BRow.box = bx (zOf ns) (3528 + ns.sum) (siz (zOf ns) * (siz (zOf ns) - 1)) → LawC w L (zOf ns) brs lb t d l rows core → Wf1 (brs.map BRow.box) (kvsOf rows) (tokOf (brs.map BRow.box)) → (∀ p ∈ core, p.1 ≠ L + 1 + 1 + 1 ∧ p.1 ≠ L + 1 + 1 + 1 + 1) → L + 1 + 1 + 1 ≠ l → L + 1 + 1 + 1 + 1 ≠ l →
      Fr b L h (fun y => if y = Str.ofString "boxes" then some (.ref lb) else m y) → News b L h ((l, lst rows n) :: (L + 1 + 1 + 1 + 1, c4) :: (L + 1 + 1 + 1, c3) :: core) → LawGoal 3 w L fa cr Q E { s with heap := h, toks := tk }) : LawGoal 0 w L fa cr Q E s := by
  refine expose_0_3 (by rfl) ?_
  intro rest hrest
  have X := G.X
  have TT := G.T
  have hszv : sv.toArray.size = ns.length := by rw [List.size_toArray]; exact hI.length
  have hn2 : ns.length ≤ 1000 := by omega
  refine wpAny_execs_cons ?_
  refine wpAny_Assign_Name ?_
  refine eval_toV (fun v => ∃ t, v = .str (gts (zOf ns)) t) F N ?_ ?_
  · k_steps
    · have hz : zOf ns = false := decide_eq_false (by omega)
      exact ValP.intro ⟨_, by rw [hz]; rfl⟩ F N
    · have hz : zOf ns = true := decide_eq_true (by omega)
      exact ValP.intro ⟨_, by rw [hz]; rfl⟩ F N
  · clear F N
    rintro v h1 tk1 ⟨t1, rfl⟩ F N
    generalize hz : zOf ns = z at *
    k_steps
    have Na : News b L h1 ([(L + 1 + 1 + 1 + 1, c4), (L + 1 + 1 + 1, c3), (L + 1 + 1, c2)] ++ (L + 1, c1) :: []) := N
    have num : ∀ p ∈ [(L + 1 + 1 + 1 + 1, c4), (L + 1 + 1 + 1, c3), (L + 1 + 1, c2)], p.1 ≠ L + 1 := fun p hp => by
      have h1 : @LT.lt Nat _ (L + 1) (L + 1 + 1) := Nat.lt_succ_self _
      have h2 : @LT.lt Nat _ (L + 1 + 1) (L + 1 + 1 + 1) := Nat.lt_succ_self _
      have h3 : @LT.lt Nat _ (L + 1 + 1 + 1) (L + 1 + 1 + 1 + 1) := Nat.lt_succ_self _
      rcases List.mem_cons.mp hp with rfl | hp
      · exact Nat.ne_of_gt (Nat.lt_trans h1 (Nat.lt_trans h2 h3))
      · rcases List.mem_cons.mp hp with rfl | hp
        · exact Nat.ne_of_gt (Nat.lt_trans h1 h2)
        · rw [List.mem_singleton.mp hp]; exact Nat.ne_of_gt h1
    refine ⟨stCN F Na (by rfl) d1 num (fun p hp => nomatch hp) ?_⟩
    clear F N Na num d1
    intro h2 c1' F N d1
    have hgm : (L + 1, c1') ∈ [(L + 1 + 1 + 1 + 1, c4), (L + 1 + 1 + 1, c3), (L + 1 + 1, c2)] ++ (L + 1, c1') :: [] := by simp
    k_steps
    rename Fr _ _ _ _ => F2
    rename News _ _ _ _ => N2
    refine ⟨boxes_led G F2 N2 hls hI hn ⟨rfl, Nat.le_of_ble_eq_true rfl, Nat.le_of_ble_eq_true rfl⟩ ?_⟩
    clear F2 N2
    intro lb h3 tk3 nb brs hbs hfB F N
    have O : BxOK (brs.map BRow.box) := hbs ▸ bx_ok z _
    have hbz : ∀ b ∈ brs.map BRow.box, b.1 < siz z ∧ b.2.1 < siz z := fun b hb => by
      have q := bx_at z (3528 + ns.sum) (hbs ▸ hb)
      exact ⟨q.1, q.2.1⟩
    have hlbm : (lb, blst brs nb) ∈ ((lb, blst brs nb) :: brs.map BRow.tup) ++ ([(L + 1 + 1 + 1 + 1, c4), (L + 1 + 1 + 1, c3), (L + 1 + 1, c2)] ++ (L + 1, c1') :: []) := .head _
    have hbtm : ∀ r ∈ brs, r.tup ∈ ((lb, blst brs nb) :: brs.map BRow.tup) ++ ([(L + 1 + 1 + 1 + 1, c4), (L + 1 + 1 + 1, c3), (L + 1 + 1, c2)] ++ (L + 1, c1') :: []) := fun r hr => List.mem_append_left _ (.tail _ (List.mem_map.mpr ⟨r, hr, rfl⟩))
    k_steps
    rename Fr _ _ _ _ => F2
    rename News _ _ _ _ => N2
    refine ⟨table_led G F2 N2 hlbm hbtm O ⟨rfl, Nat.le_of_ble_eq_true rfl, Nat.le_of_ble_eq_true rfl⟩ ?_⟩
    clear F2 N2
    intro t d l rows n tk0 h4 tk4 W hfT F N
    k_steps
    rename Fr _ _ _ _ => F2
    rename News _ _ _ _ => N2
    have n12 : @LT.lt Nat _ (L + 1) (L + 1 + 1) := Nat.lt_succ_self _
    have n23 : @LT.lt Nat _ (L + 1 + 1) (L + 1 + 1 + 1) := Nat.lt_succ_self _
    have n34 : @LT.lt Nat _ (L + 1 + 1 + 1) (L + 1 + 1 + 1 + 1) := Nat.lt_succ_self _
    have m4 : (L + 1 + 1 + 1 + 1, c4) ∈ [(L + 1 + 1 + 1 + 1, c4), (L + 1 + 1 + 1, c3), (L + 1 + 1, c2)] ++ (L + 1, c1') :: [] := by simp
    have m3 : (L + 1 + 1 + 1, c3) ∈ [(L + 1 + 1 + 1 + 1, c4), (L + 1 + 1 + 1, c3), (L + 1 + 1, c2)] ++ (L + 1, c1') :: [] := by simp
    have m2 : (L + 1 + 1, c2) ∈ [(L + 1 + 1 + 1 + 1, c4), (L + 1 + 1 + 1, c3), (L + 1 + 1, c2)] ++ (L + 1, c1') :: [] := by simp
    have hdO : ∀ p ∈ (t, instObj 169 d) :: (d, hdrDict w l tk0) :: rtups rows, p.1 ≠ l := fun p hp => by
      have hl2 : (l, lst rows n) ∈ ((t, instObj 169 d) :: (d, hdrDict w l tk0) :: led l n rows) ++ (((lb, blst brs nb) :: brs.map BRow.tup) ++ ([(L + 1 + 1 + 1 + 1, c4), (L + 1 + 1 + 1, c3), (L + 1 + 1, c2)] ++ (L + 1, c1') :: [])) := List.mem_append_left _ (.tail _ (.tail _ (.head _)))
      rcases List.mem_cons.mp hp with rfl | hp
      · exact cls_off N2 (o := instObj 169 d) (List.mem_append_left _ (.head _)) hl2 fun h => nomatch h
      · rcases List.mem_cons.mp hp with rfl | hp
        · exact cls_off N2 (o := hdrDict w l tk0) (List.mem_append_left _ (.tail _ (.head _))) hl2 (ty_ne (by decide))
        · obtain ⟨r, hr, rfl⟩ := List.mem_map.mp hp
          exact cls_off N2 (o := r.obj) (List.mem_append_left _ (.tail _ (.tail _ (.tail _ (List.mem_map.mpr ⟨r, hr, rfl⟩))))) hl2 (ty_ne (by decide))
    have hfl : ∀ q ∈ ((lb, blst brs nb) :: brs.map BRow.tup) ++ ([(L + 1 + 1 + 1 + 1, c4), (L + 1 + 1 + 1, c3), (L + 1 + 1, c2)] ++ (L + 1, c1') :: []), q.1 ≠ l := fun q hq => (hfT (l, lst rows n) (.tail _ (.tail _ (.head _))) q hq).symm
    have hfT2 : ∀ p ∈ (t, instObj 169 d) :: (d, hdrDict w l tk0) :: rtups rows, ∀ q ∈ ((lb, blst brs nb) :: brs.map BRow.tup) ++ ([(L + 1 + 1 + 1 + 1, c4), (L + 1 + 1 + 1, c3), (L + 1 + 1, c2)] ++ (L + 1, c1') :: []), p.1 ≠ q.1 := fun p hp q hq => hfT p (by
      rcases List.mem_cons.mp hp with rfl | hp
      · exact .head _
      · rcases List.mem_cons.mp hp with rfl | hp
        · exact .tail _ (.head _)
        · exact .tail _ (.tail _ (.tail _ hp))) q hq
    have N3 : News b L _ ((((t, instObj 169 d) :: (d, hdrDict w l tk0) :: led l n rows) ++ (((lb, blst brs nb) :: brs.map BRow.tup) ++ [(L + 1 + 1 + 1 + 1, c4), (L + 1 + 1 + 1, c3)])) ++ (L + 1 + 1, c2) :: [(L + 1, c1')]) := fun p hp => N2 p (by simpa [or_assoc] using hp)
    refine ⟨stCN F2 N3 (by rfl) d2 (fun p hp => ?_) (fun p hp => ?_) ?_⟩
    · rcases List.mem_append.mp hp with hp | hp
      · exact hfT p hp (L + 1 + 1, c2) (List.mem_append_right _ m2)
      · rcases List.mem_append.mp hp with hp | hp
        · exact hfB p hp (L + 1 + 1, c2) m2
        · rcases List.mem_cons.mp hp with rfl | hp
          · exact Nat.ne_of_gt (Nat.lt_trans n23 n34)
          · rw [List.mem_singleton.mp hp]; exact Nat.ne_of_gt n23
    · rw [List.mem_singleton.mp hp]; exact Nat.ne_of_lt n12
    clear F2 N2 N3 d2
    intro h5 c2' F N d2
    k_steps
    obtain ⟨core, hcore⟩ : ∃ core, core = ((t, instObj 169 d) :: (d, hdrDict w l tk0) :: rtups rows) ++ (((lb, blst brs nb) :: brs.map BRow.tup) ++ [(L + 1 + 1, c2'), (L + 1, c1')]) := ⟨_, rfl⟩
    have K : LawC w L z brs lb t d l rows core := by
      rw [hcore]
      refine ⟨⟨c1', t1, by simp, d1⟩, ⟨c2', by simp, d2⟩, .head _, ⟨tk0, .tail _ (.head _)⟩, fun r hr => List.mem_append_left _ (.tail _ (.tail _ (List.mem_map.mpr ⟨r, hr, rfl⟩))), ⟨nb, List.mem_append_right _ (.head _)⟩, fun r hr => List.mem_append_right _ (List.mem_append_left _ (.tail _ (List.mem_map.mpr ⟨r, hr, rfl⟩))), O, hbz, fun p hp => ?_⟩
      rcases List.mem_append.mp hp with hp | hp
      · exact hdO p hp
      · rcases List.mem_append.mp hp with hp | hp
        · exact hfl p (List.mem_append_left _ hp)
        · rcases List.mem_cons.mp hp with rfl | hp
          · exact hfl (L + 1 + 1, c2) (List.mem_append_right _ m2)
          · rw [List.mem_singleton.mp hp]
            exact hfl (L + 1, c1') (by simp)
    refine back_0_3 (by rfl) hrest (next brs lb t d l rows n core h5 _ hbs K W (fun p hp => ?_) (hfl _ (List.mem_append_right _ m3)) (hfl _ (List.mem_append_right _ m4)) F fun p hp => N p ?_)
    · rw [hcore] at hp
      rcases List.mem_append.mp hp with hp | hp
      · exact ⟨hfT2 p hp _ (List.mem_append_right _ m3), hfT2 p hp _ (List.mem_append_right _ m4)⟩
      · rcases List.mem_append.mp hp with hp | hp
        · exact ⟨hfB p hp _ m3, hfB p hp _ m4⟩
        · rcases List.mem_cons.mp hp with rfl | hp
          · exact ⟨Nat.ne_of_lt n23, Nat.ne_of_lt (Nat.lt_trans n23 n34)⟩
          · rw [List.mem_singleton.mp hp]
            exact ⟨Nat.ne_of_lt (Nat.lt_trans n12 n23), Nat.ne_of_lt (Nat.lt_trans n12 (Nat.lt_trans n23 n34))⟩
    · rw [hcore] at hp
      unfold rtups at hp
      unfold led
      generalize rows.map (fun r => (r.a, r.obj)) = e1 at hp ⊢
      generalize brs.map BRow.tup = e2 at hp ⊢
      simp at hp ⊢
      rcases hp with h | h | h | h | h | h | h | h | h | h <;> simp [h]
end
end Mine
namespace Mine
theorem LawC.add {w : World} {L : Addr} {z : Bool} {brs : List BRow} {lb t d l : Addr} {rows : List Row} {core : List (Addr × Obj)} (K : LawC w L z brs lb t d l rows core) {p q : Addr × Obj} (h1 : p.1 ≠ l) (h2 : q.1 ≠ l) : LawC w L z brs lb t d l rows (p :: q :: core) :=
  have up : ∀ x ∈ core, x ∈ p :: q :: core := fun _ h => .tail _ (.tail _ h)
  ⟨let ⟨a, b, x, y⟩ := K.cg; ⟨a, b, up _ x, y⟩, let ⟨a, x, y⟩ := K.ct; ⟨a, up _ x, y⟩, up _ K.hi, let ⟨a, x⟩ := K.hd; ⟨a, up _ x⟩, fun r h => up _ (K.hr r h), let ⟨a, x⟩ := K.hb; ⟨a, up _ x⟩, fun r h => up _ (K.hbt r h), K.O, K.hz, fun x hx => by
    rcases List.mem_cons.mp hx with rfl | hx
    · exact h1
    · rcases List.mem_cons.mp hx with rfl | hx
      · exact h2
      · exact K.ho x hx⟩
theorem st_all {w : World} {mean : ExcName → Option Value} {mg mb : Str → Option Value} {b : Heap} (G : G3 w mean mg mb b) {L fa ls : Addr} {cr : Value} {Q : Flow → Shared → Prop} {E : Value → Shared → Prop} {s : Shared} {m : Str → Option Value} {c1 c2 c3 c4 : Obj} {sv : List Value} {ns : List Int}
    (hE : PassesOwn (model prog3 w) (callerA.deeper (lawEnv L fa cr)) (lawEnv L fa cr) E)
    (F : Fr b L s.heap m) (N : News b L s.heap [(L + 1 + 1 + 1 + 1, c4), (L + 1 + 1 + 1, c3), (L + 1 + 1, c2), (L + 1, c1)]) (d1 : c1.data = .cell none) (d2 : c2.data = .cell none) (d3 : c3.data = .cell none) (d4 : c4.data = .cell none)
    (hls : b.IsList ls sv.toArray) (hI : IntsAre sv ns) (hn : ns.length ≤ 63) (hms : m (Str.ofString "script") = some (.ref ls))
    (hQ : ∀ h tk m' nw, Fr b L h m' → News b L h nw → Q (.ret (.bool true)) { s with heap := h, toks := tk }) : LawGoal 0 w L fa cr Q E s := by
  refine st_start G F N d1 d2 d3 d4 hls hI hn hms ?_
  clear F N
  intro brs lb t d l rows n core h tk hbs K Wt off h3l h4l F N
  have K2 : LawC w L (zOf ns) brs lb t d l rows ((L + 1 + 1 + 1 + 1, c4) :: (L + 1 + 1 + 1, c3) :: core) := K.add h4l h3l
  have M : LawM w L (zOf ns) brs lb t d l rows (tokOf (brs.map BRow.box)) ((l, lst rows n) :: (L + 1 + 1 + 1 + 1, c4) :: (L + 1 + 1 + 1, c3) :: core) := K2.toM (.head _) (fun p hp => .tail _ hp) (fun r hr => .tail _ (K2.hr r hr)) Wt
  have hpr : (allPairs (siz (zOf ns))).filter (fun p => decide (p ∈ (brs.map BRow.box).map fst2)) = (brs.map BRow.box).map fst2 := by rw [hbs]; exact bx_pairs _ _
  refine st_pairs G F N M ?_
  clear F N
  intro P pv kP h tk hpv hP F N
  have M2 := M.mono (news' := (P, W.listOf (List.toArray pv) kP) :: (l, lst rows n) :: (L + 1 + 1 + 1 + 1, c4) :: (L + 1 + 1 + 1, c3) :: core) fun p hp => .tail _ hp
  refine st_quote G F N M2 ?_
  clear F N
  intro h tk F N
  refine st_setd G F N M2 rfl ?_
  clear F N
  intro h tk F N
  refine st_get G F N M2 rfl rfl (.head _) hpv hpr ?_
  clear F N
  intro h tk F N
  refine st_run G F (fun p hp => N p (.tail _ hp)) K2 Wt hls hI hn rfl hms ?_
  clear F N
  intro D od kvs x h tk rows' n' hd dv hR W' F N hDc
  have hrc : ∀ p ∈ rtups rows', p.1 ≠ L + 1 + 1 + 1 ∧ p.1 ≠ L + 1 + 1 + 1 + 1 := fun p hp => by
    obtain ⟨r, hr, rfl⟩ := List.mem_map.mp hp
    have hm : (r.a, r.obj) ∈ (D, od) :: (l, lst rows' n') :: (rtups rows' ++ (L + 1 + 1 + 1 + 1, c4) :: (L + 1 + 1 + 1, c3) :: core) := .tail _ (.tail _ (List.mem_append_left _ (List.mem_map.mpr ⟨r, hr, rfl⟩)))
    have h3 : (L + 1 + 1 + 1, c3) ∈ (D, od) :: (l, lst rows' n') :: (rtups rows' ++ (L + 1 + 1 + 1 + 1, c4) :: (L + 1 + 1 + 1, c3) :: core) := .tail _ (.tail _ (List.mem_append_right _ (.tail _ (.head _))))
    have h4 : (L + 1 + 1 + 1 + 1, c4) ∈ (D, od) :: (l, lst rows' n') :: (rtups rows' ++ (L + 1 + 1 + 1 + 1, c4) :: (L + 1 + 1 + 1, c3) :: core) := .tail _ (.tail _ (List.mem_append_right _ (.head _)))
    refine ⟨fun e => ?_, fun e => ?_⟩
    · have q1 := (N _ hm).1
      have q2 := (N _ h3).1
      rw [show (r.a, r.obj).1 = L + 1 + 1 + 1 from e] at q1
      have q3 : r.obj = c3 := Option.some.inj (q1.symm.trans q2)
      rw [← q3] at d3; cases d3
    · have q1 := (N _ hm).1
      have q2 := (N _ h4).1
      rw [show (r.a, r.obj).1 = L + 1 + 1 + 1 + 1 from e] at q1
      have q3 : r.obj = c4 := Option.some.inj (q1.symm.trans q2)
      rw [← q3] at d4; cases d4
  refine st_loop G hE F (base := (D, od) :: (l, lst rows' n') :: (rtups rows' ++ core)) (fun p hp => N p ?_) (K.toM (.tail _ (.head _)) (fun p hp => .tail _ (.tail _ (List.mem_append_right _ hp))) (fun r hr => .tail _ (.tail _ (List.mem_append_left _ (List.mem_map.mpr ⟨r, hr, rfl⟩)))) W') (.head _) hd dv hR d3 d4 (fun p hp => ?_) rfl rfl (fun h tk m' nw F N => hQ h tk m' nw F N)
  · generalize rtups rows' = e1 at hp ⊢
    simp at hp ⊢
    rcases hp with h | h | h | h | h | h <;> simp [h]
  · rcases List.mem_cons.mp hp with rfl | hp
    · exact ⟨(hDc (L + 1 + 1 + 1, c3) (.tail _ (.head _))).symm, (hDc (L + 1 + 1 + 1 + 1, c4) (.head _)).symm⟩
    · rcases List.mem_cons.mp hp with rfl | hp
      · exact ⟨h3l.symm, h4l.symm⟩
      · rcases List.mem_append.mp hp with hp | hp
        · exact hrc p hp
        · exact off p hp
end Mine
namespace Mine
theorem back_0 {w : World} {L fa : Addr} {cr : Value} {Q : Flow → Shared → Prop} {E : Value → Shared → Prop} {s : Shared} {name : Str} {params : Arguments} {body : List Stmt} {dec : List Expr} {ret : Option Expr} {tp : List TypeParam} {scope : Scope} {ts : Option Scope} {bind : Str} {pos : Pos}
    (hst : stA MineX.P0 [34] = some (.FunctionDef name params body dec ret tp scope ts bind pos)) (hE : PassesOwn (model prog3 w) (callerA.deeper (envOfC name scope L fa cr)) (envOfC name scope L fa cr) E)
    (h : PassesOwn (model prog3 w) (callerA.deeper (lawEnv L fa cr)) (lawEnv L fa cr) E → LawGoal 0 w L fa cr Q E s) : wpAny (model prog3 w) (callerA.deeper (envOfC name scope L fa cr)) (execs body (envOfC name scope L fa cr)) Q E s := by
  have e1 : lawEnv L fa cr = envOfC name scope L fa cr := by unfold lawEnv stL; rw [hst]; rfl
  have h' := h (e1 ▸ hE)
  unfold LawGoal at h'
  rw [e1] at h'
  have e2 : (fBody stL).drop 0 = body := by unfold stL; rw [hst]; rfl
  rw [e2] at h'
  exact h'
end Mine
open Mine
local macro_rules | `(tactic| k_qdec) => `(tactic| decide +kernel)
theorem PySem.Challenge.cw_rl0125_01_holds : PySem.Challenge.rw_rl0125_01.Holds := by
  refine MineX.hd (by rfl) ?_
  k_go0
  rename IntsAre _ _ => hI0
  rename List Int => ns0
  rename Frag.In _ _ => KX0
  rename Top _ _ _ _ _ _ => T0
  have G0 := G3.mk KX0 T0
  rename Fr _ _ _ _ => F0
  rename News _ _ _ _ => N0
  rename Heap.IsList _ _ _ => hL0
  rename_i o4 o3 o2 o1 e4 e3 e2 e1 X0
  refine back_0 (by rfl) (by passes_own) ?_
  intro hE
  refine st_all G0 hE F0 N0 e1 e2 e3 e4 hL0 hI0 (by omega) (by rfl) ?_
  clear hE
  clear F0 N0
  intro h9 tk9 m9 nw9 F9 N9
  dsimp only
  k_steps
