import PyProof.Rows.All
import Wide.All
import OpenK.AllK
import Wide.FinOn
import PyProof.ListIndexNeg
import PyProof.CompObj
import PyProof.StrBlockH
import PyProof.StrLawsChain
import PySem.Challenge.RW_qu0047_02
section
open PySem PySem.W PyProof.Rows
set_option Elab.async false
set_option maxRecDepth 100000
set_option linter.unusedVariables false
namespace Mine

section ev
variable {p : Program} {w : World} {n₀ : Nat} {ann : Option Value} {α β : Type}

theorem segGo_add {tb : String → Option Builtin} {b : Nat} : ∀ {n m : Nat} {s s' : Shared} {t t' : Thread} {r : Option (Shared × Thread)},
    segGo tb p w n₀ ann b n s t = some (s', t') → segGo tb p w n₀ ann b m s' t' = r → segGo tb p w n₀ ann b (n + m) s t = r
  | 0, m, s, s', t, t', r, h, k => by
    obtain ⟨rfl, rfl⟩ : s = s' ∧ t = t' := by simpa [segGo] using h
    rw [Nat.zero_add]; exact k
  | n + 1, m, s, s', t, t', r, h, k => by
    rw [show n + 1 + m = n + m + 1 by omega]
    unfold segGo at h ⊢
    cases he : endAt b t with
    | some f => rw [he] at h; cases h
    | none =>
      rw [he] at h
      cases hk : stepOk n₀ ann t with
      | false => rw [hk] at h; cases h
      | true =>
        rw [hk] at h
        cases hs : step (denote tb) p w s t with
        | halt o s₂ => rw [hs] at h; cases h
        | go s₂ t₂ => rw [hs] at h; exact segGo_add h k

/-- the tree x, however wrapped, comes from s to a at s' in at most n steps, each let by -/
noncomputable def Rn (p : Program) (w : World) (n₀ : Nat) (ann : Option Value) (n : Nat) (x : Sem α) (s : Shared) (a : α) (s' : Shared) : Prop :=
  ∀ (K : α → Sem Fin) (H : Value → Sem Fin) (gd : Bool → Bool) (lv : List Value → List Value) (b : Nat) (c : Code) (q : Pos) (B : List Frame), b ≤ B.length →
    ∃ m q', m ≤ n ∧ segGo treeTable p w n₀ ann b m s ⟨x.wrap K H gd lv, c, q, B⟩ = some (s', ⟨K a, c, q', B⟩)

theorem rn_pure {a : α} {s : Shared} : Rn p w n₀ ann 0 (pure a) s a s := fun K H gd lv b c q B _ => ⟨0, q, Nat.le_refl _, rfl⟩
theorem rn_mono {n m : Nat} {x : Sem α} {s s' : Shared} {a : α} (h : Rn p w n₀ ann n x s a s') (hn : n ≤ m) : Rn p w n₀ ann m x s a s' :=
  fun K H gd lv b c q B hb => let ⟨k, q', hk, e⟩ := h K H gd lv b c q B hb; ⟨k, q', Nat.le_trans hk hn, e⟩
theorem rn_bind {n m : Nat} {x : Sem α} {f : α → Sem β} {s s₁ s₂ : Shared} {a : α} {v : β} (h : Rn p w n₀ ann n x s a s₁) (h' : Rn p w n₀ ann m (f a) s₁ v s₂) :
    Rn p w n₀ ann (n + m) (x >>= f) s v s₂ := fun K H gd lv b c q B hb => by
  obtain ⟨k, q', hk, e⟩ := h (fun a => (f a).wrap K H gd lv) H gd lv b c q B hb
  obtain ⟨k', q'', hk', e'⟩ := h' K H gd lv b c q' B hb
  refine ⟨k + k', q'', Nat.add_le_add hk hk', ?_⟩
  rw [Sem.bind_eq_wrap', Sem.wrap_wrap]
  exact segGo_add e e'
theorem rn_keep {n : Nat} {vs : List Value} {x : Sem α} {s s' : Shared} {a : α} (h : Rn p w n₀ ann n x s a s') : Rn p w n₀ ann n (x.keep vs) s a s' := fun K H gd lv b c q B hb => by
  rw [Sem.keep_eq_wrap, Sem.wrap_wrap]
  exact h K H gd (fun l => lv (vs ++ l)) b c q B hb
theorem rn_holding {n : Nat} {vs : List Value} {x : Sem α} {s s' : Shared} {a : α} (h : Rn p w n₀ ann n x s a s') : Rn p w n₀ ann n (holding vs x) s a s' := by
  unfold PySem.holding
  split
  · exact h
  · exact rn_keep h
theorem rn_onRaise {n : Nat} {x : Sem α} {k : Value → Sem Unit} {s s' : Shared} {a : α} (h : Rn p w n₀ ann n x s a s') : Rn p w n₀ ann n (x.onRaise k) s a s' := fun K H gd lv b c q B hb => by
  rw [Sem.onRaise_eq_wrap, Sem.wrap_wrap]
  exact h K _ _ _ b c q B hb
theorem rn_tryCatch {n : Nat} {x : Sem α} {k : Value → Sem α} {s s' : Shared} {a : α} (h : Rn p w n₀ ann n x s a s') : Rn p w n₀ ann n (x.tryCatch k) s a s' := fun K H gd lv b c q B hb => by
  rw [Sem.tryCatch_eq_wrap, Sem.wrap_wrap]
  exact h K _ _ _ b c q B hb

theorem endAt_of {b : Nat} {t : Thread} (h : ∀ f, t.cur ≠ .pure (.done f)) : endAt b t = none := by
  unfold endAt
  split
  · rename_i f _ e; exact absurd e (h f)
  · rfl
theorem endAt_deep {b : Nat} {t : Thread} (h : b < t.stack.length) : endAt b t = none := by
  unfold endAt
  have : (t.stack.length == b) = false := beq_eq_false_iff_ne.mpr (Nat.ne_of_gt h)
  rw [this]

theorem one {b : Nat} {s s' : Shared} {t t' : Thread} (he : endAt b t = none) (hk : stepOk n₀ ann t = true) (hs : step (denote treeTable) p w s t = .go s' t') :
    segGo treeTable p w n₀ ann b 1 s t = some (s', t') := by
  show (match endAt b t with | some _ => none | none => match stepOk n₀ ann t with | false => none | true => match step (denote treeTable) p w s t with | .go s' t' => segGo treeTable p w n₀ ann b 0 s' t' | .halt _ _ => none) = _
  rw [he, hk, hs]; rfl

theorem rn_rule {tag : String} {s : Shared} : Rn p w n₀ ann 1 (rule tag) s () s := fun K H gd lv b c q B _ =>
  ⟨1, q, Nat.le_refl _, one (endAt_of fun f e => by cases e) rfl rfl⟩
theorem rn_standAt {pos : Pos} {s : Shared} : Rn p w n₀ ann 1 (standAt pos) s () s := fun K H gd lv b c q B _ =>
  ⟨1, pos, Nat.le_refl _, one (endAt_of fun f e => by cases e) rfl rfl⟩
theorem rn_point {s : Shared} : Rn p w n₀ ann 1 point s () s := fun K H gd lv b c q B _ =>
  ⟨1, q, Nat.le_refl _, one (endAt_of fun f e => by cases e) rfl rfl⟩
theorem rn_fresh {s : Shared} : Rn p w n₀ ann 1 fresh s s.toks { s with toks := s.toks + 1 } := fun K H gd lv b c q B _ =>
  ⟨1, q, Nat.le_refl _, one (endAt_of fun f e => by cases e) rfl rfl⟩
theorem rn_ask {s : Shared} : Rn p w n₀ ann 1 ask s ⟨p, w.params⟩ s := fun K H gd lv b c q B _ =>
  ⟨1, q, Nat.le_refl _, one (endAt_of fun f e => by cases e) rfl rfl⟩
theorem rn_loadPart {a : Addr} {part : Option Value} {o : Obj} {s : Shared} (ho : s.heap.get? a = some o) : Rn p w n₀ ann 1 (loadPart a part) s o s := fun K H gd lv b c q B _ =>
  ⟨1, q, Nat.le_refl _, one (endAt_of fun f e => by cases e) rfl (by
    obtain ⟨heap, gens, drawn, toks, os⟩ := s
    show step _ _ _ _ ⟨.load a part _, c, q, B⟩ = _
    simp only [step, show heap.get? a = some o from ho]; rfl)⟩
theorem rn_alloc {o : Obj} {s : Shared} : Rn p w n₀ ann 1 (alloc o) s s.heap.objs.size { s with heap := s.heap.push o } := fun K H gd lv b c q B _ =>
  ⟨1, q, Nat.le_refl _, one (endAt_of fun f e => by cases e) rfl rfl⟩
theorem rn_updatePart {a : Addr} {part : Option Value} {f : Obj → Obj} {o : Obj} {s : Shared} (ho : s.heap.get? a = some o) (ha : n₀ ≤ a) : Rn p w n₀ ann 1 (updatePart a part f) s () { s with heap := s.heap.update a f } := fun K H gd lv b c q B _ =>
  ⟨1, q, Nat.le_refl _, one (endAt_of fun f e => by cases e) (by
    show (true && (Nat.ble n₀ a || a == mainNs || a == cStatics || ann == some (.ref a))) = true
    rw [show Nat.ble n₀ a = true from Nat.ble_eq_true_of_le ha]; rfl) (by
    obtain ⟨heap, gens, drawn, toks, os⟩ := s
    show step _ _ _ _ ⟨.update a part f _, c, q, B⟩ = _
    simp only [step, show (heap.get? a).isSome = true from by rw [show heap.get? a = some o from ho]; rfl, if_true]; rfl)⟩

theorem rn_mkInt {i : Int} {s : Shared} : Rn p w n₀ ann 1 (mkInt i) s (.int i s.toks) { s with toks := s.toks + 1 } := rn_bind (n := 1) (m := 0) rn_fresh rn_pure
theorem rn_mkText {x : Str} {s : Shared} : Rn p w n₀ ann 1 (mkText x) s (.str x s.toks) { s with toks := s.toks + 1 } := rn_bind (n := 1) (m := 0) rn_fresh rn_pure
end ev
end Mine
end
section
open PySem PySem.W PyProof.Rows
set_option Elab.async false
set_option maxRecDepth 100000
set_option linter.unusedVariables false
namespace Mine
theorem special_hash (k : Int) (t : Tok) : specialOf (.int k t) "__hash__" = pure (some (.builtin "int.__hash__")) := by kernel_rfl!
theorem bind_hash (k : Int) (t : Tok) : bindSpecial (.builtin "int.__hash__") (.int k t) = pure (.builtin "int.__hash__", [.int k t]) := by kernel_rfl!
theorem den_hash1 (k : Int) (t : Tok) : denote treeTable (.call (.builtin "int.__hash__") ⟨[.int k t], []⟩) = .pure (.again (.builtin "int.__hash__" ⟨[.int k t], []⟩)) := by
  rw [PySem.W.Fast.te11892475500146522536, PySem.W.Fast.te14364793385576792824]
  kernel_rfl!
noncomputable def hv (x : Int) : Int :=
  let h : Int := x.natAbs % (2 ^ 61 - 1 : Nat)
  let h := if x < 0 then -h else h
  if h == -1 then -2 else h
theorem hv_eq {x : Int} (h0 : 0 ≤ x) (h1 : x < 2000000) : hv x = x := by
  unfold hv
  have e' : ((x.natAbs : Int) % ((2 ^ 61 - 1 : Nat) : Int)) = x := by
    rw [show ((2 ^ 61 - 1 : Nat) : Int) = 2305843009213693951 from by decide]
    omega
  dsimp only
  rw [e', if_neg (show ¬ x < 0 by omega)]
  have : (x == -1) = false := by simp; omega
  rw [this]; rfl
theorem again_ok {n₀ : Nat} {ann : Option Value} {a : Args} {c : Code} {q : Pos} {B : List Frame} : stepOk n₀ ann ⟨.pure (.again (.builtin "int.__hash__" a)), c, q, B⟩ = true := by kernel_rfl!
theorem den_hash2 (k : Int) (t : Tok) : denote treeTable (.builtin "int.__hash__" ⟨[.int k t], []⟩) = .fresh fun u => .pure (.done (.ret (.int (hv k) u))) := by
  rw [PySem.W.Fast.te11892475500146522536, PySem.W.Fast.te14364793385576792824]
  kernel_rfl!
section
variable {p : Program} {w : World} {n₀ : Nat} {ann : Option Value} {α β : Type}

theorem rn_callHash {k : Int} {t : Tok} {s : Shared} : Rn p w n₀ ann 4 (call (.builtin "int.__hash__") [.int k t]) s (.int (hv k) s.toks) { s with toks := s.toks + 1 } := fun K H gd lv b c q B hb => by
  refine ⟨4, q, Nat.le_refl _, ?_⟩
  have h1 : segGo treeTable p w n₀ ann b 1 s ⟨(call (.builtin "int.__hash__") [.int k t]).wrap K H gd lv, c, q, B⟩ = some (s, ⟨denote treeTable (.call (.builtin "int.__hash__") ⟨[.int k t], []⟩), .call (.builtin "int.__hash__") ⟨[.int k t], []⟩, q, _ :: B⟩) :=
    one (endAt_of fun f e => by cases e) rfl rfl
  refine segGo_add (n := 1) (m := 3) h1 ?_
  rw [den_hash1]
  refine segGo_add (n := 1) (m := 2) (one (endAt_deep (Nat.lt_succ_of_le hb)) again_ok rfl) ?_
  rw [den_hash2]
  refine segGo_add (n := 1) (m := 1) (one (endAt_deep (Nat.lt_succ_of_le hb)) rfl rfl) ?_
  exact one (endAt_deep (Nat.lt_succ_of_le hb)) rfl rfl

theorem rn_hash {k : Int} {t : Tok} {s : Shared} (h0 : 0 ≤ k) (h1 : k < 2000000) : Rn p w n₀ ann 5 (pyHash (.int k t)) s k { s with toks := s.toks + 1 } := by
  show Rn p w n₀ ann 5 (pyHashByItsType (.int k t)) s k _
  unfold pyHashByItsType
  have e : ∀ m, callSpecialIfBoundUnlessNone? (.int k t) "__hash__" m = (do
      let some (g, first) ← (do
        if (← ask).params.followText "special-get-raises" then (pure (some (Value.builtin "int.__hash__", [Value.int k t])) : Sem _)
        else (pure (some (Value.builtin "int.__hash__", [Value.int k t])) : Sem _).tryCatch fun _ => do rule "special.get-raises-dropped"; pure none) | return none
      if g == .none then return some (← m)
      return some (← call g first)) := fun m => by
    unfold callSpecialIfBoundUnlessNone? bindSpecialIfBound?
    rw [special_hash]
    show holding [.int k t] _ = _
    simp only [bind_hash]
    rfl
  rw [e, special_hash]
  have key : Rn p w n₀ ann 5 (do
      let some (g, first) ← (do
        if (← ask).params.followText "special-get-raises" then (pure (some (Value.builtin "int.__hash__", [Value.int k t])) : Sem _)
        else (pure (some (Value.builtin "int.__hash__", [Value.int k t])) : Sem _).tryCatch fun _ => do rule "special.get-raises-dropped"; pure none) | return none
      if g == .none then return some (← (do rule "hash.unhashable"; raiseError "TypeError" s!"unhashable type: '{← typeNameOf (.int k t)}'"))
      return some (← call g first)) s (some (.int (hv k) s.toks)) { s with toks := s.toks + 1 } := by
    refine rn_bind (n := 1) (m := 4) (a := some (Value.builtin "int.__hash__", [Value.int k t])) (s₁ := s) ?_ ?_
    · refine rn_bind (n := 1) (m := 0) rn_ask ?_
      split
      · exact rn_pure
      · exact rn_tryCatch rn_pure
    · show Rn p w n₀ ann 4 (do return some (← call (.builtin "int.__hash__") [.int k t])) s _ _
      exact rn_bind (n := 4) (m := 0) rn_callHash rn_pure
  have key2 := rn_bind (n := 5) (m := 0) key (f := fun r => match r with
    | some (.int i _) => pyHashByItsType.reduced i
    | some (.bool b) => pure (if b then 1 else 0)
    | some (.ref a) => (do
      match (← load a).data with
      | .prim (.int i _) =>
        rule "hash.int-subclass"
        let h ← pyHashByItsType.reduced i
        point
        pure h
      | _ => raiseError "TypeError" "__hash__ method should return an integer")
    | some r => do notAStandIn r; raiseError "TypeError" "__hash__ method should return an integer"
    | none => (do raiseError "TypeError" s!"unhashable type: '{← typeNameOf (.int k t)}'")) (v := k) (s₂ := { s with toks := s.toks + 1 }) (by
      show Rn p w n₀ ann 0 (pyHashByItsType.reduced (hv k)) _ _ _
      rw [hv_eq h0 h1]
      unfold pyHashByItsType.reduced
      rw [if_pos (by simp; omega), if_neg (by simp; omega)]
      exact rn_pure)
  exact key2
end
end Mine
end
section
open PySem PySem.W PyProof.Rows
set_option Elab.async false
set_option maxRecDepth 100000
set_option linter.unusedVariables false
namespace Mine

noncomputable def dObj (es : List DictEntry) (n : Nat) : Obj := { cls := .type "dict", data := .dict es.toArray n }
/-- the entries bear these keys and texts, in this order -/
noncomputable def EntsAre : List DictEntry → List (Int × Str) → Prop
  | [], [] => True
  | e :: es, kv :: D => (e.hash = kv.1 ∧ (∃ t, e.key = .int kv.1 t) ∧ ∃ u, e.val = .str kv.2 u) ∧ EntsAre es D
  | _, _ => False
theorem EntsAre.append : ∀ {es es' : List DictEntry} {D D' : List (Int × Str)}, EntsAre es D → EntsAre es' D' → EntsAre (es ++ es') (D ++ D')
  | [], _, [], _, _, h => h
  | e :: es, _, kv :: D, _, h, h' => ⟨h.1, EntsAre.append h.2 h'⟩
  | [], _, _ :: _, _, h, _ => h.elim
  | _ :: _, _, [], _, h, _ => h.elim
theorem EntsAre.length : ∀ {es : List DictEntry} {D : List (Int × Str)}, EntsAre es D → es.length = D.length
  | [], [], _ => rfl
  | e :: es, kv :: D, h => by rw [List.length_cons, List.length_cons, EntsAre.length h.2]
  | [], _ :: _, h => h.elim
  | _ :: _, [], h => h.elim
theorem EntsAre.hash : ∀ {es : List DictEntry} {D : List (Int × Str)}, EntsAre es D → ∀ e ∈ es, e.hash ∈ D.map (·.1)
  | e :: es, kv :: D, h, e', he => by
    rcases List.mem_cons.mp he with rfl | he
    · exact List.mem_cons.mpr (.inl h.1.1)
    · exact List.mem_cons.mpr (.inr (EntsAre.hash h.2 e' he))
  | [], _, _, _, he => nomatch he
  | _ :: _, [], h, _, _ => h.elim
theorem EntsAre.get : ∀ {es : List DictEntry} {D : List (Int × Str)}, EntsAre es D → ∀ {i : Nat} {kv : Int × Str}, D[i]? = some kv → ∃ t u, es[i]? = some ⟨kv.1, .int kv.1 t, .str kv.2 u⟩
  | e :: es, kv :: D, h, 0, kv', hi => by
    obtain ⟨⟨h1, ⟨t, h2⟩, u, h3⟩, _⟩ := h
    cases hi
    obtain ⟨eh, ek, ev⟩ := e
    dsimp only at h1 h2 h3
    subst h1 h2 h3
    exact ⟨t, u, rfl⟩
  | e :: es, kv :: D, h, i + 1, kv', hi => by
    obtain ⟨t, u, e⟩ := EntsAre.get h.2 (i := i) (by simpa using hi)
    exact ⟨t, u, by simpa using e⟩
  | [], [], _, i, _, hi => by simp at hi
  | [], _ :: _, h, _, _, _ => h.elim
  | _ :: _, [], h, _, _, _ => h.elim

/-- what lies below d, and the heap's life, is as it was -/
noncomputable def Blw (d : Addr) (h₀ h : Heap) : Prop := h.life = h₀.life ∧ ∀ b, b < d → h.objs[b]? = h₀.objs[b]?
theorem Blw.refl {d : Addr} {h : Heap} : Blw d h h := ⟨rfl, fun _ _ => rfl⟩
theorem Blw.trans {d : Addr} {h₀ h₁ h₂ : Heap} (x : Blw d h₀ h₁) (y : Blw d h₁ h₂) : Blw d h₀ h₂ := ⟨y.1.trans x.1, fun b hb => (y.2 b hb).trans (x.2 b hb)⟩
theorem Blw.update {d a : Addr} {h : Heap} {f : Obj → Obj} (ha : d ≤ a) : Blw d h (h.update a f) := by
  obtain ⟨objs, life⟩ := h
  refine ⟨rfl, fun b hb => ?_⟩
  show (objs.modify a f)[b]? = objs[b]?
  rw [Array.getElem?_modify, if_neg (Nat.ne_of_gt (Nat.lt_of_lt_of_le hb ha))]
theorem Blw.push {d : Addr} {h : Heap} {o : Obj} (hd : d ≤ h.objs.size) : Blw d h (h.push o) := by
  obtain ⟨objs, life⟩ := h
  refine ⟨rfl, fun b hb => ?_⟩
  show (objs.push o)[b]? = objs[b]?
  have : b < objs.size := Nat.lt_of_lt_of_le hb hd
  rw [Array.getElem?_push, if_neg (Nat.ne_of_lt this)]
theorem size_update (h : Heap) (a : Addr) (f : Obj → Obj) : (h.update a f).objs.size = h.objs.size := by
  obtain ⟨objs, life⟩ := h
  exact Array.size_modify ..

/-- a state that parts from s in its heap and its tokens alone -/
noncomputable def Same (s s' : Shared) : Prop := s'.gens = s.gens ∧ s'.drawn = s.drawn ∧ s'.os = s.os
theorem Same.refl {s : Shared} : Same s s := ⟨rfl, rfl, rfl⟩
theorem Same.trans {s₀ s₁ s₂ : Shared} (x : Same s₀ s₁) (y : Same s₁ s₂) : Same s₀ s₂ := ⟨y.1.trans x.1, y.2.1.trans x.2.1, y.2.2.trans x.2.2⟩

section
variable {p : Program} {w : World} {n₀ : Nat} {ann : Option Value} {α β : Type}

theorem rn_dictEntries {d : Addr} {part : Option Value} {es : List DictEntry} {n : Nat} {s : Shared} (ho : s.heap.get? d = some (dObj es n)) : Rn p w n₀ ann 1 (dictEntries d part) s es.toArray s :=
  rn_bind (n := 1) (m := 0) (rn_loadPart ho) rn_pure
theorem rn_dictEpoch {d : Addr} {part : Option Value} {es : List DictEntry} {n : Nat} {s : Shared} (ho : s.heap.get? d = some (dObj es n)) : Rn p w n₀ ann 1 (dictEpoch d part) s n s :=
  rn_bind (n := 1) (m := 0) (rn_loadPart ho) rn_pure
theorem places_none {es : List DictEntry} {h : Int} (hn : ∀ e ∈ es, e.hash ≠ h) : placesWithHash es.toArray.size (fun i => es.toArray[i]?.map (·.hash)) h = [] := by
  unfold placesWithHash
  rw [List.filter_eq_nil_iff]
  intro i _
  simp only [List.getElem?_toArray, beq_iff_eq]
  intro e
  obtain ⟨x, hx, hh⟩ := Option.map_eq_some_iff.mp e
  exact hn x (List.mem_of_getElem? hx) hh
theorem rn_dictFind {d : Addr} {es : List DictEntry} {n : Nat} {k h : Int} {t : Tok} {s : Shared} (ho : s.heap.get? d = some (dObj es n)) (hn : ∀ e ∈ es, e.hash ≠ h) :
    Rn p w n₀ ann 1 (dictFind d (.int k t) h) s none s := by
  unfold dictFind
  refine rn_holding (rn_bind (n := 1) (m := 0) (rn_dictEntries ho) ?_)
  dsimp only
  rw [places_none hn]
  exact rn_pure
theorem rn_pushKey {d : Addr} {part : Option Value} {es : List DictEntry} {n : Nat} {e : DictEntry} {s : Shared} (ho : s.heap.get? d = some (dObj es n)) (hd : n₀ ≤ d) (hl : es.length ≤ 100000) :
    Rn p w n₀ ann 3 (updateDictKeys d (·.push e) part) s () { s with heap := s.heap.update d (Obj.mapDictKeys (·.push e)) } ∧ (s.heap.update d (Obj.mapDictKeys (·.push e))).get? d = some (dObj (es ++ [e]) (n + 1)) := by
  have e1 : Obj.mapDictKeys (·.push e) (dObj es n) = dObj (es ++ [e]) (n + 1) := by
    show ({ cls := .type "dict", data := .dict (es.toArray.push e) (n + 1) } : Obj) = _
    unfold dObj
    rw [List.push_toArray]
  have hg : (s.heap.update d (Obj.mapDictKeys (·.push e))).get? d = some (dObj (es ++ [e]) (n + 1)) := by
    rw [← e1]; exact Heap.get?_update_self _ ho (by rw [e1]; rfl)
  refine ⟨?_, hg⟩
  refine rn_bind (n := 1) (m := 2) (rn_loadPart ho) ?_
  refine rn_bind (n := 1) (m := 1) (rn_updatePart ho hd) ?_
  refine rn_bind (n := 1) (m := 0) (rn_loadPart hg) ?_
  have : (dObj (es ++ [e]) (n + 1)).data.pastItsLine = none := by
    show (if (es ++ [e]).toArray.size > sizeLine + 1 then some "dict:memory" else none) = none
    rw [if_neg]
    rw [List.size_toArray, List.length_append]
    have : sizeLine = 16777216 := by decide
    simp only [List.length_cons, List.length_nil]; omega
  rw [this]
  exact rn_pure

/-- the dict d, and all that is below it, behind some steps -/
structure Stp (n₀ d : Addr) (s s' : Shared) (es : List DictEntry) (n : Nat) : Prop where
  at_ : s'.heap.get? d = some (dObj es n)
  blw : Blw d s.heap s'.heap
  size : s'.heap.objs.size = s.heap.objs.size
  same : Same s s'

theorem rn_dictSet {d : Addr} {es : List DictEntry} {n : Nat} {k : Int} {t : Tok} {v : Value} {s : Shared} (ho : s.heap.get? d = some (dObj es n)) (hn : ∀ e ∈ es, e.hash ≠ k) (h0 : 0 ≤ k) (h1 : k < 2000000) (hd : n₀ ≤ d) (hl : es.length ≤ 100000) :
    ∃ s', Rn p w n₀ ann 10 (dictSet d (.int k t) v) s () s' ∧ Stp n₀ d s s' (es ++ [⟨k, .int k t, v⟩]) (n + 1) := by
  have pk := rn_pushKey (p := p) (w := w) (ann := ann) (part := keyPart (.int k t)) (e := ⟨k, .int k t, v⟩) (s := { s with toks := s.toks + 1 }) ho hd hl
  refine ⟨{ s with heap := s.heap.update d (Obj.mapDictKeys (·.push ⟨k, .int k t, v⟩)), toks := s.toks + 1 }, ?_, pk.2, Blw.update (Nat.le_refl _), size_update .., ⟨rfl, rfl, rfl⟩⟩
  unfold dictSet
  refine rn_holding (rn_bind (n := 5) (m := 5) (rn_hash h0 h1) ?_)
  unfold dictSetHashed
  refine rn_holding (rn_bind (n := 1) (m := 4) (rn_dictFind ho hn) ?_)
  exact rn_bind (n := 1) (m := 3) rn_rule pk.1
theorem rn_dictPut {d : Addr} {es : List DictEntry} {n : Nat} {k : Int} {t : Tok} {v : Value} {s : Shared} (ho : s.heap.get? d = some (dObj es n)) (hn : ∀ e ∈ es, e.hash ≠ k) (hd : n₀ ≤ d) (hl : es.length ≤ 100000) :
    ∃ s', Rn p w n₀ ann 4 (dictPut d k (.int k t) v) s () s' ∧ Stp n₀ d s s' (es ++ [⟨k, .int k t, v⟩]) (n + 1) ∧ s' = { s with heap := s.heap.update d (Obj.mapDictKeys (·.push ⟨k, .int k t, v⟩)) } := by
  have pk := rn_pushKey (p := p) (w := w) (ann := ann) (part := none) (e := ⟨k, .int k t, v⟩) (s := s) ho hd hl
  refine ⟨{ s with heap := s.heap.update d (Obj.mapDictKeys (·.push ⟨k, .int k t, v⟩)) }, ?_, ⟨pk.2, Blw.update (Nat.le_refl _), size_update .., ⟨rfl, rfl, rfl⟩⟩, rfl⟩
  unfold dictPut
  exact rn_bind (n := 1) (m := 3) (rn_dictFind ho hn) pk.1
end
end Mine
end
section
open PySem PySem.W PyProof.Rows
set_option Elab.async false
set_option maxRecDepth 100000
set_option linter.unusedVariables false
namespace Mine
/-- a pair of a written display: an int and a text -/
noncomputable def prOf (pos : Pos) (kv : Int × Str) : Sem Value × Sem Value := (mkInt kv.1, do let x ← mkText kv.2; standAt pos; pure x)
noncomputable def KeysOk (D : List (Int × Str)) : Prop := ∀ kv ∈ D, 0 ≤ kv.1 ∧ kv.1 < 2000000
section
variable {p : Program} {w : World} {n₀ : Nat} {ann : Option Value} {α β : Type}

theorem rn_pairVal {pos : Pos} {x : Str} {s : Shared} : Rn p w n₀ ann 2 (do let x ← mkText x; standAt pos; pure x) s (.str x s.toks) { s with toks := s.toks + 1 } :=
  rn_bind (n := 1) (m := 1) rn_mkText (rn_bind (n := 1) (m := 0) rn_standAt rn_pure)

theorem fresh_key {es : List DictEntry} {E D : List (Int × Str)} {kv : Int × Str} (he : EntsAre es E) (hn : ((E ++ kv :: D).map (·.1)).Nodup) : ∀ e ∈ es, e.hash ≠ kv.1 := by
  intro e hm q
  have := he.hash e hm
  rw [List.map_append, List.map_cons] at hn
  have hd := (List.nodup_append.mp hn).2.2 e.hash this kv.1 (List.mem_cons_self ..)
  exact hd q

theorem rn_longLoop {pos : Pos} {d : Addr} (hd : n₀ ≤ d) : ∀ (D E : List (Int × Str)) (es : List DictEntry) (n : Nat) (s : Shared), s.heap.get? d = some (dObj es n) → EntsAre es E → ((E ++ D).map (·.1)).Nodup → KeysOk D → es.length + D.length ≤ 100000 →
    ∃ s' es', Rn p w n₀ ann (13 * D.length) (forIn (D.map (prOf pos)) PUnit.unit fun (k, v) (_ : PUnit) => do
        let kv ← k
        let vv ← holding [kv] v
        holding [kv, vv] (dictSet d kv vv)
        pure (ForInStep.yield PUnit.unit)) s PUnit.unit s' ∧ EntsAre es' (E ++ D) ∧ Stp n₀ d s s' es' (n + D.length)
  | [], E, es, n, s, ho, he, hn, hk, hl => ⟨s, es, rn_pure, by rw [List.append_nil]; exact he, ⟨ho, Blw.refl, rfl, Same.refl⟩⟩
  | kv :: D, E, es, n, s, ho, he, hn, hk, hl => by
    have hkv := hk kv (List.mem_cons_self ..)
    obtain ⟨s₁, h1, S1⟩ := rn_dictSet (p := p) (w := w) (ann := ann) (t := s.toks) (v := .str kv.2 (s.toks + 1)) (s := { s with toks := s.toks + 2 }) ho (fresh_key he hn) hkv.1 hkv.2 hd (by simp at hl; omega)
    have he' : EntsAre (es ++ [⟨kv.1, .int kv.1 s.toks, .str kv.2 (s.toks + 1)⟩]) (E ++ [kv]) := he.append ⟨⟨rfl, ⟨_, rfl⟩, ⟨_, rfl⟩⟩, trivial⟩
    obtain ⟨s₂, es₂, h2, e2, S2⟩ := rn_longLoop hd D (E ++ [kv]) _ (n + 1) s₁ S1.at_ he' (by rw [List.append_assoc]; exact hn) (fun x hx => hk x (List.mem_cons_of_mem _ hx)) (by simp at hl ⊢; omega)
    refine ⟨s₂, es₂, ?_, by rw [List.append_assoc] at e2; exact e2, ⟨by have := S2.at_; rw [show n + (kv :: D).length = n + 1 + D.length by simp; omega]; exact this, S1.blw.trans S2.blw, S2.size.trans S1.size, S1.same.trans S2.same⟩⟩
    rw [List.map_cons, List.forIn_cons, show 13 * (kv :: D).length = 13 + 13 * D.length by simp; omega]
    refine rn_bind (n := 13) (a := ForInStep.yield PUnit.unit) (s₁ := s₁) ?_ h2
    refine rn_bind (n := 1) (m := 12) rn_mkInt ?_
    refine rn_bind (n := 2) (m := 10) (rn_holding rn_pairVal) ?_
    exact rn_bind (n := 10) (m := 0) (rn_holding h1) rn_pure

theorem rn_evalPairs {pos : Pos} : ∀ (D : List (Int × Str)) (s : Shared), ∃ vs s', Rn p w n₀ ann (3 * D.length) (evalPairs (D.map (prOf pos))) s vs s' ∧ s'.heap = s.heap ∧ Same s s' ∧
      vs.length = D.length ∧ ∀ (i : Nat) (kv : Int × Str), D[i]? = some kv → ∃ t u, vs[i]? = some (Value.int kv.1 t, Value.str kv.2 u)
  | [], s => ⟨[], s, rn_pure, rfl, Same.refl, rfl, fun i kv h => by simp at h⟩
  | kv :: D, s => by
    obtain ⟨vs, s', h, hh, hs, hl, hv⟩ := rn_evalPairs D { s with toks := s.toks + 2 }
    refine ⟨(.int kv.1 s.toks, .str kv.2 (s.toks + 1)) :: vs, s', ?_, hh, hs, by simp [hl], fun i kv' hi => ?_⟩
    · rw [List.map_cons, show 3 * (kv :: D).length = 1 + (2 + 3 * D.length) by simp; omega]
      refine rn_bind rn_mkInt (rn_bind (rn_holding rn_pairVal) ?_)
      exact rn_bind (m := 0) (rn_holding h) rn_pure
    · cases i with
      | zero => cases hi; exact ⟨_, _, rfl⟩
      | succ i => exact hv i kv' (by simpa using hi)

theorem rn_setLoop {d : Addr} (hd : n₀ ≤ d) : ∀ (vs : List (Value × Value)) (D E : List (Int × Str)) (es : List DictEntry) (n : Nat) (s : Shared), vs.length = D.length → (∀ (i : Nat) (kv : Int × Str), D[i]? = some kv → ∃ t u, vs[i]? = some (Value.int kv.1 t, Value.str kv.2 u)) →
    s.heap.get? d = some (dObj es n) → EntsAre es E → ((E ++ D).map (·.1)).Nodup → KeysOk D → es.length + D.length ≤ 100000 →
    ∃ s' es', Rn p w n₀ ann (10 * D.length) (forIn vs PUnit.unit fun (k, v) (_ : PUnit) => do
        dictSet d k v
        pure (ForInStep.yield PUnit.unit)) s PUnit.unit s' ∧ EntsAre es' (E ++ D) ∧ Stp n₀ d s s' es' (n + D.length)
  | [], [], E, es, n, s, _, _, ho, he, hn, hk, hl => ⟨s, es, rn_pure, by rw [List.append_nil]; exact he, ⟨ho, Blw.refl, rfl, Same.refl⟩⟩
  | v :: vs, kv :: D, E, es, n, s, hlen, hv, ho, he, hn, hk, hl => by
    obtain ⟨t, u, hvv⟩ := hv 0 kv rfl
    obtain rfl : v = (Value.int kv.1 t, Value.str kv.2 u) := by simpa using hvv
    have hkv := hk kv (List.mem_cons_self ..)
    obtain ⟨s₁, h1, S1⟩ := rn_dictSet (p := p) (w := w) (ann := ann) (t := t) (v := .str kv.2 u) (s := s) ho (fresh_key he hn) hkv.1 hkv.2 hd (by simp at hl; omega)
    have he' : EntsAre (es ++ [⟨kv.1, .int kv.1 t, .str kv.2 u⟩]) (E ++ [kv]) := he.append ⟨⟨rfl, ⟨_, rfl⟩, ⟨_, rfl⟩⟩, trivial⟩
    obtain ⟨s₂, es₂, h2, e2, S2⟩ := rn_setLoop hd vs D (E ++ [kv]) _ (n + 1) s₁ (by simpa using hlen) (fun i kv' hi => hv (i + 1) kv' (by simpa using hi)) S1.at_ he' (by rw [List.append_assoc]; exact hn) (fun x hx => hk x (List.mem_cons_of_mem _ hx)) (by simp at hl ⊢; omega)
    refine ⟨s₂, es₂, ?_, by rw [List.append_assoc] at e2; exact e2, ⟨by have := S2.at_; rw [show n + (kv :: D).length = n + 1 + D.length by simp; omega]; exact this, S1.blw.trans S2.blw, S2.size.trans S1.size, S1.same.trans S2.same⟩⟩
    rw [List.forIn_cons, show 10 * (kv :: D).length = 10 + 10 * D.length by simp; omega]
    refine rn_bind (n := 10) (a := ForInStep.yield PUnit.unit) (s₁ := s₁) ?_ h2
    exact rn_bind (n := 10) (m := 0) h1 rn_pure
  | [], _ :: _, _, _, _, _, h, _, _, _, _, _, _ => by simp at h
  | _ :: _, [], _, _, _, _, h, _, _, _, _, _, _ => by simp at h

/-- a part of the display: a new dict -/
theorem rn_subDict {pos : Pos} (D : List (Int × Str)) (s : Shared) (hs : n₀ ≤ s.heap.objs.size) (hn : (D.map (·.1)).Nodup) (hk : KeysOk D) (hl : D.length ≤ 1000) :
    ∃ s' es', Rn p w n₀ ann (13 * D.length + 2) (subDict (D.map (prOf pos))) s s.heap.objs.size s' ∧ EntsAre es' D ∧ s'.heap.get? s.heap.objs.size = some (dObj es' D.length) ∧
      Blw s.heap.objs.size s.heap s'.heap ∧ s'.heap.objs.size = s.heap.objs.size + 1 ∧ Same s s' := by
  have ho : (s.heap.push (dObj [] 0)).get? s.heap.objs.size = some (dObj [] 0) := Heap.get?_push_size _ rfl
  by_cases h15 : D.length ≤ 15
  · obtain ⟨vs, s₁, h1, hh, hs1, hvl, hv⟩ := rn_evalPairs (p := p) (w := w) (n₀ := n₀) (ann := ann) (pos := pos) D { s with heap := s.heap.push (dObj [] 0) }
    obtain ⟨s₂, es₂, h2, e2, S2⟩ := rn_setLoop (p := p) (w := w) (ann := ann) (d := s.heap.objs.size) hs vs D [] [] 0 s₁ hvl hv (by rw [hh]; exact ho) trivial hn hk (by simp; omega)
    refine ⟨s₂, es₂, ?_, e2, by have := S2.at_; rwa [Nat.zero_add] at this, Blw.trans (Blw.push (Nat.le_refl _)) (by have := S2.blw; rwa [hh] at this), by rw [S2.size, hh]; exact Heap.size_push .., Same.trans hs1 S2.same⟩
    have : Rn p w n₀ ann (1 + (3 * D.length + 10 * D.length)) (subDict (D.map (prOf pos))) s s.heap.objs.size s₂ := by
      unfold subDict
      refine rn_bind (n := 1) rn_alloc (rn_bind (m := 0) (a := ()) (rn_holding ?_) rn_pure)
      rw [List.length_map, if_pos h15]
      exact rn_bind h1 (rn_holding (rn_bind (m := 0) h2 rn_pure))
    exact rn_mono this (by omega)
  · obtain ⟨s₂, es₂, h2, e2, S2⟩ := rn_longLoop (p := p) (w := w) (ann := ann) (pos := pos) (d := s.heap.objs.size) hs D [] [] 0 { s with heap := s.heap.push (dObj [] 0) } ho trivial hn hk (by simp; omega)
    refine ⟨s₂, es₂, ?_, e2, by have := S2.at_; rwa [Nat.zero_add] at this, Blw.trans (Blw.push (Nat.le_refl _)) S2.blw, by rw [S2.size]; exact Heap.size_push .., Same.trans ⟨rfl, rfl, rfl⟩ S2.same⟩
    have : Rn p w n₀ ann (1 + (1 + 13 * D.length)) (subDict (D.map (prOf pos))) s s.heap.objs.size s₂ := by
      unfold subDict
      refine rn_bind (n := 1) rn_alloc (rn_bind (m := 0) (a := ()) (rn_holding ?_) rn_pure)
      rw [List.length_map, if_neg h15]
      exact rn_bind (n := 1) rn_rule (rn_bind (m := 0) h2 rn_pure)
    exact rn_mono this (by omega)
end
end Mine
end
section
open PySem PySem.W PyProof.Rows
set_option Elab.async false
set_option maxRecDepth 100000
set_option linter.unusedVariables false
namespace Mine
theorem sub_dict : isSubtype (.type "dict") (.type "dict") = pure true := by kernel_rfl!
theorem look_iter : typeLookup (.type "dict") "__iter__" = pure (some (.builtin "dict.__iter__")) := by kernel_rfl!
section
variable {p : Program} {w : World} {n₀ : Nat} {ann : Option Value} {α β : Type}

theorem rn_isDict {a : Addr} {es : List DictEntry} {n : Nat} {s : Shared} (ho : s.heap.get? a = some (dObj es n)) : Rn p w n₀ ann 1 (isInstance (.ref a) (.type "dict")) s true s := by
  unfold isInstance
  refine rn_bind (n := 1) (m := 0) (a := Value.type "dict") (rn_bind (n := 1) (m := 0) (rn_loadPart ho) rn_pure) ?_
  rw [sub_dict]; exact rn_pure
theorem rn_iterOf {a : Addr} {es : List DictEntry} {n : Nat} {s : Shared} (ho : s.heap.get? a = some (dObj es n)) : Rn p w n₀ ann 1 (specialOf (.ref a) "__iter__") s (some (.builtin "dict.__iter__")) s := by
  unfold specialOf
  refine rn_bind (n := 1) (m := 0) (a := Value.type "dict") (rn_bind (n := 1) (m := 0) (rn_loadPart ho) rn_pure) ?_
  rw [look_iter]; exact rn_pure

/-- the merging loop from the place i on -/
theorem rn_mergeLoop {d a : Addr} {fs : List DictEntry} {m : Nat} {F : List (Int × Str)} (hd : n₀ ≤ d) (hda : d < a) (hf : EntsAre fs F) : ∀ (k i : Nat) (E : List (Int × Str)) (es : List DictEntry) (n : Nat) (s : Shared), i + k = F.length →
    s.heap.get? d = some (dObj es n) → s.heap.get? a = some (dObj fs m) → EntsAre es E → ((E ++ F.drop i).map (·.1)).Nodup → es.length + k ≤ 100000 →
    ∃ s' es', Rn p w n₀ ann (6 * k) (forIn (List.range' i k) PUnit.unit fun i (_ : PUnit) => do
        let some e := (← dictEntries a)[i]? | do
          let _ ← (unsupported "dict.changed-during-merge" : Sem Unit)
          pure (ForInStep.yield PUnit.unit)
        holding [e.key, e.val] (dictPut d e.hash e.key e.val)
        if (← dictEpoch a) != m then do
          (unsupported "dict.changed-during-merge" : Sem Unit)
          pure (ForInStep.yield PUnit.unit)
        else pure (ForInStep.yield PUnit.unit)) s PUnit.unit s' ∧ EntsAre es' (E ++ F.drop i) ∧ Stp n₀ d s s' es' (n + k)
  | 0, i, E, es, n, s, hi, ho, ha, he, hn, hl => ⟨s, es, rn_pure, by rw [List.drop_eq_nil_of_le (by omega), List.append_nil]; exact he, ⟨ho, Blw.refl, rfl, Same.refl⟩⟩
  | k + 1, i, E, es, n, s, hi, ho, ha, he, hn, hl => by
    obtain ⟨kv, hkv⟩ : ∃ kv, F[i]? = some kv := ⟨F[i]'(by omega), by simp⟩
    have hdrop : F.drop i = kv :: F.drop (i + 1) := by
      obtain ⟨h1, h2⟩ := List.getElem?_eq_some_iff.mp hkv
      rw [List.drop_eq_getElem_cons h1, h2]
    obtain ⟨t, u, hx⟩ := hf.get hkv
    rw [hdrop] at hn
    have hel : es.length ≤ 100000 := by omega
    obtain ⟨s₁, h1, S1, es1⟩ := rn_dictPut (p := p) (w := w) (ann := ann) (t := t) (v := .str kv.2 u) (s := s) ho (fresh_key he hn) hd hel
    have ha₁ : s₁.heap.get? a = some (dObj fs m) := by rw [es1]; exact (Heap.get?_update_other _ _ (Nat.ne_of_lt hda)).trans ha
    have he' : EntsAre (es ++ [⟨kv.1, .int kv.1 t, .str kv.2 u⟩]) (E ++ [kv]) := he.append ⟨⟨rfl, ⟨_, rfl⟩, ⟨_, rfl⟩⟩, trivial⟩
    have hE := he.length
    obtain ⟨s₂, es₂, h2, e2, S2⟩ := rn_mergeLoop hd hda hf k (i + 1) (E ++ [kv]) _ (n + 1) s₁ (by omega) S1.at_ ha₁ he' (by rw [List.append_assoc]; exact hn) (by simp only [List.length_append, List.length_cons, List.length_nil]; omega)
    refine ⟨s₂, es₂, ?_, by rw [List.append_assoc] at e2; rw [hdrop]; exact e2, ⟨by have := S2.at_; rwa [show n + 1 + k = n + (k + 1) by omega] at this, S1.blw.trans S2.blw, S2.size.trans S1.size, S1.same.trans S2.same⟩⟩
    rw [List.range'_succ, List.forIn_cons, show 6 * (k + 1) = 6 + 6 * k by omega]
    refine rn_bind (n := 6) (a := ForInStep.yield PUnit.unit) (s₁ := s₁) ?_ h2
    refine rn_bind (n := 1) (m := 5) (rn_dictEntries ha) ?_
    have hx' : fs.toArray[i]? = some ⟨kv.1, .int kv.1 t, .str kv.2 u⟩ := by simpa using hx
    rw [hx']
    refine rn_bind (n := 4) (m := 1) (rn_holding h1) ?_
    refine rn_bind (n := 1) (m := 0) (rn_dictEpoch ha₁) ?_
    rw [show (m != m) = false by simp]
    exact rn_pure
end
end Mine
end
section
open PySem PySem.W PyProof.Rows
set_option Elab.async false
set_option maxRecDepth 100000
set_option linter.unusedVariables false
namespace Mine
section
variable {p : Program} {w : World} {n₀ : Nat} {ann : Option Value} {α β : Type}
theorem rn_merge {d a : Addr} {fs es : List DictEntry} {m n : Nat} {E F : List (Int × Str)} {s : Shared} (hd : n₀ ≤ d) (hda : d < a) (hf : EntsAre fs F) (he : EntsAre es E) (h0 : es ≠ []) (hm : a ≠ sysModules)
    (ho : s.heap.get? d = some (dObj es n)) (ha : s.heap.get? a = some (dObj fs m)) (hn : ((E ++ F).map (·.1)).Nodup) (hl : es.length + F.length ≤ 100000) :
    ∃ s' es', Rn p w n₀ ann (6 * F.length + 5) (mergeMapping d (.ref a) false) s () s' ∧ EntsAre es' (E ++ F) ∧ Stp n₀ d s s' es' (n + F.length) := by
  obtain ⟨s', es', h, e, S⟩ := rn_mergeLoop (p := p) (w := w) (ann := ann) (m := m) hd hda hf F.length 0 E es n s (by omega) ho ha he (by simpa using hn) hl
  refine ⟨s', es', ?_, by simpa using e, S⟩
  have : Rn p w n₀ ann (1 + (1 + (0 + (1 + (1 + (1 + 6 * F.length)))))) (mergeMapping d (.ref a) false) s () s' := by
    unfold mergeMapping
    refine rn_bind (n := 1) (rn_isDict ha) ?_
    dsimp only
    rw [if_pos rfl]
    refine rn_bind (n := 1) (rn_iterOf ha) ?_
    rw [show (some (Value.builtin "dict.__iter__") == some (Value.builtin "dict.__iter__")) = true from by simp]
    refine rn_bind (n := 0) (a := true) rn_pure ?_
    dsimp only
    rw [if_neg (by simpa using hm)]
    refine rn_bind (n := 1) (rn_dictEntries ho) ?_
    rw [if_neg (by simpa using h0)]
    refine rn_bind (n := 1) (rn_dictEntries ha) ?_
    refine rn_bind (n := 1) (rn_dictEpoch ha) ?_
    rw [List.size_toArray, hf.length, List.range_eq_range']
    refine rn_bind (m := 0) (a := PUnit.unit) ?_ rn_pure
    exact h
  exact rn_mono this (by omega)

/-- the display so far: nothing, or a dict d with what has been laid -/
noncomputable def Main (h₀ : Heap) (d : Addr) (E : List (Int × Str)) (main : Option Addr) (s : Shared) : Prop :=
  (E = [] ∧ main = none ∧ s.heap = h₀) ∨ (E ≠ [] ∧ main = some d ∧ (∃ es, s.heap.get? d = some (dObj es E.length) ∧ EntsAre es E) ∧ d < s.heap.objs.size)

noncomputable def flushOf (run : List (Sem Value × Sem Value)) (main : Option Addr) : Sem (Option Addr) := do
    if run.isEmpty then return main
    match main with
    | none => return some (← subDict run)
    | some d =>
      let sub ← holding [.ref d] (subDict run)
      (holding [.ref d, .ref sub] (mergeMapping d (.ref sub) false)).onRaise fun x => do let _ ← holding [.ref d, x] (runValue (.builtin "proto.let_go" {}))
      return some d

theorem rn_flush {pos : Pos} {h₀ : Heap} {E R : List (Int × Str)} {main : Option Addr} {s : Shared} (hb : 100 < n₀ ∨ sysModules < h₀.objs.size) (hn0 : n₀ ≤ h₀.objs.size) (hsm : sysModules < h₀.objs.size) (hR : R ≠ []) (hM : Main h₀ h₀.objs.size E main s) (hB : Blw h₀.objs.size h₀ s.heap)
    (hn : ((E ++ R).map (·.1)).Nodup) (hk : KeysOk R) (hl : E.length + R.length ≤ 1000) :
    ∃ s' j, Rn p w n₀ ann (20 * R.length + 10) (flushOf (R.map (prOf pos)) main) s (some h₀.objs.size) s' ∧ Main h₀ h₀.objs.size (E ++ R) (some h₀.objs.size) s' ∧ Blw h₀.objs.size h₀ s'.heap ∧ s'.heap.objs.size = s.heap.objs.size + j ∧ j = 1 ∧ Same s s' := by
  have hne : E ++ R ≠ [] := by simp [hR]
  have hr : (R.map (prOf pos)).isEmpty = false := by cases R with | nil => exact absurd rfl hR | cons => rfl
  have hnR : (R.map (·.1)).Nodup := by rw [List.map_append] at hn; exact (List.nodup_append.mp hn).2.1
  rcases hM with ⟨rfl, rfl, hh⟩ | ⟨hE, rfl, ⟨es, ho, he⟩, hlt⟩
  · obtain ⟨s', es', h, e, g, b, sz, sm⟩ := rn_subDict (p := p) (w := w) (n₀ := n₀) (ann := ann) (pos := pos) R s (by rw [hh]; exact hn0) hnR hk (by omega)
    rw [hh] at h g b sz
    refine ⟨s', 1, ?_, .inr ⟨hne, rfl, ⟨es', by rw [List.nil_append]; exact g, by rw [List.nil_append]; exact e⟩, by rw [sz]; exact Nat.lt_succ_self _⟩, b, by rw [hh]; exact sz, rfl, sm⟩
    unfold flushOf
    rw [hr]
    exact rn_mono (rn_bind (m := 0) h rn_pure) (by omega)
  · have hdl : h₀.objs.size < s.heap.objs.size := hlt
    obtain ⟨s₁, fs, h1, e1, g1, b1, sz1, sm1⟩ := rn_subDict (p := p) (w := w) (n₀ := n₀) (ann := ann) (pos := pos) R s (Nat.le_of_lt (Nat.lt_of_le_of_lt hn0 hdl)) hnR hk (by omega)
    have ho₁ : s₁.heap.get? h₀.objs.size = some (dObj es E.length) := by
      rw [Heap.get?_some_iff] at ho ⊢
      exact ⟨(b1.2 _ hdl).trans ho.1, ho.2⟩
    have hes : es ≠ [] := by
      intro q; subst q
      have := he.length
      simp at this
      exact hE (List.length_eq_zero_iff.mp this.symm)
    have hel := he.length
    obtain ⟨s₂, es₂, h2, e2, S2⟩ := rn_merge (p := p) (w := w) (ann := ann) hn0 hdl e1 he hes (Nat.ne_of_gt (Nat.lt_trans hsm hdl)) ho₁ g1 hn (by omega)
    refine ⟨s₂, 1, ?_, .inr ⟨hne, rfl, ⟨es₂, by rw [List.length_append]; exact S2.at_, e2⟩, by rw [S2.size, sz1]; exact Nat.lt_succ_of_lt hdl⟩, hB.trans ((?_ : Blw _ _ _).trans S2.blw), by rw [S2.size, sz1], rfl, sm1.trans S2.same⟩
    · unfold flushOf
      rw [hr]
      have : Rn p w n₀ ann (13 * R.length + 2 + (6 * R.length + 5 + 0)) (do
          let sub ← holding [.ref h₀.objs.size] (subDict (R.map (prOf pos)))
          (holding [.ref h₀.objs.size, .ref sub] (mergeMapping h₀.objs.size (.ref sub) false)).onRaise fun x => do let _ ← holding [.ref h₀.objs.size, x] (runValue (.builtin "proto.let_go" {}))
          return some h₀.objs.size) s (some h₀.objs.size) s₂ :=
        rn_bind (rn_holding h1) (rn_bind (m := 0) (rn_onRaise (rn_holding h2)) rn_pure)
      exact rn_mono this (by omega)
    · exact ⟨b1.1, fun b hb => b1.2 b (Nat.lt_trans hb hdl)⟩
end
end Mine
end
section
open PySem PySem.W PyProof.Rows
set_option Elab.async false
set_option maxRecDepth 100000
set_option linter.unusedVariables false
namespace Mine
noncomputable def itemOf (pos : Pos) (kv : Int × Str) : Option (Sem Value) × Sem Value := (some (mkInt kv.1), do let x ← mkText kv.2; standAt pos; pure x)
noncomputable abbrev Acc := Option Addr × List (Sem Value × Sem Value)
section
variable {p : Program} {w : World} {n₀ : Nat} {ann : Option Value} {α β : Type}

theorem rn_gather {pos : Pos} {h₀ : Heap} (hn0 : n₀ ≤ h₀.objs.size) (hsm : sysModules < h₀.objs.size)
    (f : (Option (Sem Value) × Sem Value) → Acc → Sem (ForInStep Acc))
    (hf : ∀ (k v : Sem Value) (main : Option Addr) (run : List (Sem Value × Sem Value)), f (some k, v) (main, run) =
      if (run ++ [(k, v)]).length == 17 then (do let m ← flushOf (run ++ [(k, v)]) main; pure (.yield (m, []))) else pure (.yield (main, run ++ [(k, v)]))) :
    ∀ (D R E : List (Int × Str)) (main : Option Addr) (s : Shared) (j : Nat), Main h₀ h₀.objs.size E main s → Blw h₀.objs.size h₀ s.heap → R.length < 17 → E.length = 17 * j → s.heap.objs.size = h₀.objs.size + j →
      ((E ++ (R ++ D)).map (·.1)).Nodup → KeysOk (R ++ D) → E.length + (R.length + D.length) ≤ 1000 →
      ∃ s' R' E' main' j', Rn p w n₀ ann (400 * D.length) (forIn (D.map (itemOf pos)) ((main, R.map (prOf pos)) : Acc) f) s (main', R'.map (prOf pos)) s' ∧ Main h₀ h₀.objs.size E' main' s' ∧ Blw h₀.objs.size h₀ s'.heap ∧ R'.length < 17 ∧ E'.length = 17 * j' ∧
        s'.heap.objs.size = h₀.objs.size + j' ∧ E' ++ R' = E ++ (R ++ D) ∧ KeysOk R' ∧ Same s s'
  | [], R, E, main, s, j, hM, hB, hR, hE, hs, hn, hk, hl => ⟨s, R, E, main, j, rn_pure, hM, hB, hR, hE, hs, by simp, by simpa using hk, Same.refl⟩
  | kv :: D, R, E, main, s, j, hM, hB, hR, hE, hs, hn, hk, hl => by
    have hmap : R.map (prOf pos) ++ [(mkInt kv.1, do let x ← mkText kv.2; standAt pos; pure x)] = (R ++ [kv]).map (prOf pos) := by simp [prOf]
    have hk' : KeysOk (R ++ [kv]) := fun x hx => hk x (by simp at hx ⊢; rcases hx with h | h <;> simp [h])
    rw [List.map_cons, List.forIn_cons]
    show ∃ s' R' E' main' j', Rn p w n₀ ann (400 * (kv :: D).length) (f (some (mkInt kv.1), _) (main, R.map (prOf pos)) >>= _) s _ s' ∧ _
    rw [hf, hmap]
    have hlen : ((R ++ [kv]).map (prOf pos)).length = R.length + 1 := by simp
    by_cases h17 : R.length + 1 = 17
    · obtain ⟨s₁, j1, h1, M1, B1, sz1, hj1, sm1⟩ := rn_flush (p := p) (w := w) (n₀ := n₀) (ann := ann) (pos := pos) (R := R ++ [kv]) (.inr hsm) hn0 hsm (by simp) hM hB (by
          have : (E ++ (R ++ kv :: D)) = (E ++ (R ++ [kv])) ++ D := by simp
          rw [this, List.map_append] at hn; exact (List.nodup_append.mp hn).1) hk' (by simp at hl ⊢; omega)
      subst hj1
      obtain ⟨s₂, R', E', main', j', h2, M2, B2, hR', hE', hs', heq, hkR, sm2⟩ := rn_gather hn0 hsm f hf D [] (E ++ (R ++ [kv])) (some h₀.objs.size) s₁ (j + 1) M1 B1 (by simp) (by simp; omega) (by rw [sz1, hs]; omega)
        (by simpa using hn) (fun x hx => hk x (by simp at hx ⊢; simp [hx])) (by simp at hl ⊢; omega)
      refine ⟨s₂, R', E', main', j', ?_, M2, B2, hR', hE', hs', by rw [heq]; simp, hkR, sm1.trans sm2⟩
      rw [if_pos (by rw [hlen, h17]; rfl)]
      have e20 : 20 * (R ++ [kv]).length + 10 ≤ 400 := by simp; omega
      refine rn_mono (n := 20 * (R ++ [kv]).length + 10 + 0 + 400 * D.length) (rn_bind (rn_bind (m := 0) h1 rn_pure) h2) ?_
      simp only [List.length_cons]; omega
    · obtain ⟨s₂, R', E', main', j', h2, M2, B2, hR', hE', hs', heq, hkR, sm2⟩ := rn_gather hn0 hsm f hf D (R ++ [kv]) E main s j hM hB (by simp; omega) hE hs (by simpa using hn) (by simpa using hk) (by simp at hl ⊢; omega)
      refine ⟨s₂, R', E', main', j', ?_, M2, B2, hR', hE', hs', by rw [heq]; simp, hkR, sm2⟩
      rw [if_neg (by rw [hlen]; simp; omega)]
      exact rn_mono (rn_bind (n := 0) rn_pure h2) (by simp only [List.length_cons]; omega)

/-- the whole display -/
theorem rn_display_aux {pos : Pos} (f : (Option (Sem Value) × Sem Value) → Acc → Sem (ForInStep Acc))
    (hf : ∀ (k v : Sem Value) (main : Option Addr) (run : List (Sem Value × Sem Value)), f (some k, v) (main, run) =
      if (run ++ [(k, v)]).length == 17 then (do let m ← flushOf (run ++ [(k, v)]) main; pure (.yield (m, []))) else pure (.yield (main, run ++ [(k, v)]))) (D : List (Int × Str)) (s : Shared) (hn0 : n₀ ≤ s.heap.objs.size) (hsm : sysModules < s.heap.objs.size) (hn : (D.map (·.1)).Nodup) (hk : KeysOk D) (hl : D.length ≤ 1000) (h17 : D.length % 17 ≠ 0) :
    ∃ s' es, Rn p w n₀ ann (400 * D.length + 400) ((forIn (D.map (itemOf pos)) ((none, []) : Acc) f) >>= fun r => (flushOf r.2 r.1) >>= fun o => match o with | some d => pure (.ref d) | none => newDict) s (.ref s.heap.objs.size) s' ∧ s'.heap.get? s.heap.objs.size = some (dObj es D.length) ∧ EntsAre es D ∧ Blw s.heap.objs.size s.heap s'.heap ∧
      s'.heap.objs.size = s.heap.objs.size + (D.length / 17 + 1) ∧ Same s s' := by
  obtain ⟨s₁, R, E, main, j, h1, M1, B1, hR, hE, hs1, heq, hkR, sm1⟩ := rn_gather (p := p) (w := w) (n₀ := n₀) (ann := ann) (pos := pos) (h₀ := s.heap) hn0 hsm f hf D [] [] none s 0 (.inl ⟨rfl, rfl, rfl⟩) Blw.refl (by simp) rfl rfl (by simpa using hn) (by simpa using hk) (by simpa using hl)
  have heq' : E ++ R = D := by simpa using heq
  have hlen : E.length + R.length = D.length := by rw [← heq', List.length_append]
  have hR0 : R ≠ [] := by
    intro q; subst q
    simp at hlen; omega
  obtain ⟨s₂, j2, h2, M2, B2, sz2, hj2, sm2⟩ := rn_flush (p := p) (w := w) (n₀ := n₀) (ann := ann) (pos := pos) (.inr hsm) hn0 hsm hR0 M1 B1 (by rw [heq']; exact hn) hkR (by omega)
  subst hj2
  rw [heq'] at M2
  rcases M2 with ⟨hD, _⟩ | ⟨_, _, ⟨es, g, e⟩, _⟩
  · subst hD; simp at h17
  · refine ⟨s₂, es, ?_, g, e, B2, by rw [sz2, hs1]; omega, sm1.trans sm2⟩
    refine rn_mono (n := 400 * D.length + (20 * R.length + 10 + 0)) ?_ (by omega)
    exact rn_bind h1 (rn_bind (m := 0) h2 rn_pure)
theorem rn_display {pos : Pos} (D : List (Int × Str)) (s : Shared) (hn0 : n₀ ≤ s.heap.objs.size) (hsm : sysModules < s.heap.objs.size) (hn : (D.map (·.1)).Nodup) (hk : KeysOk D) (hl : D.length ≤ 1000) (h17 : D.length % 17 ≠ 0) :
    ∃ s' es, Rn p w n₀ ann (400 * D.length + 400) (dictDisplay (D.map (itemOf pos))) s (.ref s.heap.objs.size) s' ∧ s'.heap.get? s.heap.objs.size = some (dObj es D.length) ∧ EntsAre es D ∧ Blw s.heap.objs.size s.heap s'.heap ∧
      s'.heap.objs.size = s.heap.objs.size + (D.length / 17 + 1) ∧ Same s s' :=
  rn_display_aux _ (fun k v main run => rfl) D s hn0 hsm hn hk hl h17
end
end Mine
end
section
open PySem PySem.W PyProof.Rows
set_option Elab.async false
set_option maxRecDepth 100000
set_option linter.unusedVariables false
namespace Mine

structure Fnc where
  name : Str
  params : Arguments
  body : List Stmt
  scope : Scope

noncomputable def HasFn (mg : Str → Option Value) (h : Heap) (f : Fnc) (a : Addr) : Prop :=
  mg f.name = some (.ref a) ∧ ∃ o pm cd doc, h.get? a = some o ∧ o.data = .func (Calls.docDef f.name f.params f.body f.scope pm cd doc) ∧ h.CodeRec cd f.name

/-- what the walk knows of a heap: the globals, the built-ins, the text's functions, some objects -/
structure Cx where
  mg : Str → Option Value
  mb : Str → Option Value
  fs : List Fnc
  obs : List (Addr × Obj)
structure Wd (K : Cx) (h : Heap) : Prop where
  g : h.Ns mainGlobals K.mg
  b : h.Ns builtinsNs K.mb
  nolimit : h.NoLimit
  nodig : ∃ mc, h.Ns cStatics mc ∧ mc "sys.int_max_str_digits" = none
  fn : ∀ f ∈ K.fs, ∃ a, HasFn K.mg h f a
  obs : ∀ p ∈ K.obs, h.get? p.1 = some p.2

variable {K : Cx}

theorem HasFn.keeps {mg : Str → Option Value} {h h' : Heap} {f : Fnc} {a : Addr} (x : HasFn mg h f a) (hk : ∀ b o, h.get? b = some o → h'.get? b = some o) : HasFn mg h' f a := by
  obtain ⟨hm, o, pm, cd, doc, h1, h2, h3⟩ := x
  exact ⟨hm, o, pm, cd, doc, hk _ _ h1, h2, h3.keeps hk⟩
theorem Wd.keeps {h h' : Heap} (W : Wd K h) (hk : ∀ b o, h.get? b = some o → h'.get? b = some o) : Wd K h' :=
  ⟨W.g.keeps hk, W.b.keeps hk, W.nolimit.keeps hk, let ⟨mc, x, y⟩ := W.nodig; ⟨mc, x.keeps hk, y⟩, fun f hf => let ⟨a, x⟩ := W.fn f hf; ⟨a, x.keeps hk⟩, fun p hp => hk _ _ (W.obs p hp)⟩
theorem Wd.after {s s' : Shared} (W : Wd K s.heap) (k : Keeps s s') : Wd K s'.heap := by
  obtain ⟨h', tk, rfl, hk⟩ := k
  exact W.keeps hk

theorem kp_rfl {s : Shared} : Keeps s s := ⟨s.heap, s.toks, rfl, fun _ _ e => e⟩
theorem kp_tok {s : Shared} (t : Nat) : Keeps s { s with toks := t } := ⟨s.heap, t, rfl, fun _ _ e => e⟩
theorem kp_trans {s s' s'' : Shared} (x : Keeps s s') (y : Keeps s' s'') : Keeps s s'' := by
  obtain ⟨h, t, rfl, hk⟩ := x
  obtain ⟨h', t', rfl, hk'⟩ := y
  exact ⟨h', t', rfl, fun b o e => hk' b o (hk b o e)⟩
theorem kp_get {s s' : Shared} (k : Keeps s s') {a : Addr} {o : Obj} (e : s.heap.get? a = some o) : s'.heap.get? a = some o := by
  obtain ⟨h', tk, rfl, hk⟩ := k
  exact hk _ _ e

/-- inside a call: the frame's names, its cells, the call's own objects -/
structure St (K : Cx) (sc : Scope) (s₀ : Shared) (env : Env) (vs cs : List (Str × Value)) (own : List (Addr × Obj)) (s : Shared) : Prop where
  ex : ∃ m cm, InCallC s₀ env.locals m env.cells cm s ∧ (∀ n v, vs.lookup n = some v → m n = some v) ∧ (∀ n v, cs.lookup n = some v → cm n = some v)
  mine : ∀ p ∈ own, s.heap.get? p.1 = some p.2 ∧ p.1 ≠ env.locals ∧ (∀ n c, env.cells.lookup n = some c → p.1 ≠ c) ∧ s₀.heap.get? p.1 = none
  nd : (own.map (·.1)).Nodup
  scope : env.scope = sc
  kind : sc.kind = .function
  glob : env.globals = mainGlobals
  blt : env.builtins = builtinsNs
  W : Wd K s₀.heap

section
variable {sc : Scope} {s₀ s s' : Shared} {env : Env} {vs cs : List (Str × Value)} {own : List (Addr × Obj)}
theorem St.keeps (x : St K sc s₀ env vs cs own s) : Keeps s₀ s := let ⟨_, _, c, _⟩ := x.ex; c.done
theorem St.keep (x : St K sc s₀ env vs cs own s) : ∀ b o, s₀.heap.get? b = some o → s.heap.get? b = some o := let ⟨_, _, c, _⟩ := x.ex; c.toInCall.keep
theorem St.w (x : St K sc s₀ env vs cs own s) : Wd K s.heap := x.W.keeps x.keep
theorem St.after (x : St K sc s₀ env vs cs own s) (k : Keeps s s') : St K sc s₀ env vs cs own s' := by
  obtain ⟨m, cm, c, hv, hc⟩ := x.ex
  obtain ⟨h', tk, rfl, hk⟩ := k
  obtain ⟨h, t, e⟩ := c.toInCall.same
  exact ⟨⟨m, cm, ⟨⟨⟨h', tk, by rw [e]⟩, c.toInCall.ns.keeps hk, fun b o e => hk b o (c.toInCall.keep b o e), c.toInCall.fresh⟩, fun n a ha => (c.cell n a ha).keeps hk, c.apart, c.above⟩, hv, hc⟩,
    fun p hp => let ⟨a, b⟩ := x.mine p hp; ⟨hk _ _ a, b⟩, x.nd, x.scope, x.kind, x.glob, x.blt, x.W⟩
theorem St.tok (x : St K sc s₀ env vs cs own s) (t : Nat) : St K sc s₀ env vs cs own { s with toks := t } := x.after (kp_tok t)
theorem St.vars' (x : St K sc s₀ env vs cs own s) (vs' : List (Str × Value)) (h : ∀ p ∈ vs', vs.lookup p.1 = some p.2) : St K sc s₀ env vs' cs own s := by
  obtain ⟨m, cm, c, hv, hc⟩ := x.ex
  exact ⟨⟨m, cm, c, fun n v e => hv n v (h (n, v) (mem_of_lookup e)), hc⟩, x.mine, x.nd, x.scope, x.kind, x.glob, x.blt, x.W⟩
noncomputable def VarsOk (vs : List (Str × Value)) : List (Str × Value) → Prop
  | [] => True
  | p :: r => vs.lookup p.1 = some p.2 ∧ VarsOk vs r
theorem VarsOk.all : ∀ {vs vs' : List (Str × Value)}, VarsOk vs vs' → ∀ p ∈ vs', vs.lookup p.1 = some p.2
  | _, _ :: _, h, _, .head _ => h.1
  | _, _ :: _, h, p, .tail _ m => VarsOk.all h.2 p m
theorem St.vars (x : St K sc s₀ env vs cs own s) (vs' : List (Str × Value)) (h : VarsOk vs vs' := by (repeat' (first | exact trivial | exact rfl | apply And.intro))) : St K sc s₀ env vs' cs own s := x.vars' vs' h.all
theorem St.cvars (x : St K sc s₀ env vs cs own s) (cs' : List (Str × Value)) (h : ∀ p ∈ cs', cs.lookup p.1 = some p.2) : St K sc s₀ env vs cs' own s := by
  obtain ⟨m, cm, c, hv, hc⟩ := x.ex
  exact ⟨⟨m, cm, c, hv, fun n v e => hc n v (h (n, v) (mem_of_lookup e))⟩, x.mine, x.nd, x.scope, x.kind, x.glob, x.blt, x.W⟩

theorem pick_sub {α : Type} {l : List α} {is : List Nat} {p : α} (h : p ∈ is.filterMap (l[·]?)) : p ∈ l := by
  obtain ⟨i, _, e⟩ := List.mem_filterMap.mp h
  exact List.mem_of_getElem? e
theorem pick_nodup {l : List (Addr × Obj)} (hl : (l.map (·.1)).Nodup) : ∀ (is : List Nat), is.Nodup → ((is.filterMap (l[·]?)).map (·.1)).Nodup
  | [], _ => List.nodup_nil
  | i :: is, h => by
    obtain ⟨h1, h2⟩ := List.nodup_cons.mp h
    have ih := pick_nodup hl is h2
    cases e : l[i]? with
    | none => rw [List.filterMap_cons_none (by exact e)]; exact ih
    | some p =>
      rw [List.filterMap_cons_some (by exact e), List.map_cons, List.nodup_cons]
      refine ⟨fun hm => ?_, ih⟩
      obtain ⟨q, hq, e2⟩ := List.mem_map.mp hm
      obtain ⟨j, hj, ej⟩ := List.mem_filterMap.mp hq
      have hi' : (l.map (·.1))[i]? = some p.1 := by rw [List.getElem?_map, e]; rfl
      have hj' : (l.map (·.1))[j]? = some p.1 := by rw [List.getElem?_map, ej, ← e2]; rfl
      obtain ⟨hil, ei⟩ := List.getElem?_eq_some_iff.mp hi'
      obtain ⟨hjl, ejj⟩ := List.getElem?_eq_some_iff.mp hj'
      have : i = j := (List.getElem_inj hl).mp (ei.trans ejj.symm)
      subst this
      exact h1 hj
/-- the call's own objects in another order, or fewer -/
theorem St.pick (x : St K sc s₀ env vs cs own s) (is : List Nat) (hn : is.Nodup := by decide) : St K sc s₀ env vs cs (is.filterMap (own[·]?)) s :=
  ⟨x.ex, fun p hp => x.mine p (pick_sub hp), pick_nodup x.nd is hn, x.scope, x.kind, x.glob, x.blt, x.W⟩
theorem St.own' (x : St K sc s₀ env vs cs own s) {own' : List (Addr × Obj)} (e : own = own') : St K sc s₀ env vs cs own' s := e ▸ x

theorem get_none_of_ge {h : Heap} {a : Addr} (ha : h.objs.size ≤ a) : h.get? a = none := by
  cases e : h.get? a with
  | none => rfl
  | some o => exact absurd (Heap.lt_size e) (Nat.not_lt.mpr ha)
theorem St.sizeLe (x : St K sc s₀ env vs cs own s) : s₀.heap.objs.size ≤ s.heap.objs.size := by
  obtain ⟨m, cm, c, _⟩ := x.ex
  exact Nat.le_of_lt (Nat.lt_of_le_of_lt c.toInCall.fresh c.toInCall.ns.lt)

/-- a new object -/
theorem St.fresh (x : St K sc s₀ env vs cs own s) {D : Addr} {o : Obj} (k : Keeps s s') (hD : s.heap.get? D = none) (ho : s'.heap.get? D = some o) : St K sc s₀ env vs cs ((D, o) :: own) s' := by
  have y := x.after k
  obtain ⟨m, cm, c, hv, hc⟩ := x.ex
  refine ⟨y.ex, fun p hp => ?_, ?_, x.scope, x.kind, x.glob, x.blt, x.W⟩
  · rcases List.mem_cons.mp hp with rfl | hp
    · refine ⟨ho, fun e => ?_, fun n c' hl hm => ?_, ?_⟩
      · obtain ⟨o', es, ep, hL, _⟩ := c.toInCall.ns
        have e' : D = env.locals := e
        rw [e', hL] at hD; cases hD
      · have hm' : D = c' := hm
        obtain ⟨o', ho', _⟩ := c.cell n c' hl
        rw [← hm', hD] at ho'; cases ho'
      · cases e : s₀.heap.get? D with
        | none => rfl
        | some o' => rw [x.keep _ _ e] at hD; cases hD
    · exact y.mine p hp
  · rw [List.map_cons, List.nodup_cons]
    refine ⟨fun hm => ?_, x.nd⟩
    obtain ⟨q, hq, e⟩ := List.mem_map.mp hm
    have := (x.mine q hq).1
    rw [e, hD] at this; cases this
end
end Mine
end
section
open PySem PySem.W PyProof.Rows
set_option Elab.async false
set_option maxRecDepth 100000
set_option linter.unusedVariables false
namespace Mine
variable {K : Cx}
/-- wpAny, not to be opened by the elaborator -/
@[irreducible] noncomputable def Wp {α : Type} (prog : Program) (w : World) (A : Around) (t : Sem α) (Q : α → Shared → Prop) (E : Value → Shared → Prop) (s : Shared) : Prop := wpAny (model prog w) A t Q E s
theorem Wp.un {α : Type} {prog : Program} {w : World} {A : Around} {t : Sem α} {Q : α → Shared → Prop} {E : Value → Shared → Prop} {s : Shared} (h : Wp prog w A t Q E s) : wpAny (model prog w) A t Q E s := by unfold Wp at h; exact h
theorem Wp.of {α : Type} {prog : Program} {w : World} {A : Around} {t : Sem α} {Q : α → Shared → Prop} {E : Value → Shared → Prop} {s : Shared} (h : wpAny (model prog w) A t Q E s) : Wp prog w A t Q E s := by unfold Wp; exact h
/-- what a pure expression may read -/
structure Rd (K : Cx) (sc : Scope) (env : Env) (vs cs : List (Str × Value)) (s : Shared) : Prop where
  ex : ∃ m, s.heap.Ns env.locals m ∧ ∀ n v, vs.lookup n = some v → m n = some v
  cell : ∀ n v, cs.lookup n = some v → ∃ c, env.cells.lookup n = some c ∧ s.heap.IsCell c (some v)
  scope : env.scope = sc
  kind : sc.kind = .function
  glob : env.globals = mainGlobals
  blt : env.builtins = builtinsNs
  W : Wd K s.heap

section
variable {sc : Scope} {s₀ s s' : Shared} {env : Env} {vs cs : List (Str × Value)} {own : List (Addr × Obj)}
theorem Rd.after (r : Rd K sc env vs cs s) (k : Keeps s s') : Rd K sc env vs cs s' := by
  have W := r.W.after k
  obtain ⟨h', tk, rfl, hk⟩ := k
  obtain ⟨m, hm, hv⟩ := r.ex
  exact ⟨⟨m, hm.keeps hk, hv⟩, fun n v e => let ⟨c, a, b⟩ := r.cell n v e; ⟨c, a, b.keeps hk⟩, r.scope, r.kind, r.glob, r.blt, W⟩

/-- cells known to be laid -/
noncomputable abbrev Laids (env : Env) (ns : List Str) : Prop := ∀ n ∈ ns, (env.cells.lookup n).isSome = true
theorem St.rd (x : St K sc s₀ env vs [] own s) : Rd K sc env vs [] s := by
  obtain ⟨m, cm, c, hv, hc⟩ := x.ex
  exact ⟨⟨m, c.toInCall.ns, hv⟩, fun n v e => by simp at e, x.scope, x.kind, x.glob, x.blt, x.w⟩
theorem St.rdC (x : St K sc s₀ env vs cs own s) {ns : List Str} (hl : Laids env ns) (hn : ∀ p ∈ cs, p.1 ∈ ns) : Rd K sc env vs cs s := by
  obtain ⟨m, cm, c, hv, hc⟩ := x.ex
  refine ⟨⟨m, c.toInCall.ns, hv⟩, fun n v e => ?_, x.scope, x.kind, x.glob, x.blt, x.w⟩
  obtain ⟨a, ha⟩ := Option.isSome_iff_exists.mp (hl n (hn _ (mem_of_lookup e)))
  exact ⟨a, ha, hc n v e ▸ c.cell n a ha⟩
end


theorem isTup' {h : Heap} {a : Addr} {vs : List Value} (e : h.get? a = some { cls := .type "tuple", data := .seq vs.toArray }) : h.IsTuple a vs.toArray := ⟨_, e, rfl, 0, rfl⟩

namespace R
section
variable {prog : Program} {w : World} {A : Around} {E : Value → Shared → Prop} {sc : Scope} {s₀ s : Shared} {env : Env} {vs cs : List (Str × Value)} {own : List (Addr × Obj)}

/-- a local name -/
theorem ldv {n : Str} {pos : Pos} {v : Value} {Q : Value → Shared → Prop} (r : Rd K sc env vs cs s) (hv : vs.lookup n = some v) (h : Q v s)
    (hl : sc.names.lookup n = some .local := by kernel_rfl) (hd : (n == ("__debug__" : Str)) = false := by kernel_rfl) : wpAny (model prog w) A (eval (.Name n pos) env) Q E s := by
  obtain ⟨m, hm, he⟩ := r.ex
  exact wpAny_Name (wpAny_loadName_local (by rw [r.scope]; exact r.kind) (by show env.scope.names.lookup n = _; rw [r.scope]; exact hl) hm (he n v hv) h) hd
/-- a cell's name -/
theorem ldc {n : Str} {pos : Pos} {v : Value} {Q : Value → Shared → Prop} (r : Rd K sc env vs cs s) (hv : cs.lookup n = some v) (h : Q v s)
    (hl : sc.names.lookup n = some .cell := by kernel_rfl) (hd : (n == ("__debug__" : Str)) = false := by kernel_rfl) : wpAny (model prog w) A (eval (.Name n pos) env) Q E s := by
  obtain ⟨c, hc, hv⟩ := r.cell n v hv
  exact wpAny_Name (wpAny_loadName_cell (by rw [r.scope]; exact r.kind) (by show env.scope.names.lookup n = _; rw [r.scope]; exact hl) hc hv h) hd
/-- a global name of the text -/
theorem ldg {n : Str} {pos : Pos} {v : Value} {Q : Value → Shared → Prop} (r : Rd K sc env vs cs s) (hv : K.mg n = some v) (h : Q v s)
    (hl : sc.names.lookup n = some .globalImplicit := by kernel_rfl) (hd : (n == ("__debug__" : Str)) = false := by kernel_rfl) : wpAny (model prog w) A (eval (.Name n pos) env) Q E s :=
  Calls.Name_function_global (by rw [r.scope]; exact r.kind) (by show env.scope.names.lookup n = _; rw [r.scope]; exact hl) (Calls.loadGlobal_global (by rw [r.glob]; exact r.W.g) hv h) hd
/-- a built-in's name -/
theorem ldb {n : Str} {pos : Pos} {v : Value} {Q : Value → Shared → Prop} (r : Rd K sc env vs cs s) (hm : K.mg n = none) (hv : K.mb n = some v) (h : Q v s)
    (hl : sc.names.lookup n = some .globalImplicit := by kernel_rfl) (hd : (n == ("__debug__" : Str)) = false := by kernel_rfl) : wpAny (model prog w) A (eval (.Name n pos) env) Q E s :=
  Calls.Name_function_global (by rw [r.scope]; exact r.kind) (by show env.scope.names.lookup n = _; rw [r.scope]; exact hl) (Calls.loadGlobal_builtin (by rw [r.glob]; exact r.W.g) hm (by rw [r.blt]; exact r.W.b) hv h) hd

/-- a store into a local name -/
theorem stv {n : Str} {v : Value} {Q : Unit → Shared → Prop} (x : St K sc s₀ env vs cs own s)
    (h : ∀ s', St K sc s₀ env ((n, v) :: vs) cs own s' → Q () s') (hl : sc.names.lookup n = some .local := by kernel_rfl) : wpAny (model prog w) A (storeName env n v) Q E s := by
  obtain ⟨m, cm, c, hv, hc⟩ := x.ex
  have hk : env.kindOf n = some .local := by show env.scope.names.lookup n = _; rw [x.scope]; exact hl
  have hkind : env.scope.kind = .function := by rw [x.scope]; exact x.kind
  refine wpAny_storeName_local hk c.toInCall.ns (fun h' hn' hs' => ?_) (by rw [hkind]; rfl)
  have ne : ∀ b o, s₀.heap.get? b = some o → b ≠ env.locals := fun b o e => Nat.ne_of_lt (Nat.lt_of_lt_of_le (Heap.lt_size e) c.toInCall.fresh)
  obtain ⟨h₁, tk, e₁⟩ := c.toInCall.same
  refine h _ ⟨⟨_, cm, ⟨⟨⟨h', s.toks + 1, by rw [e₁]⟩, hn', fun b o e => hs'.extBut b o (ne b o e) (c.toInCall.keep b o e), c.toInCall.fresh⟩,
    fun k a ha => (c.cell k a ha).sameBut hs' (Nat.ne_of_gt (c.above k a (mem_of_lookup ha))), c.apart, c.above⟩, fun k u e => ?_, hc⟩, fun p hp => ?_, x.nd, x.scope, x.kind, x.glob, x.blt, x.W⟩
  · rw [List.lookup_cons] at e
    by_cases hkn : k = n
    · subst hkn; simp at e; simp [e]
    · have : (k == n) = false := by simp [hkn]
      rw [this] at e
      simp only [hkn, if_false]
      exact hv k u e
  · obtain ⟨a, b, cc, d⟩ := x.mine p hp
    exact ⟨hs'.extBut _ _ b a, b, cc, d⟩
/-- a store into a cell -/
theorem stc {n : Str} {v : Value} {Q : Unit → Shared → Prop} (x : St K sc s₀ env vs cs own s) (hc : (env.cells.lookup n).isSome = true)
    (h : ∀ s', St K sc s₀ env vs ((n, v) :: cs) own s' → Q () s') (hl : sc.names.lookup n = some .cell := by kernel_rfl) : wpAny (model prog w) A (storeName env n v) Q E s := by
  obtain ⟨a, ha⟩ := Option.isSome_iff_exists.mp hc
  obtain ⟨m, cm, c, hv, hcs⟩ := x.ex
  have hk : env.kindOf n = some .cell := by show env.scope.names.lookup n = _; rw [x.scope]; exact hl
  have hkind : env.scope.kind = .function := by rw [x.scope]; exact x.kind
  have hLc := c.above n a (mem_of_lookup ha)
  refine wpAny_storeName_cell hkind hk ha (c.cell n a ha) fun h' hc' hs' => ?_
  obtain ⟨h₁, tk, e₁⟩ := c.toInCall.same
  refine h _ ⟨⟨m, fun y => if y = n then some v else cm y, ⟨⟨⟨h', s.toks, by rw [e₁]⟩, c.toInCall.ns.sameBut hs' (Nat.ne_of_lt hLc), fun b o e => ?_, c.toInCall.fresh⟩, fun k c' hk' => ?_, c.apart, c.above⟩, hv, fun k u e => ?_⟩, fun p hp => ?_, x.nd, x.scope, x.kind, x.glob, x.blt, x.W⟩
  · exact hs'.extBut b o (Nat.ne_of_lt (Nat.lt_trans (Nat.lt_of_lt_of_le (Heap.lt_size e) c.toInCall.fresh) hLc)) (c.toInCall.keep b o e)
  · by_cases hkn : k = n
    · subst hkn
      rw [ha] at hk'; cases hk'
      simpa using hc'
    · simp only [hkn, if_false]
      exact (c.cell k c' hk').sameBut hs' fun e => hkn (name_of_addr c.apart (mem_of_lookup hk') (e ▸ mem_of_lookup ha))
  · rw [List.lookup_cons] at e
    by_cases hkn : k = n
    · subst hkn; simp at e; simp [e]
    · have : (k == n) = false := by simp [hkn]
      rw [this] at e
      simp only [hkn, if_false]
      exact hcs k u e
  · obtain ⟨a', b, cc, d⟩ := x.mine p hp
    exact ⟨hs'.extBut _ _ (cc n a ha) a', b, cc, d⟩

/-- x = e -/
theorem asg {n : Str} {p' pos : Pos} {value : Expr} {Q : Flow → Shared → Prop}
    (h : wpAny (model prog w) A (eval value env) (fun v s₁ => wpAny (model prog w) A (storeName env n v) (fun _ => Q .next) E s₁) E s)
    (hs : swapsWith value (some (.Name n p')) pos.line env = pure false := by rfl) : wpAny (model prog w) A (exec (.Assign [.Name n p'] value pos) env) Q E s := wpAny_Assign_Name h hs

/-- one statement, then the others -/
theorem seq {st : Stmt} {rest : List Stmt} {Q : Flow → Shared → Prop} (h : wpAny (model prog w) A (exec st env) (fun f s' => f = .next ∧ wpAny (model prog w) A (execs rest env) Q E s') E s) :
    wpAny (model prog w) A (execs (st :: rest) env) Q E s :=
  wpAny_execs_cons (wpAny_mono h (fun f s' h' => by obtain ⟨rfl, h'⟩ := h'; exact h') fun _ _ e => e)
/-- the entry of a def -/
theorem enter (ns : List Str) {f : Fnc} {a : Addr} {vals : List Value} {binds : List (Str × Value)} {Q : Value → Shared → Prop} (W : Wd K s.heap) (hf : HasFn K.mg s.heap f a) (hroom : A.depth < recursionLimit)
    (hbind : ∀ pm cd doc, bindArgs (Calls.docDef f.name f.params f.body f.scope pm cd doc) ⟨vals, []⟩ = pure binds)
    (hloc : ∀ x ∈ binds, f.scope.names.lookup x.1 = some .local)
    (h : ∀ env s₁, St K f.scope s env binds.reverse [] [] s₁ → Laids env ns →
      wpAny (model prog w) (A.deeper env) (execs f.body env) (fun fl s' => ∃ v, fl = .ret v ∧ Q v s') (fun _ _ => False) s₁)
    (hns : ∀ L, ∀ n ∈ ns, ((cellsFrom (L + 1) f.scope.names []).lookup n).isSome = true)
    (hco : f.scope.isCoroutine = false := by rfl) (hgen : f.scope.isGenerator = false := by rfl) (hk : f.scope.kind = .function := by rfl) :
    wpAny (model prog w) A (call (.ref a) vals) Q E s := by
  obtain ⟨hm, o, pm, cd, doc, ho, hd, hcd⟩ := hf
  refine wpAny_call (codeAny_call_cells (fd := Calls.docDef f.name f.params f.body f.scope pm cd doc) (body := f.body) (binds := binds) hroom ho hd W.nolimit hcd rfl (hbind pm cd doc) rfl
    (fun x hx => .inl (hloc x hx)) (fun s₁ x => ?_) hco hgen hk)
  have e1 : ∀ (kindOf : Str → Option NameKind) (l : List (Str × Value)) (m : Str → Option Value), (∀ x ∈ l, kindOf x.1 = some .local) → ∀ n v, l.reverse.lookup n = some v → bindL kindOf l m n = some v := by
    intro kindOf l
    induction l with
    | nil => intro m _ n v e; simp at e
    | cons p l ih =>
      intro m hl n v e
      obtain ⟨k, u⟩ := p
      unfold bindL
      rw [if_pos (hl (k, u) (.head _))]
      rw [List.reverse_cons, List.lookup_append] at e
      cases q : l.reverse.lookup n with
      | some v' => rw [q] at e; simp at e; subst e; exact ih _ (fun x hx => hl x (.tail _ hx)) n v' q
      | none =>
        rw [q] at e
        have : ∀ (l' : List (Str × Value)) (m' : Str → Option Value), (∀ x ∈ l', kindOf x.1 = some .local) → l'.reverse.lookup n = none → bindL kindOf l' m' n = m' n := by
          intro l'
          induction l' with
          | nil => intro m' _ _; rfl
          | cons p' l' ih' =>
            intro m' hl' q'
            obtain ⟨k', u'⟩ := p'
            unfold bindL
            rw [if_pos (hl' (k', u') (.head _))]
            rw [List.reverse_cons, List.lookup_append] at q'
            have q1 : l'.reverse.lookup n = none := by
              cases z : l'.reverse.lookup n with
              | none => rfl
              | some y => rw [z] at q'; simp at q'
            rw [q1] at q'
            rw [ih' _ (fun x hx => hl' x (.tail _ hx)) q1]
            by_cases hnk : n = k'
            · subst hnk; simp [List.lookup_cons] at q'
            · simp [hnk]
        rw [this l _ (fun x hx => hl x (.tail _ hx)) q]
        by_cases hnk : n = k
        · subst hnk; simp [List.lookup_cons] at e; simp [e]
        · have hb : (n == k) = false := by simp [hnk]
          simp [List.lookup_cons, hb] at e
  refine wpAny_mono (h _ s₁ ⟨⟨_, _, x, fun n v e => e1 _ _ _ (fun y hy => hloc y hy) n v e, fun n v e => by simp at e⟩, fun p hp => by simp at hp, List.nodup_nil, rfl, hk, rfl, rfl, W⟩ (hns _))
    (fun fl s' hl => ?_) fun _ _ e => e.elim
  obtain ⟨v, rfl, hv⟩ := hl
  exact hv
end
section
variable {prog : Program} {w : World} {A : Around} {E : Value → Shared → Prop} {sc : Scope} {s₀ s : Shared} {env : Env} {vs cs : List (Str × Value)} {own : List (Addr × Obj)}

/-- the arguments of a call, one by one -/
theorem args1 {f : Value} {t : Sem Value} {Q : Args → Shared → Prop} (h : wpAny (model prog w) A t (fun v s₁ => Q ⟨[v], []⟩ s₁) E s) : wpAny (model prog w) A (evalArgs f true [(false, t)] []) Q E s :=
  Calls.evalArgs_plain (Calls.spliced_cons (wpAny_mono h (fun v s₁ h₁ => Calls.spliced_nil h₁) fun _ _ e => e))
theorem args2 {f : Value} {t u : Sem Value} {Q : Args → Shared → Prop} (h : wpAny (model prog w) A t (fun v s₁ => wpAny (model prog w) A u (fun v' s₂ => Q ⟨[v, v'], []⟩ s₂) E s₁) E s) :
    wpAny (model prog w) A (evalArgs f true [(false, t), (false, u)] []) Q E s :=
  Calls.evalArgs_plain (Calls.spliced_cons (wpAny_mono h (fun v s₁ h₁ => Calls.spliced_cons (wpAny_mono h₁ (fun v2 s₂ h₂ => Calls.spliced_nil h₂) fun _ _ e => e)) fun _ _ e => e))
theorem args3 {f : Value} {t u y : Sem Value} {Q : Args → Shared → Prop} (h : wpAny (model prog w) A t (fun v s₁ => wpAny (model prog w) A u (fun v' s₂ => wpAny (model prog w) A y (fun v'' s₃ => Q ⟨[v, v', v''], []⟩ s₃) E s₂) E s₁) E s) :
    wpAny (model prog w) A (evalArgs f true [(false, t), (false, u), (false, y)] []) Q E s :=
  Calls.evalArgs_plain (Calls.spliced_cons (wpAny_mono h (fun v s₁ h₁ => Calls.spliced_cons (wpAny_mono h₁ (fun v2 s₂ h₂ => Calls.spliced_cons (wpAny_mono h₂ (fun v3 s₃ h₃ => Calls.spliced_nil h₃) fun _ _ e => e)) fun _ _ e => e)) fun _ _ e => e))


/-- a call of one of the text's defs by its name -/
theorem callF {f : Fnc} {n : Str} {p pos : Pos} {es : List Expr} {l : List (Bool × Sem Value)} {Q : Value → Shared → Prop} (r : Rd K sc env vs cs s) (hf : f ∈ K.fs) (hn : f.name = n)
    (hs : backTo pos (starEach es env) = l)
    (h : ∀ a, HasFn K.mg s.heap f a → wpAny (model prog w) A (evalArgs (.ref a) true l []) (fun x s₁ => x.kw = [] ∧ Keeps s s₁ ∧ wpAny (model prog w) A (call (.ref a) x.pos) Q E s₁) E s)
    (hl : sc.names.lookup n = some .globalImplicit := by kernel_rfl) (hd : (n == ("__debug__" : Str)) = false := by kernel_rfl) :
    wpAny (model prog w) A (eval (.Call (.Name n p) es [] pos) env) Q E s := by
  obtain ⟨a, hfa⟩ := r.W.fn f hf
  obtain ⟨hm, o, pm, cd, doc, h1, h2, h3⟩ := hfa
  subst hn
  show wpAny (model prog w) A (do callWith pos (← eval (.Name f.name p) env) [] (backTo pos (starEach es env)) (backToKw pos (keywordEach [] env))) Q E s
  refine wpAny_bind (ldg r hm ?_ hl hd)
  rw [hs]
  refine Calls.callWith_function (o := o) (fd := Calls.docDef f.name f.params f.body f.scope pm cd doc) (wpAny_mono (h a ⟨hm, o, pm, cd, doc, h1, h2, h3⟩) (fun x s₁ h₁ => ?_) fun _ _ e => e)
  obtain ⟨hk, k, hc⟩ := h₁
  refine ⟨⟨kp_get k h1, h2⟩, ?_⟩
  rw [hk]; exact hc
theorem callF1 {f : Fnc} {n : Str} {p pos : Pos} {e : Expr} {Q : Value → Shared → Prop} (r : Rd K sc env vs cs s) (hf : f ∈ K.fs)
    (h : ∀ a, HasFn K.mg s.heap f a → wpAny (model prog w) A (eval e env) (fun v s₁ => Keeps s s₁ ∧ wpAny (model prog w) A (call (.ref a) [v]) Q E s₁) E s) (hn : f.name = n := by rfl)
    (hs : backTo pos (starEach [e] env) = [(false, eval e env)] := by rfl)
    (hl : sc.names.lookup n = some .globalImplicit := by kernel_rfl) (hd : (n == ("__debug__" : Str)) = false := by kernel_rfl) :
    wpAny (model prog w) A (eval (.Call (.Name n p) [e] [] pos) env) Q E s :=
  callF r hf hn hs (fun a ha => args1 (wpAny_mono (h a ha) (fun _ _ h => ⟨rfl, h.1, h.2⟩) fun _ _ e => e)) hl hd
theorem callF2 {f : Fnc} {n : Str} {p pos : Pos} {e e' : Expr} {Q : Value → Shared → Prop} (r : Rd K sc env vs cs s) (hf : f ∈ K.fs)
    (h : ∀ a, HasFn K.mg s.heap f a → wpAny (model prog w) A (eval e env) (fun v s₁ => wpAny (model prog w) A (eval e' env) (fun v' s₂ => Keeps s s₂ ∧ wpAny (model prog w) A (call (.ref a) [v, v']) Q E s₂) E s₁) E s) (hn : f.name = n := by rfl)
    (hs : backTo pos (starEach [e, e'] env) = [(false, eval e env), (false, eval e' env)] := by rfl)
    (hl : sc.names.lookup n = some .globalImplicit := by kernel_rfl) (hd : (n == ("__debug__" : Str)) = false := by kernel_rfl) :
    wpAny (model prog w) A (eval (.Call (.Name n p) [e, e'] [] pos) env) Q E s :=
  callF r hf hn hs (fun a ha => args2 (wpAny_mono (h a ha) (fun _ _ h => wpAny_mono h (fun _ _ h => ⟨rfl, h.1, h.2⟩) fun _ _ e => e) fun _ _ e => e)) hl hd
theorem callF3 {f : Fnc} {n : Str} {p pos : Pos} {e e' e'' : Expr} {Q : Value → Shared → Prop} (r : Rd K sc env vs cs s) (hf : f ∈ K.fs)
    (h : ∀ a, HasFn K.mg s.heap f a → wpAny (model prog w) A (eval e env) (fun v s₁ => wpAny (model prog w) A (eval e' env) (fun v' s₂ => wpAny (model prog w) A (eval e'' env) (fun v'' s₃ => Keeps s s₃ ∧ wpAny (model prog w) A (call (.ref a) [v, v', v'']) Q E s₃) E s₂) E s₁) E s) (hn : f.name = n := by rfl)
    (hs : backTo pos (starEach [e, e', e''] env) = [(false, eval e env), (false, eval e' env), (false, eval e'' env)] := by rfl)
    (hl : sc.names.lookup n = some .globalImplicit := by kernel_rfl) (hd : (n == ("__debug__" : Str)) = false := by kernel_rfl) :
    wpAny (model prog w) A (eval (.Call (.Name n p) [e, e', e''] [] pos) env) Q E s :=
  callF r hf hn hs (fun a ha => args3 (wpAny_mono (h a ha) (fun _ _ h => wpAny_mono h (fun _ _ h => wpAny_mono h (fun _ _ h => ⟨rfl, h.1, h.2⟩) fun _ _ e => e) fun _ _ e => e) fun _ _ e => e)) hl hd

/-- a call of a built-in function by its name -/
theorem callB {n : Str} {id : String} {p pos : Pos} {es : List Expr} {l : List (Bool × Sem Value)} {Q : Value → Shared → Prop} (r : Rd K sc env vs cs s) (hm : K.mg n = none) (hb : K.mb n = some (.builtin id))
    (hs : backTo pos (starEach es env) = l) (hpl : l.any (·.1) = false)
    (h : wpAny (model prog w) A (evalArgs (.builtin id) true l []) (fun x s₁ => x.kw = [] ∧ wpAny (model prog w) A (call (.builtin id) x.pos) Q E s₁) E s)
    (hl : sc.names.lookup n = some .globalImplicit := by kernel_rfl) (hd : (n == ("__debug__" : Str)) = false := by kernel_rfl) :
    wpAny (model prog w) A (eval (.Call (.Name n p) es [] pos) env) Q E s := by
  show wpAny (model prog w) A (do callWith pos (← eval (.Name n p) env) [] (backTo pos (starEach es env)) (backToKw pos (keywordEach [] env))) Q E s
  refine wpAny_bind (ldb r hm hb ?_ hl hd)
  rw [hs]
  refine Calls.callWith_builtin hpl (wpAny_mono h (fun x s₁ h₁ => ?_) fun _ _ e => e)
  obtain ⟨hk, hc⟩ := h₁
  rw [hk]; exact hc
theorem callB1 {n : Str} {id : String} {p pos : Pos} {e : Expr} {Q : Value → Shared → Prop} (r : Rd K sc env vs cs s) (hm : K.mg n = none) (hb : K.mb n = some (.builtin id))
    (h : wpAny (model prog w) A (eval e env) (fun v s₁ => wpAny (model prog w) A (call (.builtin id) [v]) Q E s₁) E s)
    (hs : backTo pos (starEach [e] env) = [(false, eval e env)] := by rfl)
    (hl : sc.names.lookup n = some .globalImplicit := by kernel_rfl) (hd : (n == ("__debug__" : Str)) = false := by kernel_rfl) :
    wpAny (model prog w) A (eval (.Call (.Name n p) [e] [] pos) env) Q E s :=
  callB r hm hb hs rfl (args1 (wpAny_mono h (fun _ _ h => ⟨rfl, h⟩) fun _ _ e => e)) hl hd
theorem callB2 {n : Str} {id : String} {p pos : Pos} {e e' : Expr} {Q : Value → Shared → Prop} (r : Rd K sc env vs cs s) (hm : K.mg n = none) (hb : K.mb n = some (.builtin id))
    (h : wpAny (model prog w) A (eval e env) (fun v s₁ => wpAny (model prog w) A (eval e' env) (fun v' s₂ => wpAny (model prog w) A (call (.builtin id) [v, v']) Q E s₂) E s₁) E s)
    (hs : backTo pos (starEach [e, e'] env) = [(false, eval e env), (false, eval e' env)] := by rfl)
    (hl : sc.names.lookup n = some .globalImplicit := by kernel_rfl) (hd : (n == ("__debug__" : Str)) = false := by kernel_rfl) :
    wpAny (model prog w) A (eval (.Call (.Name n p) [e, e'] [] pos) env) Q E s :=
  callB r hm hb hs rfl (args2 (wpAny_mono h (fun _ _ h => wpAny_mono h (fun _ _ h => ⟨rfl, h⟩) fun _ _ e => e) fun _ _ e => e)) hl hd
theorem callB3 {n : Str} {id : String} {p pos : Pos} {e e' e'' : Expr} {Q : Value → Shared → Prop} (r : Rd K sc env vs cs s) (hm : K.mg n = none) (hb : K.mb n = some (.builtin id))
    (h : wpAny (model prog w) A (eval e env) (fun v s₁ => wpAny (model prog w) A (eval e' env) (fun v' s₂ => wpAny (model prog w) A (eval e'' env) (fun v'' s₃ => wpAny (model prog w) A (call (.builtin id) [v, v', v'']) Q E s₃) E s₂) E s₁) E s)
    (hs : backTo pos (starEach [e, e', e''] env) = [(false, eval e env), (false, eval e' env), (false, eval e'' env)] := by rfl)
    (hl : sc.names.lookup n = some .globalImplicit := by kernel_rfl) (hd : (n == ("__debug__" : Str)) = false := by kernel_rfl) :
    wpAny (model prog w) A (eval (.Call (.Name n p) [e, e', e''] [] pos) env) Q E s :=
  callB r hm hb hs rfl (args3 (wpAny_mono h (fun _ _ h => wpAny_mono h (fun _ _ h => wpAny_mono h (fun _ _ h => ⟨rfl, h⟩) fun _ _ e => e) fun _ _ e => e) fun _ _ e => e)) hl hd

/-- a call of a built-in type by its name -/
theorem callT1 {n : Str} {T : String} {p pos : Pos} {e : Expr} {Q : Value → Shared → Prop} (r : Rd K sc env vs cs s) (hm : K.mg n = none) (hb : K.mb n = some (.type T))
    (h : wpAny (model prog w) A (eval e env) (fun v s₁ => wpAny (model prog w) A (call (.type T) [v]) Q E s₁) E s)
    (hs : backTo pos (starEach [e] env) = [(false, eval e env)] := by rfl)
    (hl : sc.names.lookup n = some .globalImplicit := by kernel_rfl) (hd : (n == ("__debug__" : Str)) = false := by kernel_rfl) :
    wpAny (model prog w) A (eval (.Call (.Name n p) [e] [] pos) env) Q E s := by
  show wpAny (model prog w) A (do callWith pos (← eval (.Name n p) env) [] (backTo pos (starEach [e] env)) (backToKw pos (keywordEach [] env))) Q E s
  refine wpAny_bind (ldb r hm hb ?_ hl hd)
  rw [hs]
  exact PySem.callWith_type rfl (args1 h)
theorem callT2 {n : Str} {T : String} {p pos : Pos} {e e' : Expr} {Q : Value → Shared → Prop} (r : Rd K sc env vs cs s) (hm : K.mg n = none) (hb : K.mb n = some (.type T))
    (h : wpAny (model prog w) A (eval e env) (fun v s₁ => wpAny (model prog w) A (eval e' env) (fun v' s₂ => wpAny (model prog w) A (call (.type T) [v, v']) Q E s₂) E s₁) E s)
    (hs : backTo pos (starEach [e, e'] env) = [(false, eval e env), (false, eval e' env)] := by rfl)
    (hl : sc.names.lookup n = some .globalImplicit := by kernel_rfl) (hd : (n == ("__debug__" : Str)) = false := by kernel_rfl) :
    wpAny (model prog w) A (eval (.Call (.Name n p) [e, e'] [] pos) env) Q E s := by
  show wpAny (model prog w) A (do callWith pos (← eval (.Name n p) env) [] (backTo pos (starEach [e, e'] env)) (backToKw pos (keywordEach [] env))) Q E s
  refine wpAny_bind (ldb r hm hb ?_ hl hd)
  rw [hs]
  exact PySem.callWith_type rfl (args2 h)
end
end R
end Mine
end
section
open PySem PySem.W PyProof.Rows
set_option Elab.async false
set_option maxRecDepth 100000
set_option linter.unusedVariables false
namespace Mine
variable {K : Cx} {prog : Program} {w : World} {A : Around} {E : Value → Shared → Prop} {s : Shared}
noncomputable def fLt (a b : UInt64) : Bool := Float64.cmp a b == some Ordering.lt
noncomputable def fLe (a b : UInt64) : Bool := Float64.cmp a b == some Ordering.lt || Float64.cmp a b == some Ordering.eq
noncomputable def fEq (a b : UInt64) : Bool := Float64.cmp a b == some Ordering.eq
noncomputable def tupO (vs : List Value) : Obj := { cls := .type "tuple", data := .seq vs.toArray }
noncomputable def lstO (vs : List Value) (n : Nat) : Obj := { cls := .type "list", data := .seq vs.toArray n }
noncomputable def mx (a b : UInt64) : UInt64 := if fLt a b then b else a
noncomputable def mn (a b : UInt64) : UInt64 := if fLt b a then b else a
theorem kp_push {s : Shared} (o : Obj) : Keeps s { s with heap := s.heap.push o } := ⟨_, _, rfl, fun _ _ e => Heap.get?_push_of_some _ e⟩
theorem isTup {h : Heap} {a : Addr} {vs : List Value} (e : h.get? a = some (tupO vs)) : h.IsTuple a vs.toArray := ⟨_, e, rfl, 0, rfl⟩
theorem best3 (bt : Nat → Nat → Bool) : argBest bt 2 = if bt 2 (if bt 1 0 then 1 else 0) then 2 else if bt 1 0 then 1 else 0 := rfl
theorem fin_ {s₀ s₁ s' : Shared} {v : Value} {Q : Value → Shared → Prop} (k0 : Keeps s₀ s₁) (k : Keeps s₁ s') (q : Keeps s₀ s' → Q v s') : ∃ v', Flow.ret v = Flow.ret v' ∧ Q v' s' := ⟨_, rfl, q (kp_trans k0 k)⟩
theorem br {α : Type} {b : Bool} {p q : α} (e : b = true) : (if b = true then p else q) = p := if_pos e
theorem br' {α : Type} {b : Bool} {p q : α} (e : b = false) : (if b = true then p else q) = q := if_neg (by rw [e]; exact Bool.false_ne_true)
theorem fresh_back {s s₁ : Shared} (k : Keeps s s₁) {D : Addr} (hD : s₁.heap.get? D = none) : s.heap.get? D = none := by
  cases e : s.heap.get? D with
  | none => rfl
  | some o => rw [kp_get k e] at hD; cases hD

theorem isLst {h : Heap} {a : Addr} {vs : List Value} {n : Nat} (e : h.get? a = some (lstO vs n)) : h.IsList a vs.toArray := ⟨_, e, rfl, n, rfl⟩

/-- an item of a list -/
theorem itemL {a : Addr} {vs : List Value} {n : Nat} {k : Int} {t : Tok} {x : Value} {Q : Value → Shared → Prop} (ho : s.heap.get? a = some (lstO vs n)) (h0 : 0 ≤ k) (hk : k < 2 ^ 63) (hx : vs[k.toNat]? = some x) (h : Q x s) :
    ItemOn (model prog w) A E (.ref a) (.int k t) Q s :=
  ⟨"list", _, slot_list_getitem.lookup, (isLst ho).typeIs, wpAny_getItem_list (isLst ho) h0 hk (by simpa using hx) h⟩

/-- the written ints of a display -/
noncomputable def intsOf : List Expr → Option (List Int)
  | [] => some []
  | .Constant (.int i) _ _ :: r => (intsOf r).map (i :: ·)
  | _ => none
theorem intsOf_cons {e : Expr} {r : List Expr} {ns : List Int} (h : intsOf (e :: r) = some ns) : ∃ i k p ns', e = .Constant (.int i) k p ∧ intsOf r = some ns' ∧ ns = i :: ns' := by
  unfold intsOf at h
  split at h
  · cases ‹_ :: _ = []›
  · rename_i i k p r' e
    cases e
    obtain ⟨ns', h', rfl⟩ := Option.map_eq_some_iff.mp h
    exact ⟨i, k, p, ns', rfl, h', rfl⟩
  · cases h
theorem ints_get : ∀ {vs : List Value} {ns : List Int}, IntsAre vs ns → ∀ {i : Nat} {k : Int}, ns[i]? = some k → ∃ t, vs[i]? = some (.int k t)
  | _, _, .cons n t h, 0, k, e => by simp at e; subst e; exact ⟨t, rfl⟩
  | _, _, .cons n t h, i + 1, k, e => by simp at e; obtain ⟨u, hu⟩ := ints_get h e; exact ⟨u, by simpa using hu⟩
theorem ints_app : ∀ {vs ws : List Value} {ns ms : List Int}, IntsAre vs ns → IntsAre ws ms → IntsAre (vs ++ ws) (ns ++ ms)
  | _, _, _, _, .nil, h => h
  | _, _, _, _, .cons n t h, h' => .cons n t (ints_app h h')
theorem ints_of_items (f : Nat → Int) (n : Nat) (vs : List Value) : vs.length = n → (∀ (j : Nat) (v : Value), vs[j]? = some v → ∃ t, v = Value.int (f j) t) → IntsAre vs ((List.range n).map f) := by
  induction vs generalizing n f with
  | nil => intro h _; simp at h; subst h; exact .nil
  | cons v vs ih =>
    intro h hv
    cases n with
    | zero => simp at h
    | succ n =>
      obtain ⟨t, rfl⟩ := hv 0 v rfl
      rw [List.range_succ_eq_map, List.map_cons, List.map_map]
      exact .cons _ t (ih (f ∘ Nat.succ) n (by simpa using h) fun j u e => hv (j + 1) u (by simpa using e))

namespace R
theorem cflt {env : Env} {x k pos} {Q : Value → Shared → Prop} (h : ∀ s' t, Keeps s s' → Q (.float x t) s') : wpAny (model prog w) A (eval (.Constant (.float x) k pos) env) Q E s :=
  PySem.AutoFloatOps.wpAny_Constant_float (h _ _ (kp_tok _))
theorem cint {env : Env} {x k pos} {Q : Value → Shared → Prop} (h : ∀ s' t, Keeps s s' → Q (.int x t) s') : wpAny (model prog w) A (eval (.Constant (.int x) k pos) env) Q E s :=
  wpAny_Constant_int (h _ _ (kp_tok _))
theorem cstr {env : Env} {x k pos} {Q : Value → Shared → Prop} (h : ∀ s' t, Keeps s s' → Q (.str x t) s') : wpAny (model prog w) A (eval (.Constant (.str x) k pos) env) Q E s :=
  wpAny_Constant_str (h _ _ (kp_tok _))
section
variable {a b : UInt64} {t u : Tok} {Q : Value → Shared → Prop}
theorem fadd (h : ∀ s' t, Keeps s s' → Q (.float (Float64.add a b) t) s') : wpAny (model prog w) A (binaryOp .Add (.float a t) (.float b u)) Q E s := add_float (h _ _ (kp_tok _))
theorem fsub (h : ∀ s' t, Keeps s s' → Q (.float (Float64.sub a b) t) s') : wpAny (model prog w) A (binaryOp .Sub (.float a t) (.float b u)) Q E s := sub_float (h _ _ (kp_tok _))
theorem fmul (h : ∀ s' t, Keeps s s' → Q (.float (Float64.mul a b) t) s') : wpAny (model prog w) A (binaryOp .Mult (.float a t) (.float b u)) Q E s := mul_float (h _ _ (kp_tok _))
theorem fdiv (hz : ¬ Float64.isZero b = true) (h : ∀ s' t, Keeps s s' → Q (.float (Float64.div a b) t) s') : wpAny (model prog w) A (binaryOp .Div (.float a t) (.float b u)) Q E s := PySem.AutoFloatOps.truediv_1 hz (h _ _ (kp_tok _))
theorem fmod (hz : ¬ Float64.isZero b = true) (h : ∀ s' t, Keeps s s' → Q (.float (Float64.divmod a b).snd t) s') : wpAny (model prog w) A (binaryOp .Mod (.float a t) (.float b u)) Q E s := PySem.AutoFloatOps.mod_1 hz (h _ _ (kp_tok _))
end
section
variable {sc : Scope} {env : Env} {l r : Expr} {op : CmpOp} {body orelse : List Stmt} {pos pos' : Pos} {Q : Flow → Shared → Prop}
/-- if l op r: body else: orelse -/
theorem ifCmp (h : wpAny (model prog w) A (eval l env) (fun a s₁ => wpAny (model prog w) A (eval r env) (fun b s₂ => wpAny (model prog w) A (compareOp op a b)
      (fun c s₃ => ∃ b, c = .bool b ∧ (b = true → wpAny (model prog w) A (execs body env) Q E s₃) ∧ (b = false → wpAny (model prog w) A (execs orelse env) Q E s₃)) E s₂) E s₁) E s)
    (hm : behindInMarks op r = false := by with_unfolding_all rfl) : wpAny (model prog w) A (exec (.If (.Compare l [op] [r] pos) body orelse pos') env) Q E s :=
  wpAny_If (wpAny_isTrue_Compare1 (wpAny_mono h (fun _ _ h => wpAny_mono h (fun _ _ h => wpAny_mono h (fun c s₃ h => by obtain ⟨b, rfl, h1, h2⟩ := h; exact wpAny_truthy_bool (by cases b; exact h2 rfl; exact h1 rfl)) fun _ _ e => e) fun _ _ e => e) fun _ _ e => e) hm)
end

/-- max of three floats -/
theorem max3 {a b c : UInt64} {t u x : Tok} {Q : Value → Shared → Prop} (hh : A.handled = none) (h : ∀ s' t, Keeps s s' → Q (.float (mx (mx a b) c) t) s') :
    wpAny (model prog w) A (call (.builtin "max") [.float a t, .float b u, .float c x]) Q E s := by
  have hT : (s.heap.push { cls := .type "tuple", data := .seq #[.float a t, .float b u, .float c x] }).IsTuple s.heap.objs.size #[.float a t, .float b u, .float c x] := ⟨_, Heap.get?_push_size _ rfl, rfl, 0, rfl⟩
  refine call_max_three (wpAny_pyIter_tuple hT ?_)
  have hsz : (s.heap.push { cls := .type "tuple", data := .seq #[.float a t, .float b u, .float c x] }).objs.size = s.heap.objs.size + 1 := Heap.size_push ..
  refine ⟨_, [_, s.heap.objs.size], [_], _, _, _, _, rfl, Walks.tuple (A := A.in1) hh _ s.heap.objs.size (by rw [hsz]; exact Nat.ne_of_lt (Nat.lt_succ_self _)) #[.float a t, .float b u, .float c x],
    ⟨⟨_, Heap.get?_push_size _ rfl, rfl, rfl⟩, hT.push _⟩, fun d hd => ?_, by simp, PySem.Flt.cmpOf_gt #[.float a t, .float b u, .float c x] (by simp [PySem.Flt.NumV.float]), fun v h' tk hP hk => ?_⟩
  · show d < ((s.heap.push _).push _).objs.size
    rw [Heap.size_push, hsz]
    rcases List.mem_cons.mp hd with rfl | hd
    · rw [hsz]; exact Nat.lt_succ_self _
    · rcases List.mem_cons.mp hd with rfl | hd
      · exact Nat.lt_succ_of_lt (Nat.lt_succ_self _)
      · cases hd
  · have hold : ∀ d o, s.heap.get? d = some o → h'.get? d = some o := fun d o e => by
      refine hk d o (fun hm => ?_) (Heap.get?_push_of_some _ (Heap.get?_push_of_some _ e))
      rcases List.mem_cons.mp hm with e1 | hm
      · have := Heap.lt_size e; rw [e1, hsz] at this; exact Nat.lt_irrefl _ (Nat.lt_of_succ_lt this)
      · cases hm
    have hv : ∃ t', v = Value.float (mx (mx a b) c) t' := by
      simp only [List.size_toArray, List.length_cons, List.length_nil, Nat.zero_add, Nat.reduceAdd, Nat.reduceSub] at hP
      rw [best3] at hP
      unfold mx fLt
      by_cases h1 : Float64.cmp a b = some Ordering.lt <;> by_cases h2 : Float64.cmp a c = some Ordering.lt <;> by_cases h3 : Float64.cmp b c = some Ordering.lt <;>
        simp [PySem.Flt.ltV, h1, h2, h3] at hP ⊢ <;> exact ⟨_, hP.symm⟩
    obtain ⟨t', rfl⟩ := hv
    exact h _ _ ⟨h', tk, rfl, hold⟩
theorem min3 {a b c : UInt64} {t u x : Tok} {Q : Value → Shared → Prop} (hh : A.handled = none) (h : ∀ s' t, Keeps s s' → Q (.float (mn (mn a b) c) t) s') :
    wpAny (model prog w) A (call (.builtin "min") [.float a t, .float b u, .float c x]) Q E s := by
  have hT : (s.heap.push { cls := .type "tuple", data := .seq #[.float a t, .float b u, .float c x] }).IsTuple s.heap.objs.size #[.float a t, .float b u, .float c x] := ⟨_, Heap.get?_push_size _ rfl, rfl, 0, rfl⟩
  refine call_min_three (wpAny_pyIter_tuple hT ?_)
  have hsz : (s.heap.push { cls := .type "tuple", data := .seq #[.float a t, .float b u, .float c x] }).objs.size = s.heap.objs.size + 1 := Heap.size_push ..
  refine ⟨_, [_, s.heap.objs.size], [_], _, _, _, _, rfl, Walks.tuple (A := A.in1) hh _ s.heap.objs.size (by rw [hsz]; exact Nat.ne_of_lt (Nat.lt_succ_self _)) #[.float a t, .float b u, .float c x],
    ⟨⟨_, Heap.get?_push_size _ rfl, rfl, rfl⟩, hT.push _⟩, fun d hd => ?_, by simp, PySem.Flt.cmpOf_lt #[.float a t, .float b u, .float c x] (by simp [PySem.Flt.NumV.float]), fun v h' tk hP hk => ?_⟩
  · show d < ((s.heap.push _).push _).objs.size
    rw [Heap.size_push, hsz]
    rcases List.mem_cons.mp hd with rfl | hd
    · rw [hsz]; exact Nat.lt_succ_self _
    · rcases List.mem_cons.mp hd with rfl | hd
      · exact Nat.lt_succ_of_lt (Nat.lt_succ_self _)
      · cases hd
  · have hold : ∀ d o, s.heap.get? d = some o → h'.get? d = some o := fun d o e => by
      refine hk d o (fun hm => ?_) (Heap.get?_push_of_some _ (Heap.get?_push_of_some _ e))
      rcases List.mem_cons.mp hm with e1 | hm
      · have := Heap.lt_size e; rw [e1, hsz] at this; exact Nat.lt_irrefl _ (Nat.lt_of_succ_lt this)
      · cases hm
    have hv : ∃ t', v = Value.float (mn (mn a b) c) t' := by
      simp only [List.size_toArray, List.length_cons, List.length_nil, Nat.zero_add, Nat.reduceAdd, Nat.reduceSub] at hP
      rw [best3] at hP
      unfold mn fLt
      by_cases h1 : Float64.cmp b a = some Ordering.lt <;> by_cases h2 : Float64.cmp c a = some Ordering.lt <;> by_cases h3 : Float64.cmp c b = some Ordering.lt <;>
        simp [PySem.Flt.ltV, h1, h2, h3] at hP ⊢ <;> exact ⟨_, hP.symm⟩
    obtain ⟨t', rfl⟩ := hv
    exact h _ _ ⟨h', tk, rfl, hold⟩
/-- max of a tuple of three floats -/
theorem maxT3 {a b c : UInt64} {t u x : Tok} {T : Addr} {Q : Value → Shared → Prop} (hh : A.handled = none) (hT : s.heap.get? T = some (tupO [.float a t, .float b u, .float c x])) (h : ∀ s' t, Keeps s s' → Q (.float (mx (mx a b) c) t) s') :
    wpAny (model prog w) A (call (.builtin "max") [.ref T]) Q E s := by
  have hT' := isTup hT
  refine call_max_walk (wpAny_pyIter_tuple hT' ?_)
  have hTl : T < s.heap.objs.size := Heap.lt_size hT
  refine ⟨_, [_, T], [_], _, _, _, _, rfl, Walks.tuple (A := A.in1) hh _ T (Nat.ne_of_lt hTl) #[.float a t, .float b u, .float c x],
    ⟨⟨_, Heap.get?_push_size _ rfl, rfl, rfl⟩, hT'.push _⟩, fun d hd => ?_, by simp, PySem.Flt.cmpOf_gt #[.float a t, .float b u, .float c x] (by simp [PySem.Flt.NumV.float]), fun v h' tk hP hk => ?_⟩
  · show d < (s.heap.push _).objs.size
    rw [Heap.size_push]
    rcases List.mem_cons.mp hd with rfl | hd
    · exact Nat.lt_succ_self _
    · rcases List.mem_cons.mp hd with rfl | hd
      · exact Nat.lt_succ_of_lt hTl
      · cases hd
  · have hold : ∀ d o, s.heap.get? d = some o → h'.get? d = some o := fun d o e => by
      refine hk d o (fun hm => ?_) (Heap.get?_push_of_some _ e)
      rcases List.mem_cons.mp hm with e1 | hm
      · have := Heap.lt_size e; rw [e1] at this; exact Nat.lt_irrefl _ this
      · cases hm
    have hv : ∃ t', v = Value.float (mx (mx a b) c) t' := by
      simp only [List.size_toArray, List.length_cons, List.length_nil, Nat.zero_add, Nat.reduceAdd, Nat.reduceSub] at hP
      rw [best3] at hP
      unfold mx fLt
      by_cases h1 : Float64.cmp a b = some Ordering.lt <;> by_cases h2 : Float64.cmp a c = some Ordering.lt <;> by_cases h3 : Float64.cmp b c = some Ordering.lt <;>
        simp [PySem.Flt.ltV, h1, h2, h3] at hP ⊢ <;> exact ⟨_, hP.symm⟩
    obtain ⟨t', rfl⟩ := hv
    exact h _ _ ⟨h', tk, rfl, hold⟩

section
variable {env : Env} {pos : Pos} {k : Nat} {e1 e2 e3 : Expr} {Q : Value → Shared → Prop}
/-- a tuple of three -/
theorem tup3 (h : wpAny (model prog w) A (eval e1 env) (fun v1 s₁ => wpAny (model prog w) A (eval e2 env) (fun v2 s₂ => wpAny (model prog w) A (eval e3 env) (fun v3 s₃ =>
      ∀ s' D, Keeps s₃ s' → s₃.heap.get? D = none → s'.heap.get? D = some (tupO [v1, v2, v3]) → Q (.ref D) s') E s₂) E s₁) E s)
    (hs : backTo pos (starEach [e1, e2, e3] env) = [(false, eval e1 env), (false, eval e2 env), (false, eval e3 env)] := by rfl) : wpAny (model prog w) A (eval (.Tuple [e1, e2, e3] k pos) env) Q E s := by
  refine wpAny_Tuple ?_
  rw [hs]
  refine Calls.spliced_cons (wpAny_mono h (fun v1 s₁ h => ?_) fun _ _ e => e)
  refine Calls.spliced_cons (wpAny_mono h (fun v2 s₂ h => ?_) fun _ _ e => e)
  refine Calls.spliced_cons (wpAny_mono h (fun v3 s₃ h => ?_) fun _ _ e => e)
  exact Calls.spliced_nil ⟨(by show 3 ≤ sizeLine; decide), h _ _ (kp_push _) (get_none_of_ge (Nat.le_refl _)) (Heap.get?_push_size _ rfl)⟩
end

/-- value[slice], the slice no written slice -/
theorem sub1 {env : Env} {value slice : Expr} {pos : Pos} {Q : Value → Shared → Prop}
    (h : wpAny (model prog w) A (eval value env) (fun o s₁ => wpAny (model prog w) A (eval slice env) (fun i s₂ => ItemOn (model prog w) A E o i Q s₂) E s₁) E s)
    (hsl : ∀ o i, subscripted slice false o i = operate [o, i] (getItem o i) := by intro _ _; rfl) : wpAny (model prog w) A (eval (.Subscript value slice pos) env) Q E s := by
  rw [eval_Subscript]
  refine wpAny_bind (wpAny_mono h (fun o s₁ h₁ => wpAny_bind (wpAny_holding (wpAny_mono h₁ (fun i s₂ h₂ => wpAny_bind (wpAny_standAt ?_)) fun _ _ x => x))) fun _ _ x => x)
  obtain ⟨T, id, hl, hT, hg⟩ := h₂
  refine wpAny_bind ?_
  rw [getitemInPython_of_ne hT.not_modules]
  refine wpAny_bind (wpAny_specialOf hT hl ?_)
  refine wpAny_pure (wpAny_bind ?_)
  rw [hsl]
  exact wpAny_operating (wpAny_mono hg (fun r s₃ h₃ => wpAny_bind (wpAny_letTemporaryGo (wpAny_pure h₃))) fun _ _ x => x)
section
variable {a b : Int} {t u : Tok} {Q : Value → Shared → Prop}
theorem iadd (h : ∀ s' t, Keeps s s' → Q (.int (a + b) t) s') : wpAny (model prog w) A (binaryOp .Add (.int a t) (.int b u)) Q E s := P.add_int (h _ _ (kp_tok _))
theorem isub (h : ∀ s' t, Keeps s s' → Q (.int (a - b) t) s') : wpAny (model prog w) A (binaryOp .Sub (.int a t) (.int b u)) Q E s := P.sub_int (h _ _ (kp_tok _))
theorem imul (hm : IntMulOk a b) (h : ∀ s' t, Keeps s s' → Q (.int (a * b) t) s') : wpAny (model prog w) A (binaryOp .Mult (.int a t) (.int b u)) Q E s := P.mul_int (h _ _ (kp_tok _)) hm
theorem imod (hb : b ≠ 0) (h : ∀ s' t, Keeps s s' → Q (.int (a.fmod b) t) s') : wpAny (model prog w) A (binaryOp .Mod (.int a t) (.int b u)) Q E s := mod_int' hb (h _ _ (kp_tok _))
theorem idiv (hb : b ≠ 0) (hs : b.natAbs < 1073741824) (h : ∀ s' t, Keeps s s' → Q (.int (a.fdiv b) t) s') : wpAny (model prog w) A (binaryOp .FloorDiv (.int a t) (.int b u)) Q E s :=
  floordiv_int hb (h _ _ (kp_tok _)) (.inl (PyProof.noPylong_small hs))
theorem sadd {x y : Str} (hsz : x.length + y.length ≤ sizeLine) (h : ∀ s' t, Keeps s s' → Q (.str (x ++ y) t) s') : wpAny (model prog w) A (binaryOp .Add (.str x t) (.str y u)) Q E s := SB.add (fun _ _ => h _ _ (kp_tok _)) hsz
end

theorem ints_spliced {env : Env} {pos : Pos} (es : List Expr) : ∀ (ns : List Int) (s : Shared) (Q : List Value → Shared → Prop), intsOf es = some ns → (∀ vs s', IntsAre vs ns → Keeps s s' → Q vs s') →
    wpAny (model prog w) A (spliced (backTo pos (starEach es env))) Q E s := by
  induction es with
  | nil => intro ns s Q h hQ; cases h; exact Calls.spliced_nil (hQ _ _ .nil kp_rfl)
  | cons e r ih =>
    intro ns s Q h hQ
    obtain ⟨i, k, p, ns', rfl, h', rfl⟩ := intsOf_cons h
    show wpAny _ _ (spliced ((false, eval (.Constant (.int i) k p) env) :: backTo pos (starEach r env))) _ _ _
    exact Calls.spliced_cons (cint fun s₁ t k₁ => ih ns' s₁ _ h' fun vs s' hv k' => hQ _ _ (.cons i t hv) (kp_trans k₁ k'))
/-- a list display of written ints -/
theorem listI {env : Env} {es : List Expr} {pos : Pos} {Q : Value → Shared → Prop} (ns : List Int) (hn : intsOf es = some ns) (hl : ns.length ≤ sizeLine)
    (h : ∀ s' D vs, Keeps s s' → s.heap.get? D = none → IntsAre vs ns → s'.heap.get? D = some (lstO vs 0) → Q (.ref D) s') : wpAny (model prog w) A (eval (.List es pos) env) Q E s := by
  refine wpAny_List (ints_spliced es ns s _ hn fun vs s' hv k => ⟨by rw [IntsAre.length hv]; exact hl, ?_⟩)
  exact h _ _ _ (kp_trans k (kp_push _)) (fresh_back k (get_none_of_ge (Nat.le_refl _))) hv (Heap.get?_push_size _ rfl)
/-- list + list -/
theorem addL {a b : Addr} {vs ws : List Value} {n m : Nat} {Q : Value → Shared → Prop} (ha : s.heap.get? a = some (lstO vs n)) (hb : s.heap.get? b = some (lstO ws m)) (hsz : vs.length + ws.length ≤ sizeLine)
    (h : ∀ s' D, Keeps s s' → s.heap.get? D = none → s'.heap.get? D = some (lstO (vs ++ ws) 0) → Q (.ref D) s') : wpAny (model prog w) A (binaryOp .Add (.ref a) (.ref b)) Q E s := by
  refine P.add_list (items := vs.toArray) (items2 := ws.toArray) ha hb (h _ _ (kp_push _) (get_none_of_ge (Nat.le_refl _)) ?_) (by simpa using hsz)
  rw [Heap.get?_push_size _ rfl]; simp [lstO]
/-- list(range(a, b)) of small written ends -/
theorem listRange {r : Addr} {a b : Int} {t u v : Tok} {n : Nat} {Q : Value → Shared → Prop} (hh : A.handled = none) (hr : IsRange s.heap r a b 1 t u v) (hsmall : Builtin.Range.small a b 1 = true) (hn : Builtin.Range.rangeSize a b 1 = n) (hlen : n ≤ 2 ^ 24)
    (h : ∀ s' D vs c, Keeps s s' → s.heap.get? D = none → IntsAre vs ((List.range n).map fun (i : Nat) => a + (i : Int)) → s'.heap.get? D = some (lstO vs c) → Q (.ref D) s') : wpAny (model prog w) A (call (.type "list") [.ref r]) Q E s := by
  refine call_list_range hh hr hsmall hn hlen fun h' tk acc' c' hk hD hi => ?_
  refine h _ _ acc'.toList c' ⟨h', tk, rfl, hk⟩ (get_none_of_ge (Nat.le_refl _)) ?_ (by rw [hD]; simp [lstO])
  refine ints_of_items (fun i => a + (i : Int)) n _ (by simpa using hi.1) fun j v e => ?_
  obtain ⟨t, rfl⟩ := hi.2 j v (by simpa using e)
  exact ⟨t, by rw [Int.mul_one]⟩
theorem range2 {a b : Int} {t u : Tok} {Q : Value → Shared → Prop} (h : ∀ s' D t' u' v', Keeps s s' → s.heap.get? D = none → IsRange s'.heap D a b 1 t' u' v' → Q (.ref D) s') : wpAny (model prog w) A (call (.type "range") [.int a t, .int b u]) Q E s :=
  call_range_2 (h _ _ _ _ _ ⟨_, _, rfl, fun _ _ e => Heap.get?_push_of_some _ e⟩ (get_none_of_ge (Nat.le_refl _)) (IsRange.new _ _ _ _ _ _ _))
theorem range1 {a : Int} {t : Tok} {Q : Value → Shared → Prop} (h : ∀ s' D t' u' v', Keeps s s' → s.heap.get? D = none → IsRange s'.heap D 0 a 1 t' u' v' → Q (.ref D) s') : wpAny (model prog w) A (call (.type "range") [.int a t]) Q E s :=
  call_range_1 (h _ _ _ _ _ ⟨_, _, rfl, fun _ _ e => Heap.get?_push_of_some _ e⟩ (get_none_of_ge (Nat.le_refl _)) (IsRange.new _ _ _ _ _ _ _))
/-- ord and chr -/
theorem ord1 {c : Nat} {t : Tok} {Q : Value → Shared → Prop} (h : ∀ s' t, Keeps s s' → Q (.int c t) s') : wpAny (model prog w) A (call (.builtin "ord") [.str ⟨#[c]⟩ t]) Q E s := PySem.P.ord_of_char (h _ _ (kp_tok _))
theorem chr1 {i : Int} {t : Tok} {Q : Value → Shared → Prop} (h0 : 0 ≤ i) (h1 : i ≤ 1114111) (h : ∀ s' t, Keeps s s' → Q (.str ⟨#[i.toNat]⟩ t) s') : wpAny (model prog w) A (call (.builtin "chr") [.int i t]) Q E s := chr_of_range h0 h1 (h _ _ (kp_tok _))
section
variable {env : Env} {l r : Expr} {op : Operator} {pos : Pos} {Q : Value → Shared → Prop}
theorem bin (h : wpAny (model prog w) A (eval l env) (fun a s₁ => wpAny (model prog w) A (eval r env) (fun b s₂ => wpAny (model prog w) A (binaryOp op a b) Q E s₂) E s₁) E s) : wpAny (model prog w) A (eval (.BinOp l op r pos) env) Q E s := wpAny_BinOp h
theorem cmp1 {op : CmpOp} (h : wpAny (model prog w) A (eval l env) (fun a s₁ => wpAny (model prog w) A (eval r env) (fun b s₂ => wpAny (model prog w) A (compareOp op a b) Q E s₂) E s₁) E s)
    (hm : behindInMarks op r = false := by with_unfolding_all rfl) : wpAny (model prog w) A (eval (.Compare l [op] [r] pos) env) Q E s := wpAny_Compare1 h hm
theorem un1 {op : UnaryOp} (h : wpAny (model prog w) A (eval l env) (fun a s₁ => wpAny (model prog w) A (unaryOp op a) Q E s₁) E s) : wpAny (model prog w) A (eval (.UnaryOp op l pos) env) Q E s := wpAny_UnaryOp h
end
section
variable {env : Env} {e : Expr} {st : Stmt} {rest : List Stmt} {pos : Pos} {Q : Flow → Shared → Prop}
theorem nil_ (h : Q .next s) : wpAny (model prog w) A (execs [] env) Q E s := wpAny_execs_nil h
theorem cons_ (h : wpAny (model prog w) A (exec st env) (fun f s' => match f with | .next => wpAny (model prog w) A (execs rest env) Q E s' | f => Q f s') E s) : wpAny (model prog w) A (execs (st :: rest) env) Q E s := wpAny_execs_cons h
theorem ret_ (h : wpAny (model prog w) A (eval e env) (fun v => Q (.ret v)) E s) : wpAny (model prog w) A (exec (.Return (some e) pos) env) Q E s := wpAny_Return_some h
end
section
variable {a b : UInt64} {t u : Tok} {Q : Value → Shared → Prop}
theorem flt (h : Q (.bool (fLt a b)) s) : wpAny (model prog w) A (compareOp .Lt (.float a t) (.float b u)) Q E s := PySem.AutoFloatOps.lt_0 h
theorem fle (h : Q (.bool (fLe a b)) s) : wpAny (model prog w) A (compareOp .LtE (.float a t) (.float b u)) Q E s := PySem.AutoFloatOps.le_0 h
theorem feq (h : Q (.bool (fEq a b)) s) : wpAny (model prog w) A (compareOp .Eq (.float a t) (.float b u)) Q E s := PySem.AutoFloatOps.eq_0 h
end
theorem mono_ {α : Type} {t : Sem α} {Q Q' : α → Shared → Prop} {E' : Value → Shared → Prop} (h : wpAny (model prog w) A t Q E s) (hQ : ∀ a s, Q a s → Q' a s) (hE : ∀ e s, E e s → E' e s) : wpAny (model prog w) A t Q' E' s := wpAny_mono h hQ hE
end R
end Mine
end
section
open PySem PySem.W PyProof.Rows
set_option Elab.async false
set_option maxRecDepth 100000
set_option linter.unusedVariables false
namespace Mine
variable {K : Cx}
section
variable {prog : Program} {w : World} {A : Around} {E : Value → Shared → Prop} {sc : Scope} {s₀ s : Shared} {env : Env} {vs cs : List (Str × Value)} {own : List (Addr × Obj)}
theorem ldv {n : Str} {pos : Pos} {v : Value} {Q : Value → Shared → Prop} (r : Rd K sc env vs cs s) (hv : vs.lookup n = some v) (h : Q v s)
    (hl : sc.names.lookup n = some .local := by kernel_rfl) (hd : (n == ("__debug__" : Str)) = false := by kernel_rfl) : Wp prog w A (eval (.Name n pos) env) Q E s := by
  unfold Wp at *
  exact R.ldv r hv h hl hd
theorem ldc {n : Str} {pos : Pos} {v : Value} {Q : Value → Shared → Prop} (r : Rd K sc env vs cs s) (hv : cs.lookup n = some v) (h : Q v s)
    (hl : sc.names.lookup n = some .cell := by kernel_rfl) (hd : (n == ("__debug__" : Str)) = false := by kernel_rfl) : Wp prog w A (eval (.Name n pos) env) Q E s := by
  unfold Wp at *
  exact R.ldc r hv h hl hd
theorem ldg {n : Str} {pos : Pos} {v : Value} {Q : Value → Shared → Prop} (r : Rd K sc env vs cs s) (hv : K.mg n = some v) (h : Q v s)
    (hl : sc.names.lookup n = some .globalImplicit := by kernel_rfl) (hd : (n == ("__debug__" : Str)) = false := by kernel_rfl) : Wp prog w A (eval (.Name n pos) env) Q E s := by
  unfold Wp at *
  exact R.ldg r hv h hl hd
theorem ldb {n : Str} {pos : Pos} {v : Value} {Q : Value → Shared → Prop} (r : Rd K sc env vs cs s) (hm : K.mg n = none) (hv : K.mb n = some v) (h : Q v s)
    (hl : sc.names.lookup n = some .globalImplicit := by kernel_rfl) (hd : (n == ("__debug__" : Str)) = false := by kernel_rfl) : Wp prog w A (eval (.Name n pos) env) Q E s := by
  unfold Wp at *
  exact R.ldb r hm hv h hl hd
theorem stv {n : Str} {v : Value} {Q : Unit → Shared → Prop} (x : St K sc s₀ env vs cs own s)
    (h : ∀ s', St K sc s₀ env ((n, v) :: vs) cs own s' → Q () s') (hl : sc.names.lookup n = some .local := by kernel_rfl) : Wp prog w A (storeName env n v) Q E s := by
  unfold Wp at *
  exact R.stv x h hl
theorem stc {n : Str} {v : Value} {Q : Unit → Shared → Prop} (x : St K sc s₀ env vs cs own s) (hc : (env.cells.lookup n).isSome = true)
    (h : ∀ s', St K sc s₀ env vs ((n, v) :: cs) own s' → Q () s') (hl : sc.names.lookup n = some .cell := by kernel_rfl) : Wp prog w A (storeName env n v) Q E s := by
  unfold Wp at *
  exact R.stc x hc h hl
theorem asg {n : Str} {p' pos : Pos} {value : Expr} {Q : Flow → Shared → Prop}
    (h : Wp prog w A (eval value env) (fun v s₁ => Wp prog w A (storeName env n v) (fun _ => Q .next) E s₁) E s)
    (hs : swapsWith value (some (.Name n p')) pos.line env = pure false := by rfl) : Wp prog w A (exec (.Assign [.Name n p'] value pos) env) Q E s := by
  unfold Wp at *
  exact R.asg h hs
theorem seq {st : Stmt} {rest : List Stmt} {Q : Flow → Shared → Prop} (h : Wp prog w A (exec st env) (fun f s' => f = .next ∧ Wp prog w A (execs rest env) Q E s') E s) :
    Wp prog w A (execs (st :: rest) env) Q E s := by
  unfold Wp at *
  exact R.seq h
theorem enter (ns : List Str) {f : Fnc} {a : Addr} {vals : List Value} {binds : List (Str × Value)} {Q : Value → Shared → Prop} (W : Wd K s.heap) (hf : HasFn K.mg s.heap f a) (hroom : A.depth < recursionLimit)
    (hbind : ∀ pm cd doc, bindArgs (Calls.docDef f.name f.params f.body f.scope pm cd doc) ⟨vals, []⟩ = pure binds)
    (hloc : ∀ x ∈ binds, f.scope.names.lookup x.1 = some .local)
    (h : ∀ env s₁, St K f.scope s env binds.reverse [] [] s₁ → Laids env ns →
      Wp prog w (A.deeper env) (execs f.body env) (fun fl s' => ∃ v, fl = .ret v ∧ Q v s') (fun _ _ => False) s₁)
    (hns : ∀ L, ∀ n ∈ ns, ((cellsFrom (L + 1) f.scope.names []).lookup n).isSome = true)
    (hco : f.scope.isCoroutine = false := by rfl) (hgen : f.scope.isGenerator = false := by rfl) (hk : f.scope.kind = .function := by rfl) :
    Wp prog w A (call (.ref a) vals) Q E s := by
  unfold Wp at *
  exact R.enter ns W hf hroom hbind hloc h hns hco hgen hk
end
section
variable {prog : Program} {w : World} {A : Around} {E : Value → Shared → Prop} {sc : Scope} {s₀ s : Shared} {env : Env} {vs cs : List (Str × Value)} {own : List (Addr × Obj)}
theorem args1 {f : Value} {t : Sem Value} {Q : Args → Shared → Prop} (h : Wp prog w A t (fun v s₁ => Q ⟨[v], []⟩ s₁) E s) : Wp prog w A (evalArgs f true [(false, t)] []) Q E s := by
  unfold Wp at *
  exact R.args1 h
theorem args2 {f : Value} {t u : Sem Value} {Q : Args → Shared → Prop} (h : Wp prog w A t (fun v s₁ => Wp prog w A u (fun v' s₂ => Q ⟨[v, v'], []⟩ s₂) E s₁) E s) :
    Wp prog w A (evalArgs f true [(false, t), (false, u)] []) Q E s := by
  unfold Wp at *
  exact R.args2 h
theorem args3 {f : Value} {t u y : Sem Value} {Q : Args → Shared → Prop} (h : Wp prog w A t (fun v s₁ => Wp prog w A u (fun v' s₂ => Wp prog w A y (fun v'' s₃ => Q ⟨[v, v', v''], []⟩ s₃) E s₂) E s₁) E s) :
    Wp prog w A (evalArgs f true [(false, t), (false, u), (false, y)] []) Q E s := by
  unfold Wp at *
  exact R.args3 h
theorem callF {f : Fnc} {n : Str} {p pos : Pos} {es : List Expr} {l : List (Bool × Sem Value)} {Q : Value → Shared → Prop} (r : Rd K sc env vs cs s) (hf : f ∈ K.fs) (hn : f.name = n)
    (hs : backTo pos (starEach es env) = l)
    (h : ∀ a, HasFn K.mg s.heap f a → Wp prog w A (evalArgs (.ref a) true l []) (fun x s₁ => x.kw = [] ∧ Keeps s s₁ ∧ Wp prog w A (call (.ref a) x.pos) Q E s₁) E s)
    (hl : sc.names.lookup n = some .globalImplicit := by kernel_rfl) (hd : (n == ("__debug__" : Str)) = false := by kernel_rfl) :
    Wp prog w A (eval (.Call (.Name n p) es [] pos) env) Q E s := by
  unfold Wp at *
  exact R.callF r hf hn hs h hl hd
theorem callF1 {f : Fnc} {n : Str} {p pos : Pos} {e : Expr} {Q : Value → Shared → Prop} (r : Rd K sc env vs cs s) (hf : f ∈ K.fs)
    (h : ∀ a, HasFn K.mg s.heap f a → Wp prog w A (eval e env) (fun v s₁ => Keeps s s₁ ∧ Wp prog w A (call (.ref a) [v]) Q E s₁) E s) (hn : f.name = n := by rfl)
    (hs : backTo pos (starEach [e] env) = [(false, eval e env)] := by rfl)
    (hl : sc.names.lookup n = some .globalImplicit := by kernel_rfl) (hd : (n == ("__debug__" : Str)) = false := by kernel_rfl) :
    Wp prog w A (eval (.Call (.Name n p) [e] [] pos) env) Q E s := by
  unfold Wp at *
  exact R.callF1 r hf h hn hs hl hd
theorem callF2 {f : Fnc} {n : Str} {p pos : Pos} {e e' : Expr} {Q : Value → Shared → Prop} (r : Rd K sc env vs cs s) (hf : f ∈ K.fs)
    (h : ∀ a, HasFn K.mg s.heap f a → Wp prog w A (eval e env) (fun v s₁ => Wp prog w A (eval e' env) (fun v' s₂ => Keeps s s₂ ∧ Wp prog w A (call (.ref a) [v, v']) Q E s₂) E s₁) E s) (hn : f.name = n := by rfl)
    (hs : backTo pos (starEach [e, e'] env) = [(false, eval e env), (false, eval e' env)] := by rfl)
    (hl : sc.names.lookup n = some .globalImplicit := by kernel_rfl) (hd : (n == ("__debug__" : Str)) = false := by kernel_rfl) :
    Wp prog w A (eval (.Call (.Name n p) [e, e'] [] pos) env) Q E s := by
  unfold Wp at *
  exact R.callF2 r hf h hn hs hl hd
theorem callF3 {f : Fnc} {n : Str} {p pos : Pos} {e e' e'' : Expr} {Q : Value → Shared → Prop} (r : Rd K sc env vs cs s) (hf : f ∈ K.fs)
    (h : ∀ a, HasFn K.mg s.heap f a → Wp prog w A (eval e env) (fun v s₁ => Wp prog w A (eval e' env) (fun v' s₂ => Wp prog w A (eval e'' env) (fun v'' s₃ => Keeps s s₃ ∧ Wp prog w A (call (.ref a) [v, v', v'']) Q E s₃) E s₂) E s₁) E s) (hn : f.name = n := by rfl)
    (hs : backTo pos (starEach [e, e', e''] env) = [(false, eval e env), (false, eval e' env), (false, eval e'' env)] := by rfl)
    (hl : sc.names.lookup n = some .globalImplicit := by kernel_rfl) (hd : (n == ("__debug__" : Str)) = false := by kernel_rfl) :
    Wp prog w A (eval (.Call (.Name n p) [e, e', e''] [] pos) env) Q E s := by
  unfold Wp at *
  exact R.callF3 r hf h hn hs hl hd
theorem callB {n : Str} {id : String} {p pos : Pos} {es : List Expr} {l : List (Bool × Sem Value)} {Q : Value → Shared → Prop} (r : Rd K sc env vs cs s) (hm : K.mg n = none) (hb : K.mb n = some (.builtin id))
    (hs : backTo pos (starEach es env) = l) (hpl : l.any (·.1) = false)
    (h : Wp prog w A (evalArgs (.builtin id) true l []) (fun x s₁ => x.kw = [] ∧ Wp prog w A (call (.builtin id) x.pos) Q E s₁) E s)
    (hl : sc.names.lookup n = some .globalImplicit := by kernel_rfl) (hd : (n == ("__debug__" : Str)) = false := by kernel_rfl) :
    Wp prog w A (eval (.Call (.Name n p) es [] pos) env) Q E s := by
  unfold Wp at *
  exact R.callB r hm hb hs hpl h hl hd
theorem callB1 {n : Str} {id : String} {p pos : Pos} {e : Expr} {Q : Value → Shared → Prop} (r : Rd K sc env vs cs s) (hm : K.mg n = none) (hb : K.mb n = some (.builtin id))
    (h : Wp prog w A (eval e env) (fun v s₁ => Wp prog w A (call (.builtin id) [v]) Q E s₁) E s)
    (hs : backTo pos (starEach [e] env) = [(false, eval e env)] := by rfl)
    (hl : sc.names.lookup n = some .globalImplicit := by kernel_rfl) (hd : (n == ("__debug__" : Str)) = false := by kernel_rfl) :
    Wp prog w A (eval (.Call (.Name n p) [e] [] pos) env) Q E s := by
  unfold Wp at *
  exact R.callB1 r hm hb h hs hl hd
theorem callB2 {n : Str} {id : String} {p pos : Pos} {e e' : Expr} {Q : Value → Shared → Prop} (r : Rd K sc env vs cs s) (hm : K.mg n = none) (hb : K.mb n = some (.builtin id))
    (h : Wp prog w A (eval e env) (fun v s₁ => Wp prog w A (eval e' env) (fun v' s₂ => Wp prog w A (call (.builtin id) [v, v']) Q E s₂) E s₁) E s)
    (hs : backTo pos (starEach [e, e'] env) = [(false, eval e env), (false, eval e' env)] := by rfl)
    (hl : sc.names.lookup n = some .globalImplicit := by kernel_rfl) (hd : (n == ("__debug__" : Str)) = false := by kernel_rfl) :
    Wp prog w A (eval (.Call (.Name n p) [e, e'] [] pos) env) Q E s := by
  unfold Wp at *
  exact R.callB2 r hm hb h hs hl hd
theorem callB3 {n : Str} {id : String} {p pos : Pos} {e e' e'' : Expr} {Q : Value → Shared → Prop} (r : Rd K sc env vs cs s) (hm : K.mg n = none) (hb : K.mb n = some (.builtin id))
    (h : Wp prog w A (eval e env) (fun v s₁ => Wp prog w A (eval e' env) (fun v' s₂ => Wp prog w A (eval e'' env) (fun v'' s₃ => Wp prog w A (call (.builtin id) [v, v', v'']) Q E s₃) E s₂) E s₁) E s)
    (hs : backTo pos (starEach [e, e', e''] env) = [(false, eval e env), (false, eval e' env), (false, eval e'' env)] := by rfl)
    (hl : sc.names.lookup n = some .globalImplicit := by kernel_rfl) (hd : (n == ("__debug__" : Str)) = false := by kernel_rfl) :
    Wp prog w A (eval (.Call (.Name n p) [e, e', e''] [] pos) env) Q E s := by
  unfold Wp at *
  exact R.callB3 r hm hb h hs hl hd
theorem callT1 {n : Str} {T : String} {p pos : Pos} {e : Expr} {Q : Value → Shared → Prop} (r : Rd K sc env vs cs s) (hm : K.mg n = none) (hb : K.mb n = some (.type T))
    (h : Wp prog w A (eval e env) (fun v s₁ => Wp prog w A (call (.type T) [v]) Q E s₁) E s)
    (hs : backTo pos (starEach [e] env) = [(false, eval e env)] := by rfl)
    (hl : sc.names.lookup n = some .globalImplicit := by kernel_rfl) (hd : (n == ("__debug__" : Str)) = false := by kernel_rfl) :
    Wp prog w A (eval (.Call (.Name n p) [e] [] pos) env) Q E s := by
  unfold Wp at *
  exact R.callT1 r hm hb h hs hl hd
theorem callT2 {n : Str} {T : String} {p pos : Pos} {e e' : Expr} {Q : Value → Shared → Prop} (r : Rd K sc env vs cs s) (hm : K.mg n = none) (hb : K.mb n = some (.type T))
    (h : Wp prog w A (eval e env) (fun v s₁ => Wp prog w A (eval e' env) (fun v' s₂ => Wp prog w A (call (.type T) [v, v']) Q E s₂) E s₁) E s)
    (hs : backTo pos (starEach [e, e'] env) = [(false, eval e env), (false, eval e' env)] := by rfl)
    (hl : sc.names.lookup n = some .globalImplicit := by kernel_rfl) (hd : (n == ("__debug__" : Str)) = false := by kernel_rfl) :
    Wp prog w A (eval (.Call (.Name n p) [e, e'] [] pos) env) Q E s := by
  unfold Wp at *
  exact R.callT2 r hm hb h hs hl hd
end
variable {K : Cx} {prog : Program} {w : World} {A : Around} {E : Value → Shared → Prop} {s : Shared}
theorem cflt {env : Env} {x k pos} {Q : Value → Shared → Prop} (h : ∀ s' t, Keeps s s' → Q (.float x t) s') : Wp prog w A (eval (.Constant (.float x) k pos) env) Q E s := by
  unfold Wp at *
  exact R.cflt h
theorem cint {env : Env} {x k pos} {Q : Value → Shared → Prop} (h : ∀ s' t, Keeps s s' → Q (.int x t) s') : Wp prog w A (eval (.Constant (.int x) k pos) env) Q E s := by
  unfold Wp at *
  exact R.cint h
theorem cstr {env : Env} {x k pos} {Q : Value → Shared → Prop} (h : ∀ s' t, Keeps s s' → Q (.str x t) s') : Wp prog w A (eval (.Constant (.str x) k pos) env) Q E s := by
  unfold Wp at *
  exact R.cstr h
section
variable {a b : UInt64} {t u : Tok} {Q : Value → Shared → Prop}
theorem fadd (h : ∀ s' t, Keeps s s' → Q (.float (Float64.add a b) t) s') : Wp prog w A (binaryOp .Add (.float a t) (.float b u)) Q E s := by
  unfold Wp at *
  exact R.fadd h
theorem fsub (h : ∀ s' t, Keeps s s' → Q (.float (Float64.sub a b) t) s') : Wp prog w A (binaryOp .Sub (.float a t) (.float b u)) Q E s := by
  unfold Wp at *
  exact R.fsub h
theorem fmul (h : ∀ s' t, Keeps s s' → Q (.float (Float64.mul a b) t) s') : Wp prog w A (binaryOp .Mult (.float a t) (.float b u)) Q E s := by
  unfold Wp at *
  exact R.fmul h
theorem fdiv (hz : ¬ Float64.isZero b = true) (h : ∀ s' t, Keeps s s' → Q (.float (Float64.div a b) t) s') : Wp prog w A (binaryOp .Div (.float a t) (.float b u)) Q E s := by
  unfold Wp at *
  exact R.fdiv hz h
theorem fmod (hz : ¬ Float64.isZero b = true) (h : ∀ s' t, Keeps s s' → Q (.float (Float64.divmod a b).snd t) s') : Wp prog w A (binaryOp .Mod (.float a t) (.float b u)) Q E s := by
  unfold Wp at *
  exact R.fmod hz h
end
section
variable {sc : Scope} {env : Env} {l r : Expr} {op : CmpOp} {body orelse : List Stmt} {pos pos' : Pos} {Q : Flow → Shared → Prop}
theorem ifCmp (h : Wp prog w A (eval l env) (fun a s₁ => Wp prog w A (eval r env) (fun b s₂ => Wp prog w A (compareOp op a b)
      (fun c s₃ => ∃ b, c = .bool b ∧ (b = true → Wp prog w A (execs body env) Q E s₃) ∧ (b = false → Wp prog w A (execs orelse env) Q E s₃)) E s₂) E s₁) E s)
    (hm : behindInMarks op r = false := by with_unfolding_all rfl) : Wp prog w A (exec (.If (.Compare l [op] [r] pos) body orelse pos') env) Q E s := by
  unfold Wp at *
  exact R.ifCmp h hm
end
theorem max3 {a b c : UInt64} {t u x : Tok} {Q : Value → Shared → Prop} (hh : A.handled = none) (h : ∀ s' t, Keeps s s' → Q (.float (mx (mx a b) c) t) s') :
    Wp prog w A (call (.builtin "max") [.float a t, .float b u, .float c x]) Q E s := by
  unfold Wp at *
  exact R.max3 hh h
theorem min3 {a b c : UInt64} {t u x : Tok} {Q : Value → Shared → Prop} (hh : A.handled = none) (h : ∀ s' t, Keeps s s' → Q (.float (mn (mn a b) c) t) s') :
    Wp prog w A (call (.builtin "min") [.float a t, .float b u, .float c x]) Q E s := by
  unfold Wp at *
  exact R.min3 hh h
theorem maxT3 {a b c : UInt64} {t u x : Tok} {T : Addr} {Q : Value → Shared → Prop} (hh : A.handled = none) (hT : s.heap.get? T = some (tupO [.float a t, .float b u, .float c x])) (h : ∀ s' t, Keeps s s' → Q (.float (mx (mx a b) c) t) s') :
    Wp prog w A (call (.builtin "max") [.ref T]) Q E s := by
  unfold Wp at *
  exact R.maxT3 hh hT h
section
variable {env : Env} {pos : Pos} {k : Nat} {e1 e2 e3 : Expr} {Q : Value → Shared → Prop}
theorem tup3 (h : Wp prog w A (eval e1 env) (fun v1 s₁ => Wp prog w A (eval e2 env) (fun v2 s₂ => Wp prog w A (eval e3 env) (fun v3 s₃ =>
      ∀ s' D, Keeps s₃ s' → s₃.heap.get? D = none → s'.heap.get? D = some (tupO [v1, v2, v3]) → Q (.ref D) s') E s₂) E s₁) E s)
    (hs : backTo pos (starEach [e1, e2, e3] env) = [(false, eval e1 env), (false, eval e2 env), (false, eval e3 env)] := by rfl) : Wp prog w A (eval (.Tuple [e1, e2, e3] k pos) env) Q E s := by
  unfold Wp at *
  exact R.tup3 h hs
end
theorem sub1 {env : Env} {value slice : Expr} {pos : Pos} {Q : Value → Shared → Prop}
    (h : Wp prog w A (eval value env) (fun o s₁ => Wp prog w A (eval slice env) (fun i s₂ => ItemOn (model prog w) A E o i Q s₂) E s₁) E s)
    (hsl : ∀ o i, subscripted slice false o i = operate [o, i] (getItem o i) := by intro _ _; rfl) : Wp prog w A (eval (.Subscript value slice pos) env) Q E s := by
  unfold Wp at *
  exact R.sub1 h hsl
section
variable {a b : Int} {t u : Tok} {Q : Value → Shared → Prop}
theorem iadd (h : ∀ s' t, Keeps s s' → Q (.int (a + b) t) s') : Wp prog w A (binaryOp .Add (.int a t) (.int b u)) Q E s := by
  unfold Wp at *
  exact R.iadd h
theorem isub (h : ∀ s' t, Keeps s s' → Q (.int (a - b) t) s') : Wp prog w A (binaryOp .Sub (.int a t) (.int b u)) Q E s := by
  unfold Wp at *
  exact R.isub h
theorem imul (hm : IntMulOk a b) (h : ∀ s' t, Keeps s s' → Q (.int (a * b) t) s') : Wp prog w A (binaryOp .Mult (.int a t) (.int b u)) Q E s := by
  unfold Wp at *
  exact R.imul hm h
theorem imod (hb : b ≠ 0) (h : ∀ s' t, Keeps s s' → Q (.int (a.fmod b) t) s') : Wp prog w A (binaryOp .Mod (.int a t) (.int b u)) Q E s := by
  unfold Wp at *
  exact R.imod hb h
theorem idiv (hb : b ≠ 0) (hs : b.natAbs < 1073741824) (h : ∀ s' t, Keeps s s' → Q (.int (a.fdiv b) t) s') : Wp prog w A (binaryOp .FloorDiv (.int a t) (.int b u)) Q E s := by
  unfold Wp at *
  exact R.idiv hb hs h
theorem sadd {x y : Str} (hsz : x.length + y.length ≤ sizeLine) (h : ∀ s' t, Keeps s s' → Q (.str (x ++ y) t) s') : Wp prog w A (binaryOp .Add (.str x t) (.str y u)) Q E s := by
  unfold Wp at *
  exact R.sadd hsz h
end
theorem ints_spliced {env : Env} {pos : Pos} (es : List Expr) : ∀ (ns : List Int) (s : Shared) (Q : List Value → Shared → Prop), intsOf es = some ns → (∀ vs s', IntsAre vs ns → Keeps s s' → Q vs s') →
    Wp prog w A (spliced (backTo pos (starEach es env))) Q E s := by
  unfold Wp at *
  exact R.ints_spliced es
theorem listI {env : Env} {es : List Expr} {pos : Pos} {Q : Value → Shared → Prop} (ns : List Int) (hn : intsOf es = some ns) (hl : ns.length ≤ sizeLine)
    (h : ∀ s' D vs, Keeps s s' → s.heap.get? D = none → IntsAre vs ns → s'.heap.get? D = some (lstO vs 0) → Q (.ref D) s') : Wp prog w A (eval (.List es pos) env) Q E s := by
  unfold Wp at *
  exact R.listI ns hn hl h
theorem addL {a b : Addr} {vs ws : List Value} {n m : Nat} {Q : Value → Shared → Prop} (ha : s.heap.get? a = some (lstO vs n)) (hb : s.heap.get? b = some (lstO ws m)) (hsz : vs.length + ws.length ≤ sizeLine)
    (h : ∀ s' D, Keeps s s' → s.heap.get? D = none → s'.heap.get? D = some (lstO (vs ++ ws) 0) → Q (.ref D) s') : Wp prog w A (binaryOp .Add (.ref a) (.ref b)) Q E s := by
  unfold Wp at *
  exact R.addL ha hb hsz h
theorem listRange {r : Addr} {a b : Int} {t u v : Tok} {n : Nat} {Q : Value → Shared → Prop} (hh : A.handled = none) (hr : IsRange s.heap r a b 1 t u v) (hsmall : Builtin.Range.small a b 1 = true) (hn : Builtin.Range.rangeSize a b 1 = n) (hlen : n ≤ 2 ^ 24)
    (h : ∀ s' D vs c, Keeps s s' → s.heap.get? D = none → IntsAre vs ((List.range n).map fun (i : Nat) => a + (i : Int)) → s'.heap.get? D = some (lstO vs c) → Q (.ref D) s') : Wp prog w A (call (.type "list") [.ref r]) Q E s := by
  unfold Wp at *
  exact R.listRange hh hr hsmall hn hlen h
theorem range2 {a b : Int} {t u : Tok} {Q : Value → Shared → Prop} (h : ∀ s' D t' u' v', Keeps s s' → s.heap.get? D = none → IsRange s'.heap D a b 1 t' u' v' → Q (.ref D) s') : Wp prog w A (call (.type "range") [.int a t, .int b u]) Q E s := by
  unfold Wp at *
  exact R.range2 h
theorem range1 {a : Int} {t : Tok} {Q : Value → Shared → Prop} (h : ∀ s' D t' u' v', Keeps s s' → s.heap.get? D = none → IsRange s'.heap D 0 a 1 t' u' v' → Q (.ref D) s') : Wp prog w A (call (.type "range") [.int a t]) Q E s := by
  unfold Wp at *
  exact R.range1 h
theorem ord1 {c : Nat} {t : Tok} {Q : Value → Shared → Prop} (h : ∀ s' t, Keeps s s' → Q (.int c t) s') : Wp prog w A (call (.builtin "ord") [.str ⟨#[c]⟩ t]) Q E s := by
  unfold Wp at *
  exact R.ord1 h
theorem chr1 {i : Int} {t : Tok} {Q : Value → Shared → Prop} (h0 : 0 ≤ i) (h1 : i ≤ 1114111) (h : ∀ s' t, Keeps s s' → Q (.str ⟨#[i.toNat]⟩ t) s') : Wp prog w A (call (.builtin "chr") [.int i t]) Q E s := by
  unfold Wp at *
  exact R.chr1 h0 h1 h
section
variable {env : Env} {l r : Expr} {op : Operator} {pos : Pos} {Q : Value → Shared → Prop}
theorem bin (h : Wp prog w A (eval l env) (fun a s₁ => Wp prog w A (eval r env) (fun b s₂ => Wp prog w A (binaryOp op a b) Q E s₂) E s₁) E s) : Wp prog w A (eval (.BinOp l op r pos) env) Q E s := by
  unfold Wp at *
  exact R.bin h
theorem cmp1 {op : CmpOp} (h : Wp prog w A (eval l env) (fun a s₁ => Wp prog w A (eval r env) (fun b s₂ => Wp prog w A (compareOp op a b) Q E s₂) E s₁) E s)
    (hm : behindInMarks op r = false := by with_unfolding_all rfl) : Wp prog w A (eval (.Compare l [op] [r] pos) env) Q E s := by
  unfold Wp at *
  exact R.cmp1 h hm
theorem un1 {op : UnaryOp} (h : Wp prog w A (eval l env) (fun a s₁ => Wp prog w A (unaryOp op a) Q E s₁) E s) : Wp prog w A (eval (.UnaryOp op l pos) env) Q E s := by
  unfold Wp at *
  exact R.un1 h
end
section
variable {env : Env} {e : Expr} {st : Stmt} {rest : List Stmt} {pos : Pos} {Q : Flow → Shared → Prop}
theorem nil_ (h : Q .next s) : Wp prog w A (execs [] env) Q E s := by
  unfold Wp at *
  exact R.nil_ h
theorem cons_ (h : Wp prog w A (exec st env) (fun f s' => match f with | .next => Wp prog w A (execs rest env) Q E s' | f => Q f s') E s) : Wp prog w A (execs (st :: rest) env) Q E s := by
  unfold Wp at *
  exact R.cons_ h
theorem ret_ (h : Wp prog w A (eval e env) (fun v => Q (.ret v)) E s) : Wp prog w A (exec (.Return (some e) pos) env) Q E s := by
  unfold Wp at *
  exact R.ret_ h
end
section
variable {a b : UInt64} {t u : Tok} {Q : Value → Shared → Prop}
theorem flt (h : Q (.bool (fLt a b)) s) : Wp prog w A (compareOp .Lt (.float a t) (.float b u)) Q E s := by
  unfold Wp at *
  exact R.flt h
theorem fle (h : Q (.bool (fLe a b)) s) : Wp prog w A (compareOp .LtE (.float a t) (.float b u)) Q E s := by
  unfold Wp at *
  exact R.fle h
theorem feq (h : Q (.bool (fEq a b)) s) : Wp prog w A (compareOp .Eq (.float a t) (.float b u)) Q E s := by
  unfold Wp at *
  exact R.feq h
end
theorem mono_ {α : Type} {t : Sem α} {Q Q' : α → Shared → Prop} {E' : Value → Shared → Prop} (h : Wp prog w A t Q E s) (hQ : ∀ a s, Q a s → Q' a s) (hE : ∀ e s, E e s → E' e s) : Wp prog w A t Q' E' s := by
  unfold Wp at *
  exact R.mono_ h hQ hE
end Mine
end
section
open PySem PySem.W PyProof.Rows
set_option Elab.async false
set_option maxRecDepth 100000
set_option linter.unusedVariables false
namespace Mine
noncomputable abbrev pw : Program := PySem.Challenge.pw_qu0047_02
noncomputable def fnAt (i : Nat) : Str × Arguments × List Stmt × Scope := match pw.main.body[i]? with
  | some (.FunctionDef n a b _ _ _ sc _ _ _) => (n, a, b, sc)
  | _ => ("", { posonlyargs := [], args := [], vararg := none, kwonlyargs := [], kw_defaults := [], kwarg := none, defaults := [] }, [], pw.main.scope)
noncomputable def fPar (i : Nat) : Arguments := (fnAt i).2.1
noncomputable def fBody (i : Nat) : List Stmt := (fnAt i).2.2.1
noncomputable def fScope (i : Nat) : Scope := (fnAt i).2.2.2
noncomputable def fn (i : Nat) : Fnc := ⟨(fnAt i).1, fPar i, fBody i, fScope i⟩
end Mine
end
section
open PySem PySem.W PyProof.Rows
set_option Elab.async false
set_option maxRecDepth 100000
set_option linter.unusedVariables false
set_option maxHeartbeats 0
namespace Mine
noncomputable def o3a (P : Params) : Obj := ⟨(.type "dict"), none, .dict ⟨[⟨PyData.keyHash P (.ofString "__name__"), (.str (.ofString "__name__") 165), (.str (.ofString "cpy313.stringprep") 404)⟩, ⟨PyData.keyHash P (.ofString "__doc__"), (.str (.ofString "__doc__") 166), .none⟩, ⟨PyData.keyHash P (.ofString "__package__"), (.str (.ofString "__package__") 167), .none⟩, ⟨PyData.keyHash P (.ofString "__loader__"), (.str (.ofString "__loader__") 168), (.builtin "__main__.__loader__#opaque")⟩, ⟨PyData.keyHash P (.ofString "__spec__"), (.str (.ofString "__spec__") 169), .none⟩, ⟨PyData.keyHash P (.ofString "__annotations__"), (.str (.ofString "__annotations__") 170), (.ref 6)⟩, ⟨PyData.keyHash P (.ofString "__builtins__"), (.str (.ofString "__builtins__") 171), (.ref 4)⟩, ⟨PyData.keyHash P (.ofString "__file__"), (.str (.ofString "__file__") 173), (.str (.ofString "/claim/cut.py") 172)⟩, ⟨PyData.keyHash P (.ofString "__cached__"), (.str (.ofString "__cached__") 174), .none⟩, ⟨PyData.keyHash P (.ofString "_sre"), (.str (.ofString "_sre") 275), (.ref 12)⟩, ⟨PyData.keyHash P (.ofString "ONE_THIRD"), (.str (.ofString "ONE_THIRD") 287), (.float 4599676419421066581 286)⟩, ⟨PyData.keyHash P (.ofString "ONE_SIXTH"), (.str (.ofString "ONE_SIXTH") 291), (.float 4595172819793696085 290)⟩, ⟨PyData.keyHash P (.ofString "TWO_THIRD"), (.str (.ofString "TWO_THIRD") 295), (.float 4604180019048437077 294)⟩, ⟨PyData.keyHash P (.ofString "rgb_to_hls"), (.str (.ofString "rgb_to_hls") 314), (.ref 38)⟩, ⟨PyData.keyHash P (.ofString "hls_to_rgb"), (.str (.ofString "hls_to_rgb") 325), (.ref 45)⟩, ⟨PyData.keyHash P (.ofString "_v"), (.str (.ofString "_v") 334), (.ref 52)⟩, ⟨PyData.keyHash P (.ofString "_twin_re_1"), (.str (.ofString "_twin_re_1") 352), (.ref 57)⟩, ⟨PyData.keyHash P (.ofString "_twin_re_2"), (.str (.ofString "_twin_re_2") 394), (.ref 62)⟩, ⟨PyData.keyHash P (.ofString "CRLF"), (.str (.ofString "CRLF") 396), (.str (.ofString "\x0d\x0a") 395)⟩, ⟨PyData.keyHash P (.ofString "quotedata"), (.str (.ofString "quotedata") 403), (.ref 69)⟩]⟩ 20, ⟨[]⟩⟩
noncomputable def o3 (P : Params) : Obj := ⟨(.type "dict"), none, .dict ⟨[⟨PyData.keyHash P (.ofString "__name__"), (.str (.ofString "__name__") 165), (.str (.ofString "cpy313.stringprep") 404)⟩, ⟨PyData.keyHash P (.ofString "__doc__"), (.str (.ofString "__doc__") 166), .none⟩, ⟨PyData.keyHash P (.ofString "__package__"), (.str (.ofString "__package__") 167), .none⟩, ⟨PyData.keyHash P (.ofString "__loader__"), (.str (.ofString "__loader__") 168), (.builtin "__main__.__loader__#opaque")⟩, ⟨PyData.keyHash P (.ofString "__spec__"), (.str (.ofString "__spec__") 169), .none⟩, ⟨PyData.keyHash P (.ofString "__annotations__"), (.str (.ofString "__annotations__") 170), (.ref 6)⟩, ⟨PyData.keyHash P (.ofString "__builtins__"), (.str (.ofString "__builtins__") 171), (.ref 4)⟩, ⟨PyData.keyHash P (.ofString "__file__"), (.str (.ofString "__file__") 173), (.str (.ofString "/claim/cut.py") 172)⟩, ⟨PyData.keyHash P (.ofString "__cached__"), (.str (.ofString "__cached__") 174), .none⟩, ⟨PyData.keyHash P (.ofString "_sre"), (.str (.ofString "_sre") 275), (.ref 12)⟩, ⟨PyData.keyHash P (.ofString "ONE_THIRD"), (.str (.ofString "ONE_THIRD") 287), (.float 4599676419421066581 286)⟩, ⟨PyData.keyHash P (.ofString "ONE_SIXTH"), (.str (.ofString "ONE_SIXTH") 291), (.float 4595172819793696085 290)⟩, ⟨PyData.keyHash P (.ofString "TWO_THIRD"), (.str (.ofString "TWO_THIRD") 295), (.float 4604180019048437077 294)⟩, ⟨PyData.keyHash P (.ofString "rgb_to_hls"), (.str (.ofString "rgb_to_hls") 314), (.ref 38)⟩, ⟨PyData.keyHash P (.ofString "hls_to_rgb"), (.str (.ofString "hls_to_rgb") 325), (.ref 45)⟩, ⟨PyData.keyHash P (.ofString "_v"), (.str (.ofString "_v") 334), (.ref 52)⟩, ⟨PyData.keyHash P (.ofString "_twin_re_1"), (.str (.ofString "_twin_re_1") 352), (.ref 57)⟩, ⟨PyData.keyHash P (.ofString "_twin_re_2"), (.str (.ofString "_twin_re_2") 394), (.ref 62)⟩, ⟨PyData.keyHash P (.ofString "CRLF"), (.str (.ofString "CRLF") 396), (.str (.ofString "\x0d\x0a") 395)⟩, ⟨PyData.keyHash P (.ofString "quotedata"), (.str (.ofString "quotedata") 403), (.ref 69)⟩, ⟨PyData.keyHash P (.ofString "b1_set"), (.str (.ofString "b1_set") 465), (.ref 77)⟩, ⟨PyData.keyHash P (.ofString "in_table_b1"), (.str (.ofString "in_table_b1") 472), (.ref 87)⟩]⟩ 22, ⟨[]⟩⟩
noncomputable def o28 (P : Params) : Obj := ⟨(.type "tuple"), none, .seq ⟨[]⟩ 0, ⟨[]⟩⟩
noncomputable def o29a (P : Params) : Obj := ⟨.none, none, .fields ⟨[(.int (6) 0), (.int (0) 0), (.ref 37), (.int (29) 0), (.int (0) 0), (.ref 44), (.int (38) 0), (.int (0) 0), (.ref 51), (.int (51) 0), (.int (0) 0), (.ref 68)]⟩, ⟨[]⟩⟩
noncomputable def o29 (P : Params) : Obj := ⟨.none, none, .fields ⟨[(.int (6) 0), (.int (0) 0), (.ref 37), (.int (29) 0), (.int (0) 0), (.ref 44), (.int (38) 0), (.int (0) 0), (.ref 51), (.int (51) 0), (.int (0) 0), (.ref 68), (.int (55) 0), (.int (0) 0), (.ref 86)]⟩, ⟨[]⟩⟩
noncomputable def o30 (P : Params) : Obj := ⟨(.type "code"), none, .fields ⟨[(.str (.ofString "<module>") 277), (.str (.ofString "<module>") 278), (.str (.ofString "/claim/cut.py") 279), (.int (1) 0), (.int (0) 0), (.int (0) 0), (.int (0) 0), (.int (0) 0), (.ref 28), (.bool false), (.int (276) 0), (.ref 29), .none, .none, .none, .none, (.int (280) 0), (.int (1) 0), (.str (.ofString "/claim/cut.py") 281)]⟩, ⟨[]⟩⟩
noncomputable def o31 (P : Params) : Obj := ⟨(.type "frame"), none, .plain, ⟨[(some (.ref 30)), (some (.ref 3)), (some (.ref 3)), none, (some (.str (.ofString "__main__") 164)), none, (some (.ref 0))]⟩⟩
noncomputable def o32 (P : Params) : Obj := ⟨(.type "tuple"), none, .seq ⟨[]⟩ 0, ⟨[]⟩⟩
noncomputable def o33 (P : Params) : Obj := ⟨.none, none, .fields ⟨[]⟩, ⟨[]⟩⟩
noncomputable def o34 (P : Params) : Obj := ⟨(.type "tuple"), none, .seq ⟨[(.str (.ofString "r") 299), (.str (.ofString "g") 300), (.str (.ofString "b") 301), (.str (.ofString "maxc") 302), (.str (.ofString "minc") 303), (.str (.ofString "sumc") 304), (.str (.ofString "rangec") 305), (.str (.ofString "l") 306), (.str (.ofString "s") 307), (.str (.ofString "rc") 308), (.str (.ofString "gc") 309), (.str (.ofString "bc") 310), (.str (.ofString "h") 311)]⟩ 0, ⟨[]⟩⟩
noncomputable def o35 (P : Params) : Obj := ⟨(.type "tuple"), none, .seq ⟨[]⟩ 0, ⟨[]⟩⟩
noncomputable def o36 (P : Params) : Obj := ⟨.none, none, .func ⟨(.ofString "rgb_to_hls"), (.ofString "rgb_to_hls"), fPar 5, .stmts (fBody 5), fScope 5, 0, [], .none, .none, .none, .none, none, .none, .none, 0⟩, ⟨[]⟩⟩
noncomputable def o37 (P : Params) : Obj := ⟨(.type "code"), none, .fields ⟨[(.str (.ofString "rgb_to_hls") 296), (.str (.ofString "rgb_to_hls") 297), (.str (.ofString "/claim/cut.py") 298), (.int (6) 0), (.int (3) 0), (.int (0) 0), (.int (0) 0), (.int (3) 0), (.ref 32), (.bool true), (.int (276) 0), (.ref 33), .none, (.ref 34), (.ref 35), (.ref 36), (.int (312) 0), (.int (6) 0), (.str (.ofString "/claim/cut.py") 313)]⟩, ⟨[]⟩⟩
noncomputable def o38 (P : Params) : Obj := ⟨(.type "function"), none, .func ⟨(.ofString "rgb_to_hls"), (.ofString "rgb_to_hls"), fPar 5, .stmts (fBody 5), fScope 5, 3, [], .none, .none, .none, (.str (.ofString "cpy313.colorsys") 282), none, (.ref 37), .none, 0⟩, ⟨[]⟩⟩
noncomputable def o39 (P : Params) : Obj := ⟨(.type "tuple"), none, .seq ⟨[]⟩ 0, ⟨[]⟩⟩
noncomputable def o40 (P : Params) : Obj := ⟨.none, none, .fields ⟨[]⟩, ⟨[]⟩⟩
noncomputable def o41 (P : Params) : Obj := ⟨(.type "tuple"), none, .seq ⟨[(.str (.ofString "h") 318), (.str (.ofString "l") 319), (.str (.ofString "s") 320), (.str (.ofString "m2") 321), (.str (.ofString "m1") 322)]⟩ 0, ⟨[]⟩⟩
noncomputable def o42 (P : Params) : Obj := ⟨(.type "tuple"), none, .seq ⟨[]⟩ 0, ⟨[]⟩⟩
noncomputable def o43 (P : Params) : Obj := ⟨.none, none, .func ⟨(.ofString "hls_to_rgb"), (.ofString "hls_to_rgb"), fPar 6, .stmts (fBody 6), fScope 6, 0, [], .none, .none, .none, .none, none, .none, .none, 0⟩, ⟨[]⟩⟩
noncomputable def o44 (P : Params) : Obj := ⟨(.type "code"), none, .fields ⟨[(.str (.ofString "hls_to_rgb") 315), (.str (.ofString "hls_to_rgb") 316), (.str (.ofString "/claim/cut.py") 317), (.int (29) 0), (.int (3) 0), (.int (0) 0), (.int (0) 0), (.int (3) 0), (.ref 39), (.bool true), (.int (276) 0), (.ref 40), .none, (.ref 41), (.ref 42), (.ref 43), (.int (323) 0), (.int (29) 0), (.str (.ofString "/claim/cut.py") 324)]⟩, ⟨[]⟩⟩
noncomputable def o45 (P : Params) : Obj := ⟨(.type "function"), none, .func ⟨(.ofString "hls_to_rgb"), (.ofString "hls_to_rgb"), fPar 6, .stmts (fBody 6), fScope 6, 3, [], .none, .none, .none, (.str (.ofString "cpy313.colorsys") 282), none, (.ref 44), .none, 0⟩, ⟨[]⟩⟩
noncomputable def o46 (P : Params) : Obj := ⟨(.type "tuple"), none, .seq ⟨[]⟩ 0, ⟨[]⟩⟩
noncomputable def o47 (P : Params) : Obj := ⟨.none, none, .fields ⟨[]⟩, ⟨[]⟩⟩
noncomputable def o48 (P : Params) : Obj := ⟨(.type "tuple"), none, .seq ⟨[(.str (.ofString "m1") 329), (.str (.ofString "m2") 330), (.str (.ofString "hue") 331)]⟩ 0, ⟨[]⟩⟩
noncomputable def o49 (P : Params) : Obj := ⟨(.type "tuple"), none, .seq ⟨[]⟩ 0, ⟨[]⟩⟩
noncomputable def o50 (P : Params) : Obj := ⟨.none, none, .func ⟨(.ofString "_v"), (.ofString "_v"), fPar 7, .stmts (fBody 7), fScope 7, 0, [], .none, .none, .none, .none, none, .none, .none, 0⟩, ⟨[]⟩⟩
noncomputable def o51 (P : Params) : Obj := ⟨(.type "code"), none, .fields ⟨[(.str (.ofString "_v") 326), (.str (.ofString "_v") 327), (.str (.ofString "/claim/cut.py") 328), (.int (38) 0), (.int (3) 0), (.int (0) 0), (.int (0) 0), (.int (3) 0), (.ref 46), (.bool true), (.int (276) 0), (.ref 47), .none, (.ref 48), (.ref 49), (.ref 50), (.int (332) 0), (.int (38) 0), (.str (.ofString "/claim/cut.py") 333)]⟩, ⟨[]⟩⟩
noncomputable def o52 (P : Params) : Obj := ⟨(.type "function"), none, .func ⟨(.ofString "_v"), (.ofString "_v"), fPar 7, .stmts (fBody 7), fScope 7, 3, [], .none, .none, .none, (.str (.ofString "cpy313.colorsys") 282), none, (.ref 51), .none, 0⟩, ⟨[]⟩⟩
noncomputable def o53 (P : Params) : Obj := ⟨(.type "list"), none, .seq ⟨[(.int (14) 340), (.int (4) 341), (.int (0) 342), (.int (1) 343), (.int (1) 344), (.int (6) 345), (.int (1) 346), (.int (16) 347), (.int (46) 348), (.int (1) 349)]⟩ 0, ⟨[]⟩⟩
noncomputable def o54 (P : Params) : Obj := ⟨(.type "dict"), none, .dict ⟨[]⟩ 0, ⟨[]⟩⟩
noncomputable def o55 (P : Params) : Obj := ⟨(.type "tuple"), none, .seq ⟨[.none]⟩ 0, ⟨[]⟩⟩
noncomputable def o56 (P : Params) : Obj := ⟨(.type "tuple"), none, .seq ⟨[(.int (14) 0), (.int (4) 0), (.int (0) 0), (.int (1) 0), (.int (1) 0), (.int (6) 0), (.int (1) 0), (.int (16) 0), (.int (46) 0), (.int (1) 0)]⟩ 0, ⟨[]⟩⟩
noncomputable def o57 (P : Params) : Obj := ⟨(.type "re.Pattern"), none, .fields ⟨[(.str (.ofString "(?m)^\\.") 338), (.int (40) 351), (.int (0) 0), .none, .none, (.ref 56), (.int (0) 0)]⟩, ⟨[]⟩⟩
noncomputable def o58 (P : Params) : Obj := ⟨(.type "list"), none, .seq ⟨[(.int (14) 356), (.int (9) 357), (.int (4) 358), (.int (1) 359), (.int (2) 360), (.int (16) 361), (.int (10) 362), (.int (16) 363), (.int (13) 364), (.int (0) 365), (.int (7) 366), (.int (7) 367), (.int (16) 368), (.int (13) 369), (.int (16) 370), (.int (10) 371), (.int (15) 372), (.int (18) 373), (.int (5) 374), (.int (16) 375), (.int (10) 376), (.int (15) 377), (.int (13) 378), (.int (11) 379), (.int (16) 380), (.int (13) 381), (.int (5) 382), (.int (5) 383), (.int (0) 384), (.int (16) 385), (.int (10) 386), (.int (1) 387), (.int (15) 388), (.int (2) 389), (.int (0) 390), (.int (1) 391)]⟩ 0, ⟨[]⟩⟩
noncomputable def o59 (P : Params) : Obj := ⟨(.type "dict"), none, .dict ⟨[]⟩ 0, ⟨[]⟩⟩
noncomputable def o60 (P : Params) : Obj := ⟨(.type "tuple"), none, .seq ⟨[.none]⟩ 0, ⟨[]⟩⟩
noncomputable def o61 (P : Params) : Obj := ⟨(.type "tuple"), none, .seq ⟨[(.int (14) 0), (.int (9) 0), (.int (4) 0), (.int (1) 0), (.int (2) 0), (.int (16) 0), (.int (10) 0), (.int (16) 0), (.int (13) 0), (.int (0) 0), (.int (7) 0), (.int (7) 0), (.int (16) 0), (.int (13) 0), (.int (16) 0), (.int (10) 0), (.int (15) 0), (.int (18) 0), (.int (5) 0), (.int (16) 0), (.int (10) 0), (.int (15) 0), (.int (13) 0), (.int (11) 0), (.int (16) 0), (.int (13) 0), (.int (5) 0), (.int (5) 0), (.int (0) 0), (.int (16) 0), (.int (10) 0), (.int (1) 0), (.int (15) 0), (.int (2) 0), (.int (0) 0), (.int (1) 0)]⟩ 0, ⟨[]⟩⟩
noncomputable def o62 (P : Params) : Obj := ⟨(.type "re.Pattern"), none, .fields ⟨[(.str (.ofString "(?:\\r\\n|\\n|\\r(?!\\n))") 354), (.int (32) 393), (.int (0) 0), .none, .none, (.ref 61), (.int (0) 0)]⟩, ⟨[]⟩⟩
noncomputable def o63 (P : Params) : Obj := ⟨(.type "tuple"), none, .seq ⟨[]⟩ 0, ⟨[]⟩⟩
noncomputable def o64 (P : Params) : Obj := ⟨.none, none, .fields ⟨[]⟩, ⟨[]⟩⟩
noncomputable def o65 (P : Params) : Obj := ⟨(.type "tuple"), none, .seq ⟨[(.str (.ofString "data") 400)]⟩ 0, ⟨[]⟩⟩
noncomputable def o66 (P : Params) : Obj := ⟨(.type "tuple"), none, .seq ⟨[]⟩ 0, ⟨[]⟩⟩
noncomputable def o67 (P : Params) : Obj := ⟨.none, none, .func ⟨(.ofString "quotedata"), (.ofString "quotedata"), fPar 12, .stmts (fBody 12), fScope 12, 0, [], .none, .none, .none, .none, none, .none, .none, 0⟩, ⟨[]⟩⟩
noncomputable def o68 (P : Params) : Obj := ⟨(.type "code"), none, .fields ⟨[(.str (.ofString "quotedata") 397), (.str (.ofString "quotedata") 398), (.str (.ofString "/claim/cut.py") 399), (.int (51) 0), (.int (1) 0), (.int (0) 0), (.int (0) 0), (.int (3) 0), (.ref 63), (.bool true), (.int (276) 0), (.ref 64), .none, (.ref 65), (.ref 66), (.ref 67), (.int (401) 0), (.int (51) 0), (.str (.ofString "/claim/cut.py") 402)]⟩, ⟨[]⟩⟩
noncomputable def o69 (P : Params) : Obj := ⟨(.type "function"), none, .func ⟨(.ofString "quotedata"), (.ofString "quotedata"), fPar 12, .stmts (fBody 12), fScope 12, 3, [], .none, .none, .none, (.str (.ofString "cpy313.smtplib") 335), none, (.ref 68), .none, 0⟩, ⟨[]⟩⟩
noncomputable def o70 (P : Params) : Obj := ⟨(.type "list"), none, .seq ⟨[(.int (173) 406), (.int (847) 407), (.int (6150) 408), (.int (6155) 409), (.int (6156) 410), (.int (6157) 411), (.int (8203) 412), (.int (8204) 413), (.int (8205) 414), (.int (8288) 415), (.int (65279) 416)]⟩ 0, ⟨[]⟩⟩
noncomputable def o71 (P : Params) : Obj := ⟨(.type "range"), none, .fields ⟨[(.int (65024) 417), (.int (65040) 418), (.int (1) 419)]⟩, ⟨[]⟩⟩
noncomputable def o72 (P : Params) : Obj := ⟨(.type "list"), none, .seq ⟨[(.int (65024) 422), (.int (65025) 423), (.int (65026) 424), (.int (65027) 425), (.int (65028) 426), (.int (65029) 427), (.int (65030) 428), (.int (65031) 429), (.int (65032) 430), (.int (65033) 431), (.int (65034) 432), (.int (65035) 433), (.int (65036) 434), (.int (65037) 435), (.int (65038) 436), (.int (65039) 437)]⟩ 18, ⟨[]⟩⟩
noncomputable def o73 (P : Params) : Obj := ⟨(.type "range_iterator"), none, .fields ⟨[(.int (65040) 0), (.int (0) 0), (.int (1) 0)]⟩, ⟨[]⟩⟩
noncomputable def o74 (P : Params) : Obj := ⟨(.type "tuple"), none, .seq ⟨[]⟩ 0, ⟨[]⟩⟩
noncomputable def o75 (P : Params) : Obj := ⟨(.type "StopIteration"), none, .fields ⟨[(.ref 74), .none, .none, .none, (.bool false), .none]⟩, ⟨[]⟩⟩
noncomputable def o76 (P : Params) : Obj := ⟨(.type "list"), none, .seq ⟨[(.int (173) 406), (.int (847) 407), (.int (6150) 408), (.int (6155) 409), (.int (6156) 410), (.int (6157) 411), (.int (8203) 412), (.int (8204) 413), (.int (8205) 414), (.int (8288) 415), (.int (65279) 416), (.int (65024) 422), (.int (65025) 423), (.int (65026) 424), (.int (65027) 425), (.int (65028) 426), (.int (65029) 427), (.int (65030) 428), (.int (65031) 429), (.int (65032) 430), (.int (65033) 431), (.int (65034) 432), (.int (65035) 433), (.int (65036) 434), (.int (65037) 435), (.int (65038) 436), (.int (65039) 437)]⟩ 0, ⟨[]⟩⟩
noncomputable def o77 (P : Params) : Obj := ⟨(.type "set"), none, .set ⟨[(65024, (.int (65024) 422)), (65025, (.int (65025) 423)), (65026, (.int (65026) 424)), (65027, (.int (65027) 425)), (65028, (.int (65028) 426)), (65029, (.int (65029) 427)), (6150, (.int (6150) 408)), (65030, (.int (65030) 428)), (65031, (.int (65031) 429)), (65032, (.int (65032) 430)), (65033, (.int (65033) 431)), (6155, (.int (6155) 409)), (6156, (.int (6156) 410)), (6157, (.int (6157) 411)), (8203, (.int (8203) 412)), (8204, (.int (8204) 413)), (8205, (.int (8205) 414)), (65034, (.int (65034) 432)), (65035, (.int (65035) 433)), (65036, (.int (65036) 434)), (65037, (.int (65037) 435)), (65038, (.int (65038) 436)), (65039, (.int (65039) 437)), (173, (.int (173) 406)), (847, (.int (847) 407)), (8288, (.int (8288) 415)), (65279, (.int (65279) 416))]⟩ 29 ⟨127, #[0, 1, 2, 3, 4, 5, 6, 7, 8, 9, 10, 11, 12, 13, 14, 15, 16, 17, 18, 19, 20, 21, 22, 45, 79, 96, 127], #[], 0, (!P.followText "set-order"), 2, true⟩, ⟨[]⟩⟩
noncomputable def o78 (P : Params) : Obj := ⟨(.type "list_iterator"), none, .fields ⟨[.none, (.int (27) 0)]⟩, ⟨[]⟩⟩
noncomputable def o79 (P : Params) : Obj := ⟨(.type "tuple"), none, .seq ⟨[]⟩ 0, ⟨[]⟩⟩
noncomputable def o80 (P : Params) : Obj := ⟨(.type "StopIteration"), none, .fields ⟨[(.ref 79), .none, .none, .none, (.bool false), .none]⟩, ⟨[]⟩⟩
noncomputable def o81 (P : Params) : Obj := ⟨(.type "tuple"), none, .seq ⟨[]⟩ 0, ⟨[]⟩⟩
noncomputable def o82 (P : Params) : Obj := ⟨.none, none, .fields ⟨[]⟩, ⟨[]⟩⟩
noncomputable def o83 (P : Params) : Obj := ⟨(.type "tuple"), none, .seq ⟨[(.str (.ofString "code") 469)]⟩ 0, ⟨[]⟩⟩
noncomputable def o84 (P : Params) : Obj := ⟨(.type "tuple"), none, .seq ⟨[]⟩ 0, ⟨[]⟩⟩
noncomputable def o85 (P : Params) : Obj := ⟨.none, none, .func ⟨(.ofString "in_table_b1"), (.ofString "in_table_b1"), fPar 15, .stmts (fBody 15), fScope 15, 0, [], .none, .none, .none, .none, none, .none, .none, 0⟩, ⟨[]⟩⟩
noncomputable def o86 (P : Params) : Obj := ⟨(.type "code"), none, .fields ⟨[(.str (.ofString "in_table_b1") 466), (.str (.ofString "in_table_b1") 467), (.str (.ofString "/claim/cut.py") 468), (.int (55) 0), (.int (1) 0), (.int (0) 0), (.int (0) 0), (.int (3) 0), (.ref 81), (.bool true), (.int (276) 0), (.ref 82), .none, (.ref 83), (.ref 84), (.ref 85), (.int (470) 0), (.int (55) 0), (.str (.ofString "/claim/cut.py") 471)]⟩, ⟨[]⟩⟩
noncomputable def o87 (P : Params) : Obj := ⟨(.type "function"), none, .func ⟨(.ofString "in_table_b1"), (.ofString "in_table_b1"), fPar 15, .stmts (fBody 15), fScope 15, 3, [], .none, .none, .none, (.str (.ofString "cpy313.stringprep") 404), none, (.ref 86), .none, 0⟩, ⟨[]⟩⟩
noncomputable def news13 (P : Params) : List Obj := [o28 P, o29a P, o30 P, o31 P, o32 P, o33 P, o34 P, o35 P, o36 P, o37 P, o38 P, o39 P, o40 P, o41 P, o42 P, o43 P, o44 P, o45 P, o46 P, o47 P, o48 P, o49 P, o50 P, o51 P, o52 P, o53 P, o54 P, o55 P, o56 P, o57 P, o58 P, o59 P, o60 P, o61 P, o62 P, o63 P, o64 P, o65 P, o66 P, o67 P, o68 P, o69 P]
noncomputable def news15 (P : Params) : List Obj := [o28 P, o29 P, o30 P, o31 P, o32 P, o33 P, o34 P, o35 P, o36 P, o37 P, o38 P, o39 P, o40 P, o41 P, o42 P, o43 P, o44 P, o45 P, o46 P, o47 P, o48 P, o49 P, o50 P, o51 P, o52 P, o53 P, o54 P, o55 P, o56 P, o57 P, o58 P, o59 P, o60 P, o61 P, o62 P, o63 P, o64 P, o65 P, o66 P, o67 P, o68 P, o69 P, o70 P, o71 P, o72 P, o73 P, o74 P, o75 P, o76 P, o77 P, o78 P, o79 P, o80 P, o81 P, o82 P, o83 P, o84 P, o85 P, o86 P, o87 P]
/-- the state behind the opening and the fence -/
@[irreducible] noncomputable def op (w : World) : Option Shared := (importEnds treeTable (opening pw) w 900 (start (opening pw)).1 (start (opening pw)).2).bind (fenceModules? pw)
@[irreducible] noncomputable def s0 (w : World) : Shared := (op w).getD {}
noncomputable def h13 (w : World) : Heap := ⟨⟨(s0 w).heap.objs.toList.set 3 (o3a w.params) ++ news13 w.params⟩, (s0 w).heap.life⟩
noncomputable def s13 (w : World) : Shared := ⟨h13 w, #[], (s0 w).drawn, 406, (s0 w).os⟩
noncomputable def h15 (w : World) : Heap := ⟨⟨(s0 w).heap.objs.toList.set 3 (o3 w.params) ++ news15 w.params⟩, (s0 w).heap.life⟩
noncomputable def s15 (w : World) : Shared := ⟨h15 w, #[], (s0 w).drawn, 473, (s0 w).os⟩
noncomputable abbrev an : Option Value := some (.ref 6)
noncomputable def env0 : Env := { scope := pw.main.scope, locals := mainNs, globals := mainNs, cells := [], code := .ref 30, frame := some 31 }
noncomputable abbrev pos0 : Pos := ⟨0, 0, 0, 0⟩
noncomputable def cE : Code := .body (behindTheImports pw) env0
@[irreducible] noncomputable def stA : List Stmt := (behindTheImports pw).take 13
@[irreducible] noncomputable def stC : List Stmt := ((behindTheImports pw).drop 13).take 2
@[irreducible] noncomputable def stD : List Stmt := ((behindTheImports pw).drop 15).take 1
@[irreducible] noncomputable def stB : List Stmt := (behindTheImports pw).drop 16
theorem sts_eq : behindTheImports pw = stA ++ (stC ++ (stD ++ stB)) := by
  unfold stA stC stD stB
  rw [show (behindTheImports pw).drop 16 = ((behindTheImports pw).drop 15).drop 1 by rw [List.drop_drop], List.take_append_drop,
    show (behindTheImports pw).drop 15 = ((behindTheImports pw).drop 13).drop 2 by rw [List.drop_drop], List.take_append_drop, List.take_append_drop]
/-- the opening, the start of the block, the first thirteen statements -/
noncomputable def runA (w : World) : Option (Thread × (Flow × Shared × Code × Pos) × (Flow × Shared × Code × Pos)) :=
  (op w).bind fun s => (topGo treeTable pw w 28 an 12 s (topStub pw)).bind fun r =>
    (segRun treeTable pw w 28 an 1 2 r.1 (blockOf (behindTheImports pw) env0 cE pos0 [topFrame pos0])).bind fun q =>
      (segRun treeTable pw w 28 an 1 500 q.2.1 (piecesOf stA env0 cE pos0 [topFrame pos0])).map fun z => (r.2, q, z)
noncomputable def wantA (w : World) : Option (Thread × (Flow × Code × Pos) × (Flow × Shared × Code × Pos)) :=
  some (⟨denote treeTable cE, cE, pos0, [topFrame pos0]⟩, (.next, cE, pos0), (.next, s13 w, cE, ⟨53, 0, 53, 8⟩))
theorem runA_is (w : World) : ((runA w).map fun r => (r.1, (r.2.1.1, r.2.1.2.2.1, r.2.1.2.2.2), r.2.2)) = wantA w := by
  unfold runA wantA op s13 h13 s0 op
  rw [PySem.W.Fast.te10274390034422433532, PySem.W.Fast.te14364793385576792824, PySem.W.Fast.te1435165496053646825, PySem.W.Fast.te14289696077712309145, PySem.W.Fast.te15667345088766844465, PySem.W.Fast.te14374325043358763698, PySem.W.Fast.te11892475500146522536]
  kernel_rfl
/-- the set and its reader -/
noncomputable def RunC (w : World) : Prop := segRun treeTable pw w 28 an 1 1100 (s13 w) (piecesOf stC env0 cE ⟨53, 0, 53, 8⟩ [topFrame pos0]) = some (.next, s15 w, cE, ⟨55, 0, 56, 30⟩)
theorem follow_swap (w : World) (a b : Bool) : (w.withFollow "set-order" a).withFollow "special-get-raises" b = (w.withFollow "special-get-raises" b).withFollow "set-order" a := by
  unfold World.withFollow
  have : ∀ r : String, (if r = "special-get-raises" then b else if r = "set-order" then a else w.params.followText r) = (if r = "set-order" then a else if r = "special-get-raises" then b else w.params.followText r) := fun r => by
    by_cases h1 : r = "set-order"
    · subst h1; rw [if_neg (by decide), if_pos rfl, if_pos rfl]
    · rw [if_neg h1, if_neg h1]
  simp only [this]
theorem runC_tt (w : World) : RunC ((w.withFollow "set-order" true).withFollow "special-get-raises" true) := by
  unfold RunC s13 s15 h13 h15 s0 op
  rw [PySem.W.Fast.te10274390034422433532, PySem.W.Fast.te14364793385576792824, PySem.W.Fast.te1435165496053646825, PySem.W.Fast.te14289696077712309145, PySem.W.Fast.te14374325043358763698]
  kernel_rfl
theorem runC_tf (w : World) : RunC ((w.withFollow "set-order" true).withFollow "special-get-raises" false) := by
  unfold RunC s13 s15 h13 h15 s0 op
  rw [PySem.W.Fast.te10274390034422433532, PySem.W.Fast.te14364793385576792824, PySem.W.Fast.te1435165496053646825, PySem.W.Fast.te14289696077712309145, PySem.W.Fast.te14374325043358763698]
  kernel_rfl
theorem runC_ft (w : World) : RunC ((w.withFollow "set-order" false).withFollow "special-get-raises" true) := by
  unfold RunC s13 s15 h13 h15 s0 op
  rw [PySem.W.Fast.te10274390034422433532, PySem.W.Fast.te14364793385576792824, PySem.W.Fast.te1435165496053646825, PySem.W.Fast.te14289696077712309145, PySem.W.Fast.te14374325043358763698]
  kernel_rfl
theorem runC_ff (w : World) : RunC ((w.withFollow "set-order" false).withFollow "special-get-raises" false) := by
  unfold RunC s13 s15 h13 h15 s0 op
  rw [PySem.W.Fast.te10274390034422433532, PySem.W.Fast.te14364793385576792824, PySem.W.Fast.te1435165496053646825, PySem.W.Fast.te14289696077712309145, PySem.W.Fast.te14374325043358763698]
  kernel_rfl
theorem runC_is (w : World) : RunC w :=
  byRow2 "set-order" (P := RunC) (fun w => byRow2 "special-get-raises" (P := fun w => RunC (w.withFollow "set-order" false)) (fun w => by have := runC_ff w; rwa [follow_swap] at this) (fun w => by have := runC_ft w; rwa [follow_swap] at this) w)
    (fun w => byRow2 "special-get-raises" (P := fun w => RunC (w.withFollow "set-order" true)) (fun w => by have := runC_tf w; rwa [follow_swap] at this) (fun w => by have := runC_tt w; rwa [follow_swap] at this) w) w
end Mine
end
section
open PySem PySem.W PyProof.Rows
set_option Elab.async false
set_option maxRecDepth 100000
set_option linter.unusedVariables false
set_option maxHeartbeats 0
namespace Mine
/-- the written pairs of a display -/
noncomputable def pairsOf : List (Option Expr) → List Expr → Option (List (Int × Str))
  | [], [] => some []
  | some (.Constant (.int i) _ _) :: ks, .Constant (.str x) _ _ :: vs => (pairsOf ks vs).map ((i, x) :: ·)
  | _, _ => none
theorem pairs_items (env : Env) (pos : Pos) : ∀ (ks : List (Option Expr)) (vs : List Expr) (D : List (Int × Str)), pairsOf ks vs = some D →
    (evalEachOpt ks env).zip ((evalEach vs env).map fun v => do let x ← v; standAt pos; pure x) = D.map (itemOf pos)
  | [], [], D, h => by cases h; rfl
  | some (.Constant (.int i) a b) :: ks, .Constant (.str x) c d :: vs, D, h => by
    unfold pairsOf at h
    obtain ⟨D', h', rfl⟩ := Option.map_eq_some_iff.mp h
    have ih := pairs_items env pos ks vs D' h'
    show (some (mkInt i), (do let x ← mkText x; standAt pos; pure x)) :: (evalEachOpt ks env).zip ((evalEach vs env).map fun v => do let x ← v; standAt pos; pure x) = itemOf pos (i, x) :: D'.map (itemOf pos)
    rw [ih]; rfl
  | [], _ :: _, D, h => by simp [pairsOf] at h
  | none :: _, _, D, h => by simp [pairsOf] at h
  | some _ :: _, [], D, h => by unfold pairsOf at h; split at h <;> simp_all
  | some e :: ks, v :: vs, D, h => by
    unfold pairsOf at h
    split at h
    · rename_i h1 h2; cases h1
    · rename_i i a b ks' x c d vs' h1 h2
      cases h1; cases h2
      obtain ⟨D', h', rfl⟩ := Option.map_eq_some_iff.mp h
      have ih := pairs_items env pos ks vs D' h'
      show (some (mkInt i), (do let x ← mkText x; standAt pos; pure x)) :: (evalEachOpt ks env).zip ((evalEach vs env).map fun v => do let x ← v; standAt pos; pure x) = itemOf pos (i, x) :: D'.map (itemOf pos)
      rw [ih]; rfl
    · cases h
@[irreducible] noncomputable def dKeys : List (Option Expr) := match stD with | [.Assign _ (.Dict k _ _) _] => k | _ => []
@[irreducible] noncomputable def dVals : List Expr := match stD with | [.Assign _ (.Dict _ v _) _] => v | _ => []
@[irreducible] noncomputable def dPos : Pos := match stD with | [.Assign _ (.Dict _ _ p) _] => p | _ => pos0
@[irreducible] noncomputable def b3D : List (Int × Str) := (pairsOf dKeys dVals).getD []
noncomputable abbrev pN : Pos := ⟨57, 0, 57, 13⟩
@[irreducible] noncomputable def pS : Pos := match stD with | [.Assign _ _ p] => p | _ => pos0
theorem stD_is : stD = [.Assign [.Name (Str.ofString "b3_exceptions") pN] (.Dict dKeys dVals dPos) pS] := by kernel_rfl
theorem b3_pairs : pairsOf dKeys dVals = some b3D := by
  have h : (pairsOf dKeys dVals).isSome = true := by kernel_rfl
  obtain ⟨D, hD⟩ := Option.isSome_iff_exists.mp h
  unfold b3D
  rw [hD]; rfl
noncomputable def rising : List Int → Bool
  | a :: b :: r => decide (a < b) && rising (b :: r)
  | _ => true
theorem rising_lt : ∀ {l : List Int} {a : Int}, rising (a :: l) = true → ∀ b ∈ l, a < b
  | b :: r, a, h, c, hc => by
    unfold rising at h
    obtain ⟨h1, h2⟩ := Bool.and_eq_true_iff.mp h
    have h1 := of_decide_eq_true h1
    rcases List.mem_cons.mp hc with rfl | hc
    · exact h1
    · exact Int.lt_trans h1 (rising_lt h2 c hc)
  | [], _, _, _, hc => nomatch hc
theorem rising_tail : ∀ {l : List Int} {a : Int}, rising (a :: l) = true → rising l = true
  | [], _, _ => rfl
  | b :: r, a, h => by unfold rising at h; exact (Bool.and_eq_true_iff.mp h).2
theorem rising_nodup : ∀ {l : List Int}, rising l = true → l.Nodup
  | [], _ => List.nodup_nil
  | a :: l, h => List.nodup_cons.mpr ⟨fun hm => Int.lt_irrefl _ (rising_lt h a hm), rising_nodup (rising_tail h)⟩
theorem b3_facts : (rising (b3D.map (·.1)) && b3D.all (fun kv => decide (0 ≤ kv.1) && decide (kv.1 < 2000000)) && (b3D.length == 650)) = true := by kernel_rfl
theorem b3_nodup : (b3D.map (·.1)).Nodup := by
  have := b3_facts
  simp only [Bool.and_eq_true] at this
  exact rising_nodup this.1.1
theorem b3_keys : KeysOk b3D := by
  have := b3_facts
  simp only [Bool.and_eq_true, List.all_eq_true, decide_eq_true_eq] at this
  exact fun kv h => this.1.2 kv h
theorem b3_len : b3D.length = 650 := by
  have := b3_facts
  simp only [Bool.and_eq_true, beq_iff_eq] at this
  exact this.2
theorem h15_size (w : World) : (h15 w).objs.size = 88 := by
  unfold h15 s0 op
  rw [PySem.W.Fast.te10274390034422433532, PySem.W.Fast.te14364793385576792824, PySem.W.Fast.te1435165496053646825, PySem.W.Fast.te14289696077712309145]
  kernel_rfl
end Mine
end
section
open PySem PySem.W PyProof.Rows
set_option Elab.async false
set_option maxRecDepth 100000
set_option linter.unusedVariables false
set_option maxHeartbeats 0
namespace Mine
noncomputable def gl (G : Nat → Obj) : List Obj := (List.range 39).map G
/-- behind the display, ahead of the store -/
noncomputable def s16 (w : World) (G : Nat → Obj) (tk : Nat) : Shared := ⟨⟨⟨(s0 w).heap.objs.toList.set 3 (o3 w.params) ++ news15 w.params ++ gl G⟩, (s0 w).heap.life⟩, #[], (s0 w).drawn, tk, (s0 w).os⟩
/-- what is left of the statement behind the display -/
noncomputable def leftD (v : Value) : Sem Fin := ((do standAt pN; bindName env0 (Str.ofString "b3_exceptions") v; pure .next : Sem Flow) >>= fun f => match f with | .next => execs [] env0 | f => pure f).wrap doneF deadEnd id id
theorem swaps_no : swapsWith (.Dict dKeys dVals dPos) (some (.Name (Str.ofString "b3_exceptions") pN)) pS.line env0 = pure false := by kernel_rfl
theorem eval_D : eval (.Dict dKeys dVals dPos) env0 = (do standAt dPos; dictDisplay (b3D.map (itemOf dPos))) := by
  rw [← pairs_items env0 dPos dKeys dVals b3D b3_pairs]
  rfl
theorem bind_wrap {α β γ : Type} (x : Sem α) (f : α → Sem β) (K : β → Sem γ) (H : Value → Sem γ) (gd : Bool → Bool) (lv : List Value → List Value) : (x >>= f).wrap K H gd lv = x.wrap (fun a => (f a).wrap K H gd lv) H gd lv := by
  rw [Sem.bind_eq_wrap', Sem.wrap_wrap]; rfl
theorem tree_D : (execs stD env0).wrap doneF deadEnd id id = (do standAt pS; (do standAt dPos; dictDisplay (b3D.map (itemOf dPos)) : Sem Value) : Sem Value).wrap leftD deadEnd id id := by
  rw [stD_is, ← eval_D]
  show ((exec (.Assign [.Name (Str.ofString "b3_exceptions") pN] (.Dict dKeys dVals dPos) pS) env0) >>= fun f => match f with | .next => execs [] env0 | f => pure f).wrap doneF deadEnd id id = _
  rw [exec_Assign_Name _ _ _ _ _ swaps_no]
  have hL : leftD = fun v => (do standAt pN; bindName env0 (Str.ofString "b3_exceptions") v; pure .next : Sem Flow).wrap (fun f => (match f with | .next => execs [] env0 | f => pure f : Sem Flow).wrap doneF deadEnd id id) deadEnd id id := by
    funext v
    exact bind_wrap ..
  rw [hL]
  rw [bind_wrap, bind_wrap, bind_wrap]
  refine Sem.wrap_congr _ _ _ (fun a => ?_) fun _ => rfl
  exact bind_wrap ..
theorem objs_split {objs : Array Obj} {L : List Obj} (hl : L.length = 88) (hb : ∀ i, i < 88 → objs[i]? = L[i]?) (hs : objs.size = 127) : objs = ⟨L ++ gl (fun i => (objs[88 + i]?).getD default)⟩ := by
  apply Array.ext_getElem?
  intro i
  have key : ∀ l : List Obj, (⟨l⟩ : Array Obj)[i]? = l[i]? := fun l => List.getElem?_toArray
  rw [key (L ++ gl (fun i => (objs[88 + i]?).getD default))]
  by_cases h1 : i < 88
  · rw [hb i h1, List.getElem?_append_left (by rw [hl]; exact h1)]
  · rw [List.getElem?_append_right (by rw [hl]; omega), hl]
    unfold gl
    rw [List.getElem?_map]
    by_cases h2 : i < 127
    · rw [List.getElem?_range (by omega)]
      show objs[i]? = some ((objs[88 + (i - 88)]?).getD default)
      rw [show 88 + (i - 88) = i by omega]
      have hi : i < objs.size := by rw [hs]; exact h2
      rw [Array.getElem?_eq_getElem hi]; rfl
    · rw [List.getElem?_eq_none (by simp; omega)]
      exact Array.getElem?_eq_none (by rw [hs]; omega)
theorem same_objs {w : World} {s : Shared} (hb : Blw 88 (h15 w) s.heap) (hs : s.heap.objs.size = 127) : s.heap.objs = ⟨(s0 w).heap.objs.toList.set 3 (o3 w.params) ++ news15 w.params ++ gl (fun i => (s.heap.objs[88 + i]?).getD default)⟩ :=
  objs_split (L := (s0 w).heap.objs.toList.set 3 (o3 w.params) ++ news15 w.params) (h15_size w) (fun i hi => (hb.2 i hi).trans List.getElem?_toArray) hs
/-- the display's run -/
theorem runD (w : World) : ∃ (G : Nat → Obj) (tk m : Nat) (q : Pos) (es : List DictEntry), m ≤ 260402 ∧ segGo treeTable pw w 28 an 1 m (s15 w) (piecesOf stD env0 cE ⟨55, 0, 56, 30⟩ [topFrame pos0]) = some (s16 w G tk, ⟨leftD (.ref 88), cE, q, [topFrame pos0]⟩) ∧
    G 0 = dObj es 650 ∧ EntsAre es b3D := by
  have hz := h15_size w
  have hz' : (s15 w).heap.objs.size = 88 := hz
  obtain ⟨s', es, h, g, e, b, sz, sm⟩ := rn_display (p := pw) (w := w) (n₀ := 28) (ann := an) (pos := dPos) b3D (s15 w) (by rw [hz']; decide) (by rw [hz']; decide) b3_nodup b3_keys (by rw [b3_len]; decide) (by rw [b3_len]; decide)
  rw [hz'] at h g b
  rw [hz', b3_len] at sz
  rw [b3_len] at h g
  have h' : Rn pw w 28 an 260402 (do standAt pS; (do standAt dPos; dictDisplay (b3D.map (itemOf dPos)) : Sem Value) : Sem Value) (s15 w) (.ref 88) s' := rn_bind (n := 1) (m := 260401) rn_standAt (rn_bind (n := 1) (m := 260400) rn_standAt h)
  obtain ⟨m, q, hm, hr⟩ := h' leftD deadEnd id id 1 cE ⟨55, 0, 56, 30⟩ [topFrame pos0] (Nat.le_refl _)
  refine ⟨fun i => (s'.heap.objs[88 + i]?).getD default, s'.toks, m, q, es, hm, ?_, ?_, e⟩
  · show segGo treeTable pw w 28 an 1 m (s15 w) ⟨(execs stD env0).wrap doneF deadEnd id id, cE, ⟨55, 0, 56, 30⟩, [topFrame pos0]⟩ = _
    rw [tree_D, hr]
    have hh : s' = s16 w (fun i => (s'.heap.objs[88 + i]?).getD default) s'.toks := by
      obtain ⟨⟨objs, life⟩, gens, drawn, toks, os⟩ := s'
      obtain ⟨e1, e2, e3⟩ := sm
      have e4 := b.1
      have e5 := same_objs b sz
      dsimp only at e1 e2 e3 e4 e5
      show (⟨⟨objs, life⟩, gens, drawn, toks, os⟩ : Shared) = _
      rw [e1, e2, e3, e4]
      unfold s16
      conv => lhs; rw [e5]
      rfl
    rw [← hh]
  · show (s'.heap.objs[88 + 0]?).getD default = _
    rw [(Heap.get?_some_iff.mp g).1]; rfl
end Mine
end
section
open PySem PySem.W PyProof.Rows
set_option Elab.async false
set_option maxRecDepth 100000
set_option linter.unusedVariables false
set_option maxHeartbeats 0
namespace Mine
noncomputable def qv : Program := view pw [0, 5, 6, 7, 11, 12, 15, 17, 19, 20, 21, 22, 23]
noncomputable def lo : List Str := ["ONE_THIRD", "ONE_SIXTH", "TWO_THIRD", "_twin_re_1", "_twin_re_2", "b1_set", "b3_exceptions"]
noncomputable abbrev mods : List Str := importedModules pw.main.body
/-- what is left of the display's statement, then the statements behind it -/
noncomputable def runB (w : World) (G : Nat → Obj) (tk : Nat) (q : Pos) : Option ((Flow × Shared × Code × Pos) × (Flow × Shared × Code × Pos)) :=
  (segRun treeTable pw w 28 an 1 50 (s16 w G tk) ⟨leftD (.ref 88), cE, q, [topFrame pos0]⟩).bind fun z =>
    (segRun treeTable pw w 28 an 1 400 z.2.1 (piecesOf stB env0 cE pN [topFrame pos0])).map fun y => (z, y)
noncomputable def looks (w : World) (s : Shared) := ((staticsOk mods (s0 w).heap s.heap && namesBound pw s.heap && gensDone s && laidKept (s0 w).heap s.heap), openSeen qv lo mods (fun _ => true) true s,
  lo.map (s.heap.nsMap mainGlobals), [56, 57, 61, 62, 77].map s.heap.get?, s.heap.objs[88]?, s.heap.objs.size)
theorem runB_is (w : World) (G : Nat → Obj) (tk : Nat) (q : Pos) : ((runB w G tk q).map fun r => ((r.1.1, r.1.2.2), (r.2.1, r.2.2.2), looks w r.2.2.1)) =
    some ((.next, (cE, pN)), (.next, (cE, ⟨85, 0, 111, 46⟩)), (true, openGood qv lo,
      [some (.float 4599676419421066581 286), some (.float 4595172819793696085 290), some (.float 4604180019048437077 294), some (.ref 57), some (.ref 62), some (.ref 77), some (.ref 88)],
      [some (o56 w.params), some (o57 w.params), some (o61 w.params), some (o62 w.params), some (o77 w.params)], some (G 0), 163)) := by
  unfold runB looks s16 s0 op
  rw [PySem.W.Fast.te10274390034422433532, PySem.W.Fast.te14364793385576792824, PySem.W.Fast.te1435165496053646825, PySem.W.Fast.te14289696077712309145, PySem.W.Fast.te14374325043358763698, PySem.W.Fast.te4187177175401517315]
  kernel_rfl
end Mine
end
section
open PySem PySem.W PyProof.Rows
set_option Elab.async false
set_option maxRecDepth 100000
set_option linter.unusedVariables false
set_option maxHeartbeats 0
namespace Mine
theorem op_facts (w : World) : ((op w).map fun s => (s.heap.isNs mainGlobals && s.gens.size == 0, s.heap.objs.size, s.heap.nsMap mainGlobals "__annotations__")) = some (true, 28, an) := by
  unfold op
  rw [PySem.W.Fast.te10274390034422433532, PySem.W.Fast.te14364793385576792824, PySem.W.Fast.te1435165496053646825, PySem.W.Fast.te14289696077712309145]
  kernel_rfl
theorem op_is (w : World) : op w = some (s0 w) := by
  obtain ⟨s, h, _⟩ := Option.map_eq_some_iff.mp (op_facts w)
  unfold s0
  rw [h]; rfl
noncomputable def Yf (s : Shared) : List (Option Value) × List (Option Obj) × Nat × Prop := (lo.map (s.heap.nsMap mainGlobals), [56, 57, 61, 62, 77].map s.heap.get?, s.heap.objs.size, ∃ es n, s.heap.get? 88 = some (dObj es n) ∧ EntsAre es b3D)
noncomputable def Ya (w : World) : List (Option Value) × List (Option Obj) × Nat × Prop :=
  ([some (.float 4599676419421066581 286), some (.float 4595172819793696085 290), some (.float 4604180019048437077 294), some (.ref 57), some (.ref 62), some (.ref 77), some (.ref 88)],
      [some (o56 w.params), some (o57 w.params), some (o61 w.params), some (o62 w.params), some (o77 w.params)], 163, True)
theorem fin_run (w : World) (s : Shared) (p : Pos) : topRun treeTable pw w 28 an 3 s ⟨doneF .next, cE, p, [topFrame pos0]⟩ = some s := by
  obtain ⟨heap, gens, drawn, toks, os⟩ := s
  rfl
/-- the whole run of the top -/
theorem top_runs (w : World) : ∃ s, topRun treeTable pw w 28 an 300000 (s0 w) (topStub pw) = some s ∧ ∃ (G : Nat → Obj) (es : List DictEntry), G 0 = dObj es 650 ∧ EntsAre es b3D ∧
    looks w s = (true, openGood qv lo, (Ya w).1, (Ya w).2.1, some (G 0), 163) := by
  obtain ⟨⟨t1, q1, z1⟩, hA, eA⟩ := Option.map_eq_some_iff.mp (runA_is w)
  unfold runA at hA
  rw [op_is, Option.bind_some] at hA
  obtain ⟨r, hr, hA⟩ := Option.bind_eq_some_iff.mp hA
  obtain ⟨q, hq, hA⟩ := Option.bind_eq_some_iff.mp hA
  obtain ⟨z, hz, hA⟩ := Option.map_eq_some_iff.mp hA
  obtain ⟨rs, rt⟩ := r
  obtain ⟨qf, qs, qc, qp⟩ := q
  obtain ⟨zf, zs, zc, zp⟩ := z
  simp only [Prod.mk.injEq] at hA eA
  obtain ⟨rfl, rfl, rfl⟩ := hA
  dsimp only at eA hq hz
  obtain ⟨rfl, ⟨rfl, rfl, rfl⟩, rfl, rfl, rfl, rfl⟩ := eA
  obtain ⟨G, tk, m, q, es, hm, hD, hG, hE⟩ := runD w
  obtain ⟨⟨z, y⟩, hB, eB⟩ := Option.map_eq_some_iff.mp (runB_is w G tk q)
  unfold runB at hB
  obtain ⟨z', hz', hB⟩ := Option.bind_eq_some_iff.mp hB
  obtain ⟨y', hy', hB⟩ := Option.map_eq_some_iff.mp hB
  obtain ⟨zf, zs, zc, zp⟩ := z'
  obtain ⟨yf, ys, yc, yp⟩ := y'
  simp only [Prod.mk.injEq] at hB eB
  obtain ⟨rfl, rfl⟩ := hB
  dsimp only at eB hy'
  obtain ⟨⟨rfl, rfl, rfl⟩, ⟨rfl, rfl, rfl⟩, e7⟩ := eB
  refine ⟨ys, ?_, G, es, hG, hE, e7⟩
  have hB3 : topRun treeTable pw w 28 an (400 + 3) zs (restOf (stB ++ []) env0 cE pN [topFrame pos0]) = some ys := piece_app hy' (fin_run w ys _)
  rw [List.append_nil] at hB3
  have hD3 := piece_app (seg_go hD hz') hB3
  have hC3 := piece_app (runC_is w) hD3
  have hA3 := piece_app hz hC3
  rw [← sts_eq] at hA3
  have hBl := piece_block hq hA3
  have hP := go_top hr hBl
  have := topRun_mono (300000 - (12 + (2 + (500 + (1100 + (m + 50 + (400 + 3))))))) _ _ _ _ hP
  rwa [show 12 + (2 + (500 + (1100 + (m + 50 + (400 + 3))))) + (300000 - (12 + (2 + (500 + (1100 + (m + 50 + (400 + 3))))))) = 300000 by omega] at this
theorem left : LeftO pw qv lo (fun _ => true) Yf Ya 300000 := fun w => by
  obtain ⟨s, h, G, es, hG, hE, hL⟩ := top_runs w
  have hop := op_is w
  have hf : fencedOpening treeTable pw w 300000 = some (s0 w) := by
    unfold op at hop
    obtain ⟨s₁, h1, h2⟩ := Option.bind_eq_some_iff.mp hop
    have := importEnds_mono 299100 _ _ _ _ h1
    unfold fencedOpening
    rw [this]
    exact h2
  have hfa := op_facts w
  rw [hop] at hfa
  simp only [Option.map_some, Option.some.injEq, Prod.mk.injEq] at hfa
  obtain ⟨f1, f2, f3⟩ := hfa
  unfold looks at hL
  simp only [Prod.mk.injEq] at hL
  obtain ⟨l1, l2, l3, l4, l5, l6⟩ := hL
  have ht : topFrom treeTable pw w 300000 (s0 w) = some s := by
    unfold topFrom
    rw [f1, f2, f3, h]
    show (match staticsOk mods (s0 w).heap s.heap && namesBound pw s.heap && gensDone s && laidKept (s0 w).heap s.heap with | true => some s | false => none) = some s
    rw [l1]
  unfold openEnds
  rw [hf]
  show (topFrom treeTable pw w 300000 (s0 w)).map _ = _
  rw [ht]
  show some (openSeen qv lo mods (fun _ => true) true s, Yf s) = some (openGood qv lo, Ya w)
  rw [l2]
  unfold Yf
  rw [l3, l4, l6]
  have hd : (∃ es n, s.heap.get? 88 = some (dObj es n) ∧ EntsAre es b3D) = True := by
    refine propext ⟨fun _ => trivial, fun _ => ⟨es, 650, Heap.get?_some_iff.mpr ⟨by rw [l5, hG], rfl⟩, hE⟩⟩
  rw [hd]
  rfl
end Mine
end
section
open PySem
set_option Elab.async false
set_option maxRecDepth 100000
set_option linter.unusedVariables false
namespace Mine
open PySem.Sre PySem.Sre.M
noncomputable def code1 : Array Nat := #[14, 4, 0, 1, 1, 6, 1, 16, 46, 1]
noncomputable def code2 : Array Nat := #[14, 9, 4, 1, 2, 16, 10, 16, 13, 0, 7, 7, 16, 13, 16, 10, 15, 18, 5, 16, 10, 15, 13, 11, 16, 13, 5, 5, 0, 16, 10, 1, 15, 2, 0, 1]

theorem runFor_done {m : M} (h : m.outcome.isSome = true) : ∀ n, runFor n m = m
  | 0 => rfl
  | n + 1 => by unfold runFor; rw [if_pos h]
theorem runFor_add : ∀ (a b : Nat) (m : M), runFor (a + b) m = runFor b (runFor a m)
  | 0, b, m => by rw [Nat.zero_add]; rfl
  | a + 1, b, m => by
    by_cases h : m.outcome.isSome = true
    · rw [runFor_done h, runFor_done h, runFor_done h]
    · rw [show a + 1 + b = a + b + 1 by omega]
      show (if m.outcome.isSome then m else runFor (a + b) m.step) = runFor b (if m.outcome.isSome then m else runFor a m.step)
      rw [if_neg h, if_neg h]
      exact runFor_add a b m.step
theorem step_exec {m : M} (h1 : m.outcome = none) (h2 : m.answer = none) (h3 : m.pc < m.code.size) : m.step = m.exec := by
  unfold M.step
  rw [h1, h2, if_pos h3]
  rfl
/-- m comes to m' -/
noncomputable def To (m m' : M) : Prop := ∃ n, n ≤ 100000000 ∧ runFor n m = m'
/-- the search's machine as it stands within an attempt -/
noncomputable def mk (code text : Array Nat) (ls start pc pos handed : Nat) (om : Bool) (lm li : Int) (fr : List Sre.Frame) (wt : Nat) (an : Option Bool) (seen : Seen) (out : Option Sre.Outcome) : M :=
  { code, text, lim := text.size, start, lastStart := ls, pc, pos, handed, outermost := om, marks := #[], lastmark := lm, lastindex := li, frames := fr, weight := wt, answer := an, seen, outcome := out }
section
variable {text : Array Nat} {ls start pos handed wt : Nat} {om : Bool} {lm li : Int} {fr : List Sre.Frame} {seen : Seen}
theorem lit_ok {code : Array Nat} {pc : Nat} (hpc : pc < code.size) (hop : ops[code.getD pc 0]? = some .LITERAL) (hp : pos < text.size) (hc : text.getD pos 0 = code.getD (pc + 1) 0) :
    ∃ seen', (mk code text ls start pc pos handed om lm li fr wt none seen none).step = mk code text ls start (pc + 2) (pos + 1) handed om lm li fr wt none seen' none := by
  refine ⟨seen.add (code.getD pc 0), ?_⟩
  rw [step_exec (m := mk code text ls start pc pos handed om lm li fr wt none seen none) rfl rfl hpc]
  unfold M.exec
  simp only [mk, M.word, Nat.add_zero, hop]
  refine (if_neg (show ¬ pos ≥ text.size by omega)).trans ?_
  simp only [accepts, hop, hc, itemWidth, beq_self_eq_true]
theorem lit_no {code : Array Nat} {pc : Nat} (hpc : pc < code.size) (hop : ops[code.getD pc 0]? = some .LITERAL) (hc : ¬ (pos < text.size ∧ text.getD pos 0 = code.getD (pc + 1) 0)) :
    ∃ seen', (mk code text ls start pc pos handed om lm li fr wt none seen none).step = mk code text ls start pc pos handed om lm li fr wt (some false) seen' none := by
  refine ⟨seen.add (code.getD pc 0), ?_⟩
  rw [step_exec (m := mk code text ls start pc pos handed om lm li fr wt none seen none) rfl rfl hpc]
  unfold M.exec
  simp only [mk, M.word, Nat.add_zero, hop]
  by_cases hp : pos < text.size
  · refine (if_neg (show ¬ pos ≥ text.size by omega)).trans ?_
    have hc' : (text.getD pos 0 == code.getD (pc + 1) 0) = false := beq_eq_false_iff_ne.mpr fun e => hc ⟨hp, e⟩
    simp only [accepts, hop, hc', M.say]
  · refine (if_pos (show pos ≥ text.size by omega)).trans ?_
    rfl
theorem jump_ {code : Array Nat} {pc : Nat} (hpc : pc < code.size) (hop : ops[code.getD pc 0]? = some .JUMP) :
    ∃ seen', (mk code text ls start pc pos handed om lm li fr wt none seen none).step = mk code text ls start (pc + 1 + code.getD (pc + 1) 0) pos handed om lm li fr wt none seen' none := by
  refine ⟨seen.add (code.getD pc 0), ?_⟩
  rw [step_exec (m := mk code text ls start pc pos handed om lm li fr wt none seen none) rfl rfl hpc]
  unfold M.exec
  simp only [mk, M.word, Nat.add_zero, hop]
theorem succ_ {code : Array Nat} {pc : Nat} (hpc : pc < code.size) (hop : ops[code.getD pc 0]? = some .SUCCESS) :
    ∃ seen', (mk code text ls start pc pos handed om lm li fr wt none seen none).step = mk code text ls start pc pos pos om lm li fr wt (some true) seen' none := by
  refine ⟨seen.add (code.getD pc 0), ?_⟩
  rw [step_exec (m := mk code text ls start pc pos handed om lm li fr wt none seen none) rfl rfl hpc]
  unfold M.exec
  simp only [mk, M.word, Nat.add_zero, hop, Bool.false_and, Bool.or_self, Bool.and_false, Bool.false_eq_true, if_false, M.say]
theorem end_ {code : Array Nat} {pc : Nat} {yes : Bool} : (mk code text ls start pc pos handed om lm li [] wt (some yes) seen none).step = mk code text ls start pc pos handed om lm li [] wt (some yes) seen (some (if yes then .matched else .failed)) := by
  simp only [M.step, mk, Option.isSome_none, Bool.false_eq_true, if_false]

noncomputable def kept0 (lm li : Int) : Sre.Kept := { lastmark := lm, lastindex := li, whole := false, marks := #[] }
noncomputable def fB (alt pos : Nat) (om : Bool) (lm li : Int) : Sre.Frame := { wait := .nextBranch, pc := alt, pos, outermost := om, kept := kept0 lm li }
noncomputable def fL (pc pos : Nat) (om : Bool) (lm li : Int) : Sre.Frame := { wait := .lookNot, pc, pos, outermost := om, kept := kept0 lm li }
noncomputable def f0 (pc pos : Nat) (om : Bool) : Sre.Frame := { wait := .nextStart, pc, pos, outermost := om }
theorem alt_ {code : Array Nat} {pc alt : Nat} {an : Option Bool} (hz : (code.getD alt 0 == 0) = false) (hw : wt ≤ 1000) :
    M.alternative (mk code text ls start pc pos handed om lm li fr wt none seen none) alt (kept0 lm li) = mk code text ls start (alt + 1) pos pos om lm li (fB alt pos om lm li :: fr) (wt + 1) none seen none := by
  unfold M.alternative
  have h1 : ((mk code text ls start pc pos handed om lm li fr wt none seen none).code.getD alt 0 == 0) = false := hz
  rw [h1]
  refine (if_neg (by decide)).trans ?_
  unfold M.attempt
  refine (if_neg ?_).trans rfl
  show ¬ (wt + 1 + 0 > 16777216)
  omega
theorem alt_end {code : Array Nat} {pc alt : Nat} {k : Sre.Kept} (hz : (code.getD alt 0 == 0) = true) :
    M.alternative (mk code text ls start pc pos handed om lm li fr wt none seen none) alt k = mk code text ls start pc pos handed om lm li fr wt (some false) seen none := by
  unfold M.alternative
  have h1 : ((mk code text ls start pc pos handed om lm li fr wt none seen none).code.getD alt 0 == 0) = true := hz
  rw [h1]
  rfl
theorem branch_ {code : Array Nat} {pc : Nat} (hpc : pc < code.size) (hop : ops[code.getD pc 0]? = some .BRANCH) (hz : (code.getD (pc + 1) 0 == 0) = false) (hw : wt ≤ 1000) :
    ∃ seen', (mk code text ls start pc pos handed om lm li fr wt none seen none).step = mk code text ls start (pc + 2) pos pos om lm li (fB (pc + 1) pos om lm li :: fr) (wt + 1) none seen' none := by
  refine ⟨seen.add (code.getD pc 0), ?_⟩
  rw [step_exec (m := mk code text ls start pc pos handed om lm li fr wt none seen none) rfl rfl hpc]
  refine Eq.trans ?_ (alt_ (an := none) (pc := pc) (handed := handed) hz hw)
  unfold M.exec
  simp only [mk, M.word, Nat.add_zero, hop]
  rfl
theorem back_no {code : Array Nat} {pc p0 alt : Nat} (hz : (code.getD (alt + code.getD alt 0) 0 == 0) = false) (hw : wt ≤ 1000) {om' : Bool} {lm' li' : Int} :
    (mk code text ls start pc p0 handed om' lm' li' (fB alt pos om lm li :: fr) (wt + 1) (some false) seen none).step = mk code text ls start (alt + code.getD alt 0 + 1) pos pos om lm li (fB (alt + code.getD alt 0) pos om lm li :: fr) (wt + 1) none seen none := by
  refine Eq.trans ?_ (alt_ (an := none) (pc := alt) (handed := handed) hz hw)
  rfl
theorem back_end {code : Array Nat} {pc p0 alt : Nat} (hz : (code.getD (alt + code.getD alt 0) 0 == 0) = true) {om' : Bool} {lm' li' : Int} :
    (mk code text ls start pc p0 handed om' lm' li' (fB alt pos om lm li :: fr) (wt + 1) (some false) seen none).step = mk code text ls start alt pos handed om lm li fr wt (some false) seen none := by
  refine Eq.trans ?_ (alt_end (pc := alt) (handed := handed) (k := kept0 lm li) hz)
  rfl
theorem back_yes {code : Array Nat} {pc p0 alt : Nat} {om' : Bool} {lm' li' : Int} :
    (mk code text ls start pc p0 handed om' lm' li' (fB alt pos om lm li :: fr) (wt + 1) (some true) seen none).step = mk code text ls start alt pos handed om lm' li' fr wt (some true) seen none := rfl
theorem start_yes {code : Array Nat} {pc p0 q : Nat} {om' : Bool} :
    (mk code text ls start pc p0 handed om' lm li (f0 q pos om :: fr) (wt + 1) (some true) seen none).step = mk code text ls start q pos handed om lm li fr wt (some true) seen none := rfl
theorem start_last {code : Array Nat} {pc p0 q : Nat} {om' : Bool} (h : ¬ pos < ls) :
    (mk code text ls start pc p0 handed om' lm li (f0 q pos om :: fr) (wt + 1) (some false) seen none).step = mk code text ls start q pos handed om lm li fr wt (some false) seen none := by
  show (if pos < ls then _ else _) = _
  rw [if_neg h]; rfl
theorem look_ {code : Array Nat} {pc : Nat} (hpc : pc < code.size) (hop : ops[code.getD pc 0]? = some .ASSERT_NOT) (hb : code.getD (pc + 2) 0 = 0) (hw : wt ≤ 1000) :
    ∃ seen', (mk code text ls start pc pos handed om lm li fr wt none seen none).step = mk code text ls start (pc + 3) pos pos false lm li (fL pc pos om lm li :: fr) (wt + 1) none seen' none := by
  refine ⟨seen.add (code.getD pc 0), ?_⟩
  rw [step_exec (m := mk code text ls start pc pos handed om lm li fr wt none seen none) rfl rfl hpc]
  unfold M.exec
  simp only [mk, M.word, Nat.add_zero, hop, hb]
  refine (if_neg (Nat.not_lt_zero _)).trans ?_
  unfold M.attempt
  refine (if_neg ?_).trans rfl
  show ¬ (wt + 1 + 0 > 16777216)
  omega
theorem look_back {code : Array Nat} {pc p0 q : Nat} {om' : Bool} {lm' li' : Int} :
    (mk code text ls start pc p0 handed om' lm' li' (fL q pos om lm li :: fr) (wt + 1) (some false) seen none).step = mk code text ls start (q + 1 + code.getD (q + 1) 0) pos handed om lm li fr wt none seen none := rfl
theorem at_ {code : Array Nat} {pc : Nat} (hpc : pc < code.size) (hop : ops[code.getD pc 0]? = some .AT) (ha : code.getD (pc + 1) 0 = 1) :
    ∃ seen', (mk code text ls start pc pos handed om lm li fr wt none seen none).step = if (pos == 0 || text.getD (pos - 1) 0 == 10) = true then mk code text ls start (pc + 2) pos handed om lm li fr wt none seen' none else mk code text ls start pc pos handed om lm li fr wt (some false) seen' none := by
  refine ⟨(seen.add (code.getD pc 0)).add 44, ?_⟩
  rw [step_exec (m := mk code text ls start pc pos handed om lm li fr wt none seen none) rfl rfl hpc]
  unfold M.exec
  simp only [mk, M.word, Nat.add_zero, hop, ha, M.isAt, M.say]
end
noncomputable def Ends (n : Nat) (m : M) (r : Option (Nat × Nat)) : Prop := match r with
  | some (a, b) => (∃ x, (runFor n m).outcome = some x ∧ x = .matched) ∧ (runFor n m).start = a ∧ (runFor n m).handed = b
  | none => (runFor n m).outcome = some .failed
theorem ends_step {n : Nat} {m m' : M} {r : Option (Nat × Nat)} (h : m.step = m') (ho : m.outcome = none) (k : Ends n m' r) : Ends (n + 1) m r := by
  have e : runFor (n + 1) m = runFor n m' := by
    show (if m.outcome.isSome then m else runFor n m.step) = _
    rw [ho, h]; rfl
  unfold Ends at k ⊢
  rw [e]; exact k
/-- an attempt of code2 at a line feed -/
theorem at10 {text : Array Nat} {ls s : Nat} {seen : Seen} (hs : s < text.size) (hc : text.getD s 0 = 10) :
    ∃ n, n ≤ 40 ∧ Ends n (mk code2 text ls s 10 s s true (-1) (-1) [f0 10 s true] 1 none seen none) (some (s, s + 1)) := by
  obtain ⟨s1, h1⟩ := branch_ (code := code2) (text := text) (ls := ls) (start := s) (pos := s) (handed := s) (om := true) (lm := -1) (li := -1) (fr := [f0 10 s true]) (wt := 1) (seen := seen) (pc := 10) (by decide) (by rfl) (by rfl) (by decide)
  obtain ⟨s2, h2⟩ := lit_no (code := code2) (text := text) (ls := ls) (start := s) (pos := s) (handed := s) (om := true) (lm := -1) (li := -1) (fr := [fB 11 s true (-1) (-1), f0 10 s true]) (wt := 2) (seen := s1) (pc := 12) (by decide) (by rfl) (by rw [hc]; rintro ⟨_, e⟩; cases e)
  have h3 := back_no (code := code2) (text := text) (ls := ls) (start := s) (pos := s) (handed := s) (om := true) (lm := -1) (li := -1) (fr := [f0 10 s true]) (wt := 1) (seen := s2) (pc := 12) (p0 := s) (alt := 11) (om' := true) (lm' := -1) (li' := -1) (by rfl) (by decide)
  obtain ⟨s4, h4⟩ := lit_ok (code := code2) (text := text) (ls := ls) (start := s) (pos := s) (handed := s) (om := true) (lm := -1) (li := -1) (fr := [fB 18 s true (-1) (-1), f0 10 s true]) (wt := 2) (seen := s2) (pc := 19) (by decide) (by rfl) hs (by rw [hc]; rfl)
  obtain ⟨s5, h5⟩ := jump_ (code := code2) (text := text) (ls := ls) (start := s) (pos := s + 1) (handed := s) (om := true) (lm := -1) (li := -1) (fr := [fB 18 s true (-1) (-1), f0 10 s true]) (wt := 2) (seen := s4) (pc := 21) (by decide) (by rfl)
  obtain ⟨s6, h6⟩ := succ_ (code := code2) (text := text) (ls := ls) (start := s) (pos := s + 1) (handed := s) (om := true) (lm := -1) (li := -1) (fr := [fB 18 s true (-1) (-1), f0 10 s true]) (wt := 2) (seen := s5) (pc := 35) (by decide) (by rfl)
  exact ⟨9, by decide, ends_step h1 rfl (ends_step h2 rfl (ends_step h3 rfl (ends_step h4 rfl (ends_step h5 rfl (ends_step h6 rfl (ends_step back_yes rfl (ends_step start_yes rfl (ends_step end_ rfl ⟨⟨_, rfl, rfl⟩, rfl, rfl⟩))))))))⟩
end Mine
end
section
open PySem
set_option Elab.async false
set_option maxRecDepth 100000
set_option linter.unusedVariables false
namespace Mine
open PySem.Sre PySem.Sre.M
/-- an attempt of code2 at a carriage return and a line feed -/
theorem at1310 {text : Array Nat} {ls s : Nat} {seen : Seen} (hs : s + 1 < text.size) (hc : text.getD s 0 = 13) (hc2 : text.getD (s + 1) 0 = 10) :
    ∃ n, n ≤ 40 ∧ Ends n (mk code2 text ls s 10 s s true (-1) (-1) [f0 10 s true] 1 none seen none) (some (s, s + 2)) := by
  obtain ⟨s1, h1⟩ := branch_ (code := code2) (text := text) (ls := ls) (start := s) (pos := s) (handed := s) (om := true) (lm := -1) (li := -1) (fr := [f0 10 s true]) (wt := 1) (seen := seen) (pc := 10) (by decide) (by rfl) (by rfl) (by decide)
  obtain ⟨s2, h2⟩ := lit_ok (code := code2) (text := text) (ls := ls) (start := s) (pos := s) (handed := s) (om := true) (lm := -1) (li := -1) (fr := [fB 11 s true (-1) (-1), f0 10 s true]) (wt := 2) (seen := s1) (pc := 12) (by decide) (by rfl) (by omega) (by rw [hc]; rfl)
  obtain ⟨s3, h3⟩ := lit_ok (code := code2) (text := text) (ls := ls) (start := s) (pos := s + 1) (handed := s) (om := true) (lm := -1) (li := -1) (fr := [fB 11 s true (-1) (-1), f0 10 s true]) (wt := 2) (seen := s2) (pc := 14) (by decide) (by rfl) hs (by rw [hc2]; rfl)
  obtain ⟨s5, h5⟩ := jump_ (code := code2) (text := text) (ls := ls) (start := s) (pos := s + 2) (handed := s) (om := true) (lm := -1) (li := -1) (fr := [fB 11 s true (-1) (-1), f0 10 s true]) (wt := 2) (seen := s3) (pc := 16) (by decide) (by rfl)
  obtain ⟨s6, h6⟩ := succ_ (code := code2) (text := text) (ls := ls) (start := s) (pos := s + 2) (handed := s) (om := true) (lm := -1) (li := -1) (fr := [fB 11 s true (-1) (-1), f0 10 s true]) (wt := 2) (seen := s5) (pc := 35) (by decide) (by rfl)
  exact ⟨8, by decide, ends_step h1 rfl (ends_step h2 rfl (ends_step h3 rfl (ends_step h5 rfl (ends_step h6 rfl (ends_step back_yes rfl (ends_step start_yes rfl (ends_step end_ rfl ⟨⟨_, rfl, rfl⟩, rfl, rfl⟩)))))))⟩
/-- an attempt of code2 at a carriage return alone -/
theorem at13 {text : Array Nat} {ls s : Nat} {seen : Seen} (hs : s < text.size) (hc : text.getD s 0 = 13) (hc2 : ¬ (s + 1 < text.size ∧ text.getD (s + 1) 0 = 10)) :
    ∃ n, n ≤ 40 ∧ Ends n (mk code2 text ls s 10 s s true (-1) (-1) [f0 10 s true] 1 none seen none) (some (s, s + 1)) := by
  obtain ⟨s1, h1⟩ := branch_ (code := code2) (text := text) (ls := ls) (start := s) (pos := s) (handed := s) (om := true) (lm := -1) (li := -1) (fr := [f0 10 s true]) (wt := 1) (seen := seen) (pc := 10) (by decide) (by rfl) (by rfl) (by decide)
  obtain ⟨s2, h2⟩ := lit_ok (code := code2) (text := text) (ls := ls) (start := s) (pos := s) (handed := s) (om := true) (lm := -1) (li := -1) (fr := [fB 11 s true (-1) (-1), f0 10 s true]) (wt := 2) (seen := s1) (pc := 12) (by decide) (by rfl) hs (by rw [hc]; rfl)
  obtain ⟨s3, h3⟩ := lit_no (code := code2) (text := text) (ls := ls) (start := s) (pos := s + 1) (handed := s) (om := true) (lm := -1) (li := -1) (fr := [fB 11 s true (-1) (-1), f0 10 s true]) (wt := 2) (seen := s2) (pc := 14) (by decide) (by rfl) hc2
  have h4 := back_no (code := code2) (text := text) (ls := ls) (start := s) (pos := s) (handed := s) (om := true) (lm := -1) (li := -1) (fr := [f0 10 s true]) (wt := 1) (seen := s3) (pc := 14) (p0 := s + 1) (alt := 11) (om' := true) (lm' := -1) (li' := -1) (by rfl) (by decide)
  obtain ⟨s5, h5⟩ := lit_no (code := code2) (text := text) (ls := ls) (start := s) (pos := s) (handed := s) (om := true) (lm := -1) (li := -1) (fr := [fB 18 s true (-1) (-1), f0 10 s true]) (wt := 2) (seen := s3) (pc := 19) (by decide) (by rfl) (by rw [hc]; rintro ⟨_, e⟩; cases e)
  have h6 := back_no (code := code2) (text := text) (ls := ls) (start := s) (pos := s) (handed := s) (om := true) (lm := -1) (li := -1) (fr := [f0 10 s true]) (wt := 1) (seen := s5) (pc := 19) (p0 := s) (alt := 18) (om' := true) (lm' := -1) (li' := -1) (by rfl) (by decide)
  obtain ⟨s7, h7⟩ := lit_ok (code := code2) (text := text) (ls := ls) (start := s) (pos := s) (handed := s) (om := true) (lm := -1) (li := -1) (fr := [fB 23 s true (-1) (-1), f0 10 s true]) (wt := 2) (seen := s5) (pc := 24) (by decide) (by rfl) hs (by rw [hc]; rfl)
  obtain ⟨s8, h8⟩ := look_ (code := code2) (text := text) (ls := ls) (start := s) (pos := s + 1) (handed := s) (om := true) (lm := -1) (li := -1) (fr := [fB 23 s true (-1) (-1), f0 10 s true]) (wt := 2) (seen := s7) (pc := 26) (by decide) (by rfl) (by rfl) (by decide)
  obtain ⟨s9, h9⟩ := lit_no (code := code2) (text := text) (ls := ls) (start := s) (pos := s + 1) (handed := s + 1) (om := false) (lm := -1) (li := -1) (fr := [fL 26 (s + 1) true (-1) (-1), fB 23 s true (-1) (-1), f0 10 s true]) (wt := 3) (seen := s8) (pc := 29) (by decide) (by rfl) hc2
  have h10 := look_back (code := code2) (text := text) (ls := ls) (start := s) (pos := s + 1) (handed := s + 1) (om := true) (lm := -1) (li := -1) (fr := [fB 23 s true (-1) (-1), f0 10 s true]) (wt := 2) (seen := s9) (pc := 29) (p0 := s + 1) (q := 26) (om' := false) (lm' := -1) (li' := -1)
  obtain ⟨s11, h11⟩ := jump_ (code := code2) (text := text) (ls := ls) (start := s) (pos := s + 1) (handed := s + 1) (om := true) (lm := -1) (li := -1) (fr := [fB 23 s true (-1) (-1), f0 10 s true]) (wt := 2) (seen := s9) (pc := 32) (by decide) (by rfl)
  obtain ⟨s12, h12⟩ := succ_ (code := code2) (text := text) (ls := ls) (start := s) (pos := s + 1) (handed := s + 1) (om := true) (lm := -1) (li := -1) (fr := [fB 23 s true (-1) (-1), f0 10 s true]) (wt := 2) (seen := s11) (pc := 35) (by decide) (by rfl)
  exact ⟨15, by decide, ends_step h1 rfl (ends_step h2 rfl (ends_step h3 rfl (ends_step h4 rfl (ends_step h5 rfl (ends_step h6 rfl (ends_step h7 rfl (ends_step h8 rfl (ends_step h9 rfl (ends_step h10 rfl (ends_step h11 rfl (ends_step h12 rfl
    (ends_step back_yes rfl (ends_step start_yes rfl (ends_step end_ rfl ⟨⟨_, rfl, rfl⟩, rfl, rfl⟩))))))))))))))⟩

noncomputable def brk (c : Nat) : Bool := c == 10 || c == 13
theorem inSet2 (c : Nat) (seen : Seen) : ∃ seen', inSet code2 c code2.size 5 true seen = .ok (brk c, seen') := by
  by_cases h1 : c = 10
  · subst h1; exact ⟨_, rfl⟩
  · by_cases h2 : c = 13
    · subst h2; exact ⟨_, rfl⟩
    · have b1 : (c == 10) = false := beq_eq_false_iff_ne.mpr h1
      have b2 : (c == 13) = false := beq_eq_false_iff_ne.mpr h2
      refine ⟨((seen.add 16).add 16).add 0, ?_⟩
      show (if (c == 10) = true then _ else _) = _
      rw [b1]
      refine (if_neg (by decide)).trans ?_
      show (if (c == 13) = true then _ else _) = _
      rw [b2]
      refine (if_neg (by decide)).trans ?_
      show Except.ok (!true, _) = _
      unfold brk
      rw [b1, b2]; rfl
theorem admitted_some {m : M} (hcode : m.code = code2) (hlim : m.lim = m.text.size) {s : Nat} (hs : s < m.text.size) (hc : brk (m.text.getD s 0) = true) :
    ∀ (k s0 fuel : Nat) (seen : Seen), s0 + k = s → k < fuel → (∀ i, s0 ≤ i → i < s → brk (m.text.getD i 0) = false) → ∃ seen', admitted m fuel s0 seen = .ok (some s, seen')
  | k, s0, 0, seen, _, hf, _ => absurd hf (Nat.not_lt_zero _)
  | 0, s0, fuel + 1, seen, he, hf, hno => by
    have : s0 = s := by omega
    subst this
    unfold admitted
    rw [hlim, if_neg (by omega), hcode]
    obtain ⟨s', e⟩ := inSet2 (m.text.getD s0 0) seen
    rw [e, hc]
    exact ⟨_, rfl⟩
  | k + 1, s0, fuel + 1, seen, he, hf, hno => by
    unfold admitted
    rw [hlim, if_neg (by omega), hcode]
    obtain ⟨s', e⟩ := inSet2 (m.text.getD s0 0) seen
    rw [e, hno s0 (Nat.le_refl _) (by omega)]
    exact admitted_some hcode hlim hs hc k (s0 + 1) fuel s' (by omega) (by omega) fun i h1 h2 => hno i (by omega) h2
theorem admitted_none {m : M} (hcode : m.code = code2) (hlim : m.lim = m.text.size) :
    ∀ (fuel s0 : Nat) (seen : Seen), (∀ i, s0 ≤ i → i < m.text.size → brk (m.text.getD i 0) = false) → ∃ seen', admitted m fuel s0 seen = .ok (none, seen')
  | 0, s0, seen, _ => ⟨_, rfl⟩
  | fuel + 1, s0, seen, hno => by
    unfold admitted
    rw [hlim, hcode]
    by_cases h : s0 ≥ m.text.size
    · rw [if_pos h]; exact ⟨_, rfl⟩
    · rw [if_neg h]
      obtain ⟨s', e⟩ := inSet2 (m.text.getD s0 0) seen
      rw [e, hno s0 (Nat.le_refl _) (by omega)]
      exact admitted_none hcode hlim fuel (s0 + 1) s' fun i h1 h2 => hno i (by omega) h2
noncomputable def base (code text : Array Nat) (start pc : Nat) (seen : Seen) : M := { code, text, lim := text.size, start, lastStart := text.size, pc, pos := start, handed := start, marks := #[], seen }
theorem ends_say {m : M} (h1 : m.outcome = none) (h2 : m.frames = []) : Ends 1 (m.say false) none := by
  unfold Ends
  show (if (m.say false).outcome.isSome then (m.say false) else runFor 0 (m.say false).step).outcome = _
  have e1 : (m.say false).outcome = none := h1
  rw [e1]
  show ((m.say false).step).outcome = _
  unfold M.step
  have e2 : (m.say false).frames = [] := h2
  rw [e1, e2]
  rfl
theorem search2_none {text : Array Nat} {start : Nat} (hno : ∀ i, start ≤ i → i < text.size → brk (text.getD i 0) = false) : ∃ n, n ≤ 40 ∧ Ends n (forSearch code2 text 0 start text.size false) none := by
  refine ⟨1, by decide, ?_⟩
  by_cases h : (decide (start > text.size) || decide (text.size - start < 1)) = true
  · have e : ∃ m : M, forSearch code2 text 0 start text.size false = m.say false ∧ m.outcome = none ∧ m.frames = [] := ⟨_, if_pos h, rfl, rfl⟩
    obtain ⟨m, e, e1, e2⟩ := e
    rw [e]; exact ends_say e1 e2
  · have e : forSearch code2 text 0 start text.size false = (base code2 text start 10 (({} : Seen).add 14)).attemptFrom start true := if_neg h
    obtain ⟨s', ha⟩ := admitted_none (m := base code2 text start 10 (({} : Seen).add 14)) rfl rfl (text.size + 1 - start) start (({} : Seen).add 14) hno
    have e2 : (base code2 text start 10 (({} : Seen).add 14)).attemptFrom start true = ({ base code2 text start 10 (({} : Seen).add 14) with seen := s' }).say false := by
      show (match admitted (base code2 text start 10 (({} : Seen).add 14)) (text.size + 1 - start) start (({} : Seen).add 14) with | .ok (some s, seen) => _ | .ok (none, seen) => _ | .error why => _) = _
      rw [ha]
    rw [e, e2]
    exact ends_say rfl rfl
theorem search2_is {text : Array Nat} {start s : Nat} (h0 : start ≤ s) (hs : s < text.size) (hc : brk (text.getD s 0) = true) (hno : ∀ i, start ≤ i → i < s → brk (text.getD i 0) = false) :
    ∃ seen, forSearch code2 text 0 start text.size false = mk code2 text text.size s 10 s s true (-1) (-1) [f0 10 s true] 1 none seen none := by
  have h : ¬ (decide (start > text.size) || decide (text.size - start < 1)) = true := by simp; omega
  have e : forSearch code2 text 0 start text.size false = (base code2 text start 10 (({} : Seen).add 14)).attemptFrom start true := if_neg h
  obtain ⟨s', ha⟩ := admitted_some (m := base code2 text start 10 (({} : Seen).add 14)) rfl rfl hs hc (s - start) start (text.size + 1 - start) (({} : Seen).add 14) (by omega) (by omega) hno
  refine ⟨s', ?_⟩
  rw [e]
  show (match admitted (base code2 text start 10 (({} : Seen).add 14)) (text.size + 1 - start) start (({} : Seen).add 14) with | .ok (some s, seen) => _ | .ok (none, seen) => _ | .error why => _) = _
  rw [ha]
  rfl
end Mine
end
section
open PySem
set_option Elab.async false
set_option maxRecDepth 100000
set_option linter.unusedVariables false
namespace Mine
open PySem.Sre PySem.Sre.M
/-- a dot at the head of a line -/
noncomputable def dotAt (text : Array Nat) (i : Nat) : Prop := (i = 0 ∨ text.getD (i - 1) 0 = 10) ∧ i < text.size ∧ text.getD i 0 = 46
theorem one_yes {text : Array Nat} {s : Nat} {om : Bool} {seen : Seen} (hd : dotAt text s) :
    ∃ n, n ≤ 10 ∧ Ends n (mk code1 text text.size s 5 s s om (-1) (-1) [f0 5 s om] 1 none seen none) (some (s, s + 1)) := by
  obtain ⟨h1, h2, h3⟩ := hd
  obtain ⟨s1, e1⟩ := at_ (code := code1) (text := text) (ls := text.size) (start := s) (pos := s) (handed := s) (om := om) (lm := -1) (li := -1) (fr := [f0 5 s om]) (wt := 1) (seen := seen) (pc := 5) (by decide) (by rfl) (by rfl)
  rw [if_pos (by rcases h1 with h | h <;> simp [h])] at e1
  obtain ⟨s2, e2⟩ := lit_ok (code := code1) (text := text) (ls := text.size) (start := s) (pos := s) (handed := s) (om := om) (lm := -1) (li := -1) (fr := [f0 5 s om]) (wt := 1) (seen := s1) (pc := 7) (by decide) (by rfl) h2 (by rw [h3]; rfl)
  obtain ⟨s3, e3⟩ := succ_ (code := code1) (text := text) (ls := text.size) (start := s) (pos := s + 1) (handed := s) (om := om) (lm := -1) (li := -1) (fr := [f0 5 s om]) (wt := 1) (seen := s2) (pc := 9) (by decide) (by rfl)
  exact ⟨5, by decide, ends_step e1 rfl (ends_step e2 rfl (ends_step e3 rfl (ends_step start_yes rfl (ends_step end_ rfl ⟨⟨_, rfl, rfl⟩, rfl, rfl⟩))))⟩
/-- no dot at the head of a line: the attempt falls -/
theorem one_no {text : Array Nat} {s : Nat} {om : Bool} {seen : Seen} (hd : ¬ dotAt text s) {r : Option (Nat × Nat)} {n : Nat}
    (k : ∀ pc seen', Ends n (mk code1 text text.size s pc s s om (-1) (-1) [f0 5 s om] 1 (some false) seen' none) r) :
    ∃ n', n' ≤ n + 2 ∧ Ends n' (mk code1 text text.size s 5 s s om (-1) (-1) [f0 5 s om] 1 none seen none) r := by
  obtain ⟨s1, e1⟩ := at_ (code := code1) (text := text) (ls := text.size) (start := s) (pos := s) (handed := s) (om := om) (lm := -1) (li := -1) (fr := [f0 5 s om]) (wt := 1) (seen := seen) (pc := 5) (by decide) (by rfl) (by rfl)
  by_cases h : (s == 0 || text.getD (s - 1) 0 == 10) = true
  · rw [if_pos h] at e1
    obtain ⟨s2, e2⟩ := lit_no (code := code1) (text := text) (ls := text.size) (start := s) (pos := s) (handed := s) (om := om) (lm := -1) (li := -1) (fr := [f0 5 s om]) (wt := 1) (seen := s1) (pc := 7) (by decide) (by rfl) (fun ⟨h2, h3⟩ => hd ⟨by simpa using h, h2, h3⟩)
    exact ⟨n + 2, Nat.le_refl _, ends_step e1 rfl (ends_step e2 rfl (k _ _))⟩
  · rw [if_neg h] at e1
    exact ⟨n + 1, Nat.le_succ _, ends_step e1 rfl (k _ _)⟩
theorem next_ {text : Array Nat} {s pc : Nat} {om : Bool} {seen : Seen} (h : s < text.size) :
    (mk code1 text text.size s pc s s om (-1) (-1) [f0 5 s om] 1 (some false) seen none).step = mk code1 text text.size (s + 1) 5 (s + 1) (s + 1) false (-1) (-1) [f0 5 (s + 1) false] 1 none seen none := by
  show (if s < text.size then _ else _) = _
  rw [if_pos h]
  rfl
theorem run1_some {text : Array Nat} {s : Nat} (hd : dotAt text s) : ∀ (k s0 : Nat) (om : Bool) (seen : Seen), s0 + k = s → (∀ i, s0 ≤ i → i < s → ¬ dotAt text i) →
    ∃ n, n ≤ 10 * (k + 1) ∧ Ends n (mk code1 text text.size s0 5 s0 s0 om (-1) (-1) [f0 5 s0 om] 1 none seen none) (some (s, s + 1))
  | 0, s0, om, seen, he, _ => by
    have : s0 = s := by omega
    subst this
    obtain ⟨n, hn, e⟩ := one_yes (om := om) (seen := seen) hd
    exact ⟨n, by omega, e⟩
  | k + 1, s0, om, seen, he, hno => by
    have ih := fun seen' => run1_some hd k (s0 + 1) false seen' (by omega) fun i h1 h2 => hno i (by omega) h2
    have hs : s0 < text.size := by have := hd.2.1; omega
    obtain ⟨s1, e1⟩ := at_ (code := code1) (text := text) (ls := text.size) (start := s0) (pos := s0) (handed := s0) (om := om) (lm := -1) (li := -1) (fr := [f0 5 s0 om]) (wt := 1) (seen := seen) (pc := 5) (by decide) (by rfl) (by rfl)
    by_cases h : (s0 == 0 || text.getD (s0 - 1) 0 == 10) = true
    · rw [if_pos h] at e1
      obtain ⟨s2, e2⟩ := lit_no (code := code1) (text := text) (ls := text.size) (start := s0) (pos := s0) (handed := s0) (om := om) (lm := -1) (li := -1) (fr := [f0 5 s0 om]) (wt := 1) (seen := s1) (pc := 7) (by decide) (by rfl) (fun ⟨h2, h3⟩ => hno s0 (Nat.le_refl _) (by omega) ⟨by simpa using h, h2, h3⟩)
      obtain ⟨n, hn, e⟩ := ih s2
      exact ⟨n + 3, by omega, ends_step e1 rfl (ends_step e2 rfl (ends_step (next_ hs) rfl e))⟩
    · rw [if_neg h] at e1
      obtain ⟨n, hn, e⟩ := ih s1
      exact ⟨n + 2, by omega, ends_step e1 rfl (ends_step (next_ hs) rfl e)⟩
theorem run1_none {text : Array Nat} : ∀ (k s0 : Nat) (om : Bool) (seen : Seen), s0 + k = text.size → (∀ i, s0 ≤ i → ¬ dotAt text i) →
    ∃ n, n ≤ 10 * (k + 1) ∧ Ends n (mk code1 text text.size s0 5 s0 s0 om (-1) (-1) [f0 5 s0 om] 1 none seen none) none
  | 0, s0, om, seen, he, hno => by
    obtain ⟨n, hn, e⟩ := one_no (r := none) (n := 2) (om := om) (seen := seen) (hno s0 (Nat.le_refl _)) fun pc seen' => ends_step (start_last (by omega)) rfl (ends_step end_ rfl rfl)
    exact ⟨n, by omega, e⟩
  | k + 1, s0, om, seen, he, hno => by
    have ih := fun seen' => run1_none k (s0 + 1) false seen' (by omega) fun i h1 => hno i (by omega)
    have hs : s0 < text.size := by omega
    obtain ⟨s1, e1⟩ := at_ (code := code1) (text := text) (ls := text.size) (start := s0) (pos := s0) (handed := s0) (om := om) (lm := -1) (li := -1) (fr := [f0 5 s0 om]) (wt := 1) (seen := seen) (pc := 5) (by decide) (by rfl) (by rfl)
    by_cases h : (s0 == 0 || text.getD (s0 - 1) 0 == 10) = true
    · rw [if_pos h] at e1
      obtain ⟨s2, e2⟩ := lit_no (code := code1) (text := text) (ls := text.size) (start := s0) (pos := s0) (handed := s0) (om := om) (lm := -1) (li := -1) (fr := [f0 5 s0 om]) (wt := 1) (seen := s1) (pc := 7) (by decide) (by rfl) (fun ⟨h2, h3⟩ => hno s0 (Nat.le_refl _) ⟨by simpa using h, h2, h3⟩)
      obtain ⟨n, hn, e⟩ := ih s2
      exact ⟨n + 3, by omega, ends_step e1 rfl (ends_step e2 rfl (ends_step (next_ hs) rfl e))⟩
    · rw [if_neg h] at e1
      obtain ⟨n, hn, e⟩ := ih s1
      exact ⟨n + 2, by omega, ends_step e1 rfl (ends_step (next_ hs) rfl e)⟩
theorem search1_is {text : Array Nat} {start : Nat} (h : start < text.size) : forSearch code1 text 0 start text.size false = mk code1 text text.size start 5 start start true (-1) (-1) [f0 5 start true] 1 none (({} : Seen).add 14) none := by
  have h' : ¬ (decide (start > text.size) || decide (text.size - start < 1)) = true := by simp; omega
  exact if_neg h'
/-- the machine's search from start finds r -/
noncomputable def Finds (code text : Array Nat) (start : Nat) (r : Option (Nat × Nat)) : Prop := ∃ n, n ≤ 1000000000 ∧ Ends n (forSearch code text 0 start text.size false) r
theorem finds1_some {text : Array Nat} {start s : Nat} (hsz : text.size ≤ 10000000) (h0 : start ≤ s) (hd : dotAt text s) (hno : ∀ i, start ≤ i → i < s → ¬ dotAt text i) : Finds code1 text start (some (s, s + 1)) := by
  have := hd.2.1
  obtain ⟨n, hn, e⟩ := run1_some hd (s - start) start true (({} : Seen).add 14) (by omega) hno
  exact ⟨n, by omega, by rw [search1_is (by omega)]; exact e⟩
theorem finds1_none {text : Array Nat} {start : Nat} (hsz : text.size ≤ 10000000) (hno : ∀ i, start ≤ i → ¬ dotAt text i) : Finds code1 text start none := by
  by_cases h : start < text.size
  · obtain ⟨n, hn, e⟩ := run1_none (text.size - start) start true (({} : Seen).add 14) (by omega) hno
    exact ⟨n, by omega, by rw [search1_is h]; exact e⟩
  · have h' : (decide (start > text.size) || decide (text.size - start < 1)) = true := by simp; omega
    have e : ∃ m : M, forSearch code1 text 0 start text.size false = m.say false ∧ m.outcome = none ∧ m.frames = [] := ⟨_, if_pos h', rfl, rfl⟩
    obtain ⟨m, e, e1, e2⟩ := e
    exact ⟨1, by decide, by rw [e]; exact ends_say e1 e2⟩
theorem finds2_none {text : Array Nat} {start : Nat} (hno : ∀ i, start ≤ i → i < text.size → brk (text.getD i 0) = false) : Finds code2 text start none := by
  obtain ⟨n, hn, e⟩ := search2_none hno
  exact ⟨n, by omega, e⟩
theorem finds2_some {text : Array Nat} {start s e : Nat} (h0 : start ≤ s) (hno : ∀ i, start ≤ i → i < s → brk (text.getD i 0) = false) (hs : s < text.size)
    (hc : (text.getD s 0 = 10 ∧ e = s + 1) ∨ (s + 1 < text.size ∧ text.getD s 0 = 13 ∧ text.getD (s + 1) 0 = 10 ∧ e = s + 2) ∨ (text.getD s 0 = 13 ∧ ¬ (s + 1 < text.size ∧ text.getD (s + 1) 0 = 10) ∧ e = s + 1)) : Finds code2 text start (some (s, e)) := by
  have hb : brk (text.getD s 0) = true := by rcases hc with ⟨h, _⟩ | ⟨_, h, _⟩ | ⟨h, _⟩ <;> rw [h] <;> rfl
  obtain ⟨seen, hm⟩ := search2_is h0 hs hb hno
  unfold Finds
  rw [hm]
  rcases hc with ⟨h, rfl⟩ | ⟨h1, h2, h3, rfl⟩ | ⟨h1, h2, rfl⟩
  · obtain ⟨n, hn, e⟩ := at10 (ls := text.size) (seen := seen) hs h; exact ⟨n, by omega, e⟩
  · obtain ⟨n, hn, e⟩ := at1310 (ls := text.size) (seen := seen) h1 h2 h3; exact ⟨n, by omega, e⟩
  · obtain ⟨n, hn, e⟩ := at13 (ls := text.size) (seen := seen) hs h1 h2; exact ⟨n, by omega, e⟩
end Mine
end
section
open PySem PySem.W PyProof.Rows PySem.Builtin PySem.Builtin.Str PySem.Builtin.Re
set_option Elab.async false
set_option maxRecDepth 100000
set_option linter.unusedVariables false
namespace Mine
section
variable {prog : Program} {w : World} {A : Around} {E : Value → Shared → Prop} {s : Shared}
open PySem.Sre.M in
theorem reDrive_ {Q : Sre.M → Shared → Prop} : ∀ (turns n : Nat) (m : Sre.M), 1 ≤ turns → n ≤ 4 * turns → (runFor n m).outcome.isSome = true → Q (runFor n m) s → wpAny (model prog w) A (reDrive turns m) Q E s
  | 0, n, m, h1, _, _, _ => absurd h1 (by decide)
  | turns + 1, n, m, h1, hn, ho, hq => by
    unfold reDrive
    show wpAny _ _ (if (runFor 4 m).outcome.isSome then pure (runFor 4 m) else do rule "sre.turn"; reDrive turns (runFor 4 m)) _ _ _
    by_cases h : (runFor 4 m).outcome.isSome = true
    · rw [if_pos h]
      have e : runFor 4 m = runFor n m := by
        by_cases h4 : n ≤ 4
        · have : runFor 4 m = runFor (4 - n) (runFor n m) := by rw [← runFor_add, Nat.add_sub_cancel' h4]
          rw [this, runFor_done ho]
        · have : runFor n m = runFor (n - 4) (runFor 4 m) := by rw [← runFor_add, Nat.add_sub_cancel' (by omega)]
          rw [this, runFor_done h]
      rw [e]; exact wpAny_pure hq
    · rw [if_neg h]
      have h4 : ¬ n ≤ 4 := fun h4 => h (by
        have : runFor 4 m = runFor (4 - n) (runFor n m) := by rw [← runFor_add, Nat.add_sub_cancel' h4]
        rw [this, runFor_done ho]; exact ho)
      have e : runFor n m = runFor (n - 4) (runFor 4 m) := by rw [← runFor_add, Nat.add_sub_cancel' (by omega)]
      rw [e] at ho hq
      exact wpAny_bind (wpAny_rule (reDrive_ turns (n - 4) _ (by omega) (by omega) ho hq))
noncomputable def isFound (m : Sre.M) (r : Option (Nat × Nat)) (o : Option Sre.M) : Prop := match r with
  | some (a, b) => o = some m ∧ m.start = a ∧ m.handed = b
  | none => o = none
theorem reRun_ {code text : Array Nat} {start : Nat} {r : Option (Nat × Nat)} {Q : Option Sre.M → Shared → Prop} (hf : Finds code text start r)
    (h1 : ∀ a b, r = some (a, b) → ∀ m : Sre.M, m.start = a → m.handed = b → Q (some m) s) (h2 : r = none → Q none s) :
    wpAny (model prog w) A (reRunToEnd (Sre.forSearch code text 0 start text.size false)) Q E s := by
  obtain ⟨n, hn, he⟩ := hf
  have ho : (Sre.M.runFor n (Sre.forSearch code text 0 start text.size false)).outcome.isSome = true := by
    cases r with
    | none => rw [show (Sre.M.runFor n (Sre.forSearch code text 0 start text.size false)).outcome = some .failed from he]; rfl
    | some p => obtain ⟨⟨x, e, _⟩, _⟩ := he; rw [e]; rfl
  unfold reRunToEnd
  refine wpAny_bind (reDrive_ (2 ^ 64) n _ (by decide) (by omega) ho ?_)
  generalize hm : Sre.M.runFor n (Sre.forSearch code text 0 start text.size false) = m at he
  refine wpAny_bind (wpAny_forIn_list _ (fun _ _ s' => s' = s) _ (fun x rest b s' hs => ?_) (fun b s' hs => ?_) _ _ rfl)
  · subst hs
    split
    · refine wpAny_bind (wpAny_rule ?_)
      refine wpAny_pure ?_
      rfl
    · first
        | (refine wpAny_pure ?_; rfl)
        | (refine wpAny_bind (wpAny_pure ?_); refine wpAny_pure ?_; rfl)
  · subst hs
    cases r with
    | none =>
      have he : m.outcome = some .failed := by unfold Ends at he; rw [hm] at he; exact he
      rw [he]; exact wpAny_pure (h2 rfl)
    | some p =>
      unfold Ends at he
      rw [hm] at he
      obtain ⟨⟨x, e, rfl⟩, e1, e2⟩ := he
      rw [e]; exact wpAny_pure (h1 _ _ rfl m e1 e2)
end
end Mine
end
section
open PySem PySem.W PyProof.Rows
set_option Elab.async false
set_option maxRecDepth 100000
set_option linter.unusedVariables false
namespace Mine
variable {K : Cx}
/-- an iterator at I over n items of what lies at src, made since s -/
noncomputable def Itr (prog : Program) (w : World) (A : Around) (n : Nat) (P : Nat → Value → Prop) (src : List Addr) (s s₂ : Shared) (I : Addr) : Prop :=
  ∃ St, Walks prog w A I (I :: src) [I] n P St ∧ (∀ i h, St i h → ∃ o, h.get? I = some o) ∧ St 0 s₂.heap ∧ (∀ b ∈ src, b < s₂.heap.objs.size) ∧ s.heap.get? I = none ∧ Keeps s s₂
theorem Itr.kp {prog : Program} {w : World} {A : Around} {n : Nat} {P : Nat → Value → Prop} {src : List Addr} {s s₂ : Shared} {I : Addr} (h : Itr prog w A n P src s s₂ I) : Keeps s s₂ := let ⟨_, _, _, _, _, _, k⟩ := h; k
theorem Itr.back {prog : Program} {w : World} {A : Around} {n : Nat} {P : Nat → Value → Prop} {src : List Addr} {s s₁ s₂ : Shared} {I : Addr} (k : Keeps s s₁) (h : Itr prog w A n P src s₁ s₂ I) : Itr prog w A n P src s s₂ I :=
  let ⟨St, a, b, c, d, e, f⟩ := h; ⟨St, a, b, c, d, fresh_back k e, kp_trans k f⟩
theorem Itr.mono {prog : Program} {w : World} {A : Around} {n : Nat} {P P' : Nat → Value → Prop} {src : List Addr} {s s₂ : Shared} {I : Addr} (h : Itr prog w A n P src s s₂ I) (hP : ∀ i v, P i v → P' i v) : Itr prog w A n P' src s s₂ I :=
  let ⟨St, W, b, c, d, e⟩ := h
  ⟨St, ⟨W.sub, W.frame, fun i s Q E hi st hQ => W.item i s Q E hi st fun v h' tk hp => hQ v h' tk (hP i v hp), W.done, W.self⟩, b, c, d, e⟩

noncomputable def relS (scope sc : Scope) : Scope := { scope with names := scope.names.map fun (n, k) => if (k == .free && sc.kind == .function && sc.names.lookup n == some .cell) then (n, .cell) else (n, k) }
theorem relabel_eq {scope sc : Scope} {env : Env} (h : env.scope = sc) : relabel scope env = relS scope sc := by
  subst h; rfl
noncomputable def capt (scope : Scope) (cs : List (Str × Value)) : List (Str × Value) := cs.filter fun p => scope.names.lookup p.1 == some .free
noncomputable def cloOf (f : Str → Addr) : List (Str × NameKind) → List (Str × Addr) → List (Str × Addr)
  | [], cs => cs
  | (n, k) :: r, cs => cloOf f r (if k == .free then (n, f n) :: cs else cs)
theorem closure_go {env : Env} {f : Str → Addr} : ∀ (names : List (Str × NameKind)) (cs : List (Str × Addr)), (∀ x ∈ names, x.2 = .free → env.cells.lookup x.1 = some (f x.1)) →
    (forIn names cs (fun (x : Str × NameKind) (r : List (Str × Addr)) => if x.2 == .free then do let a ← cellOf env x.1; pure (ForInStep.yield ((x.1, a) :: r)) else pure (ForInStep.yield r)) : Sem (List (Str × Addr))) = pure (cloOf f names cs)
  | [], cs, _ => rfl
  | (n, k) :: r, cs, h => by
    have ih := fun cs' => closure_go r cs' fun x hx => h x (.tail _ hx)
    rw [List.forIn_cons]
    unfold cloOf
    cases k with
    | free =>
      have hc := h (n, .free) (.head _) rfl
      have : cellOf env n = pure (f n) := by unfold cellOf; rw [show env.cells.lookup n = some (f n) from hc]
      simp only [this]
      exact ih _
    | _ => exact ih _
theorem closure_is {scope : Scope} {env : Env} {f : Str → Addr} (h : ∀ x ∈ scope.names, x.2 = .free → env.cells.lookup x.1 = some (f x.1)) : closureFor scope env = pure (cloOf f scope.names []) := by
  have := closure_go (env := env) (f := f) scope.names [] h
  have e : closureFor scope env = ((forIn scope.names ([] : List (Str × Addr)) (fun (x : Str × NameKind) (r : List (Str × Addr)) => if x.2 == .free then do let a ← cellOf env x.1; pure (ForInStep.yield ((x.1, a) :: r)) else pure (ForInStep.yield r)) : Sem (List (Str × Addr))) >>= fun cs => pure cs) := by
    unfold closureFor
    refine congrArg (fun y => (y >>= fun cs => pure cs : Sem (List (Str × Addr)))) ?_
    refine congrArg (fun f => (forIn scope.names ([] : List (Str × Addr)) f : Sem (List (Str × Addr)))) ?_
    funext x r
    obtain ⟨n, k⟩ := x
    cases k <;> rfl
  rw [e, this]; rfl
theorem clo_lookup {f : Str → Addr} {n : Str} : ∀ (names : List (Str × NameKind)) (cs : List (Str × Addr)), (∀ x ∈ cs, x.2 = f x.1) → ((∃ x ∈ names, x.1 = n ∧ x.2 = .free) ∨ (cs.lookup n).isSome = true) → (cloOf f names cs).lookup n = some (f n)
  | [], cs, hc, h => by
    rcases h with ⟨x, hx, _⟩ | h
    · cases hx
    · obtain ⟨a, ha⟩ := Option.isSome_iff_exists.mp h
      have := hc _ (mem_of_lookup ha)
      show cs.lookup n = _
      rw [ha, show a = f n from this]
  | (m, k) :: r, cs, hc, h => by
    unfold cloOf
    by_cases hk : (k == .free) = true
    · rw [if_pos hk]
      refine clo_lookup r _ (fun x hx => ?_) ?_
      · rcases List.mem_cons.mp hx with rfl | hx
        · rfl
        · exact hc x hx
      · rcases h with ⟨x, hx, e1, e2⟩ | h
        · rcases List.mem_cons.mp hx with rfl | hx
          · right; subst e1; simp
          · exact .inl ⟨x, hx, e1, e2⟩
        · right
          rw [List.lookup_cons]
          cases hb : n == m with
          | true => rfl
          | false => exact h
    · rw [if_neg hk]
      refine clo_lookup r _ hc ?_
      rcases h with ⟨x, hx, e1, e2⟩ | h
      · rcases List.mem_cons.mp hx with rfl | hx
        · exfalso; apply hk; show (k == NameKind.free) = true; rw [show k = .free from e2]; rfl
        · exact .inl ⟨x, hx, e1, e2⟩
      · exact .inr h
theorem capt_lookup {scope : Scope} {cs : List (Str × Value)} {n : Str} {v : Value} : (capt scope cs).lookup n = some v → cs.lookup n = some v ∧ scope.names.lookup n = some .free := by
  unfold capt
  induction cs with
  | nil => intro h; cases h
  | cons p r ih =>
    obtain ⟨m, u⟩ := p
    intro h
    rw [List.filter_cons] at h
    by_cases hb : (scope.names.lookup m == some .free) = true
    · rw [if_pos hb] at h
      rw [List.lookup_cons] at h ⊢
      cases q : n == m with
      | true => rw [q] at h; rw [beq_iff_eq.mp q]; exact ⟨h, beq_iff_eq.mp hb⟩
      | false => rw [q] at h; exact ih h
    · rw [if_neg hb] at h
      have := ih h
      rw [List.lookup_cons]
      cases q : n == m with
      | true =>
        exfalso; apply hb
        rw [← beq_iff_eq.mp q, this.2]; rfl
      | false => exact this

namespace R
section
variable {prog : Program} {w : World} {A : Around} {E : Value → Shared → Prop} {s : Shared} {sc : Scope} {env : Env} {vs cs : List (Str × Value)}
/-- the iterators -/
theorem iterL {a : Addr} {vs : List Value} {m : Nat} {Q : Value → Shared → Prop} (hh : A.handled = none) (ho : s.heap.get? a = some (lstO vs m)) (h : ∀ s' I, Itr prog w A vs.length (fun i v => vs[i]? = some v) [a] s s' I → Q (.ref I) s') :
    wpAny (model prog w) A (pyIter (.ref a)) Q E s := by
  have hl := isLst ho
  have hlt : a < s.heap.objs.size := Heap.lt_size ho
  have W := Walks.list (prog := prog) (w := w) hh s.heap.objs.size a (Nat.ne_of_lt hlt) vs.toArray
  simp only [List.size_toArray, List.getElem?_toArray] at W
  refine wpAny_pyIter_list hl (h _ _ ⟨_, W, fun i h st => ?_, ⟨⟨_, Heap.get?_push_size _ rfl, rfl, rfl⟩, hl.push _⟩, fun b hb => ?_, get_none_of_ge (Nat.le_refl _), kp_push _⟩)
  · obtain ⟨⟨o, ho, _⟩, _⟩ := st; exact ⟨o, ho⟩
  · show b < (s.heap.push _).objs.size
    rw [Heap.size_push]
    simp at hb
    subst hb; exact Nat.lt_succ_of_lt hlt
theorem iterT {a : Addr} {vs : List Value} {Q : Value → Shared → Prop} (hh : A.handled = none) (ho : s.heap.get? a = some (tupO vs)) (h : ∀ s' I, Itr prog w A vs.length (fun i v => vs[i]? = some v) [a] s s' I → Q (.ref I) s') :
    wpAny (model prog w) A (pyIter (.ref a)) Q E s := by
  have hl := isTup ho
  have hlt : a < s.heap.objs.size := Heap.lt_size ho
  have W := Walks.tuple (prog := prog) (w := w) hh s.heap.objs.size a (Nat.ne_of_lt hlt) vs.toArray
  simp only [List.size_toArray, List.getElem?_toArray] at W
  refine wpAny_pyIter_tuple hl (h _ _ ⟨_, W, fun i h st => ?_, ⟨⟨_, Heap.get?_push_size _ rfl, rfl, rfl⟩, hl.push _⟩, fun b hb => ?_, get_none_of_ge (Nat.le_refl _), kp_push _⟩)
  · obtain ⟨⟨o, ho, _⟩, _⟩ := st; exact ⟨o, ho⟩
  · show b < (s.heap.push _).objs.size
    rw [Heap.size_push]
    simp at hb
    subst hb; exact Nat.lt_succ_of_lt hlt
theorem iterS {x : Str} {t : Tok} {Q : Value → Shared → Prop} (hh : A.handled = none) (h : ∀ s' I, Itr prog w A x.cps.size (SignAt x) [] s s' I → Q (.ref I) s') :
    wpAny (model prog w) A (pyIter (.str x t)) Q E s := by
  cases ha : x.cps.all (· < 128)
  · exact wpAny_pyIter_wide ha (h _ _ ⟨_, Walks.strWide hh _ x t, fun i h st => (let ⟨o, ho, _⟩ := st; ⟨o, ho⟩), ⟨_, Heap.get?_push_size _ rfl, rfl, rfl⟩, fun b hb => by simp at hb, get_none_of_ge (Nat.le_refl _), kp_push _⟩)
  · exact wpAny_pyIter_ascii ha (h _ _ ⟨_, Walks.strAscii hh _ x t, fun i h st => (let ⟨o, ho, _⟩ := st; ⟨o, ho⟩), ⟨_, Heap.get?_push_size _ rfl, rfl, rfl⟩, fun b hb => by simp at hb, get_none_of_ge (Nat.le_refl _), kp_push _⟩)
theorem iterR {r : Addr} {a b : Int} {t u v : Tok} {n : Nat} {Q : Value → Shared → Prop} (hh : A.handled = none) (hr : IsRange s.heap r a b 1 t u v) (hsmall : Builtin.Range.small a b 1 = true) (hn : Builtin.Range.rangeSize a b 1 = n)
    (h : ∀ s' I, Itr prog w A n (fun i v => ∃ t, v = .int (a + (i : Int)) t) [] s s' I → Q (.ref I) s') : wpAny (model prog w) A (pyIter (.ref r)) Q E s := by
  have W := Walks.range (prog := prog) (w := w) hh s.heap.objs.size a 1 n
  simp only [Int.mul_one] at W
  refine wpAny_pyIter_range hr hsmall (h _ _ ⟨_, W, fun i h st => ⟨_, st⟩, ?_, fun b hb => by simp at hb, get_none_of_ge (Nat.le_refl _), kp_push _⟩)
  rw [hn]
  show Heap.get? (s.heap.push _) s.heap.objs.size = _
  rw [Heap.get?_push_size _ rfl]
  simp [rawInt]

/-- a list comprehension over one name, with its tests -/
theorem comp_ {elt iter : Expr} {x : Str} {px : Pos} {ifs : List Expr} {scope : Scope} {pos : Pos} {Q : Value → Shared → Prop} {n : Nat} {P : Nat → Value → Prop} {src : List Addr} (r : Rd K sc env vs cs s) (p : Value → Bool) (F : Value → Value → Prop)
    (hit : ∀ Q' : Value → Shared → Prop, (∀ s' I, Itr prog w A n P src s s' I → Q' (.ref I) s') → wpAny (model prog w) A (eval iter env) (fun xv s₁ => wpAny (model prog w) A (pyIter xv) Q' E s₁) E s) (hsz : n ≤ sizeLine)
    (htest : ∀ i v s₃ env' E', P i v → Rd K (relS scope sc) env' [(x, v)] (capt scope cs) s₃ → (∀ b o, s.heap.get? b = some o → s₃.heap.get? b = some o) →
      wpAny (model prog w) A (forIn ifs true fun c r => if r = true then do let ok ← isTrue c env' (eval c env'); pure (ForInStep.yield ok) else pure (ForInStep.yield r)) (fun ok s₄ => ok = p v ∧ Keeps s₃ s₄) E' s₃)
    (helt : ∀ i v s₃ env' E', P i v → p v = true → Rd K (relS scope sc) env' [(x, v)] (capt scope cs) s₃ → (∀ b o, s.heap.get? b = some o → s₃.heap.get? b = some o) →
      wpAny (model prog w) A (eval elt env') (fun y s₄ => F v y ∧ Keeps s₃ s₄) E' s₃)
    (hQ : ∀ s' D ys c (us : List Value), Keeps s s' → s.heap.get? D = none → s'.heap.get? D = some (lstO ys c) → us.length = n → (∀ j v, us[j]? = some v → P j v) → Paired F (us.filter p) ys → Q (.ref D) s')
    (hfr : (scope.names.all fun x => x.2 != .free || ((cs.lookup x.1).isSome && scope.names.lookup x.1 == some .free)) = true := by kernel_rfl)
    (hcell : (scope.names.all fun x => x.2 != .cell) = true := by kernel_rfl) (hnames : (scope.names.all fun y => y.2 != .local || (scope.names.lookup y.1 == some .local)) = true := by kernel_rfl)
    (hkind : scope.kind = .function := by rfl) (hx : scope.names.lookup x = some .local := by kernel_rfl) (hs : ∀ x, foldedSetIterable iter env x = pure x := by intro _; rfl) :
    wpAny (model prog w) A (eval (.ListComp elt [⟨.Name x px, iter, ifs, 0⟩] scope pos) env) Q E s := by
  have hclos : closureFor scope env = pure (cloOf (fun n => (env.cells.lookup n).getD 0) scope.names []) := closure_is fun y hy hf => by
    have := List.all_eq_true.mp hfr y hy
    simp only [hf, bne_self_eq_false, Bool.false_or, Bool.and_eq_true] at this
    obtain ⟨v, hv⟩ := Option.isSome_iff_exists.mp this.1
    obtain ⟨c, hc, _⟩ := r.cell _ _ hv
    rw [hc]; rfl
  have mk : ∀ (C : Addr) (s₃ : Shared) (m₃ : Str → Option Value) (v : Value), s₃.heap.Ns C m₃ → m₃ x = some v → (∀ b o, s.heap.get? b = some o → s₃.heap.get? b = some o) →
      Rd K (relS scope sc) (compEnvC scope (cloOf (fun n => (env.cells.lookup n).getD 0) scope.names []) C env) [(x, v)] (capt scope cs) s₃ := by
    intro C s₃ m₃ v hn hm hk
    refine ⟨⟨m₃, hn, fun k u e => ?_⟩, fun k u e => ?_, relabel_eq r.scope, hkind, r.glob, r.blt, r.W.keeps hk⟩
    · rw [List.lookup_cons] at e
      cases q : k == x with
      | true => rw [q] at e; cases e; rw [beq_iff_eq.mp q]; exact hm
      | false => rw [q] at e; cases e
    · obtain ⟨e1, e2⟩ := capt_lookup e
      obtain ⟨c, hc, hi⟩ := r.cell _ _ e1
      refine ⟨c, ?_, hi.keeps hk⟩
      have hmem := mem_of_lookup e2
      have := clo_lookup (f := fun n => (env.cells.lookup n).getD 0) scope.names [] (fun _ hx => by cases hx) (n := k) (.inl ⟨_, hmem, rfl, rfl⟩)
      show (cloOf _ scope.names []).lookup k = _
      rw [this, hc]; rfl
  refine wpAny_ListComp_free p F hclos (fun y hy hc => by have := List.all_eq_true.mp hcell y hy; rw [hc] at this; cases this) hkind
    (fun y hy hl => by have := List.all_eq_true.mp hnames y hy; rw [hl] at this; simpa using this) hx ?_ hs
  refine wpAny_mono (hit (fun it s₂ => ∃ I, it = .ref I ∧ Itr prog w A n P src s s₂ I) fun s' I h => ⟨I, rfl, h⟩) (fun xv s₁ h => wpAny_mono h (fun it s₂ h => ?_) fun _ _ e => e) fun _ _ e => e
  obtain ⟨I, rfl, St, W, hlive, st, hsrc, hI, kk⟩ := h
  have kk' : ∀ b o, s.heap.get? b = some o → s₂.heap.get? b = some o := fun b o e => kp_get kk e
  have old : ∀ b o, s.heap.get? b = some o → b ∉ [I] := fun b o e hm => by simp at hm; subst hm; rw [hI] at e; cases e
  refine ⟨I, _, _, n, P, St, rfl, W, hsz, st, fun b hb => ?_, ⟨fun C i v s₃ m₃ E' _ hP hn hm hk _ => ?_, fun C i v s₃ m₃ E' _ hP hp hn hm hk _ => ?_⟩, fun D h' tk ys us hD hl hpl hlen hP hF hk => ?_⟩
  · rcases List.mem_cons.mp hb with rfl | hb
    · obtain ⟨o, ho⟩ := hlive _ _ st; exact Heap.lt_size ho
    · exact hsrc b hb
  · exact htest i v s₃ _ E' hP (mk C s₃ m₃ v hn hm fun b o e => hk b o (old b o e) (kk' b o e)) fun b o e => hk b o (old b o e) (kk' b o e)
  · exact helt i v s₃ _ E' hP hp (mk C s₃ m₃ v hn hm fun b o e => hk b o (old b o e) (kk' b o e)) fun b o e => hk b o (old b o e) (kk' b o e)
  · obtain ⟨c, hc⟩ := hpl
    obtain ⟨h₂, t₂, rfl, _⟩ := kk
    refine hQ _ D ys.toList c us ⟨h', tk, rfl, fun b o e => hk b o (old b o e) (kk' b o e)⟩ ?_ (by rw [hc]; simp [lstO]) hlen hP hF
    cases e : s.heap.get? D with
    | none => rfl
    | some o => rw [kk' _ _ e] at hD; cases hD
end
end R
end Mine
end
section
open PySem PySem.W PyProof.Rows
set_option Elab.async false
set_option maxRecDepth 100000
set_option linter.unusedVariables false
namespace Mine
variable {K : Cx}

theorem swaps_true {elt : Expr} {gs : List Comprehension} {scope sc : Scope} {pos : Pos} {y : Str} {py : Pos} {line : Nat} {env : Env} (hsc : env.scope = sc) (hk : sc.kind = .function) (hy : sc.names.lookup y = some .local)
    (hl : (py.line == pos.line) = true) (hn : (scope.names.any fun x => x.1 == y && (x.2 == .local || x.2 == .cell)) = false) : swapsWith (.ListComp elt gs scope pos) (some (.Name y py)) line env = pure true := by
  have hb : env.blockKind = .function := by unfold Env.blockKind; rw [hsc, hk]; rfl
  have hkk : env.kindOf y = some .local := by show env.scope.names.lookup y = _; rw [hsc]; exact hy
  show (pure (env.blockKind == .function && env.kindOf y == some .local && py.line == pos.line && !(scope.names.any fun (n, k) => n == y && (k == .local || k == .cell))) : Sem Bool) = pure true
  rw [hb, hkk, hl]
  have : (scope.names.any fun (n, k) => n == y && (k == .local || k == .cell)) = false := hn
  rw [this]; rfl
theorem swaps_cell {elt : Expr} {gs : List Comprehension} {scope sc : Scope} {pos : Pos} {y : Str} {py : Pos} {line : Nat} {env : Env} (hsc : env.scope = sc) (hy : sc.names.lookup y = some .cell) :
    swapsWith (.ListComp elt gs scope pos) (some (.Name y py)) line env = pure false := by
  have hkk : env.kindOf y = some .cell := by show env.scope.names.lookup y = _; rw [hsc]; exact hy
  show (pure (env.blockKind == .function && env.kindOf y == some .local && py.line == pos.line && !(scope.names.any fun (n, k) => n == y && (k == .local || k == .cell))) : Sem Bool) = pure false
  rw [hkk]
  have : (some NameKind.cell == some NameKind.local) = false := rfl
  rw [this, Bool.and_false, Bool.false_and, Bool.false_and]

namespace R
section
variable {prog : Program} {w : World} {A : Around} {E : Value → Shared → Prop} {s : Shared} {sc : Scope} {env : Env} {vs cs : List (Str × Value)}
/-- [elt for x in iter] -/
theorem comp0 {elt iter : Expr} {x : Str} {px : Pos} {scope : Scope} {pos : Pos} {Q : Value → Shared → Prop} {n : Nat} {P : Nat → Value → Prop} {src : List Addr} (r : Rd K sc env vs cs s) (F : Value → Value → Prop)
    (hit : ∀ Q' : Value → Shared → Prop, (∀ s' I, Itr prog w A n P src s s' I → Q' (.ref I) s') → wpAny (model prog w) A (eval iter env) (fun xv s₁ => wpAny (model prog w) A (pyIter xv) Q' E s₁) E s) (hsz : n ≤ sizeLine)
    (helt : ∀ i v s₃ env' E', P i v → Rd K (relS scope sc) env' [(x, v)] (capt scope cs) s₃ → (∀ b o, s.heap.get? b = some o → s₃.heap.get? b = some o) →
      wpAny (model prog w) A (eval elt env') (fun y s₄ => F v y ∧ Keeps s₃ s₄) E' s₃)
    (hQ : ∀ s' D ys c (us : List Value), Keeps s s' → s.heap.get? D = none → s'.heap.get? D = some (lstO ys c) → us.length = n → (∀ j v, us[j]? = some v → P j v) → Paired F us ys → Q (.ref D) s')
    (hfr : (scope.names.all fun x => x.2 != .free || ((cs.lookup x.1).isSome && scope.names.lookup x.1 == some .free)) = true := by kernel_rfl)
    (hcell : (scope.names.all fun x => x.2 != .cell) = true := by kernel_rfl) (hnames : (scope.names.all fun y => y.2 != .local || (scope.names.lookup y.1 == some .local)) = true := by kernel_rfl)
    (hkind : scope.kind = .function := by rfl) (hx : scope.names.lookup x = some .local := by kernel_rfl) (hs : ∀ x, foldedSetIterable iter env x = pure x := by intro _; rfl) :
    wpAny (model prog w) A (eval (.ListComp elt [⟨.Name x px, iter, [], 0⟩] scope pos) env) Q E s :=
  comp_ r (fun _ => true) F hit hsz (fun _ _ _ _ _ _ _ _ => wpAny_pure ⟨rfl, kp_rfl⟩) (fun i v s₃ env' E' hP _ => helt i v s₃ env' E' hP)
    (fun s' D ys c us k hD ho hl hP hF => hQ s' D ys c us k hD ho hl hP (by rwa [List.filter_eq_self.mpr fun _ _ => rfl] at hF)) hfr hcell hnames hkind hx hs
/-- [elt for x in iter if c] -/
theorem comp1 {elt iter tst : Expr} {x : Str} {px : Pos} {scope : Scope} {pos : Pos} {Q : Value → Shared → Prop} {n : Nat} {P : Nat → Value → Prop} {src : List Addr} (r : Rd K sc env vs cs s) (p : Value → Bool) (F : Value → Value → Prop)
    (hit : ∀ Q' : Value → Shared → Prop, (∀ s' I, Itr prog w A n P src s s' I → Q' (.ref I) s') → wpAny (model prog w) A (eval iter env) (fun xv s₁ => wpAny (model prog w) A (pyIter xv) Q' E s₁) E s) (hsz : n ≤ sizeLine)
    (htest : ∀ i v s₃ env' E', P i v → Rd K (relS scope sc) env' [(x, v)] (capt scope cs) s₃ → (∀ b o, s.heap.get? b = some o → s₃.heap.get? b = some o) →
      wpAny (model prog w) A (isTrue tst env' (eval tst env')) (fun ok s₄ => ok = p v ∧ Keeps s₃ s₄) E' s₃)
    (helt : ∀ i v s₃ env' E', P i v → p v = true → Rd K (relS scope sc) env' [(x, v)] (capt scope cs) s₃ → (∀ b o, s.heap.get? b = some o → s₃.heap.get? b = some o) →
      wpAny (model prog w) A (eval elt env') (fun y s₄ => F v y ∧ Keeps s₃ s₄) E' s₃)
    (hQ : ∀ s' D ys c (us : List Value), Keeps s s' → s.heap.get? D = none → s'.heap.get? D = some (lstO ys c) → us.length = n → (∀ j v, us[j]? = some v → P j v) → Paired F (us.filter p) ys → Q (.ref D) s')
    (hfr : (scope.names.all fun x => x.2 != .free || ((cs.lookup x.1).isSome && scope.names.lookup x.1 == some .free)) = true := by kernel_rfl)
    (hcell : (scope.names.all fun x => x.2 != .cell) = true := by kernel_rfl) (hnames : (scope.names.all fun y => y.2 != .local || (scope.names.lookup y.1 == some .local)) = true := by kernel_rfl)
    (hkind : scope.kind = .function := by rfl) (hx : scope.names.lookup x = some .local := by kernel_rfl) (hs : ∀ x, foldedSetIterable iter env x = pure x := by intro _; rfl) :
    wpAny (model prog w) A (eval (.ListComp elt [⟨.Name x px, iter, [tst], 0⟩] scope pos) env) Q E s :=
  comp_ r p F hit hsz (fun i v s₃ env' E' hP hr hk => by
    rw [List.forIn_cons, if_pos rfl]
    exact wpAny_bind (wpAny_bind (wpAny_mono (htest i v s₃ env' E' hP hr hk) (fun ok s₄ h => wpAny_pure (by show wpAny _ _ (pure ok) _ _ _; exact wpAny_pure h)) fun _ _ e => e))) helt hQ hfr hcell hnames hkind hx hs
end
section
variable {prog : Program} {w : World} {A : Around} {E : Value → Shared → Prop} {s s₀ : Shared} {sc : Scope} {env : Env} {vs cs : List (Str × Value)} {own : List (Addr × Obj)}
/-- y = [elt for x in iter if ..], y a local name of the same line -/
theorem asgC {elt iter : Expr} {x y : Str} {px py : Pos} {ifs : List Expr} {scope : Scope} {pos spos : Pos} {Q : Flow → Shared → Prop} {n : Nat} {P : Nat → Value → Prop} {src : List Addr} (X : St K sc s₀ env vs cs own s) (r : Rd K sc env vs cs s) (p : Value → Bool) (F : Value → Value → Prop)
    (hit : ∀ Q' : Value → Shared → Prop, (∀ s' I, Itr prog w A n P src s s' I → Q' (.ref I) s') → wpAny (model prog w) A (eval iter env) (fun xv s₁ => wpAny (model prog w) A (pyIter xv) Q' E s₁) E s) (hsz : n ≤ sizeLine)
    (htest : ∀ i v s₃ env' E', P i v → Rd K (relS scope sc) env' [(x, v)] (capt scope cs) s₃ → (∀ b o, s.heap.get? b = some o → s₃.heap.get? b = some o) →
      wpAny (model prog w) A (forIn ifs true fun c r => if r = true then do let ok ← isTrue c env' (eval c env'); pure (ForInStep.yield ok) else pure (ForInStep.yield r)) (fun ok s₄ => ok = p v ∧ Keeps s₃ s₄) E' s₃)
    (helt : ∀ i v s₃ env' E', P i v → p v = true → Rd K (relS scope sc) env' [(x, v)] (capt scope cs) s₃ → (∀ b o, s.heap.get? b = some o → s₃.heap.get? b = some o) →
      wpAny (model prog w) A (eval elt env') (fun y s₄ => F v y ∧ Keeps s₃ s₄) E' s₃)
    (hQ : ∀ s' D ys c (us : List Value), St K sc s₀ env ((y, .ref D) :: vs) cs ((D, lstO ys c) :: own) s' → us.length = n → (∀ j v, us[j]? = some v → P j v) → Paired F (us.filter p) ys → Q .next s')
    (hy : sc.names.lookup y = some .local := by kernel_rfl) (hline : (py.line == pos.line) = true := by rfl) (hyn : (scope.names.any fun x => x.1 == y && (x.2 == .local || x.2 == .cell)) = false := by kernel_rfl)
    (hfr : (scope.names.all fun x => x.2 != .free || ((cs.lookup x.1).isSome && scope.names.lookup x.1 == some .free)) = true := by kernel_rfl)
    (hcell : (scope.names.all fun x => x.2 != .cell) = true := by kernel_rfl) (hnames : (scope.names.all fun y => y.2 != .local || (scope.names.lookup y.1 == some .local)) = true := by kernel_rfl)
    (hkind : scope.kind = .function := by rfl) (hx : scope.names.lookup x = some .local := by kernel_rfl) (hs : ∀ x, foldedSetIterable iter env x = pure x := by intro _; rfl) :
    wpAny (model prog w) A (exec (.Assign [.Name y py] (.ListComp elt [⟨.Name x px, iter, ifs, 0⟩] scope pos) spos) env) Q E s := by
  have hclos : closureFor scope env = pure (cloOf (fun n => (env.cells.lookup n).getD 0) scope.names []) := closure_is fun y hy hf => by
    have := List.all_eq_true.mp hfr y hy
    simp only [hf, bne_self_eq_false, Bool.false_or, Bool.and_eq_true] at this
    obtain ⟨v, hv⟩ := Option.isSome_iff_exists.mp this.1
    obtain ⟨c, hc, _⟩ := r.cell _ _ hv
    rw [hc]; rfl
  have mk : ∀ (C : Addr) (s₃ : Shared) (m₃ : Str → Option Value) (v : Value), s₃.heap.Ns C m₃ → m₃ x = some v → (∀ b o, s.heap.get? b = some o → s₃.heap.get? b = some o) →
      Rd K (relS scope sc) (compEnvC scope (cloOf (fun n => (env.cells.lookup n).getD 0) scope.names []) C env) [(x, v)] (capt scope cs) s₃ := by
    intro C s₃ m₃ v hn hm hk
    refine ⟨⟨m₃, hn, fun k u e => ?_⟩, fun k u e => ?_, relabel_eq r.scope, hkind, r.glob, r.blt, r.W.keeps hk⟩
    · rw [List.lookup_cons] at e
      cases q : k == x with
      | true => rw [q] at e; cases e; rw [beq_iff_eq.mp q]; exact hm
      | false => rw [q] at e; cases e
    · obtain ⟨e1, e2⟩ := capt_lookup e
      obtain ⟨c, hc, hi⟩ := r.cell _ _ e1
      refine ⟨c, ?_, hi.keeps hk⟩
      have hmem := mem_of_lookup e2
      have := clo_lookup (f := fun n => (env.cells.lookup n).getD 0) scope.names [] (fun _ hx => by cases hx) (n := k) (.inl ⟨_, hmem, rfl, rfl⟩)
      show (cloOf _ scope.names []).lookup k = _
      rw [this, hc]; rfl
  have hkind' : env.scope.kind = .function := by rw [X.scope]; exact X.kind
  refine wpAny_Assign_ListComp_free p F (swaps_true X.scope X.kind hy hline hyn) hclos (fun y hy hc => by have := List.all_eq_true.mp hcell y hy; rw [hc] at this; cases this) hkind
    (fun y hy hl => by have := List.all_eq_true.mp hnames y hy; rw [hl] at this; simpa using this) hx (by show env.scope.names.lookup y = _; rw [X.scope]; exact hy) (by rw [hkind']; rfl) ?_ hs
  refine wpAny_mono (hit (fun it s₂ => ∃ I, it = .ref I ∧ Itr prog w A n P src s s₂ I) fun s' I h => ⟨I, rfl, h⟩) (fun xv s₁ h => wpAny_mono h (fun it s₂ h => ?_) fun _ _ e => e) fun _ _ e => e
  obtain ⟨I, rfl, St_, W, hlive, st, hsrc, hI, kk⟩ := h
  have kk' : ∀ b o, s.heap.get? b = some o → s₂.heap.get? b = some o := fun b o e => kp_get kk e
  have old : ∀ b o, s.heap.get? b = some o → b ∉ [I] := fun b o e hm => by simp at hm; subst hm; rw [hI] at e; cases e
  obtain ⟨m, cm, c, hv, hcs⟩ := X.ex
  obtain ⟨oL, esL, epL, hoL, _⟩ := id c.toInCall.ns
  refine ⟨I, _, _, n, P, St_, m, rfl, W, hsz, st, fun b hb => ?_, ?_, c.toInCall.ns.keeps kk', ⟨fun C i v s₃ m₃ E' _ hP hn hm hk _ => ?_, fun C i v s₃ m₃ E' _ hP hp hn hm hk _ => ?_⟩, fun D h' tk ys us hD hl hpl hlen hP hF hns hk => ?_⟩
  · rcases List.mem_cons.mp hb with rfl | hb
    · obtain ⟨o, ho⟩ := hlive _ _ st; exact Heap.lt_size ho
    · exact hsrc b hb
  · exact old _ _ hoL
  · exact htest i v s₃ _ E' hP (mk C s₃ m₃ v hn hm fun b o e => hk b o (old b o e) (kk' b o e)) fun b o e => hk b o (old b o e) (kk' b o e)
  · exact helt i v s₃ _ E' hP hp (mk C s₃ m₃ v hn hm fun b o e => hk b o (old b o e) (kk' b o e)) fun b o e => hk b o (old b o e) (kk' b o e)
  · obtain ⟨c', hc'⟩ := hpl
    have ne : ∀ b o, s₀.heap.get? b = some o → b ≠ env.locals := fun b o e => Nat.ne_of_lt (Nat.lt_of_lt_of_le (Heap.lt_size e) c.toInCall.fresh)
    have hD' : s.heap.get? D = none := by
      cases e : s.heap.get? D with
      | none => rfl
      | some o => rw [kk' _ _ e] at hD; cases hD
    have up : ∀ b o, b ≠ env.locals → s.heap.get? b = some o → h'.get? b = some o := fun b o hb e => hk b o hb (old b o e) (kk' b o e)
    obtain ⟨hs2, ts2, e2, _⟩ := kk
    obtain ⟨h₁, tk₁, e₁⟩ := c.toInCall.same
    refine hQ _ D ys.toList c' us ⟨⟨_, cm, ⟨⟨⟨h', tk, by rw [e2, e₁]⟩, hns, fun b o e => up b o (ne b o e) (c.toInCall.keep b o e), c.toInCall.fresh⟩, fun k a ha => ?_, c.apart, c.above⟩, fun k u e => ?_, hcs⟩, fun q hq => ?_, ?_, X.scope, X.kind, X.glob, X.blt, X.W⟩ hlen hP hF
    · obtain ⟨o, ho, hd⟩ := c.cell k a ha
      exact ⟨o, up a o (Nat.ne_of_gt (c.above k a (mem_of_lookup ha))) ho, hd⟩
    · rw [List.lookup_cons] at e
      by_cases hkn : k = y
      · subst hkn; simp at e; simp [e]
      · have : (k == y) = false := by simp [hkn]
        rw [this] at e
        simp only [hkn, if_false]
        exact hv k u e
    · rcases List.mem_cons.mp hq with rfl | hq
      · refine ⟨by show h'.get? D = _; rw [hc']; simp [lstO], fun e => ?_, fun k c1 hl1 hm1 => ?_, ?_⟩
        · have e' : D = env.locals := e
          rw [e', hoL] at hD'; cases hD'
        · have hm' : D = c1 := hm1
          obtain ⟨o', ho', _⟩ := c.cell k c1 hl1
          rw [← hm', hD'] at ho'; cases ho'
        · show s₀.heap.get? D = none
          cases e : s₀.heap.get? D with
          | none => rfl
          | some o' => rw [X.keep _ _ e] at hD'; cases hD'
      · obtain ⟨a1, a2, a3, a4⟩ := X.mine q hq
        exact ⟨up _ _ a2 a1, a2, a3, a4⟩
    · rw [List.map_cons, List.nodup_cons]
      refine ⟨fun hm => ?_, X.nd⟩
      obtain ⟨q, hq, e⟩ := List.mem_map.mp hm
      have := (X.mine q hq).1
      rw [e, hD'] at this; cases this
end
end R
end Mine
end
section
open PySem PySem.W PyProof.Rows
set_option Elab.async false
set_option maxRecDepth 100000
set_option linter.unusedVariables false
namespace Mine
variable {K : Cx}
section
variable {sc : Scope} {s₀ s s' : Shared} {env : Env} {vs cs : List (Str × Value)} {own : List (Addr × Obj)}
theorem St.drop1 {a : Addr} {o : Obj} (x : St K sc s₀ env vs cs ((a, o) :: own) s) {h' : Heap} {tk : Nat} (hk : ∀ b o, b ≠ a → s.heap.get? b = some o → h'.get? b = some o) : St K sc s₀ env vs cs own { s with heap := h', toks := tk } := by
  obtain ⟨m, cm, c, hv, hc⟩ := x.ex
  obtain ⟨h, t, e⟩ := c.toInCall.same
  obtain ⟨a1, a2, a3, a4⟩ := x.mine _ (.head _)
  have nd := List.nodup_cons.mp x.nd
  obtain ⟨oL, esL, epL, hoL, r⟩ := id c.toInCall.ns
  refine ⟨⟨m, cm, ⟨⟨⟨h', tk, by rw [e]⟩, ⟨oL, esL, epL, hk _ _ (Ne.symm a2) hoL, r⟩, fun b o e => hk b o (fun q => ?_) (c.toInCall.keep b o e), c.toInCall.fresh⟩, fun n c' ha => ?_, c.apart, c.above⟩, hv, hc⟩, fun p hp => ?_, nd.2, x.scope, x.kind, x.glob, x.blt, x.W⟩
  · subst q; rw [a4] at e; cases e
  · obtain ⟨oc, ho, hd⟩ := c.cell n c' ha
    exact ⟨oc, hk c' oc (Ne.symm (a3 n c' ha)) ho, hd⟩
  · obtain ⟨b1, b2⟩ := x.mine p (.tail _ hp)
    exact ⟨hk _ _ (fun q => nd.1 (List.mem_map.mpr ⟨p, hp, q⟩)) b1, b2⟩
/-- the newest own object is turned -/
theorem St.upd {a : Addr} {o o' : Obj} (x : St K sc s₀ env vs cs ((a, o) :: own) s) {h' : Heap} {tk : Nat} (hk : ∀ b o, b ≠ a → s.heap.get? b = some o → h'.get? b = some o) (ho : h'.get? a = some o') : St K sc s₀ env vs cs ((a, o') :: own) { s with heap := h', toks := tk } := by
  have y := x.drop1 (tk := tk) hk
  refine ⟨y.ex, fun p hp => ?_, x.nd, x.scope, x.kind, x.glob, x.blt, x.W⟩
  rcases List.mem_cons.mp hp with rfl | hp
  · exact ⟨ho, (x.mine _ (.head _)).2⟩
  · exact y.mine p hp
end
namespace R
section
variable {prog : Program} {w : World} {A : Around} {E : Value → Shared → Prop} {s s₀ : Shared} {sc : Scope} {env : Env} {vs cs : List (Str × Value)} {own : List (Addr × Obj)}
theorem forG {v : Str} {pv pos : Pos} {iter : Expr} {body : List Stmt} {Q : Flow → Shared → Prop} {n : Nat} {P : Nat → Value → Prop} {src : List Addr} (X : St K sc s₀ env vs cs own s)
    (bind : List (Str × Value) → List (Str × Value) → Value → List (Str × Value) × List (Str × Value))
    (hbind : ∀ (val : Value) (vs cs : List (Str × Value)) (own : List (Addr × Obj)) (s : Shared) (Q : Unit → Shared → Prop) (E : Value → Shared → Prop), St K sc s₀ env vs cs own s → (∀ s', St K sc s₀ env (bind vs cs val).1 (bind vs cs val).2 own s' → Q () s') → wpAny (model prog w) A (storeName env v val) Q E s)
    (J : Nat → List (Str × Value) → List (Str × Value) → List (Addr × Obj) → Prop) (srcO : List (Addr × Obj)) (hsrc : src = srcO.map (·.1))
    (hit : ∀ Q' : Value → Shared → Prop, (∀ s' I, Itr prog w A n P src s s' I → Q' (.ref I) s') → wpAny (model prog w) A (eval iter env) (fun xv s₁ => wpAny (model prog w) A (pyIter xv) Q' E s₁) E s)
    (h0 : J 0 vs cs own) (hJ : ∀ i vs cs own, J i vs cs own → ∀ q ∈ srcO, q ∈ own ∨ s₀.heap.get? q.1 = some q.2)
    (turn : ∀ i val vs cs own I oI s₃ E', J i vs cs own → i < n → P i val → St K sc s₀ env (bind vs cs val).1 (bind vs cs val).2 ((I, oI) :: own) s₃ →
      wpAny (model prog w) A (execs body env) (fun f s' => f = .next ∧ ∃ vs' cs' own', J (i + 1) vs' cs' own' ∧ St K sc s₀ env vs' cs' ((I, oI) :: own') s') E' s₃)
    (fin : ∀ vs cs own s', J n vs cs own → St K sc s₀ env vs cs own s' → Q .next s')
    (hs : ∀ x, foldedSetIterable iter env x = pure x := by intro _; rfl) : wpAny (model prog w) A (exec (.For (.Name v pv) iter body [] pos) env) Q E s := by
  refine wpAny_For ?_ hs
  refine wpAny_mono (hit (fun it s₂ => ∃ I, it = .ref I ∧ Itr prog w A n P src s s₂ I) fun s' I h => ⟨I, rfl, h⟩) (fun xv s₁ h => wpAny_mono h (fun it s₂ h => ?_) fun _ _ e => e) fun _ _ e => e
  obtain ⟨I, rfl, St_, W, hlive, st, hsr, hI, kk⟩ := h
  obtain ⟨oI, hoI⟩ := hlive _ _ st
  have X2 := X.fresh kk hI hoI
  refine codeAny_forLoop (fun k s' => ∃ i vs cs own oI, St K sc s₀ env vs cs ((I, oI) :: own) s' ∧ J i vs cs own ∧ St_ i s'.heap ∧ i ≤ n ∧ k = n + 1 - i) ?_ (n + 1) ⟨0, vs, cs, own, oI, X2, h0, st, Nat.zero_le _, rfl⟩
  rintro k s' ⟨i, vs, cs, own, oI, x, hj, sti, hi, rfl⟩
  by_cases hlt : i < n
  · refine W.item i _ _ _ hlt sti fun val h₁ tk₁ hP st₁ hk₁ => ?_
    obtain ⟨o1, ho1⟩ := hlive _ _ st₁
    have x1 := x.upd (tk := tk₁) (fun b o hb e => hk₁ b o (by simpa using hb) e) ho1
    refine wpAny_assign_Name (hbind val vs cs _ _ _ _ x1 fun s₃ x3 => ?_)
    refine wpAny_mono (turn i val vs cs own I o1 s₃ _ hj hlt hP x3) (fun f s₅ h₅ => ?_) fun _ _ e => e
    obtain ⟨rfl, vs', cs', own', hj', x5⟩ := h₅
    refine ⟨n + 1 - (i + 1), by omega, i + 1, vs', cs', own', o1, x5, hj', ?_, hlt, rfl⟩
    refine W.frame _ _ _ st₁ fun b hb o e => ?_
    rcases List.mem_cons.mp hb with rfl | hb
    · have a1 := (x5.mine _ (.head _)).1
      have a2 := (x1.mine _ (.head _)).1
      have a2 : h₁.get? b = some o1 := a2
      rw [a2] at e; cases e; exact a1
    · rw [hsrc] at hb
      obtain ⟨q, hq, rfl⟩ := List.mem_map.mp hb
      have a1 : h₁.get? q.1 = some q.2 := (hJ i vs cs own hj q hq).elim (fun h => (x1.mine q (.tail _ h)).1) fun h => x1.keep _ _ h
      have a2 : s₅.heap.get? q.1 = some q.2 := (hJ (i + 1) vs' cs' own' hj' q hq).elim (fun h => (x5.mine q (.tail _ h)).1) fun h => x5.keep _ _ h
      rw [a1] at e; cases e; exact a2
  · have hin : i = n := by omega
    subst hin
    refine W.done _ _ _ sti fun h₁ tk₁ hk₁ => wpAny_execs_nil (fin vs cs own _ hj (x.drop1 fun b o hb e => hk₁ b o (by simpa using hb) e))
/-- for v in iter: body, v a local name -/
theorem for_ {v : Str} {pv pos : Pos} {iter : Expr} {body : List Stmt} {Q : Flow → Shared → Prop} {n : Nat} {P : Nat → Value → Prop} {src : List Addr} (X : St K sc s₀ env vs cs own s)
    (J : Nat → List (Str × Value) → List (Str × Value) → List (Addr × Obj) → Prop) (srcO : List (Addr × Obj)) (hsrc : src = srcO.map (·.1))
    (hit : ∀ Q' : Value → Shared → Prop, (∀ s' I, Itr prog w A n P src s s' I → Q' (.ref I) s') → wpAny (model prog w) A (eval iter env) (fun xv s₁ => wpAny (model prog w) A (pyIter xv) Q' E s₁) E s)
    (h0 : J 0 vs cs own) (hJ : ∀ i vs cs own, J i vs cs own → ∀ q ∈ srcO, q ∈ own ∨ s₀.heap.get? q.1 = some q.2)
    (turn : ∀ i val vs cs own I oI s₃ E', J i vs cs own → i < n → P i val → St K sc s₀ env ((v, val) :: vs) cs ((I, oI) :: own) s₃ →
      wpAny (model prog w) A (execs body env) (fun f s' => f = .next ∧ ∃ vs' cs' own', J (i + 1) vs' cs' own' ∧ St K sc s₀ env vs' cs' ((I, oI) :: own') s') E' s₃)
    (fin : ∀ vs cs own s', J n vs cs own → St K sc s₀ env vs cs own s' → Q .next s')
    (hv : sc.names.lookup v = some .local := by kernel_rfl) (hs : ∀ x, foldedSetIterable iter env x = pure x := by intro _; rfl) : wpAny (model prog w) A (exec (.For (.Name v pv) iter body [] pos) env) Q E s :=
  forG X (fun vs cs val => ((v, val) :: vs, cs)) (fun val vs cs own s Q E x h => stv x h hv) J srcO hsrc hit h0 hJ turn fin hs
/-- for v in iter: body, v a cell -/
theorem forC_ {v : Str} {pv pos : Pos} {iter : Expr} {body : List Stmt} {Q : Flow → Shared → Prop} {n : Nat} {P : Nat → Value → Prop} {src : List Addr} (X : St K sc s₀ env vs cs own s) (hc : (env.cells.lookup v).isSome = true)
    (J : Nat → List (Str × Value) → List (Str × Value) → List (Addr × Obj) → Prop) (srcO : List (Addr × Obj)) (hsrc : src = srcO.map (·.1))
    (hit : ∀ Q' : Value → Shared → Prop, (∀ s' I, Itr prog w A n P src s s' I → Q' (.ref I) s') → wpAny (model prog w) A (eval iter env) (fun xv s₁ => wpAny (model prog w) A (pyIter xv) Q' E s₁) E s)
    (h0 : J 0 vs cs own) (hJ : ∀ i vs cs own, J i vs cs own → ∀ q ∈ srcO, q ∈ own ∨ s₀.heap.get? q.1 = some q.2)
    (turn : ∀ i val vs cs own I oI s₃ E', J i vs cs own → i < n → P i val → St K sc s₀ env vs ((v, val) :: cs) ((I, oI) :: own) s₃ →
      wpAny (model prog w) A (execs body env) (fun f s' => f = .next ∧ ∃ vs' cs' own', J (i + 1) vs' cs' own' ∧ St K sc s₀ env vs' cs' ((I, oI) :: own') s') E' s₃)
    (fin : ∀ vs cs own s', J n vs cs own → St K sc s₀ env vs cs own s' → Q .next s')
    (hv : sc.names.lookup v = some .cell := by kernel_rfl) (hs : ∀ x, foldedSetIterable iter env x = pure x := by intro _; rfl) : wpAny (model prog w) A (exec (.For (.Name v pv) iter body [] pos) env) Q E s :=
  forG X (fun vs cs val => (vs, (v, val) :: cs)) (fun val vs cs own s Q E x h => stc x hc h hv) J srcO hsrc hit h0 hJ turn fin hs
end
end R
end Mine
end
section
open PySem PySem.W PyProof.Rows PySem.Builtin PySem.Builtin.Str
set_option Elab.async false
set_option maxRecDepth 100000
set_option linter.unusedVariables false
namespace Mine
variable {K : Cx}
/-- s' is s with the object at a turned to o -/
noncomputable def Upd (a : Addr) (o : Obj) (s s' : Shared) : Prop := ∃ h' tk, s' = { s with heap := h', toks := tk } ∧ (∀ b x, b ≠ a → s.heap.get? b = some x → h'.get? b = some x) ∧ h'.get? a = some o
theorem St.updU {sc : Scope} {s₀ s s' : Shared} {env : Env} {vs cs : List (Str × Value)} {own : List (Addr × Obj)} {a : Addr} {o o' : Obj} (x : St K sc s₀ env vs cs ((a, o) :: own) s) (u : Upd a o' s s') : St K sc s₀ env vs cs ((a, o') :: own) s' := by
  obtain ⟨h', tk, rfl, hk, ho⟩ := u
  exact x.upd hk ho
noncomputable def insAt (xs : List Value) (k : Nat) (v : Value) : List Value := xs.take k ++ v :: xs.drop k
theorem upd_mapSeq {s : Shared} {l : Addr} {vs ws : List Value} {n n' : Nat} {f : Array Value → Array Value} (ho : s.heap.get? l = some (lstO vs n)) (hf : f vs.toArray = ws.toArray) (hn : n' = if ws.length = vs.length then n else n + 1) :
    Upd l (lstO ws n') s { s with heap := s.heap.update l (Obj.mapSeq f) } := by
  refine ⟨_, s.toks, rfl, fun b x hb e => (Heap.get?_update_other _ _ (Ne.symm hb)).trans e, ?_⟩
  have h1 : Obj.mapSeq f (lstO vs n) = lstO ws n' := by
    unfold lstO Obj.mapSeq
    simp only [hf, List.size_toArray, hn]
    by_cases h : ws.length = vs.length
    · simp [h]
    · simp [h]
  have := Heap.get?_update_self (Obj.mapSeq f) ho (by rw [h1]; rfl)
  rw [this, h1]
namespace R
section
variable {prog : Program} {w : World} {A : Around} {E : Value → Shared → Prop} {s : Shared} {env : Env}
section
variable {o e e₁ e₂ : Expr} {apos pos : Pos} {Q : Value → Shared → Prop}
/-- o.lower() -/
theorem lower_ (h : wpAny (model prog w) A (eval o env) (fun ov s₁ => ∃ x t, ov = .str x t ∧ tooLong (Txt.lower x).length = false ∧ ∀ s' t', Keeps s₁ s' → Q (.str (Txt.lower x) t') s') E s)
    (hb : attributeBase o "lower" env (eval o env) = eval o env := by rfl) (hl : (apos.endLine == pos.line) = true := by rfl) : wpAny (model prog w) A (eval (.Call (.Attribute o "lower" apos) [] [] pos) env) Q E s :=
  Call_method0 hb hl (wpAny_mono h (fun ov s₁ ⟨x, t, e, hf, hq⟩ => by subst e; exact SB.lower hf (hq _ _ (kp_tok _))) fun _ _ e => e)
/-- o.count(e) -/
theorem count_ (h : wpAny (model prog w) A (eval o env) (fun ov s₁ => ∃ x t, ov = .str x t ∧ wpAny (model prog w) A (eval e env) (fun v s₂ => ∃ y u, v = .str y u ∧ ∀ s' t', Keeps s₂ s' → Q (.int (Txt.count x y) t') s') E s₁) E s)
    (hb : attributeBase o "count" env (eval o env) = eval o env := by rfl) (hs : starEach [e] env = [(false, eval e env)] := by rfl) (hl : (apos.endLine == pos.line) = true := by rfl) : wpAny (model prog w) A (eval (.Call (.Attribute o "count" apos) [e] [] pos) env) Q E s :=
  Call_method1 hb hs hl (wpAny_mono h (fun ov s₁ ⟨x, t, e, hq⟩ => by subst e; exact SB.count (wpAny_mono hq (fun v s₂ ⟨y, u, e, hq⟩ => ⟨y, u, e, hq _ _ (kp_tok _)⟩) fun _ _ e => e)) fun _ _ e => e)
/-- o.index(e), texts -/
theorem sindex_ (h : wpAny (model prog w) A (eval o env) (fun ov s₁ => ∃ x t, ov = .str x t ∧ wpAny (model prog w) A (eval e env) (fun v s₂ => ∃ y u, v = .str y u ∧ ∃ i rest, occurrences x y 0 x.length 1 = i :: rest ∧ ∀ s' t', Keeps s₂ s' → Q (.int i t') s') E s₁) E s)
    (hb : attributeBase o "index" env (eval o env) = eval o env := by rfl) (hs : starEach [e] env = [(false, eval e env)] := by rfl) (hl : (apos.endLine == pos.line) = true := by rfl) : wpAny (model prog w) A (eval (.Call (.Attribute o "index" apos) [e] [] pos) env) Q E s :=
  Call_method1 hb hs hl (wpAny_mono h (fun ov s₁ ⟨x, t, e, hq⟩ => by subst e; exact SB.index (wpAny_mono hq (fun v s₂ ⟨y, u, e, i, rest, ho, hq⟩ => ⟨y, u, e, i, rest, ho, hq _ _ (kp_tok _)⟩) fun _ _ e => e)) fun _ _ e => e)
/-- o.join(e) -/
theorem join_ (h : wpAny (model prog w) A (eval o env) (fun ov s₁ => ∃ x t, ov = .str x t ∧ wpAny (model prog w) A (eval e env) (fun v s₂ => ∃ D l n, v = .ref D ∧ s₂.heap.get? D = some (lstO (strValues l) n) ∧ JoinOk x (l.map (·.1)) = true ∧ ∀ s' t', Keeps s₂ s' → Q (.str (Txt.join x (l.map (·.1))) t') s') E s₁) E s)
    (hb : attributeBase o "join" env (eval o env) = eval o env := by rfl) (hs : starEach [e] env = [(false, eval e env)] := by rfl) (hl : (apos.endLine == pos.line) = true := by rfl) : wpAny (model prog w) A (eval (.Call (.Attribute o "join" apos) [e] [] pos) env) Q E s :=
  Call_method1 hb hs hl (wpAny_mono h (fun ov s₁ ⟨x, t, e, hq⟩ => by subst e; exact SB.join (wpAny_mono hq (fun v s₂ ⟨D, l, n, e, hD, hj, hq⟩ => ⟨D, l, e, isLst hD, _, rfl, hj, fun t' k => hq _ _ (kp_tok _)⟩) fun _ _ e => e)) fun _ _ e => e)
/-- o.split(e) -/
theorem split_ (h : wpAny (model prog w) A (eval o env) (fun ov s₁ => ∃ x t, ov = .str x t ∧ x.length ≤ sizeLine ∧ wpAny (model prog w) A (eval e env) (fun v s₂ => ∃ y u, v = .str y u ∧ (y.length == 0) = false ∧
      (partsBetween x (occurrences x y 0 x.length (x.length + 1)) y.length).length ≤ sizeLine ∧ ∀ s' D l, Keeps s₂ s' → s₂.heap.get? D = none → l.map (·.1) = Txt.split x y → s'.heap.get? D = some (lstO (strValues l) 0) → Q (.ref D) s') E s₁) E s)
    (hb : attributeBase o "split" env (eval o env) = eval o env := by rfl) (hs : starEach [e] env = [(false, eval e env)] := by rfl) (hl : (apos.endLine == pos.line) = true := by rfl) : wpAny (model prog w) A (eval (.Call (.Attribute o "split" apos) [e] [] pos) env) Q E s := by
  refine Call_method1 hb hs hl (wpAny_mono h (fun ov s₁ h₁ => ?_) fun _ _ e => e)
  obtain ⟨x, t, rfl, hx, hq⟩ := h₁
  refine ⟨"str", _, F.plainAttrs_str, F.slot_str_split, F.type_str_split, typeIs_str _ _ _, (fun _ e => nomatch e), method1_meets F.slot_str_split F.entry_str_split (wpAny_mono hq (fun v s₁ h₁ => ?_) fun _ _ e => e)⟩
  obtain ⟨y, u, rfl, hy, hn, hq⟩ := h₁
  refine ⟨typeIs_str _ _ _, F.args_str_split_2 _ _, ?_⟩
  cases h1 : (decide (x.length < y.length) || decide (Builtin.Str.strKind x < Builtin.Str.strKind y))
  · cases hf : (occurrences x y 0 x.length (x.length + 1)).isEmpty
    · refine ⟨_, meets_str_split_sep x y t u h1 hy hf hx hn, ?_⟩
      show wants Q E _ { s₁ with toks := _, heap := s₁.heap.push { cls := .type "list", data := .seq (strsFrom s₁.toks (partsBetween x (occurrences x y 0 x.length (x.length + 1)) y.length)).toArray } }
      rw [strsFrom_eq]
      exact hq _ _ (numbered s₁.toks _) ⟨_, _, rfl, fun _ _ e => Heap.get?_push_of_some _ e⟩ (get_none_of_ge (Nat.le_refl _)) ((numbered_texts _ _).trans ((if_neg (ne_true_of_eq_false h1)).trans (if_neg (ne_true_of_eq_false hf))).symm) (Heap.get?_push_size _ rfl)
    · exact ⟨_, meets_str_split_not_found x y t u h1 hy hf, hq _ _ [(x, t)] ⟨_, _, rfl, fun _ _ e => Heap.get?_push_of_some _ e⟩ (get_none_of_ge (Nat.le_refl _)) ((if_neg (ne_true_of_eq_false h1)).trans (if_pos hf)).symm (Heap.get?_push_size _ rfl)⟩
  · exact ⟨_, meets_str_split_cannot_occur x y t u h1, hq _ _ [(x, t)] ⟨_, _, rfl, fun _ _ e => Heap.get?_push_of_some _ e⟩ (get_none_of_ge (Nat.le_refl _)) (if_pos h1).symm (Heap.get?_push_size _ rfl)⟩
/-- o.get(e), a dict of int keys -/
theorem dget1_ (h : wpAny (model prog w) A (eval o env) (fun ov s₁ => ∃ d, ov = .ref d ∧ (d == sysModules) = false ∧ s₁.TypeIs (.ref d) "dict" ∧ (∀ a, Value.ref d = .ref a → ∃ ob, s₁.heap.get? a = some ob ∧ ob.dict = none) ∧
      wpAny (model prog w) A (eval e env) (fun v s₂ => ∃ k t kvs, v = .int k t ∧ s₂.heap.DictOf (intKind prog w) d kvs ∧ ∀ s', Keeps s₂ s' → Q ((valueAt kvs k).getD .none) s') E s₁) E s)
    (hb : attributeBase o "get" env (eval o env) = eval o env := by rfl) (hs : starEach [e] env = [(false, eval e env)] := by rfl) (hl : (apos.endLine == pos.line) = true := by rfl) : wpAny (model prog w) A (eval (.Call (.Attribute o "get" apos) [e] [] pos) env) Q E s := by
  refine Call_method1 hb hs hl (wpAny_mono h (fun ov s₁ h₁ => ?_) fun _ _ e => e)
  obtain ⟨d, rfl, hd, hT, hN, hq⟩ := h₁
  refine ⟨"dict", "dict.get", F.plainAttrs_dict, F.slot_dict_get, F.type_dict_get, hT, hN, wpAny_dict_get1 (knd := intKind prog w) hd (wpAny_mono hq (fun v s₂ h₂ => ?_) fun _ _ e => e)⟩
  obtain ⟨k, t, kvs, rfl, hm, hq⟩ := h₂
  exact ⟨k, _, intKind_is _ _ _ _, hm.mapOf, hq _ (kp_tok _)⟩
theorem dget2_ (h : wpAny (model prog w) A (eval o env) (fun ov s₁ => ∃ d, ov = .ref d ∧ (d == sysModules) = false ∧ s₁.TypeIs (.ref d) "dict" ∧ (∀ a, Value.ref d = .ref a → ∃ ob, s₁.heap.get? a = some ob ∧ ob.dict = none) ∧
      wpAny (model prog w) A (eval e₁ env) (fun v s₂ => wpAny (model prog w) A (eval e₂ env) (fun u s₃ => ∃ k t kvs, v = .int k t ∧ s₃.heap.DictOf (intKind prog w) d kvs ∧ ∀ s', Keeps s₃ s' → Q ((valueAt kvs k).getD u) s') E s₂) E s₁) E s)
    (hb : attributeBase o "get" env (eval o env) = eval o env := by rfl) (hs : starEach [e₁, e₂] env = [(false, eval e₁ env), (false, eval e₂ env)] := by rfl) (hl : (apos.endLine == pos.line) = true := by rfl) : wpAny (model prog w) A (eval (.Call (.Attribute o "get" apos) [e₁, e₂] [] pos) env) Q E s := by
  refine Call_method2 hb hs hl (wpAny_mono h (fun ov s₁ h₁ => ?_) fun _ _ e => e)
  obtain ⟨d, rfl, hd, hT, hN, hq⟩ := h₁
  refine ⟨"dict", "dict.get", F.plainAttrs_dict, F.slot_dict_get, F.type_dict_get, hT, hN, wpAny_dict_get2 (knd := intKind prog w) hd (wpAny_mono hq (fun v s₂ h₂ => wpAny_mono h₂ (fun u s₃ h₃ => ?_) fun _ _ e => e) fun _ _ e => e)⟩
  obtain ⟨k, t, kvs, rfl, hm, hq⟩ := h₃
  exact ⟨k, _, intKind_is _ _ _ _, hm.mapOf, hq _ (kp_tok _)⟩
theorem inSet_ {a : Addr} {S : Int → Bool} {n : Nat} {k : Int} {t : Tok} (hS : s.heap.SetOf (intKind prog w) a S n) (h : ∀ s', Keeps s s' → Q (.bool (S k)) s') : wpAny (model prog w) A (compareOp .In (.int k t) (.ref a)) Q E s :=
  wpAny_inSet_of (knd := intKind prog w) (intKind_is _ _ _ _) rfl hS (h _ (kp_tok _))
theorem isNot_ {a b : Value} (hp : plainIs a b = true) (h : Q (.bool (!(a == b))) s) : wpAny (model prog w) A (compareOp .IsNot a b) Q E s := wpAny_isNot_plain hp h
theorem cnone {k p} (h : Q .none s) : wpAny (model prog w) A (eval (.Constant .none k p) env) Q E s := wpAny_Constant_none h
theorem cbool {b k p} (h : Q (.bool b) s) : wpAny (model prog w) A (eval (.Constant (.bool b) k p) env) Q E s := wpAny_Constant_bool h
end
section
variable {e : Expr} {pos : Pos} {whole : Sem Value} {Q : Bool → Shared → Prop}
/-- tests -/
theorem tNot (h : wpAny (model prog w) A (isTrue e env (eval e env)) (fun b s₁ => Q (!b) s₁) E s) : wpAny (model prog w) A (isTrue (.UnaryOp .Not e pos) env whole) Q E s := wpAny_isTrue_Not h
theorem tVal (h : wpAny (model prog w) A whole (fun v s₁ => ∃ b, v = .bool b ∧ Q b s₁) E s) (he : isTrue e env whole = (do let v ← whole; standAt e.pos; holding [v] (truthy v)) := by rfl) : wpAny (model prog w) A (isTrue e env whole) Q E s :=
  wpAny_isTrue_value (wpAny_mono h (fun v s₁ ⟨b, e, hq⟩ => by subst e; exact wpAny_truthy_bool hq) fun _ _ e => e) he
theorem tCmp {l r : Expr} {op : CmpOp} (h : wpAny (model prog w) A (eval l env) (fun a s₁ => wpAny (model prog w) A (eval r env) (fun b s₂ => wpAny (model prog w) A (compareOp op a b) (fun v s₃ => ∃ b, v = .bool b ∧ Q b s₃) E s₂) E s₁) E s)
    (hm : behindInMarks op r = false := by with_unfolding_all rfl) : wpAny (model prog w) A (isTrue (.Compare l [op] [r] pos) env whole) Q E s :=
  wpAny_isTrue_Compare1 (wpAny_mono h (fun _ _ h => wpAny_mono h (fun _ _ h => wpAny_mono h (fun v s₃ ⟨b, e, hq⟩ => by subst e; exact wpAny_truthy_bool hq) fun _ _ e => e) fun _ _ e => e) fun _ _ e => e) hm
end
section
variable {o e e₁ e₂ : Expr} {apos p pos : Pos} {Q : Flow → Shared → Prop}
/-- o.append(e) -/
theorem app_ (h : wpAny (model prog w) A (eval o env) (fun ov s₁ => ∃ l, ov = .ref l ∧ s₁.TypeIs (.ref l) "list" ∧ (∃ ob, s₁.heap.get? l = some ob ∧ ob.dict = none) ∧ wpAny (model prog w) A (eval e env) (fun v s₂ => ∃ vs n, vs.length ≤ sizeLine ∧ s₂.heap.get? l = some (lstO vs n) ∧
      ∀ s', Upd l (lstO (vs ++ [v]) (n + 1)) s₂ s' → Q .next s') E s₁) E s)
    (hi : interactive env = false := by rfl) (hsw : swapsWith (.Call (.Attribute o "append" apos) [e] [] p) none pos.line env = pure false := by rfl)
    (hb : attributeBase o "append" env (eval o env) = eval o env := by rfl) (hs : starEach [e] env = [(false, eval e env)] := by rfl) (hl : (apos.endLine == p.line) = true := by rfl) :
    wpAny (model prog w) A (exec (.Expr (.Call (.Attribute o "append" apos) [e] [] p) pos) env) Q E s := by
  refine wpAny_Expr (Call_method1 hb hs hl (wpAny_mono h (fun ov s₁ h₁ => ?_) fun _ _ e => e)) hi hsw
  obtain ⟨l, rfl, hT, hN, hq⟩ := h₁
  refine ⟨"list", "list.append", F.plainAttrs_list, F.slot_list_append, F.type_list_append, hT, fun a e => by cases e; exact hN, P.append_list (wpAny_mono hq (fun v s₂ h₂ => ?_) fun _ _ e => e)⟩
  obtain ⟨vs, n, hsz, hl, hq⟩ := h₂
  exact ⟨vs.toArray, n, by simpa using hsz, hl, hq _ (upd_mapSeq hl (by simp) (by simp))⟩
/-- o.insert(e₁, e₂) -/
theorem ins_ (h : wpAny (model prog w) A (eval o env) (fun ov s₁ => ∃ l, ov = .ref l ∧ s₁.TypeIs (.ref l) "list" ∧ (∃ ob, s₁.heap.get? l = some ob ∧ ob.dict = none) ∧ wpAny (model prog w) A (eval e₁ env) (fun kv s₂ => wpAny (model prog w) A (eval e₂ env) (fun v s₃ => ∃ k t vs n, kv = .int k t ∧ 0 ≤ k ∧ k ≤ vs.length ∧ vs.length ≤ sizeLine ∧ s₃.heap.get? l = some (lstO vs n) ∧
      ∀ s', Upd l (lstO (insAt vs k.toNat v) (n + 1)) s₃ s' → Q .next s') E s₂) E s₁) E s)
    (hi : interactive env = false := by rfl) (hsw : swapsWith (.Call (.Attribute o "insert" apos) [e₁, e₂] [] p) none pos.line env = pure false := by rfl)
    (hb : attributeBase o "insert" env (eval o env) = eval o env := by rfl) (hs : starEach [e₁, e₂] env = [(false, eval e₁ env), (false, eval e₂ env)] := by rfl) (hl : (apos.endLine == p.line) = true := by rfl) :
    wpAny (model prog w) A (exec (.Expr (.Call (.Attribute o "insert" apos) [e₁, e₂] [] p) pos) env) Q E s := by
  refine wpAny_Expr (Call_method2 hb hs hl (wpAny_mono h (fun ov s₁ h₁ => ?_) fun _ _ e => e)) hi hsw
  obtain ⟨l, rfl, hT, hN, hq⟩ := h₁
  refine ⟨"list", "list.insert", F.plainAttrs_list, F.slot_list_insert, F.type_list_insert, hT, fun a e => by cases e; exact hN, method2_meetsIn F.slot_list_insert F.entry_list_insert (wpAny_mono hq (fun kv s₂ h₂ => wpAny_mono h₂ (fun v s₃ h₃ => ?_) fun _ _ e => e) fun _ _ e => e)⟩
  obtain ⟨k, t, vs, n, rfl, h0, hk, hsz, ho, hq⟩ := h₃
  have hfit : ¬(!Builtin.List.listFitsIndex k) = true := by
    have hz : sizeLine = 2 ^ 24 := rfl
    rw [fitsIndex_of h0 (by omega)]; decide
  refine ⟨⟨_, ho, rfl⟩, F.args_list_insert_3 _ _ _, _, Meets.inModel (AutoSeq1.list_insert_list_int_val_1 l vs.toArray n k t v hfit (by simpa using hsz)) prog w, ho, ?_⟩
  refine hq _ (upd_mapSeq ho ?_ (by simp [insAt]; omega))
  have hlt : ¬ k < 0 := by omega
  simp only [hlt, if_false, List.size_toArray]
  have hm : min k.toNat vs.length = k.toNat := by omega
  rw [hm]
  apply Array.ext'
  simp [insAt]
  exact List.take_of_length_le (by simp)
/-- o[i] = value, a list -/
theorem setL_ {i value : Expr} {p' : Pos} (h : wpAny (model prog w) A (eval value env) (fun v s₁ => wpAny (model prog w) A (eval o env) (fun ov s₂ => wpAny (model prog w) A (eval i env) (fun iv s₃ => ∃ l k t vs n, ov = .ref l ∧ iv = .int k t ∧ 0 ≤ k ∧ k < vs.length ∧ vs.length ≤ sizeLine ∧ s₃.heap.get? l = some (lstO vs n) ∧
      ∀ s', Upd l (lstO (vs.set k.toNat v) n) s₃ s' → Q .next s') E s₂) E s₁) E s)
    (hs : swapsWith value (some (.Subscript o i p')) pos.line env = pure false := by rfl) : wpAny (model prog w) A (exec (.Assign [.Subscript o i p'] value pos) env) Q E s := by
  refine wpAny_Assign_Subscript (wpAny_mono h (fun v s₁ h₁ => wpAny_mono h₁ (fun ov s₂ h₂ => wpAny_mono h₂ (fun iv s₃ h₃ => ?_) fun _ _ e => e) fun _ _ e => e) fun _ _ e => e) hs
  obtain ⟨l, k, t, vs, n, rfl, rfl, h0, hk, hsz, ho, hq⟩ := h₃
  have hz : sizeLine = 2 ^ 24 := rfl
  have hl : s₃.heap.IsList l vs.toArray := isLst ho
  have hd : (lstO vs n).data = .seq vs.toArray n := rfl
  unfold setItem
  try with_reducible refine wpAny_holding ?_
  refine wpAny_bind (wpAny_sequenceKey hl.typeIs (by decide) ?_)
  refine wpAny_bind (wpAny_callSpecial?_slot (name := Str.ofString "__setitem__") hl.typeIs slot_list_setitem (wpAny_call_entry slot_list_setitem hl.typeIs entry_list_setitem ?_ (args_list_setitem _ _ _)))
  show wpAny _ _ (Builtin.List.listSubscript? (.int k t) >>= _) _ _ s₃
  refine wpAny_bind (wpAny_listSubscript_int (fitsIndex_of h0 (by omega)) ?_)
  obtain ⟨j, rfl⟩ := Int.eq_ofNat_of_zero_le h0
  have hj : j < vs.toArray.size := by simp; omega
  have hx' : vs.toArray[j]? = some vs.toArray[j] := Array.getElem?_eq_getElem hj
  show wpAny _ _ ((seqItemAt l j >>= fun r => pure (r.map (j, ·))) >>= _) _ _ s₃
  refine wpAny_bind (wpAny_bind (wpAny_seqItemAt ho hd (wpAny_pure ?_)))
  rw [hx']
  show wpAny _ _ (setSeqItemAt l j v >>= _) _ _ s₃
  refine wpAny_bind (wpAny_setSeqItemAt ho hd ?_)
  have hq' := hq _ (upd_mapSeq (f := (·.setIfInBounds j v)) (ws := vs.set j v) ho (by simp) (by simp))
  first
    | exact wpAny_bind (wpAny_pure (wpAny_pure ⟨.none, rfl, wpAny_pure hq'⟩))
    | exact wpAny_pure ⟨.none, rfl, wpAny_pure hq'⟩
end
end
end R
end Mine
end
section
open PySem PySem.W PyProof.Rows PySem.Builtin PySem.Builtin.Str PySem.Builtin.Re
set_option Elab.async false
set_option maxRecDepth 100000
set_option linter.unusedVariables false
namespace Mine
theorem plain_subloop : plainId "re.Pattern.sub.loop" = true := by decide +kernel
theorem entry_subloop : entryFor table "re.Pattern.sub.loop" = some Builtin.«re.Pattern.sub.loop» := entryFor_of_tree (by kernel_rfl)
theorem slot_sub : Slot "re.Pattern" "sub" "re.Pattern.sub" :=
  .of (owner := "re.Pattern") (n := "sub") (by rw [typeLookup_type, builtinLookup_eq_fast]; kernel_rfl) (by decide +kernel) (by decide +kernel) (by decide +kernel)
    (by first | exact .inl (by decide +kernel) | exact .inr (by decide +kernel)) (by rw [isSubtype_type]; kernel_rfl)
theorem type_sub : typeOf (.builtin "re.Pattern.sub") = pure (.type "method_descriptor") := by show builtinType _ = _; rw [builtinType_eq_fast]; kernel_rfl
theorem entry_sub : entryFor table "re.Pattern.sub" = some Builtin.«re.Pattern.sub» := entryFor_of_tree (by kernel_rfl)
theorem args_sub (a b c : Value) : argsOk "re.Pattern.sub" ⟨[a, b, c], []⟩ := by unfold argsOk; kernel_rfl
theorem pa_re : PlainAttrs "re.Pattern" := ⟨⟨"object.__getattribute__", by rw [typeLookup_type, builtinLookup_eq_fast]; kernel_rfl, by decide +kernel⟩, by rw [typeLookup_type, builtinLookup_eq_fast]; kernel_rfl⟩
theorem str_nocall : typeLookup (.type "str") "__call__" = pure none := by rw [typeLookup_type, builtinLookup_eq_fast]; kernel_rfl

/-- a compiled pattern of code at p -/
noncomputable def PatAt (h : Heap) (p : Addr) (code : Array Nat) : Prop := ∃ fs q its n sl sl', h.get? p = some ⟨.type "re.Pattern", none, .fields fs, sl⟩ ∧ fs.getD 5 .none = .ref q ∧ reRawNat (fs.getD 2 .none) = 0 ∧ reRawNat (fs.getD 6 .none) = 0 ∧
  h.get? q = some ⟨.type "tuple", none, .seq its n, sl'⟩ ∧ (its.map reRawOf).map (·.toNat) = code
theorem PatAt.keeps {h h' : Heap} {p : Addr} {code : Array Nat} (x : PatAt h p code) (hk : ∀ b o, (∀ vs n, o ≠ lstO vs n) → h.get? b = some o → h'.get? b = some o) : PatAt h' p code := by
  obtain ⟨fs, q, its, n, sl, sl', a, b, c, d, e, f⟩ := x
  exact ⟨fs, q, its, n, sl, sl', hk _ _ (fun vs n e => by have := congrArg Obj.cls e; simp [lstO] at this) a, b, c, d, hk _ _ (fun vs n e => by have := congrArg Obj.cls e; simp [lstO] at this) e, f⟩

/-- the matches from a place on -/
inductive Ms (code text : Array Nat) : Nat → List (Nat × Nat) → Prop
  | nil {d} : Finds code text d none → Ms code text d []
  | cons {d a b ms} : Finds code text d (some (a, b)) → (b == a) = false → Ms code text b ms → Ms code text d ((a, b) :: ms)
noncomputable def pieces (text : Array Nat) (rp : Str) : Nat → List (Nat × Nat) → List Str
  | d, [] => if d < text.size then [⟨text.extract d text.size⟩] else []
  | d, (a, b) :: ms => (if d < a then [⟨text.extract d a⟩] else []) ++ rp :: pieces text rp b ms

section
variable {prog : Program} {w : World} {A : Around} {E : Value → Shared → Prop} {s : Shared}
noncomputable def tgt (p : Addr) (text : Array Nat) (ts : Tok) (code : Array Nat) : ReTarget := { pattern := .ref p, string := .str ⟨text⟩ ts, code, text, kind := 0, groups := 0, pos := 0, lim := text.size }
theorem whole_ {p : Addr} {text code : Array Nat} {ts : Tok} {Q : ReTarget → Shared → Prop} (hp : PatAt s.heap p code) (h : Q (tgt p text ts code) s) : wpAny (model prog w) A (reWholeTarget (.ref p) (.str ⟨text⟩ ts)) Q E s := by
  obtain ⟨fs, q, its, n, sl, sl', h1, h2, h3, h4, h5, h6⟩ := hp
  unfold reWholeTarget
  refine wpAny_bind (wpAny_fieldsOf h1 rfl ?_)
  refine wpAny_bind (wpAny_of_eq (show reTextOf (.str ⟨text⟩ ts) = pure (text, 0) from rfl) ?_)
  simp only [h4]
  refine wpAny_bind ?_
  show wpAny _ _ (pure _) _ _ _
  refine wpAny_pure ?_
  refine wpAny_bind ?_
  unfold reRawItems
  rw [h2]
  refine wpAny_bind ?_
  unfold seqItems?
  refine wpAny_bind (wpAny_load h5 ?_)
  refine wpAny_pure ?_
  refine wpAny_pure ?_
  refine wpAny_pure ?_
  simp only [Option.getD_some, h6, h3]
  exact h
end
end Mine
end
section
open PySem PySem.W PyProof.Rows PySem.Builtin PySem.Builtin.Str PySem.Builtin.Re
set_option Elab.async false
set_option maxRecDepth 100000
set_option linter.unusedVariables false
namespace Mine
section
variable {prog : Program} {w : World} {A : Around} {E : Value → Shared → Prop} {s : Shared}
noncomputable def loopArgs (p : Addr) (text : Array Nat) (ts : Tok) (rp : Str) (tr : Tok) (n : Int) (d : Nat) (L : Addr) : Args :=
  ⟨[.ref p, .str ⟨text⟩ ts, .str rp tr, rawInt 0, rawInt 0, rawInt n, rawInt d, rawInt d, .bool false, .ref L, .bool false], []⟩
/-- kept but for the list at L -/
noncomputable def KpBut (L : Addr) (s s' : Shared) : Prop := ∃ h' tk, s' = { s with heap := h', toks := tk } ∧ ∀ b o, b ≠ L → s.heap.get? b = some o → h'.get? b = some o
theorem KpBut.of_upd {L : Addr} {o : Obj} {s s' : Shared} (u : Upd L o s s') : KpBut L s s' := let ⟨h', tk, e, hk, _⟩ := u; ⟨h', tk, e, hk⟩
theorem KpBut.trans {L : Addr} {s s' s'' : Shared} (x : KpBut L s s') (y : KpBut L s' s'') : KpBut L s s'' := by
  obtain ⟨h, t, rfl, hk⟩ := x
  obtain ⟨h', t', rfl, hk'⟩ := y
  exact ⟨h', t', rfl, fun b o hb e => hk' b o hb (hk b o hb e)⟩
theorem KpBut.tok {L : Addr} {s : Shared} (t : Nat) : KpBut L s { s with toks := t } := ⟨s.heap, t, rfl, fun _ _ _ e => e⟩
theorem push_ {L : Addr} {vs : List Value} {c : Nat} {v : Value} {Q : Unit → Shared → Prop} (ho : s.heap.get? L = some (lstO vs c)) (hsz : vs.length ≤ sizeLine) (h : ∀ s', Upd L (lstO (vs ++ [v]) (c + 1)) s s' → Q () s') :
    wpAny (model prog w) A (updateSeq L (·.push v)) Q E s :=
  wpAny_updateSeq ho rfl (h _ (upd_mapSeq ho (by simp) (by simp))) (by simpa using hsz) (by simp; omega)
theorem slice_ {text : Array Nat} {a b : Nat} {Q : Value → Shared → Prop} (hsz : text.size ≤ sizeLine) (h : ∀ t, Q (.str ⟨text.extract a b⟩ t) { s with toks := s.toks + 1 }) : wpAny (model prog w) A (reSlice text 0 a b) Q E s := by
  unfold reSlice
  rw [if_pos (by decide)]
  exact wpAny_mkStr (h _) (by show (text.extract a b).size ≤ sizeLine; rw [Array.size_extract]; omega)
theorem tail_ {t : ReTarget} (hkd : t.kind = 0) {L : Addr} {acc : List (Str × Tok)} {c : Nat} {Q : Fin → Shared → Prop} (hL : s.heap.get? L = some (lstO (strValues acc) c)) (hne : acc ≠ []) (hj : JoinOk (Str.ofString "") (acc.map (·.1)) = true)
    (hQ : ∀ s' t, Keeps s s' → Q (.done (.ret (.str (Txt.join (Str.ofString "") (acc.map (·.1))) t))) s') :
    wpAny (model prog w) A (do
      let joiner ← reSlice t.text t.kind 0 0
      let text ← if ((← seqItems? (.ref L)).getD #[]).isEmpty then pure joiner else call (.builtin (if t.kind == 0 then "str.join" else "bytes.join")) [joiner, .ref L]
      ret text : Sem Fin) Q E s := by
  obtain ⟨q1, q2, q3, text, q5, q6, q7, q8⟩ := t
  cases hkd
  rw [show (if ({ pattern := q1, string := q2, code := q3, text := text, kind := 0, groups := q6, pos := q7, lim := q8 } : ReTarget).kind == 0 then "str.join" else "bytes.join") = "str.join" from rfl]
  dsimp only
  refine wpAny_bind ?_
  unfold reSlice
  rw [if_pos (by decide)]
  refine wpAny_mkStr ?_ (by show (text.extract 0 0).size ≤ sizeLine; simp)
  have he : (⟨text.extract 0 0⟩ : Str) = Str.ofString "" := by
    have : text.extract 0 0 = #[] := by simp
    rw [this]; rfl
  rw [he]
  refine wpAny_bind ?_
  unfold seqItems?
  refine wpAny_bind (wpAny_load hL ?_)
  refine wpAny_pure ?_
  have hemp : ((strValues acc).toArray).isEmpty = false := by
    cases acc with
    | nil => exact absurd rfl hne
    | cons x r => simp [strValues]
  simp only [Option.getD_some, hemp, Bool.false_eq_true, if_false]
  have hok := hj
  unfold JoinOk at hok
  rw [Bool.not_eq_true'] at hok
  refine wpAny_bind (wpAny_mono (call_meets (Q := fun v s' => v ≠ .notImplemented ∧ ∃ t', v = .str (Txt.join (Str.ofString "") (acc.map (·.1))) t' ∧ Keeps s s') F.slot_str_join (typeIs_str _ _ _) F.entry_str_join (F.args_str_join_2 _ _) (meets_str_join_list (Str.ofString "") _ L acc hok) ⟨isLst hL, ?_⟩) (fun v s' h => ?_) fun _ _ e => e)
  · exact post_join acc ⟨joinFit_length hok, fun t' k => ⟨(fun e => nomatch e), t', rfl, ⟨_, _, rfl, fun _ _ e => e⟩⟩⟩
  · obtain ⟨_, t', rfl, k⟩ := h
    exact wpAny_pure (hQ _ _ k)
theorem subloop {p L : Addr} {text code : Array Nat} {ts tr : Tok} {rp : Str} (hsz : text.size ≤ 10000) : ∀ (ms : List (Nat × Nat)) (d : Nat) (n : Int) (acc : List (Str × Tok)) (c : Nat) (s : Shared) (A : Around) (R : Result → Shared → Prop), Ms code text d ms →
    s.heap.get? L = some (lstO (strValues acc) c) → PatAt s.heap p code → acc.length + 2 * ms.length ≤ 10000 → acc.map (·.1) ++ pieces text rp d ms ≠ [] →
    JoinOk (Str.ofString "") (acc.map (·.1) ++ pieces text rp d ms) = true →
    (∀ s' t, KpBut L s s' → R (.ok (.ret (.str (Txt.join (Str.ofString "") (acc.map (·.1) ++ pieces text rp d ms)) t))) s') →
    codeAny (model prog w) A (.builtin "re.Pattern.sub.loop" (loopArgs p text ts rp tr n d L)) R s := by
  intro ms
  induction ms with
  | nil =>
    intro d n acc c s A R hm hL hp hlen hne hj hR
    cases hm with
    | nil hf =>
    refine codeAny_builtin entry_subloop ?_
    rw [show loopArgs p text ts rp tr n d L = (⟨[.ref p, .str ⟨text⟩ ts, .str rp tr, .int 0 0, .int 0 0, .int n 0, .int d 0, .int d 0, .bool false, .ref L, .bool false], []⟩ : Args) from rfl, Around.under_plainId plain_subloop]
    unfold Builtin.«re.Pattern.sub.loop»
    dsimp only
    generalize A.in1 = B
    simp only [show ((0:Int) == 0) = true from rfl, show ((0:Int) != 0) = false from rfl, Bool.false_and, if_true, Bool.false_eq_true, if_false, Int.toNat_natCast]
    refine wpAny_bind (whole_ hp ?_)
    refine wpAny_bind (wpAny_of_eq (show reLiteralCannotBeTurned (.str rp tr) = pure () from rfl) ?_)
    refine wpAny_bind ?_
    show wpAny _ _ (reRunToEnd (Sre.forSearch code text 0 d text.size false)) _ _ _
    refine reRun_ hf (fun a b e => nomatch e) fun _ => ?_
    have hsl : text.size ≤ sizeLine := Nat.le_trans hsz (by decide)
    by_cases hd : d < text.size
    · refine wpAny_ite_true (decide_eq_true (show d < (tgt p text ts code).lim from hd)) ?_
      refine wpAny_bind (slice_ (text := text) hsl fun t => ?_)
      have hlen' : (strValues acc).length ≤ sizeLine := by
        have : (strValues acc).length = acc.length := by simp [strValues]
        rw [this]; exact Nat.le_trans (by simpa using hlen) (by decide)
      refine wpAny_bind (push_ (c := c) (vs := strValues acc) hL hlen' fun s₁ u => ?_)
      have hp1 : pieces text rp d [] = [⟨text.extract d text.size⟩] := by unfold pieces; rw [if_pos hd]
      have eL : (acc ++ [((⟨text.extract d text.size⟩ : Str), t)]).map (·.1) = acc.map (·.1) ++ pieces text rp d [] := by rw [hp1]; simp
      have hL1 : s₁.heap.get? L = some (lstO (strValues (acc ++ [((⟨text.extract d text.size⟩ : Str), t)])) (c + 1)) := by
        obtain ⟨h', tk, rfl, _, ho⟩ := u
        rw [ho]; simp [strValues, tgt]
      refine tail_ (t := tgt p text ts code) rfl hL1 (by simp) (by rw [eL]; exact hj) fun s₂ t₂ k => ?_
      rw [eL]
      refine hR _ _ (KpBut.trans (KpBut.tok _) (KpBut.trans (KpBut.of_upd u) ?_))
      obtain ⟨h', tk, rfl, hk⟩ := k
      exact ⟨h', tk, rfl, fun b o _ e => hk b o e⟩
    · refine wpAny_ite_false (decide_eq_false (show ¬ d < (tgt p text ts code).lim from hd)) ?_
      have hp1 : pieces text rp d [] = [] := by unfold pieces; rw [if_neg hd]
      rw [hp1, List.append_nil] at hne hj hR
      refine tail_ (t := tgt p text ts code) rfl hL (fun e => hne (by rw [e]; rfl)) hj fun s₂ t₂ k => hR _ _ ?_
      obtain ⟨h', tk, rfl, hk⟩ := k
      exact ⟨h', tk, rfl, fun b o _ e => hk b o e⟩
  | cons q ms ih =>
    obtain ⟨a, b⟩ := q
    intro d n acc c s A R hm hL hp hlen hne hj hR
    cases hm with
    | cons hf hab hms =>
    refine codeAny_builtin entry_subloop ?_
    rw [show loopArgs p text ts rp tr n d L = (⟨[.ref p, .str ⟨text⟩ ts, .str rp tr, .int 0 0, .int 0 0, .int n 0, .int d 0, .int d 0, .bool false, .ref L, .bool false], []⟩ : Args) from rfl, Around.under_plainId plain_subloop]
    unfold Builtin.«re.Pattern.sub.loop»
    dsimp only
    generalize hB : A.in1 = B
    simp only [show ((0:Int) == 0) = true from rfl, show ((0:Int) != 0) = false from rfl, Bool.false_and, if_true, Bool.false_eq_true, if_false, Int.toNat_natCast]
    refine wpAny_bind (whole_ hp ?_)
    refine wpAny_bind (wpAny_of_eq (show reLiteralCannotBeTurned (.str rp tr) = pure () from rfl) ?_)
    refine wpAny_bind ?_
    show wpAny _ _ (reRunToEnd (Sre.forSearch code text 0 d text.size false)) _ _ _
    refine reRun_ hf (fun a' b' e m hma hmb => ?_) fun e => nomatch e
    cases e
    have hsl : text.size ≤ sizeLine := Nat.le_trans hsz (by decide)
    have hacc : ∀ acc : List (Str × Tok), (strValues acc).length = acc.length := fun acc => by simp [strValues]
    simp only [List.length_cons] at hlen
    have last : ∀ (s₁ : Shared) (acc₁ : List (Str × Tok)) (c₁ : Nat), acc₁.length ≤ acc.length + 1 → s₁.heap.get? L = some (lstO (strValues acc₁) c₁) → KpBut L s s₁ → acc₁.map (·.1) ++ rp :: pieces text rp b ms = acc.map (·.1) ++ pieces text rp d ((a, b) :: ms) →
        wpAny (model prog w) B (do
          let item ← (pure (Value.str rp tr) : Sem Value)
          if item != .none then updateSeq L (·.push item)
          again (.builtin "re.Pattern.sub.loop" ⟨[.ref p, .str ⟨text⟩ ts, .str rp tr, rawInt 0, rawInt 0, rawInt (n + 1), rawInt m.handed, rawInt m.handed, .bool (m.handed == m.start), .ref L, .bool false], []⟩) : Sem Fin)
          (fun fin s' => match fin with | .done f => R (.ok f) s' | .again c' => c'.quiet = true ∧ codeAny (model prog w) A c' R s') (fun e s' => R (.error e) s') s₁ := by
      intro s₁ acc₁ c₁ hlen₁ hL₁ k₁ heq
      refine wpAny_bind (wpAny_pure ?_)
      refine wpAny_ite_true (by rfl) ?_
      refine wpAny_bind (push_ (vs := strValues acc₁) hL₁ (by rw [hacc]; exact Nat.le_trans (by omega : acc₁.length ≤ 10000) (by decide)) fun s₂ u => ?_)
      rw [hma, hmb, hab]
      have hL2 : s₂.heap.get? L = some (lstO (strValues (acc₁ ++ [(rp, tr)])) (c₁ + 1)) := by
        obtain ⟨h', tk, rfl, _, ho⟩ := u
        rw [ho]; simp [strValues]
      have k₂ := KpBut.trans k₁ (KpBut.of_upd u)
      have hp2 : PatAt s₂.heap p code := by
        obtain ⟨h', tk, rfl, hk⟩ := k₂
        exact hp.keeps fun b o hn e => hk b o (fun q => hn _ _ (by rw [q, hL] at e; cases e; rfl)) e
      have e2 : (acc₁ ++ [(rp, tr)]).map (·.1) ++ pieces text rp b ms = acc.map (·.1) ++ pieces text rp d ((a, b) :: ms) := by rw [← heq]; simp
      refine wpAny_pure ⟨plainId_quiet plain_subloop _, ?_⟩
      refine ih b (n + 1) (acc₁ ++ [(rp, tr)]) (c₁ + 1) s₂ A R hms hL2 hp2 (by simp; omega) (by rw [e2]; exact hne) (by rw [e2]; exact hj) fun s' t k => ?_
      rw [e2]
      exact hR _ _ (KpBut.trans k₂ k)
    by_cases hd : d < a
    · refine wpAny_ite_true (decide_eq_true (show d < m.start by rw [hma]; exact hd)) ?_
      refine wpAny_bind (slice_ (text := text) hsl fun t => ?_)
      refine wpAny_bind (push_ (c := c) (vs := strValues acc) hL (by rw [hacc]; exact Nat.le_trans (by omega : acc.length ≤ 10000) (by decide)) fun s₁ u => ?_)
      refine last s₁ (acc ++ [((⟨text.extract d m.start⟩ : Str), t)]) (c + 1) (by simp) ?_ (KpBut.trans (KpBut.tok _) (KpBut.of_upd u)) ?_
      · obtain ⟨h', tk, rfl, _, ho⟩ := u
        rw [ho]; simp [strValues]
      · rw [hma]
        conv => rhs; unfold pieces
        rw [if_pos hd]; simp
    · refine wpAny_ite_false (decide_eq_false (show ¬ d < m.start by rw [hma]; exact hd)) ?_
      refine last s acc c (Nat.le_succ _) hL (KpBut.tok s.toks) ?_
      conv => rhs; unfold pieces
      rw [if_neg hd]; rfl
end
end Mine
end
section
open PySem PySem.W PyProof.Rows PySem.Builtin PySem.Builtin.Str PySem.Builtin.Re
set_option Elab.async false
set_option maxRecDepth 100000
set_option linter.unusedVariables false
namespace Mine
theorem PatAt.kp {s s' : Shared} {p : Addr} {code : Array Nat} (x : PatAt s.heap p code) (k : Keeps s s') : PatAt s'.heap p code := x.keeps fun b o _ e => kp_get k e
theorem PatAt.typeIs {s : Shared} {p : Addr} {code : Array Nat} (x : PatAt s.heap p code) : s.TypeIs (.ref p) "re.Pattern" := let ⟨_, _, _, _, _, _, h, _⟩ := x; ⟨_, h, rfl⟩
section
variable {prog : Program} {w : World} {A : Around} {E : Value → Shared → Prop} {s : Shared}
theorem call_sub {p : Addr} {code text : Array Nat} {rp : Str} {tr ts : Tok} {ms : List (Nat × Nat)} {Q : Value → Shared → Prop} (hp : PatAt s.heap p code) (hr : rp.cps.contains 92 = false) (hsz : text.size ≤ 10000) (hm : Ms code text 0 ms) (hms : 2 * ms.length ≤ 10000)
    (hne : pieces text rp 0 ms ≠ []) (hj : JoinOk (Str.ofString "") (pieces text rp 0 ms) = true) (hQ : ∀ s' t, Keeps s s' → Q (.str (Txt.join (Str.ofString "") (pieces text rp 0 ms)) t) s') :
    wpAny (model prog w) A (call (.builtin "re.Pattern.sub") [.ref p, .str rp tr, .str ⟨text⟩ ts]) Q E s := by
  refine wpAny_call (codeAny_call_builtin slot_sub.plain entry_sub (slot_sub.check _ _ _ _ _ _ _ _ hp.typeIs (args_sub _ _ _) ?_))
  show wpAny _ _ (reSubstitute "re.Pattern.sub" "sub" false ⟨[.ref p, .str rp tr, .str ⟨text⟩ ts], []⟩) _ _ _
  unfold reSubstitute
  dsimp only
  refine wpAny_bind (wpAny_of_eq (show reNamed "re.Pattern.sub" "sub" ["repl", "string", "count"] 2 [.str rp tr, .str ⟨text⟩ ts] [] = pure [some (.str rp tr), some (.str ⟨text⟩ ts), none] from rfl) ?_)
  dsimp only
  refine wpAny_bind (wpAny_pure ?_)
  refine wpAny_bind (wpAny_specialOf (typeIs_str _ _ _) str_nocall ?_)
  simp only [Option.isSome_none, Bool.false_eq_true, if_false]
  refine wpAny_bind (wpAny_of_eq (show asStr? (.str rp tr) = pure (some rp) from rfl) ?_)
  dsimp only
  rw [hr]
  refine wpAny_bind (wpAny_pure ?_)
  refine wpAny_ite_true (by rfl) ?_
  refine wpAny_bind (wpAny_pure ?_)
  refine wpAny_bind (wpAny_holding (whole_ hp ?_))
  refine wpAny_ite_false (by rfl) ?_
  refine wpAny_bind (wpAny_newList ?_ (by decide))
  refine wpAny_pure ⟨plainId_quiet plain_subloop _, ?_⟩
  refine subloop (p := p) (L := s.heap.objs.size) (text := text) (code := code) (ts := ts) (tr := tr) (rp := rp) hsz ms 0 0 [] 0 _ A _ hm (Heap.get?_push_size _ rfl) (hp.kp (kp_push _)) (by simpa using hms) (by simpa using hne) (by simpa using hj) fun s' t k => ?_
  refine hQ _ _ ?_
  obtain ⟨h', tk, rfl, hk⟩ := k
  exact ⟨h', tk, rfl, fun b o e => hk b o (Nat.ne_of_lt (Heap.lt_size e)) (Heap.get?_push_of_some _ e)⟩
namespace R
/-- o.sub(e₁, e₂) -/
theorem sub_ {env : Env} {o e₁ e₂ : Expr} {apos pos : Pos} {Q : Value → Shared → Prop}
    (h : wpAny (model prog w) A (eval o env) (fun ov s₁ => ∃ p code, ov = .ref p ∧ PatAt s₁.heap p code ∧ wpAny (model prog w) A (eval e₁ env) (fun rv s₂ => wpAny (model prog w) A (eval e₂ env) (fun dv s₃ => ∃ rp tr text ts ms, rv = .str rp tr ∧ dv = .str ⟨text⟩ ts ∧ Keeps s₁ s₃ ∧
      rp.cps.contains 92 = false ∧ text.size ≤ 10000 ∧ Ms code text 0 ms ∧ 2 * ms.length ≤ 10000 ∧ pieces text rp 0 ms ≠ [] ∧ JoinOk (Str.ofString "") (pieces text rp 0 ms) = true ∧
      ∀ s' t, Keeps s₃ s' → Q (.str (Txt.join (Str.ofString "") (pieces text rp 0 ms)) t) s') E s₂) E s₁) E s)
    (hb : attributeBase o "sub" env (eval o env) = eval o env := by rfl) (hs : starEach [e₁, e₂] env = [(false, eval e₁ env), (false, eval e₂ env)] := by rfl) (hl : (apos.endLine == pos.line) = true := by rfl) : wpAny (model prog w) A (eval (.Call (.Attribute o "sub" apos) [e₁, e₂] [] pos) env) Q E s := by
  refine Call_method2 hb hs hl (wpAny_mono h (fun ov s₁ h₁ => ?_) fun _ _ e => e)
  obtain ⟨p, code, rfl, hp, hq⟩ := h₁
  refine ⟨"re.Pattern", "re.Pattern.sub", pa_re, slot_sub, type_sub, hp.typeIs, fun a e => by cases e; obtain ⟨_, _, _, _, _, _, h, _⟩ := hp; exact ⟨_, h, rfl⟩, Calls.callWith_builtin rfl (args2 (wpAny_mono hq (fun rv s₂ h₂ => wpAny_mono h₂ (fun dv s₃ h₃ => ?_) fun _ _ e => e) fun _ _ e => e))⟩
  obtain ⟨rp, tr, text, ts, ms, rfl, rfl, k, a1, a2, a3, a4, a5, a6, a7⟩ := h₃
  exact call_sub (hp.kp k) a1 a2 a3 a4 a5 a6 a7
end R
end
end Mine
end
section
open PySem PySem.W PyProof.Rows PySem.Builtin PySem.Builtin.Str
set_option Elab.async false
set_option maxRecDepth 100000
set_option linter.unusedVariables false
namespace Mine
variable {K : Cx}
section
variable {prog : Program} {w : World} {A : Around} {E : Value → Shared → Prop} {s : Shared} {sc : Scope} {env : Env} {vs cs : List (Str × Value)}
theorem iterL {a : Addr} {vs : List Value} {m : Nat} {Q : Value → Shared → Prop} (hh : A.handled = none) (ho : s.heap.get? a = some (lstO vs m)) (h : ∀ s' I, Itr prog w A vs.length (fun i v => vs[i]? = some v) [a] s s' I → Q (.ref I) s') :
    Wp prog w A (pyIter (.ref a)) Q E s := by
  unfold Wp at *
  exact R.iterL hh ho h
theorem iterT {a : Addr} {vs : List Value} {Q : Value → Shared → Prop} (hh : A.handled = none) (ho : s.heap.get? a = some (tupO vs)) (h : ∀ s' I, Itr prog w A vs.length (fun i v => vs[i]? = some v) [a] s s' I → Q (.ref I) s') :
    Wp prog w A (pyIter (.ref a)) Q E s := by
  unfold Wp at *
  exact R.iterT hh ho h
theorem iterS {x : Str} {t : Tok} {Q : Value → Shared → Prop} (hh : A.handled = none) (h : ∀ s' I, Itr prog w A x.cps.size (SignAt x) [] s s' I → Q (.ref I) s') :
    Wp prog w A (pyIter (.str x t)) Q E s := by
  unfold Wp at *
  exact R.iterS hh h
theorem iterR {r : Addr} {a b : Int} {t u v : Tok} {n : Nat} {Q : Value → Shared → Prop} (hh : A.handled = none) (hr : IsRange s.heap r a b 1 t u v) (hsmall : Builtin.Range.small a b 1 = true) (hn : Builtin.Range.rangeSize a b 1 = n)
    (h : ∀ s' I, Itr prog w A n (fun i v => ∃ t, v = .int (a + (i : Int)) t) [] s s' I → Q (.ref I) s') : Wp prog w A (pyIter (.ref r)) Q E s := by
  unfold Wp at *
  exact R.iterR hh hr hsmall hn h
theorem comp_ {elt iter : Expr} {x : Str} {px : Pos} {ifs : List Expr} {scope : Scope} {pos : Pos} {Q : Value → Shared → Prop} {n : Nat} {P : Nat → Value → Prop} {src : List Addr} (r : Rd K sc env vs cs s) (p : Value → Bool) (F : Value → Value → Prop)
    (hit : ∀ Q' : Value → Shared → Prop, (∀ s' I, Itr prog w A n P src s s' I → Q' (.ref I) s') → Wp prog w A (eval iter env) (fun xv s₁ => Wp prog w A (pyIter xv) Q' E s₁) E s) (hsz : n ≤ sizeLine)
    (htest : ∀ i v s₃ env' E', P i v → Rd K (relS scope sc) env' [(x, v)] (capt scope cs) s₃ → (∀ b o, s.heap.get? b = some o → s₃.heap.get? b = some o) →
      Wp prog w A (forIn ifs true fun c r => if r = true then do let ok ← isTrue c env' (eval c env'); pure (ForInStep.yield ok) else pure (ForInStep.yield r)) (fun ok s₄ => ok = p v ∧ Keeps s₃ s₄) E' s₃)
    (helt : ∀ i v s₃ env' E', P i v → p v = true → Rd K (relS scope sc) env' [(x, v)] (capt scope cs) s₃ → (∀ b o, s.heap.get? b = some o → s₃.heap.get? b = some o) →
      Wp prog w A (eval elt env') (fun y s₄ => F v y ∧ Keeps s₃ s₄) E' s₃)
    (hQ : ∀ s' D ys c (us : List Value), Keeps s s' → s.heap.get? D = none → s'.heap.get? D = some (lstO ys c) → us.length = n → (∀ j v, us[j]? = some v → P j v) → Paired F (us.filter p) ys → Q (.ref D) s')
    (hfr : (scope.names.all fun x => x.2 != .free || ((cs.lookup x.1).isSome && scope.names.lookup x.1 == some .free)) = true := by kernel_rfl)
    (hcell : (scope.names.all fun x => x.2 != .cell) = true := by kernel_rfl) (hnames : (scope.names.all fun y => y.2 != .local || (scope.names.lookup y.1 == some .local)) = true := by kernel_rfl)
    (hkind : scope.kind = .function := by rfl) (hx : scope.names.lookup x = some .local := by kernel_rfl) (hs : ∀ x, foldedSetIterable iter env x = pure x := by intro _; rfl) :
    Wp prog w A (eval (.ListComp elt [⟨.Name x px, iter, ifs, 0⟩] scope pos) env) Q E s := by
  unfold Wp at *
  exact R.comp_ r p F hit hsz htest helt hQ hfr hcell hnames hkind hx hs
end
section
variable {prog : Program} {w : World} {A : Around} {E : Value → Shared → Prop} {s : Shared} {sc : Scope} {env : Env} {vs cs : List (Str × Value)}
theorem comp0 {elt iter : Expr} {x : Str} {px : Pos} {scope : Scope} {pos : Pos} {Q : Value → Shared → Prop} {n : Nat} {P : Nat → Value → Prop} {src : List Addr} (r : Rd K sc env vs cs s) (F : Value → Value → Prop)
    (hit : ∀ Q' : Value → Shared → Prop, (∀ s' I, Itr prog w A n P src s s' I → Q' (.ref I) s') → Wp prog w A (eval iter env) (fun xv s₁ => Wp prog w A (pyIter xv) Q' E s₁) E s) (hsz : n ≤ sizeLine)
    (helt : ∀ i v s₃ env' E', P i v → Rd K (relS scope sc) env' [(x, v)] (capt scope cs) s₃ → (∀ b o, s.heap.get? b = some o → s₃.heap.get? b = some o) →
      Wp prog w A (eval elt env') (fun y s₄ => F v y ∧ Keeps s₃ s₄) E' s₃)
    (hQ : ∀ s' D ys c (us : List Value), Keeps s s' → s.heap.get? D = none → s'.heap.get? D = some (lstO ys c) → us.length = n → (∀ j v, us[j]? = some v → P j v) → Paired F us ys → Q (.ref D) s')
    (hfr : (scope.names.all fun x => x.2 != .free || ((cs.lookup x.1).isSome && scope.names.lookup x.1 == some .free)) = true := by kernel_rfl)
    (hcell : (scope.names.all fun x => x.2 != .cell) = true := by kernel_rfl) (hnames : (scope.names.all fun y => y.2 != .local || (scope.names.lookup y.1 == some .local)) = true := by kernel_rfl)
    (hkind : scope.kind = .function := by rfl) (hx : scope.names.lookup x = some .local := by kernel_rfl) (hs : ∀ x, foldedSetIterable iter env x = pure x := by intro _; rfl) :
    Wp prog w A (eval (.ListComp elt [⟨.Name x px, iter, [], 0⟩] scope pos) env) Q E s := by
  unfold Wp at *
  exact R.comp0 r F hit hsz helt hQ hfr hcell hnames hkind hx hs
theorem comp1 {elt iter tst : Expr} {x : Str} {px : Pos} {scope : Scope} {pos : Pos} {Q : Value → Shared → Prop} {n : Nat} {P : Nat → Value → Prop} {src : List Addr} (r : Rd K sc env vs cs s) (p : Value → Bool) (F : Value → Value → Prop)
    (hit : ∀ Q' : Value → Shared → Prop, (∀ s' I, Itr prog w A n P src s s' I → Q' (.ref I) s') → Wp prog w A (eval iter env) (fun xv s₁ => Wp prog w A (pyIter xv) Q' E s₁) E s) (hsz : n ≤ sizeLine)
    (htest : ∀ i v s₃ env' E', P i v → Rd K (relS scope sc) env' [(x, v)] (capt scope cs) s₃ → (∀ b o, s.heap.get? b = some o → s₃.heap.get? b = some o) →
      Wp prog w A (isTrue tst env' (eval tst env')) (fun ok s₄ => ok = p v ∧ Keeps s₃ s₄) E' s₃)
    (helt : ∀ i v s₃ env' E', P i v → p v = true → Rd K (relS scope sc) env' [(x, v)] (capt scope cs) s₃ → (∀ b o, s.heap.get? b = some o → s₃.heap.get? b = some o) →
      Wp prog w A (eval elt env') (fun y s₄ => F v y ∧ Keeps s₃ s₄) E' s₃)
    (hQ : ∀ s' D ys c (us : List Value), Keeps s s' → s.heap.get? D = none → s'.heap.get? D = some (lstO ys c) → us.length = n → (∀ j v, us[j]? = some v → P j v) → Paired F (us.filter p) ys → Q (.ref D) s')
    (hfr : (scope.names.all fun x => x.2 != .free || ((cs.lookup x.1).isSome && scope.names.lookup x.1 == some .free)) = true := by kernel_rfl)
    (hcell : (scope.names.all fun x => x.2 != .cell) = true := by kernel_rfl) (hnames : (scope.names.all fun y => y.2 != .local || (scope.names.lookup y.1 == some .local)) = true := by kernel_rfl)
    (hkind : scope.kind = .function := by rfl) (hx : scope.names.lookup x = some .local := by kernel_rfl) (hs : ∀ x, foldedSetIterable iter env x = pure x := by intro _; rfl) :
    Wp prog w A (eval (.ListComp elt [⟨.Name x px, iter, [tst], 0⟩] scope pos) env) Q E s := by
  unfold Wp at *
  exact R.comp1 r p F hit hsz htest helt hQ hfr hcell hnames hkind hx hs
end
section
variable {prog : Program} {w : World} {A : Around} {E : Value → Shared → Prop} {s s₀ : Shared} {sc : Scope} {env : Env} {vs cs : List (Str × Value)} {own : List (Addr × Obj)}
theorem asgC {elt iter : Expr} {x y : Str} {px py : Pos} {ifs : List Expr} {scope : Scope} {pos spos : Pos} {Q : Flow → Shared → Prop} {n : Nat} {P : Nat → Value → Prop} {src : List Addr} (X : St K sc s₀ env vs cs own s) (r : Rd K sc env vs cs s) (p : Value → Bool) (F : Value → Value → Prop)
    (hit : ∀ Q' : Value → Shared → Prop, (∀ s' I, Itr prog w A n P src s s' I → Q' (.ref I) s') → Wp prog w A (eval iter env) (fun xv s₁ => Wp prog w A (pyIter xv) Q' E s₁) E s) (hsz : n ≤ sizeLine)
    (htest : ∀ i v s₃ env' E', P i v → Rd K (relS scope sc) env' [(x, v)] (capt scope cs) s₃ → (∀ b o, s.heap.get? b = some o → s₃.heap.get? b = some o) →
      Wp prog w A (forIn ifs true fun c r => if r = true then do let ok ← isTrue c env' (eval c env'); pure (ForInStep.yield ok) else pure (ForInStep.yield r)) (fun ok s₄ => ok = p v ∧ Keeps s₃ s₄) E' s₃)
    (helt : ∀ i v s₃ env' E', P i v → p v = true → Rd K (relS scope sc) env' [(x, v)] (capt scope cs) s₃ → (∀ b o, s.heap.get? b = some o → s₃.heap.get? b = some o) →
      Wp prog w A (eval elt env') (fun y s₄ => F v y ∧ Keeps s₃ s₄) E' s₃)
    (hQ : ∀ s' D ys c (us : List Value), St K sc s₀ env ((y, .ref D) :: vs) cs ((D, lstO ys c) :: own) s' → us.length = n → (∀ j v, us[j]? = some v → P j v) → Paired F (us.filter p) ys → Q .next s')
    (hy : sc.names.lookup y = some .local := by kernel_rfl) (hline : (py.line == pos.line) = true := by rfl) (hyn : (scope.names.any fun x => x.1 == y && (x.2 == .local || x.2 == .cell)) = false := by kernel_rfl)
    (hfr : (scope.names.all fun x => x.2 != .free || ((cs.lookup x.1).isSome && scope.names.lookup x.1 == some .free)) = true := by kernel_rfl)
    (hcell : (scope.names.all fun x => x.2 != .cell) = true := by kernel_rfl) (hnames : (scope.names.all fun y => y.2 != .local || (scope.names.lookup y.1 == some .local)) = true := by kernel_rfl)
    (hkind : scope.kind = .function := by rfl) (hx : scope.names.lookup x = some .local := by kernel_rfl) (hs : ∀ x, foldedSetIterable iter env x = pure x := by intro _; rfl) :
    Wp prog w A (exec (.Assign [.Name y py] (.ListComp elt [⟨.Name x px, iter, ifs, 0⟩] scope pos) spos) env) Q E s := by
  unfold Wp at *
  exact R.asgC X r p F hit hsz htest helt hQ hy hline hyn hfr hcell hnames hkind hx hs
end
section
variable {prog : Program} {w : World} {A : Around} {E : Value → Shared → Prop} {s s₀ : Shared} {sc : Scope} {env : Env} {vs cs : List (Str × Value)} {own : List (Addr × Obj)}
theorem forG {v : Str} {pv pos : Pos} {iter : Expr} {body : List Stmt} {Q : Flow → Shared → Prop} {n : Nat} {P : Nat → Value → Prop} {src : List Addr} (X : St K sc s₀ env vs cs own s)
    (bind : List (Str × Value) → List (Str × Value) → Value → List (Str × Value) × List (Str × Value))
    (hbind : ∀ (val : Value) (vs cs : List (Str × Value)) (own : List (Addr × Obj)) (s : Shared) (Q : Unit → Shared → Prop) (E : Value → Shared → Prop), St K sc s₀ env vs cs own s → (∀ s', St K sc s₀ env (bind vs cs val).1 (bind vs cs val).2 own s' → Q () s') → Wp prog w A (storeName env v val) Q E s)
    (J : Nat → List (Str × Value) → List (Str × Value) → List (Addr × Obj) → Prop) (srcO : List (Addr × Obj)) (hsrc : src = srcO.map (·.1))
    (hit : ∀ Q' : Value → Shared → Prop, (∀ s' I, Itr prog w A n P src s s' I → Q' (.ref I) s') → Wp prog w A (eval iter env) (fun xv s₁ => Wp prog w A (pyIter xv) Q' E s₁) E s)
    (h0 : J 0 vs cs own) (hJ : ∀ i vs cs own, J i vs cs own → ∀ q ∈ srcO, q ∈ own ∨ s₀.heap.get? q.1 = some q.2)
    (turn : ∀ i val vs cs own I oI s₃ E', J i vs cs own → i < n → P i val → St K sc s₀ env (bind vs cs val).1 (bind vs cs val).2 ((I, oI) :: own) s₃ →
      Wp prog w A (execs body env) (fun f s' => f = .next ∧ ∃ vs' cs' own', J (i + 1) vs' cs' own' ∧ St K sc s₀ env vs' cs' ((I, oI) :: own') s') E' s₃)
    (fin : ∀ vs cs own s', J n vs cs own → St K sc s₀ env vs cs own s' → Q .next s')
    (hs : ∀ x, foldedSetIterable iter env x = pure x := by intro _; rfl) : Wp prog w A (exec (.For (.Name v pv) iter body [] pos) env) Q E s := by
  unfold Wp at *
  exact R.forG X bind hbind J srcO hsrc hit h0 hJ turn fin hs
theorem for_ {v : Str} {pv pos : Pos} {iter : Expr} {body : List Stmt} {Q : Flow → Shared → Prop} {n : Nat} {P : Nat → Value → Prop} {src : List Addr} (X : St K sc s₀ env vs cs own s)
    (J : Nat → List (Str × Value) → List (Str × Value) → List (Addr × Obj) → Prop) (srcO : List (Addr × Obj)) (hsrc : src = srcO.map (·.1))
    (hit : ∀ Q' : Value → Shared → Prop, (∀ s' I, Itr prog w A n P src s s' I → Q' (.ref I) s') → Wp prog w A (eval iter env) (fun xv s₁ => Wp prog w A (pyIter xv) Q' E s₁) E s)
    (h0 : J 0 vs cs own) (hJ : ∀ i vs cs own, J i vs cs own → ∀ q ∈ srcO, q ∈ own ∨ s₀.heap.get? q.1 = some q.2)
    (turn : ∀ i val vs cs own I oI s₃ E', J i vs cs own → i < n → P i val → St K sc s₀ env ((v, val) :: vs) cs ((I, oI) :: own) s₃ →
      Wp prog w A (execs body env) (fun f s' => f = .next ∧ ∃ vs' cs' own', J (i + 1) vs' cs' own' ∧ St K sc s₀ env vs' cs' ((I, oI) :: own') s') E' s₃)
    (fin : ∀ vs cs own s', J n vs cs own → St K sc s₀ env vs cs own s' → Q .next s')
    (hv : sc.names.lookup v = some .local := by kernel_rfl) (hs : ∀ x, foldedSetIterable iter env x = pure x := by intro _; rfl) : Wp prog w A (exec (.For (.Name v pv) iter body [] pos) env) Q E s := by
  unfold Wp at *
  exact R.for_ X J srcO hsrc hit h0 hJ turn fin hv hs
theorem forC_ {v : Str} {pv pos : Pos} {iter : Expr} {body : List Stmt} {Q : Flow → Shared → Prop} {n : Nat} {P : Nat → Value → Prop} {src : List Addr} (X : St K sc s₀ env vs cs own s) (hc : (env.cells.lookup v).isSome = true)
    (J : Nat → List (Str × Value) → List (Str × Value) → List (Addr × Obj) → Prop) (srcO : List (Addr × Obj)) (hsrc : src = srcO.map (·.1))
    (hit : ∀ Q' : Value → Shared → Prop, (∀ s' I, Itr prog w A n P src s s' I → Q' (.ref I) s') → Wp prog w A (eval iter env) (fun xv s₁ => Wp prog w A (pyIter xv) Q' E s₁) E s)
    (h0 : J 0 vs cs own) (hJ : ∀ i vs cs own, J i vs cs own → ∀ q ∈ srcO, q ∈ own ∨ s₀.heap.get? q.1 = some q.2)
    (turn : ∀ i val vs cs own I oI s₃ E', J i vs cs own → i < n → P i val → St K sc s₀ env vs ((v, val) :: cs) ((I, oI) :: own) s₃ →
      Wp prog w A (execs body env) (fun f s' => f = .next ∧ ∃ vs' cs' own', J (i + 1) vs' cs' own' ∧ St K sc s₀ env vs' cs' ((I, oI) :: own') s') E' s₃)
    (fin : ∀ vs cs own s', J n vs cs own → St K sc s₀ env vs cs own s' → Q .next s')
    (hv : sc.names.lookup v = some .cell := by kernel_rfl) (hs : ∀ x, foldedSetIterable iter env x = pure x := by intro _; rfl) : Wp prog w A (exec (.For (.Name v pv) iter body [] pos) env) Q E s := by
  unfold Wp at *
  exact R.forC_ X hc J srcO hsrc hit h0 hJ turn fin hv hs
end
section
variable {prog : Program} {w : World} {A : Around} {E : Value → Shared → Prop} {s : Shared} {env : Env}
section
variable {o e e₁ e₂ : Expr} {apos pos : Pos} {Q : Value → Shared → Prop}
theorem lower_ (h : Wp prog w A (eval o env) (fun ov s₁ => ∃ x t, ov = .str x t ∧ tooLong (Txt.lower x).length = false ∧ ∀ s' t', Keeps s₁ s' → Q (.str (Txt.lower x) t') s') E s)
    (hb : attributeBase o "lower" env (eval o env) = eval o env := by rfl) (hl : (apos.endLine == pos.line) = true := by rfl) : Wp prog w A (eval (.Call (.Attribute o "lower" apos) [] [] pos) env) Q E s := by
  unfold Wp at *
  exact R.lower_ h hb hl
theorem count_ (h : Wp prog w A (eval o env) (fun ov s₁ => ∃ x t, ov = .str x t ∧ Wp prog w A (eval e env) (fun v s₂ => ∃ y u, v = .str y u ∧ ∀ s' t', Keeps s₂ s' → Q (.int (Txt.count x y) t') s') E s₁) E s)
    (hb : attributeBase o "count" env (eval o env) = eval o env := by rfl) (hs : starEach [e] env = [(false, eval e env)] := by rfl) (hl : (apos.endLine == pos.line) = true := by rfl) : Wp prog w A (eval (.Call (.Attribute o "count" apos) [e] [] pos) env) Q E s := by
  unfold Wp at *
  exact R.count_ h hb hs hl
theorem sindex_ (h : Wp prog w A (eval o env) (fun ov s₁ => ∃ x t, ov = .str x t ∧ Wp prog w A (eval e env) (fun v s₂ => ∃ y u, v = .str y u ∧ ∃ i rest, occurrences x y 0 x.length 1 = i :: rest ∧ ∀ s' t', Keeps s₂ s' → Q (.int i t') s') E s₁) E s)
    (hb : attributeBase o "index" env (eval o env) = eval o env := by rfl) (hs : starEach [e] env = [(false, eval e env)] := by rfl) (hl : (apos.endLine == pos.line) = true := by rfl) : Wp prog w A (eval (.Call (.Attribute o "index" apos) [e] [] pos) env) Q E s := by
  unfold Wp at *
  exact R.sindex_ h hb hs hl
theorem join_ (h : Wp prog w A (eval o env) (fun ov s₁ => ∃ x t, ov = .str x t ∧ Wp prog w A (eval e env) (fun v s₂ => ∃ D l n, v = .ref D ∧ s₂.heap.get? D = some (lstO (strValues l) n) ∧ JoinOk x (l.map (·.1)) = true ∧ ∀ s' t', Keeps s₂ s' → Q (.str (Txt.join x (l.map (·.1))) t') s') E s₁) E s)
    (hb : attributeBase o "join" env (eval o env) = eval o env := by rfl) (hs : starEach [e] env = [(false, eval e env)] := by rfl) (hl : (apos.endLine == pos.line) = true := by rfl) : Wp prog w A (eval (.Call (.Attribute o "join" apos) [e] [] pos) env) Q E s := by
  unfold Wp at *
  exact R.join_ h hb hs hl
theorem split_ (h : Wp prog w A (eval o env) (fun ov s₁ => ∃ x t, ov = .str x t ∧ x.length ≤ sizeLine ∧ Wp prog w A (eval e env) (fun v s₂ => ∃ y u, v = .str y u ∧ (y.length == 0) = false ∧
      (partsBetween x (occurrences x y 0 x.length (x.length + 1)) y.length).length ≤ sizeLine ∧ ∀ s' D l, Keeps s₂ s' → s₂.heap.get? D = none → l.map (·.1) = Txt.split x y → s'.heap.get? D = some (lstO (strValues l) 0) → Q (.ref D) s') E s₁) E s)
    (hb : attributeBase o "split" env (eval o env) = eval o env := by rfl) (hs : starEach [e] env = [(false, eval e env)] := by rfl) (hl : (apos.endLine == pos.line) = true := by rfl) : Wp prog w A (eval (.Call (.Attribute o "split" apos) [e] [] pos) env) Q E s := by
  unfold Wp at *
  exact R.split_ h hb hs hl
theorem dget1_ (h : Wp prog w A (eval o env) (fun ov s₁ => ∃ d, ov = .ref d ∧ (d == sysModules) = false ∧ s₁.TypeIs (.ref d) "dict" ∧ (∀ a, Value.ref d = .ref a → ∃ ob, s₁.heap.get? a = some ob ∧ ob.dict = none) ∧
      Wp prog w A (eval e env) (fun v s₂ => ∃ k t kvs, v = .int k t ∧ s₂.heap.DictOf (intKind prog w) d kvs ∧ ∀ s', Keeps s₂ s' → Q ((valueAt kvs k).getD .none) s') E s₁) E s)
    (hb : attributeBase o "get" env (eval o env) = eval o env := by rfl) (hs : starEach [e] env = [(false, eval e env)] := by rfl) (hl : (apos.endLine == pos.line) = true := by rfl) : Wp prog w A (eval (.Call (.Attribute o "get" apos) [e] [] pos) env) Q E s := by
  unfold Wp at *
  exact R.dget1_ h hb hs hl
theorem dget2_ (h : Wp prog w A (eval o env) (fun ov s₁ => ∃ d, ov = .ref d ∧ (d == sysModules) = false ∧ s₁.TypeIs (.ref d) "dict" ∧ (∀ a, Value.ref d = .ref a → ∃ ob, s₁.heap.get? a = some ob ∧ ob.dict = none) ∧
      Wp prog w A (eval e₁ env) (fun v s₂ => Wp prog w A (eval e₂ env) (fun u s₃ => ∃ k t kvs, v = .int k t ∧ s₃.heap.DictOf (intKind prog w) d kvs ∧ ∀ s', Keeps s₃ s' → Q ((valueAt kvs k).getD u) s') E s₂) E s₁) E s)
    (hb : attributeBase o "get" env (eval o env) = eval o env := by rfl) (hs : starEach [e₁, e₂] env = [(false, eval e₁ env), (false, eval e₂ env)] := by rfl) (hl : (apos.endLine == pos.line) = true := by rfl) : Wp prog w A (eval (.Call (.Attribute o "get" apos) [e₁, e₂] [] pos) env) Q E s := by
  unfold Wp at *
  exact R.dget2_ h hb hs hl
theorem inSet_ {a : Addr} {S : Int → Bool} {n : Nat} {k : Int} {t : Tok} (hS : s.heap.SetOf (intKind prog w) a S n) (h : ∀ s', Keeps s s' → Q (.bool (S k)) s') : Wp prog w A (compareOp .In (.int k t) (.ref a)) Q E s := by
  unfold Wp at *
  exact R.inSet_ hS h
theorem isNot_ {a b : Value} (hp : plainIs a b = true) (h : Q (.bool (!(a == b))) s) : Wp prog w A (compareOp .IsNot a b) Q E s := by
  unfold Wp at *
  exact R.isNot_ hp h
theorem cnone {k p} (h : Q .none s) : Wp prog w A (eval (.Constant .none k p) env) Q E s := by
  unfold Wp at *
  exact R.cnone h
theorem cbool {b k p} (h : Q (.bool b) s) : Wp prog w A (eval (.Constant (.bool b) k p) env) Q E s := by
  unfold Wp at *
  exact R.cbool h
end
section
variable {e : Expr} {pos : Pos} {whole : Sem Value} {Q : Bool → Shared → Prop}
theorem tNot (h : Wp prog w A (isTrue e env (eval e env)) (fun b s₁ => Q (!b) s₁) E s) : Wp prog w A (isTrue (.UnaryOp .Not e pos) env whole) Q E s := by
  unfold Wp at *
  exact R.tNot h
theorem tVal (h : Wp prog w A whole (fun v s₁ => ∃ b, v = .bool b ∧ Q b s₁) E s) (he : isTrue e env whole = (do let v ← whole; standAt e.pos; holding [v] (truthy v)) := by rfl) : Wp prog w A (isTrue e env whole) Q E s := by
  unfold Wp at *
  exact R.tVal h he
theorem tCmp {l r : Expr} {op : CmpOp} (h : Wp prog w A (eval l env) (fun a s₁ => Wp prog w A (eval r env) (fun b s₂ => Wp prog w A (compareOp op a b) (fun v s₃ => ∃ b, v = .bool b ∧ Q b s₃) E s₂) E s₁) E s)
    (hm : behindInMarks op r = false := by with_unfolding_all rfl) : Wp prog w A (isTrue (.Compare l [op] [r] pos) env whole) Q E s := by
  unfold Wp at *
  exact R.tCmp h hm
end
section
variable {o e e₁ e₂ : Expr} {apos p pos : Pos} {Q : Flow → Shared → Prop}
theorem app_ (h : Wp prog w A (eval o env) (fun ov s₁ => ∃ l, ov = .ref l ∧ s₁.TypeIs (.ref l) "list" ∧ (∃ ob, s₁.heap.get? l = some ob ∧ ob.dict = none) ∧ Wp prog w A (eval e env) (fun v s₂ => ∃ vs n, vs.length ≤ sizeLine ∧ s₂.heap.get? l = some (lstO vs n) ∧
      ∀ s', Upd l (lstO (vs ++ [v]) (n + 1)) s₂ s' → Q .next s') E s₁) E s)
    (hi : interactive env = false := by rfl) (hsw : swapsWith (.Call (.Attribute o "append" apos) [e] [] p) none pos.line env = pure false := by rfl)
    (hb : attributeBase o "append" env (eval o env) = eval o env := by rfl) (hs : starEach [e] env = [(false, eval e env)] := by rfl) (hl : (apos.endLine == p.line) = true := by rfl) :
    Wp prog w A (exec (.Expr (.Call (.Attribute o "append" apos) [e] [] p) pos) env) Q E s := by
  unfold Wp at *
  exact R.app_ h hi hsw hb hs hl
theorem ins_ (h : Wp prog w A (eval o env) (fun ov s₁ => ∃ l, ov = .ref l ∧ s₁.TypeIs (.ref l) "list" ∧ (∃ ob, s₁.heap.get? l = some ob ∧ ob.dict = none) ∧ Wp prog w A (eval e₁ env) (fun kv s₂ => Wp prog w A (eval e₂ env) (fun v s₃ => ∃ k t vs n, kv = .int k t ∧ 0 ≤ k ∧ k ≤ vs.length ∧ vs.length ≤ sizeLine ∧ s₃.heap.get? l = some (lstO vs n) ∧
      ∀ s', Upd l (lstO (insAt vs k.toNat v) (n + 1)) s₃ s' → Q .next s') E s₂) E s₁) E s)
    (hi : interactive env = false := by rfl) (hsw : swapsWith (.Call (.Attribute o "insert" apos) [e₁, e₂] [] p) none pos.line env = pure false := by rfl)
    (hb : attributeBase o "insert" env (eval o env) = eval o env := by rfl) (hs : starEach [e₁, e₂] env = [(false, eval e₁ env), (false, eval e₂ env)] := by rfl) (hl : (apos.endLine == p.line) = true := by rfl) :
    Wp prog w A (exec (.Expr (.Call (.Attribute o "insert" apos) [e₁, e₂] [] p) pos) env) Q E s := by
  unfold Wp at *
  exact R.ins_ h hi hsw hb hs hl
theorem setL_ {i value : Expr} {p' : Pos} (h : Wp prog w A (eval value env) (fun v s₁ => Wp prog w A (eval o env) (fun ov s₂ => Wp prog w A (eval i env) (fun iv s₃ => ∃ l k t vs n, ov = .ref l ∧ iv = .int k t ∧ 0 ≤ k ∧ k < vs.length ∧ vs.length ≤ sizeLine ∧ s₃.heap.get? l = some (lstO vs n) ∧
      ∀ s', Upd l (lstO (vs.set k.toNat v) n) s₃ s' → Q .next s') E s₂) E s₁) E s)
    (hs : swapsWith value (some (.Subscript o i p')) pos.line env = pure false := by rfl) : Wp prog w A (exec (.Assign [.Subscript o i p'] value pos) env) Q E s := by
  unfold Wp at *
  exact R.setL_ h hs
end
end
end Mine
end
section
open PySem PySem.W PyProof.Rows PySem.Builtin PySem.Builtin.Str PySem.Builtin.Re
set_option Elab.async false
set_option maxRecDepth 100000
set_option linter.unusedVariables false
namespace Mine
variable {prog : Program} {w : World} {A : Around} {E : Value → Shared → Prop} {s : Shared}
theorem sub_ {env : Env} {o e₁ e₂ : Expr} {apos pos : Pos} {Q : Value → Shared → Prop}
    (h : Wp prog w A (eval o env) (fun ov s₁ => ∃ p code, ov = .ref p ∧ PatAt s₁.heap p code ∧ Wp prog w A (eval e₁ env) (fun rv s₂ => Wp prog w A (eval e₂ env) (fun dv s₃ => ∃ rp tr text ts ms, rv = .str rp tr ∧ dv = .str ⟨text⟩ ts ∧ Keeps s₁ s₃ ∧
      rp.cps.contains 92 = false ∧ text.size ≤ 10000 ∧ Ms code text 0 ms ∧ 2 * ms.length ≤ 10000 ∧ pieces text rp 0 ms ≠ [] ∧ JoinOk (Str.ofString "") (pieces text rp 0 ms) = true ∧
      ∀ s' t, Keeps s₃ s' → Q (.str (Txt.join (Str.ofString "") (pieces text rp 0 ms)) t) s') E s₂) E s₁) E s)
    (hb : attributeBase o "sub" env (eval o env) = eval o env := by rfl) (hs : starEach [e₁, e₂] env = [(false, eval e₁ env), (false, eval e₂ env)] := by rfl) (hl : (apos.endLine == pos.line) = true := by rfl) : Wp prog w A (eval (.Call (.Attribute o "sub" apos) [e₁, e₂] [] pos) env) Q E s := by
  unfold Wp at *
  exact R.sub_ h hb hs hl
end Mine
end
section
open PySem PySem.W PyProof.Rows PySem.Builtin PySem.Builtin.Str
set_option Elab.async false
set_option maxRecDepth 100000
set_option linter.unusedVariables false
namespace Mine
namespace R
section
variable {prog : Program} {w : World} {A : Around} {E : Value → Shared → Prop} {s : Shared} {env : Env}
section
variable {value : Expr} {lower upper : Option Expr} {p pos : Pos} {Q : Value → Shared → Prop}
theorem sliceG {T id : String} (hl : typeLookup (.type T) "__getitem__" = pure (some (.builtin id)))
    (h : wpAny (model prog w) A (eval value env) (fun o s₁ => wpAny (model prog w) A (eval (.Slice lower upper none p) env) (fun i s₂ => s₂.TypeIs o T ∧ wpAny (model prog w) A (getItem o i) Q E s₂) E s₁) E s) :
    wpAny (model prog w) A (eval (.Subscript value (.Slice lower upper none p) pos) env) Q E s := by
  rw [eval_Subscript]
  refine wpAny_bind (wpAny_mono h (fun o s₁ h₁ => wpAny_bind (wpAny_holding (wpAny_mono h₁ (fun i s₂ h₂ => wpAny_bind (wpAny_standAt ?_)) fun _ _ x => x))) fun _ _ x => x)
  refine wpAny_bind ?_
  rw [getitemInPython_of_ne h₂.1.not_modules]
  refine wpAny_bind (wpAny_specialOf h₂.1 hl ?_)
  refine wpAny_pure (wpAny_bind ?_)
  show wpAny _ _ (operate [i, o] (getItem o i)) _ _ _
  exact wpAny_operating (wpAny_mono h₂.2 (fun r s₃ h₃ => wpAny_bind (wpAny_letTemporaryGo (wpAny_pure h₃))) fun _ _ x => x)
/-- a list's slice -/
theorem sliceL (h : wpAny (model prog w) A (eval value env) (fun o s₁ => wpAny (model prog w) A (evalPart lower env) (fun vl s₂ => wpAny (model prog w) A (evalPart upper env) (fun vu s₃ =>
      ∃ l vs n lo hi, o = .ref l ∧ s₃.heap.get? l = some (lstO vs n) ∧ vs.length ≤ sizeLine ∧ IsPart vl lo ∧ IsPart vu hi ∧
        ∀ s' D, Keeps s₃ s' → s₃.heap.get? D = none → s'.heap.get? D = some (lstO (slicePick vs.toArray lo hi none).toList 0) → Q (.ref D) s') E s₂) E s₁) E s) :
    wpAny (model prog w) A (eval (.Subscript value (.Slice lower upper none p) pos) env) Q E s := by
  refine sliceG (T := "list") list_getitem_lookup (wpAny_mono h (fun o s₁ h₁ => wpAny_Slice (wpAny_mono h₁ (fun vl s₂ h₂ => wpAny_mono h₂ (fun vu s₃ h₃ => ?_) fun _ _ e => e) fun _ _ e => e)) fun _ _ e => e)
  obtain ⟨l, vs, n, lo, hi, rfl, hl, hsz, pl, pu, hQ⟩ := h₃
  have hl' := isLst hl
  rw [evalPart_none]
  refine wpAny_pure ⟨(hl'.push _).typeIs, wpAny_getItem_list_slice (hl'.push _) (Heap.IsSliceOf.new ..) pl pu .none (by simp) ?_ (by simpa using hsz)⟩
  rw [Heap.size_push]
  refine hQ _ _ (kp_trans (kp_push _) (kp_push _)) (get_none_of_ge (Nat.le_succ _)) ?_
  rw [show s₃.heap.objs.size + 1 = (s₃.heap.push { cls := .type "slice", data := .fields #[vl, vu, .none] }).objs.size from (Heap.size_push ..).symm, Heap.get?_push_size _ rfl]
  rfl
theorem pNone (h : Q .none s) : wpAny (model prog w) A (evalPart none env) Q E s := by rw [evalPart_none]; exact wpAny_pure h
theorem pSome {e : Expr} (h : wpAny (model prog w) A (eval e env) Q E s) : wpAny (model prog w) A (evalPart (some e) env) Q E s := by rw [evalPart_some]; exact h
end
section
variable {pos : Pos} {es : List Expr} {e : Expr} {Q : List Value → Shared → Prop}
/-- displays, part by part -/
theorem splN (h : Q [] s) : wpAny (model prog w) A (spliced (backTo pos (starEach [] env))) Q E s := Calls.spliced_nil h
theorem splC (h : wpAny (model prog w) A (eval e env) (fun v s₁ => wpAny (model prog w) A (spliced (backTo pos (starEach es env))) (fun vs s₂ => Q (v :: vs) s₂) E s₁) E s)
    (hs : backTo pos (starEach (e :: es) env) = (false, eval e env) :: backTo pos (starEach es env) := by rfl) : wpAny (model prog w) A (spliced (backTo pos (starEach (e :: es) env))) Q E s := by
  rw [hs]; exact Calls.spliced_cons h
end
section
variable {pos : Pos} {es : List Expr} {Q : Value → Shared → Prop}
theorem listD (h : wpAny (model prog w) A (spliced (backTo pos (starEach es env))) (fun vs s₁ => vs.length ≤ sizeLine ∧ ∀ s' D, Keeps s₁ s' → s₁.heap.get? D = none → s'.heap.get? D = some (lstO vs 0) → Q (.ref D) s') E s) :
    wpAny (model prog w) A (eval (.List es pos) env) Q E s := by
  refine wpAny_List (wpAny_mono h (fun vs s₁ h₁ => ⟨h₁.1, ?_⟩) fun _ _ e => e)
  exact h₁.2 _ _ (kp_push _) (get_none_of_ge (Nat.le_refl _)) (Heap.get?_push_size _ rfl)
end
section
variable {Q : Value → Shared → Prop}
theorem lenL {l : Addr} {vs : List Value} {n : Nat} (hl : s.heap.get? l = some (lstO vs n)) (hsz : vs.length ≤ sizeLine) (h : ∀ s' t, Keeps s s' → Q (.int vs.length t) s') : wpAny (model prog w) A (call (.builtin "len") [.ref l]) Q E s := by
  have hz : sizeLine = 2 ^ 24 := rfl
  exact Calls.call_len_list (isLst hl) (by simp; omega) (by simpa using h _ _ (kp_tok _))
theorem sumL {l : Addr} {vs : List Value} {ns : List Int} {n : Nat} (hh : A.handled = none) (hl : s.heap.get? l = some (lstO vs n)) (hv : IntsAre vs ns) (hfit : PySem.SumFits ns) (h : ∀ s' t, Keeps s s' → Q (.int ns.sum t) s') :
    wpAny (model prog w) A (call (.builtin "sum") [.ref l]) Q E s := by
  have hl' := isLst hl
  obtain ⟨xs, e⟩ := hv.allInts.items
  rw [e] at hl'
  have hn : ns = numsOf (intItems xs).toList := by rw [← e]; exact hv.numsOf.symm
  subst hn
  rw [nums_intItems] at hfit h
  refine sum_intList hh hl' (fun j hj => ?_) fun h' tk t' hk => ?_
  · rw [numAt_eq, preSum_eq]; exact hfit j (by simpa using hj)
  · rw [preSum_eq, List.take_of_length_le (by simp)]
    exact h _ _ ⟨h', tk, rfl, hk⟩
theorem iEq {a b : Int} {t u : Tok} (h : Q (.bool (a == b)) s) : wpAny (model prog w) A (compareOp .Eq (.int a t) (.int b u)) Q E s := P.eq_int h
theorem iNe {a b : Int} {t u : Tok} (h : Q (.bool (a != b)) s) : wpAny (model prog w) A (compareOp .NotEq (.int a t) (.int b u)) Q E s := P.ne_int h
theorem iLt {a b : Int} {t u : Tok} (h : Q (.bool (decide (a < b))) s) : wpAny (model prog w) A (compareOp .Lt (.int a t) (.int b u)) Q E s := P.lt_int h
theorem iGe {a b : Int} {t u : Tok} (h : Q (.bool (decide (a ≥ b))) s) : wpAny (model prog w) A (compareOp .GtE (.int a t) (.int b u)) Q E s := P.ge_int h
theorem ifdiv {a : Int} {b : UInt64} {t u : Tok} (h0 : ¬ Float64.isInf (Float64.ofInt a) = true) (h1 : ¬ Float64.isZero b = true) (h : ∀ s' t, Keeps s s' → Q (.float (Float64.div (Float64.ofInt a) b) t) s') : wpAny (model prog w) A (binaryOp .Div (.int a t) (.float b u)) Q E s :=
  AutoFloatOps.truediv_if_2 h0 h1 (h _ _ (kp_tok _))
theorem pow2 {b : Nat} {t u : Tok} (hb : b < 64) (h : ∀ s' t, Keeps s s' → Q (.int (2 ^ b) t) s') : wpAny (model prog w) A (binaryOp .Pow (.int 2 t) (.int b u)) Q E s := by
  by_cases h0 : b = 0
  · subst h0
    exact AutoIntOps.pow_0 (by decide) (by rfl) (h _ _ (kp_tok _))
  · refine AutoIntOps.pow_4 (by omega) (by simp; omega) (by decide) (by decide) ?_ ?_
    · have : ∀ b : Nat, b < 64 → ¬ Builtin.Int.intTooBig (((Builtin.Int.intBits 2 : Nat) : Int) * b) = true := by decide +kernel
      exact this b hb
    · rw [Int.toNat_natCast]; exact h _ _ (kp_tok _)
end
end
end R
end Mine
end
section
open PySem PySem.W PyProof.Rows PySem.Builtin PySem.Builtin.Str
set_option Elab.async false
set_option maxRecDepth 100000
set_option linter.unusedVariables false
namespace Mine
section
variable {prog : Program} {w : World} {A : Around} {E : Value → Shared → Prop} {s : Shared} {env : Env}
section
variable {value : Expr} {lower upper : Option Expr} {p pos : Pos} {Q : Value → Shared → Prop}
theorem sliceG {T id : String} (hl : typeLookup (.type T) "__getitem__" = pure (some (.builtin id)))
    (h : Wp prog w A (eval value env) (fun o s₁ => Wp prog w A (eval (.Slice lower upper none p) env) (fun i s₂ => s₂.TypeIs o T ∧ Wp prog w A (getItem o i) Q E s₂) E s₁) E s) :
    Wp prog w A (eval (.Subscript value (.Slice lower upper none p) pos) env) Q E s := by
  unfold Wp at *
  exact R.sliceG hl h
theorem sliceL (h : Wp prog w A (eval value env) (fun o s₁ => Wp prog w A (evalPart lower env) (fun vl s₂ => Wp prog w A (evalPart upper env) (fun vu s₃ =>
      ∃ l vs n lo hi, o = .ref l ∧ s₃.heap.get? l = some (lstO vs n) ∧ vs.length ≤ sizeLine ∧ IsPart vl lo ∧ IsPart vu hi ∧
        ∀ s' D, Keeps s₃ s' → s₃.heap.get? D = none → s'.heap.get? D = some (lstO (slicePick vs.toArray lo hi none).toList 0) → Q (.ref D) s') E s₂) E s₁) E s) :
    Wp prog w A (eval (.Subscript value (.Slice lower upper none p) pos) env) Q E s := by
  unfold Wp at *
  exact R.sliceL h
theorem pNone (h : Q .none s) : Wp prog w A (evalPart none env) Q E s := by
  unfold Wp at *
  exact R.pNone h
theorem pSome {e : Expr} (h : Wp prog w A (eval e env) Q E s) : Wp prog w A (evalPart (some e) env) Q E s := by
  unfold Wp at *
  exact R.pSome h
end
section
variable {pos : Pos} {es : List Expr} {e : Expr} {Q : List Value → Shared → Prop}
theorem splN (h : Q [] s) : Wp prog w A (spliced (backTo pos (starEach [] env))) Q E s := by
  unfold Wp at *
  exact R.splN h
theorem splC (h : Wp prog w A (eval e env) (fun v s₁ => Wp prog w A (spliced (backTo pos (starEach es env))) (fun vs s₂ => Q (v :: vs) s₂) E s₁) E s)
    (hs : backTo pos (starEach (e :: es) env) = (false, eval e env) :: backTo pos (starEach es env) := by rfl) : Wp prog w A (spliced (backTo pos (starEach (e :: es) env))) Q E s := by
  unfold Wp at *
  exact R.splC h hs
end
section
variable {pos : Pos} {es : List Expr} {Q : Value → Shared → Prop}
theorem listD (h : Wp prog w A (spliced (backTo pos (starEach es env))) (fun vs s₁ => vs.length ≤ sizeLine ∧ ∀ s' D, Keeps s₁ s' → s₁.heap.get? D = none → s'.heap.get? D = some (lstO vs 0) → Q (.ref D) s') E s) :
    Wp prog w A (eval (.List es pos) env) Q E s := by
  unfold Wp at *
  exact R.listD h
end
section
variable {Q : Value → Shared → Prop}
theorem lenL {l : Addr} {vs : List Value} {n : Nat} (hl : s.heap.get? l = some (lstO vs n)) (hsz : vs.length ≤ sizeLine) (h : ∀ s' t, Keeps s s' → Q (.int vs.length t) s') : Wp prog w A (call (.builtin "len") [.ref l]) Q E s := by
  unfold Wp at *
  exact R.lenL hl hsz h
theorem sumL {l : Addr} {vs : List Value} {ns : List Int} {n : Nat} (hh : A.handled = none) (hl : s.heap.get? l = some (lstO vs n)) (hv : IntsAre vs ns) (hfit : PySem.SumFits ns) (h : ∀ s' t, Keeps s s' → Q (.int ns.sum t) s') :
    Wp prog w A (call (.builtin "sum") [.ref l]) Q E s := by
  unfold Wp at *
  exact R.sumL hh hl hv hfit h
theorem iEq {a b : Int} {t u : Tok} (h : Q (.bool (a == b)) s) : Wp prog w A (compareOp .Eq (.int a t) (.int b u)) Q E s := by
  unfold Wp at *
  exact R.iEq h
theorem iNe {a b : Int} {t u : Tok} (h : Q (.bool (a != b)) s) : Wp prog w A (compareOp .NotEq (.int a t) (.int b u)) Q E s := by
  unfold Wp at *
  exact R.iNe h
theorem iLt {a b : Int} {t u : Tok} (h : Q (.bool (decide (a < b))) s) : Wp prog w A (compareOp .Lt (.int a t) (.int b u)) Q E s := by
  unfold Wp at *
  exact R.iLt h
theorem iGe {a b : Int} {t u : Tok} (h : Q (.bool (decide (a ≥ b))) s) : Wp prog w A (compareOp .GtE (.int a t) (.int b u)) Q E s := by
  unfold Wp at *
  exact R.iGe h
theorem ifdiv {a : Int} {b : UInt64} {t u : Tok} (h0 : ¬ Float64.isInf (Float64.ofInt a) = true) (h1 : ¬ Float64.isZero b = true) (h : ∀ s' t, Keeps s s' → Q (.float (Float64.div (Float64.ofInt a) b) t) s') : Wp prog w A (binaryOp .Div (.int a t) (.float b u)) Q E s := by
  unfold Wp at *
  exact R.ifdiv h0 h1 h
theorem pow2 {b : Nat} {t u : Tok} (hb : b < 64) (h : ∀ s' t, Keeps s s' → Q (.int (2 ^ b) t) s') : Wp prog w A (binaryOp .Pow (.int 2 t) (.int b u)) Q E s := by
  unfold Wp at *
  exact R.pow2 hb h
end
end
end Mine
end
section
open PySem PySem.W PyProof.Rows PySem.Builtin PySem.Builtin.Str
set_option Elab.async false
set_option maxRecDepth 100000
set_option linter.unusedVariables false
namespace Mine
variable {prog : Program} {w : World} {A : Around} {E : Value → Shared → Prop} {s : Shared}
theorem itemT {a : Addr} {vs : List Value} {k : Int} {t : Tok} {x : Value} {Q : Value → Shared → Prop} (ho : s.heap.get? a = some (tupO vs)) (h0 : 0 ≤ k) (hk : k < 2 ^ 63) (hx : vs[k.toNat]? = some x) (h : Q x s) :
    ItemOn (model prog w) A E (.ref a) (.int k t) Q s := by
  have hT := isTup ho
  have hlt : k < vs.length := by
    have := (List.getElem?_eq_some_iff.1 hx).1
    omega
  exact ⟨"tuple", _, slot_tuple_getitem.lookup, hT.typeIs, getItem_tuple hT (by omega) hk (j := k.toNat) (seqIndex_of h0 (by simpa using hlt)) (by simpa using hx) h⟩
theorem itemN {a : Addr} {vs : List Value} {n : Nat} {k : Int} {t : Tok} {x : Value} {Q : Value → Shared → Prop} (ho : s.heap.get? a = some (lstO vs n)) (h0 : k < 0) (h1 : -(vs.length : Int) ≤ k) (hk : -(2 ^ 63) ≤ k) (hx : vs[(k + vs.length).toNat]? = some x) (h : Q x s) :
    ItemOn (model prog w) A E (.ref a) (.int k t) Q s :=
  ⟨"list", _, slot_list_getitem.lookup, (isLst ho).typeIs, wpAny_getItem_list_neg (isLst ho) h0 (by simpa using h1) hk (by simpa using hx) h⟩
theorem itemS {x : Str} {t u : Tok} {i : Int} {c : Nat} {Q : Value → Shared → Prop} (hr : fitsSsize i = true) (hc : Txt.charAt x i = some c) (h : ∀ s' t, Keeps s s' → Q (.str ⟨#[c]⟩ t) s') :
    ItemOn (model prog w) A E (.str x t) (.int i u) Q s :=
  SB.item hr (by rw [hc]; rfl) (by unfold Txt.item; rw [hc]; exact h _ _ (kp_tok _))
theorem neg1 {a : Int} {t : Tok} {Q : Value → Shared → Prop} (h : ∀ s' t, Keeps s s' → Q (.int (-a) t) s') : Wp prog w A (unaryOp .USub (.int a t)) Q E s := by
  unfold Wp; exact P.neg_int (h _ _ (kp_tok _))
theorem St.noint {K : Cx} {sc : Scope} {s₀ : Shared} {env : Env} {vs cs : List (Str × Value)} {own : List (Addr × Obj)} (x : St K sc s₀ env vs cs own s) : interactive env = false := by
  unfold interactive; rw [x.scope, x.kind]; rfl
/-- text[-1] -/
theorem charLast {l : List Nat} {c : Nat} : Txt.charAt ⟨(l ++ [c]).toArray⟩ (-1) = some c := by
  unfold Txt.charAt
  have h : seqIndex? (-1) (Str.length ⟨(l ++ [c]).toArray⟩) = some l.length := by
    rw [seqIndex_neg (by decide) (by simp [Str.length]; omega)]
    simp [Str.length]
    omega
  rw [h]
  simp
end Mine
end
section
open PySem PySem.W PyProof.Rows PySem.Builtin PySem.Builtin.Str
set_option Elab.async false
set_option maxRecDepth 100000
set_option linter.unusedVariables false
namespace Mine
variable {K : Cx}
namespace R
section
variable {prog : Program} {w : World} {A : Around} {E : Value → Shared → Prop} {sc : Scope} {s₀ s : Shared} {env : Env} {vs cs : List (Str × Value)} {own : List (Addr × Obj)}
theorem stvT {n : Str} {v : Value} {Q : Unit → Shared → Prop} (x : St K sc s₀ env vs cs own s)
    (h : ∀ s', s.toks ≤ s'.toks → St K sc s₀ env ((n, v) :: vs) cs own s' → Q () s') (hl : sc.names.lookup n = some .local := by kernel_rfl) : wpAny (model prog w) A (storeName env n v) Q E s := by
  obtain ⟨m, cm, c, hv, hc⟩ := x.ex
  have hk : env.kindOf n = some .local := by show env.scope.names.lookup n = _; rw [x.scope]; exact hl
  have hkind : env.scope.kind = .function := by rw [x.scope]; exact x.kind
  refine wpAny_storeName_local hk c.toInCall.ns (fun h' hn' hs' => ?_) (by rw [hkind]; rfl)
  have ne : ∀ b o, s₀.heap.get? b = some o → b ≠ env.locals := fun b o e => Nat.ne_of_lt (Nat.lt_of_lt_of_le (Heap.lt_size e) c.toInCall.fresh)
  obtain ⟨h₁, tk, e₁⟩ := c.toInCall.same
  refine h _ (Nat.le_succ _) ⟨⟨_, cm, ⟨⟨⟨h', s.toks + 1, by rw [e₁]⟩, hn', fun b o e => hs'.extBut b o (ne b o e) (c.toInCall.keep b o e), c.toInCall.fresh⟩,
    fun k a ha => (c.cell k a ha).sameBut hs' (Nat.ne_of_gt (c.above k a (mem_of_lookup ha))), c.apart, c.above⟩, fun k u e => ?_, hc⟩, fun p hp => ?_, x.nd, x.scope, x.kind, x.glob, x.blt, x.W⟩
  · rw [List.lookup_cons] at e
    by_cases hkn : k = n
    · subst hkn; simp at e; simp [e]
    · have hb : (k == n) = false := by simp [hkn]
      rw [hb] at e
      rw [if_neg hkn]; exact hv k u e
  · obtain ⟨a, b, c', d⟩ := x.mine p hp
    exact ⟨hs'.extBut _ _ b a, b, c', d⟩
theorem enterT {f : Fnc} {a : Addr} {vals : List Value} {binds : List (Str × Value)} {Q : Value → Shared → Prop} (W : Wd K s.heap) (hf : HasFn K.mg s.heap f a) (hroom : A.depth < recursionLimit)
    (hbind : ∀ pm cd doc, bindArgs (Calls.docDef f.name f.params f.body f.scope pm cd doc) ⟨vals, []⟩ = pure binds)
    (hloc : ∀ x ∈ binds, f.scope.names.lookup x.1 = some .local)
    (h : ∀ env s₁, s.toks ≤ s₁.toks → St K f.scope s env binds.reverse [] [] s₁ →
      wpAny (model prog w) (A.deeper env) (execs f.body env) (fun fl s' => ∃ v, fl = .ret v ∧ Q v s') (fun _ _ => False) s₁)
    (hcell : ∀ x ∈ f.scope.names, x.2 ≠ .cell)
    (hco : f.scope.isCoroutine = false := by rfl) (hgen : f.scope.isGenerator = false := by rfl) (hk : f.scope.kind = .function := by rfl) :
    wpAny (model prog w) A (call (.ref a) vals) Q E s := by
  obtain ⟨hm, o, pm, cd, doc, ho, hd, hcd⟩ := hf
  refine wpAny_call (codeAny_call_function (fd := Calls.docDef f.name f.params f.body f.scope pm cd doc) hroom ho hd hco hgen rfl hcd ?_)
  rw [hbind]
  refine wpAny_pure (wpAny_newFunctionEnv (closure := []) hcell hloc (fun h' hns hsb => ?_) hk)
  have hkeep : ∀ b o, s.heap.get? b = some o → h'.get? b = some o := fun b o e => hsb.extBut b o (Nat.ne_of_lt (Heap.lt_size e)) (Heap.get?_push_of_some _ e)
  have hL : ∀ (n : Str) (c : Addr), (([] : List (Str × Addr)).lookup n) = some c → False := fun n c e => by simp at e
  have hV : ∀ (n : Str) (c : Value), (([] : List (Str × Value)).lookup n) = some c → False := fun n c e => by simp at e
  have X : St K f.scope s (newEnv f.scope s.heap.objs.size mainGlobals [] (f.name ++ ".<locals>.") (some a) cd none builtinsNs) binds.reverse [] [] { s with heap := h', toks := s.toks + binds.length } :=
    { ex := ⟨fun x => binds.reverse.lookup x, fun _ => none, ⟨⟨⟨h', _, rfl⟩, hns, hkeep, Nat.le_refl _⟩, fun n c e => (hL n c e).elim, List.Pairwise.nil, fun n c hm => by cases hm⟩, fun n v e => e, fun n v e => (hV n v e).elim⟩
      mine := fun p hp => by cases hp
      nd := List.nodup_nil
      scope := rfl
      kind := hk
      glob := rfl
      blt := rfl
      W := W }
  refine ⟨W.nolimit.keeps hkeep, codeAny_func (wpAny_mono (h _ _ (Nat.le_add_right _ _) X) (fun fl s' hl => ?_) fun _ _ e => e.elim)⟩
  obtain ⟨v, rfl, hv⟩ := hl
  exact hv
end
section
variable {prog : Program} {w : World} {A : Around} {E : Value → Shared → Prop} {s : Shared}
theorem cfltT {env : Env} {x k pos} {Q : Value → Shared → Prop} (h : ∀ s', Keeps s s' → s'.toks = s.toks + 1 → Q (.float x s.toks) s') : wpAny (model prog w) A (eval (.Constant (.float x) k pos) env) Q E s :=
  AutoFloatOps.wpAny_Constant_float (h _ (kp_tok _) rfl)
section
variable {a b : UInt64} {t u : Tok} {Q : Value → Shared → Prop}
theorem faddT (h : ∀ s', Keeps s s' → s'.toks = s.toks + 1 → Q (.float (Float64.add a b) s.toks) s') : wpAny (model prog w) A (binaryOp .Add (.float a t) (.float b u)) Q E s := PySem.AutoFloatOps.add_0 (h _ (kp_tok _) rfl)
theorem fsubT (h : ∀ s', Keeps s s' → s'.toks = s.toks + 1 → Q (.float (Float64.sub a b) s.toks) s') : wpAny (model prog w) A (binaryOp .Sub (.float a t) (.float b u)) Q E s := PySem.AutoFloatOps.sub_0 (h _ (kp_tok _) rfl)
theorem fmulT (h : ∀ s', Keeps s s' → s'.toks = s.toks + 1 → Q (.float (Float64.mul a b) s.toks) s') : wpAny (model prog w) A (binaryOp .Mult (.float a t) (.float b u)) Q E s := PySem.AutoFloatOps.mul_0 (h _ (kp_tok _) rfl)
theorem fmodT (hz : ¬ Float64.isZero b = true) (h : ∀ s', Keeps s s' → s'.toks = s.toks + 1 → Q (.float (Float64.divmod a b).snd s.toks) s') : wpAny (model prog w) A (binaryOp .Mod (.float a t) (.float b u)) Q E s := PySem.AutoFloatOps.mod_1 hz (h _ (kp_tok _) rfl)
end
end
end R
end Mine
end
section
open PySem PySem.W PyProof.Rows PySem.Builtin PySem.Builtin.Str
set_option Elab.async false
set_option maxRecDepth 100000
set_option linter.unusedVariables false
namespace Mine
variable {K : Cx}
section
variable {prog : Program} {w : World} {A : Around} {E : Value → Shared → Prop} {sc : Scope} {s₀ s : Shared} {env : Env} {vs cs : List (Str × Value)} {own : List (Addr × Obj)}
theorem stvT {n : Str} {v : Value} {Q : Unit → Shared → Prop} (x : St K sc s₀ env vs cs own s)
    (h : ∀ s', s.toks ≤ s'.toks → St K sc s₀ env ((n, v) :: vs) cs own s' → Q () s') (hl : sc.names.lookup n = some .local := by kernel_rfl) : Wp prog w A (storeName env n v) Q E s := by
  unfold Wp at *
  exact R.stvT x h hl
theorem enterT {f : Fnc} {a : Addr} {vals : List Value} {binds : List (Str × Value)} {Q : Value → Shared → Prop} (W : Wd K s.heap) (hf : HasFn K.mg s.heap f a) (hroom : A.depth < recursionLimit)
    (hbind : ∀ pm cd doc, bindArgs (Calls.docDef f.name f.params f.body f.scope pm cd doc) ⟨vals, []⟩ = pure binds)
    (hloc : ∀ x ∈ binds, f.scope.names.lookup x.1 = some .local)
    (h : ∀ env s₁, s.toks ≤ s₁.toks → St K f.scope s env binds.reverse [] [] s₁ →
      Wp prog w (A.deeper env) (execs f.body env) (fun fl s' => ∃ v, fl = .ret v ∧ Q v s') (fun _ _ => False) s₁)
    (hcell : ∀ x ∈ f.scope.names, x.2 ≠ .cell)
    (hco : f.scope.isCoroutine = false := by rfl) (hgen : f.scope.isGenerator = false := by rfl) (hk : f.scope.kind = .function := by rfl) :
    Wp prog w A (call (.ref a) vals) Q E s := by
  unfold Wp at *
  exact R.enterT W hf hroom hbind hloc h hcell hco hgen hk
end
section
variable {prog : Program} {w : World} {A : Around} {E : Value → Shared → Prop} {s : Shared}
theorem cfltT {env : Env} {x k pos} {Q : Value → Shared → Prop} (h : ∀ s', Keeps s s' → s'.toks = s.toks + 1 → Q (.float x s.toks) s') : Wp prog w A (eval (.Constant (.float x) k pos) env) Q E s := by
  unfold Wp at *
  exact R.cfltT h
section
variable {a b : UInt64} {t u : Tok} {Q : Value → Shared → Prop}
theorem faddT (h : ∀ s', Keeps s s' → s'.toks = s.toks + 1 → Q (.float (Float64.add a b) s.toks) s') : Wp prog w A (binaryOp .Add (.float a t) (.float b u)) Q E s := by
  unfold Wp at *
  exact R.faddT h
theorem fsubT (h : ∀ s', Keeps s s' → s'.toks = s.toks + 1 → Q (.float (Float64.sub a b) s.toks) s') : Wp prog w A (binaryOp .Sub (.float a t) (.float b u)) Q E s := by
  unfold Wp at *
  exact R.fsubT h
theorem fmulT (h : ∀ s', Keeps s s' → s'.toks = s.toks + 1 → Q (.float (Float64.mul a b) s.toks) s') : Wp prog w A (binaryOp .Mult (.float a t) (.float b u)) Q E s := by
  unfold Wp at *
  exact R.fmulT h
theorem fmodT (hz : ¬ Float64.isZero b = true) (h : ∀ s', Keeps s s' → s'.toks = s.toks + 1 → Q (.float (Float64.divmod a b).snd s.toks) s') : Wp prog w A (binaryOp .Mod (.float a t) (.float b u)) Q E s := by
  unfold Wp at *
  exact R.fmodT hz h
end
end
end Mine
end
section
open PySem PySem.SeqAt PySem.W PyProof.Rows PySem.Builtin PySem.Builtin.Str
set_option Elab.async false
set_option maxRecDepth 100000
set_option linter.unusedVariables false
namespace Mine
variable {prog : Program} {w : World} {A : Around} {E : Value → Shared → Prop} {s : Shared}
theorem eqAt_flt {p q : UInt64} {t u : Nat} (hpq : (p == q) = false) (ht : t ≠ 0) (hu : u ≠ 0) (htu : t ≠ u) : EqAt A s (.float p t) (.float q u) (fEq p q) := fun prog w E Q h => by
  unfold eqBool
  refine wpAny_holding ?_
  have hne : p ≠ q := fun e => by rw [e] at hpq; simp at hpq
  refine wpAny_ite_split (fun hab => ?_) (fun _ => ?_)
  · have := eq_of_beq hab
    injection this with h1 h2
    exact absurd h1 hne
  refine wpAny_bind (m := isSame _ _) ?_
  show wpAny _ _ (isSame.created (p == q && !Float64.isNaN p) t u) _ _ _
  have c : isSame.created (p == q && !Float64.isNaN p) t u = pure false := by
    unfold isSame.created
    have e1 : (t == 0 || u == 0) = false := by simp [ht, hu]
    have e2 : (t == u) = false := by simp [htu]
    rw [e1, e2, hpq]; rfl
  rw [c]
  refine wpAny_pure ?_
  rw [if_neg Bool.false_ne_true]
  refine wpAny_bind (richCompare_gives (op := .Eq) (typeIs_float s p t) (typeIs_float s q u) F.slot_float_eq F.entry_float_eq (F.args_float_eq_2 _ _) (AutoFloatG5.float___eq___float_float_0 p t q u) (fun x => nomatch x) ?_)
  exact wpAny_truthy_bool h
theorem call_tindex {P : Addr} {v0 v1 v2 v : Value} {i : Nat} {Q : Value → Shared → Prop} (hP : s.heap.get? P = some (tupO [v0, v1, v2])) (hi : i < 3) (hv : [v0, v1, v2][i]? = some v) (hlt : ∀ j y, j < i → [v0, v1, v2][j]? = some y → EqAt A.in1 s y v false)
    (hQ : ∀ s' t, Keeps s s' → Q (.int i t) s') : wpAny (model prog w) A (call (.builtin "tuple.index") [.ref P, v]) Q E s := by
  have hT := isTup hP
  refine wpAny_call (codeAny_call_builtin F.slot_tuple_index.plain F.entry_tuple_index (F.slot_tuple_index.check _ _ _ _ _ _ _ _ hT.typeIs (F.args_tuple_index_2 _ _) ?_))
  unfold Builtin.«tuple.index»
  refine wpAny_bind (wpAny_of_eq (show selfAndSome "tuple.index" "index" 1 3 ⟨[.ref P, v], []⟩ = pure (.ref P, [v]) from rfl) ?_)
  dsimp only
  refine wpAny_bind ?_
  unfold Tuple.tupleItemsOf seqItems?
  refine wpAny_bind (wpAny_bind (wpAny_load hP ?_))
  show wpAny _ _ (pure (some [v0, v1, v2].toArray)) _ _ _
  refine wpAny_pure (wpAny_pure ?_)
  refine wpAny_bind (wpAny_pure (wpAny_bind (wpAny_pure ?_)))
  rw [Std.Legacy.Range.forIn_eq_forIn_range']
  have e : List.range' 0 (Std.Legacy.Range.size [:Min.min #[v0, v1, v2].size #[v0, v1, v2].size]) = [0, 1, 2] := by
    simp [Std.Legacy.Range.size]; rfl
  rw [e]
  refine wpAny_bind (wpAny_forIn_list _ (fun rest b s' => b = (none, ()) ∧ s' = s ∧ ∃ k, rest = [0, 1, 2].drop k ∧ k ≤ i) _ ?_ ?_ [0, 1, 2] _ ⟨rfl, rfl, 0, rfl, Nat.zero_le _⟩)
  · rintro x rest b s' ⟨rfl, rfl, k, hk, hki⟩
    have hk3 : k < 3 := by omega
    have hx : x = k ∧ rest = [0, 1, 2].drop (k + 1) := by
      rcases (show k = 0 ∨ k = 1 ∨ k = 2 by omega) with rfl | rfl | rfl <;> (simp at hk; simp [hk])
    obtain ⟨rfl, hrest⟩ := hx
    obtain ⟨y, hy⟩ : ∃ y, [v0, v1, v2][x]? = some y := ⟨[v0, v1, v2][x], by simp [hk3]⟩
    have hy' : #[v0, v1, v2][x]? = some y := by simpa using hy
    rw [hy']
    dsimp only
    by_cases hxi : x = i
    · subst hxi
      rw [hv] at hy; cases hy
      refine wpAny_bind (EqAt.same v prog w _ _ ?_)
      rw [if_pos rfl]
      unfold retInt
      refine wpAny_bind (wpAny_bind (wpAny_mkInt (wpAny_pure ?_)))
      refine wpAny_pure ?_
      dsimp only
      exact wpAny_pure (hQ _ _ (kp_tok _))
    · refine wpAny_bind (hlt x y (by omega) hy prog w _ _ ?_)
      rw [if_neg Bool.false_ne_true]
      exact wpAny_pure ⟨rfl, rfl, x + 1, hrest, by omega⟩
  · rintro b s' ⟨rfl, rfl, k, hk, hki⟩
    exfalso
    rcases (show k = 0 ∨ k = 1 ∨ k = 2 by omega) with rfl | rfl | rfl <;> simp at hk
end Mine
end
section
open PySem PySem.SeqAt PySem.W PyProof.Rows PySem.Builtin PySem.Builtin.Str
set_option Elab.async false
set_option maxRecDepth 100000
set_option linter.unusedVariables false
namespace Mine
/-- which of three is the greatest -/
noncomputable def mxI (a b c : UInt64) : Nat := if fLt (if fLt a b then b else a) c then 2 else if fLt a b then 1 else 0
namespace R
section
variable {prog : Program} {w : World} {A : Around} {E : Value → Shared → Prop} {s : Shared} {env : Env}
theorem maxT3v {a b c : UInt64} {t u x : Tok} {T : Addr} {Q : Value → Shared → Prop} (hh : A.handled = none) (hT : s.heap.get? T = some (tupO [.float a t, .float b u, .float c x])) (h : ∀ s' v, Keeps s s' → [Value.float a t, .float b u, .float c x][mxI a b c]? = some v → Q v s') :
    wpAny (model prog w) A (call (.builtin "max") [.ref T]) Q E s := by
  have hT' := isTup hT
  refine call_max_walk (wpAny_pyIter_tuple hT' ?_)
  have hTl : T < s.heap.objs.size := Heap.lt_size hT
  refine ⟨_, [_, T], [_], _, _, _, _, rfl, Walks.tuple (A := A.in1) hh _ T (Nat.ne_of_lt hTl) #[.float a t, .float b u, .float c x],
    ⟨⟨_, Heap.get?_push_size _ rfl, rfl, rfl⟩, hT'.push _⟩, fun d hd => ?_, by simp, PySem.Flt.cmpOf_gt #[.float a t, .float b u, .float c x] (by simp [PySem.Flt.NumV.float]), fun v h' tk hP hk => ?_⟩
  · show d < (s.heap.push _).objs.size
    rw [Heap.size_push]
    rcases List.mem_cons.mp hd with rfl | hd
    · exact Nat.lt_succ_self _
    · rcases List.mem_cons.mp hd with rfl | hd
      · exact Nat.lt_succ_of_lt hTl
      · cases hd
  · have hold : ∀ d o, s.heap.get? d = some o → h'.get? d = some o := fun d o e => by
      refine hk d o (fun hm => ?_) (Heap.get?_push_of_some _ e)
      rcases List.mem_cons.mp hm with e1 | hm
      · have := Heap.lt_size e; rw [e1] at this; exact Nat.lt_irrefl _ this
      · cases hm
    have hv : [Value.float a t, .float b u, .float c x][mxI a b c]? = some v := by
      simp only [List.size_toArray, List.length_cons, List.length_nil, Nat.zero_add, Nat.reduceAdd, Nat.reduceSub] at hP
      rw [best3] at hP
      unfold mxI fLt
      by_cases h1 : Float64.cmp a b = some Ordering.lt <;> by_cases h2 : Float64.cmp a c = some Ordering.lt <;> by_cases h3 : Float64.cmp b c = some Ordering.lt <;>
        simp [PySem.Flt.ltV, h1, h2, h3] at hP ⊢ <;> exact hP
    exact h _ _ ⟨h', tk, rfl, hold⟩ hv
section
variable {o e : Expr} {apos pos : Pos} {Q : Value → Shared → Prop}
theorem tindex_ (h : wpAny (model prog w) A (eval o env) (fun ov s₁ => ∃ P v0 v1 v2, ov = .ref P ∧ s₁.heap.get? P = some (tupO [v0, v1, v2]) ∧ wpAny (model prog w) A (eval e env) (fun v s₂ => Keeps s₁ s₂ ∧ ∃ i : Nat, i < 3 ∧ [v0, v1, v2][i]? = some v ∧ (∀ (j : Nat) y A s, j < i → [v0, v1, v2][j]? = some y → EqAt A s y v false) ∧
      ∀ s' t, Keeps s₂ s' → Q (.int (i : Int) t) s') E s₁) E s)
    (hb : attributeBase o "index" env (eval o env) = eval o env := by rfl) (hs : starEach [e] env = [(false, eval e env)] := by rfl) (hl : (apos.endLine == pos.line) = true := by rfl) : wpAny (model prog w) A (eval (.Call (.Attribute o "index" apos) [e] [] pos) env) Q E s := by
  refine Call_method1 hb hs hl (wpAny_mono h (fun ov s₁ h₁ => ?_) fun _ _ e => e)
  obtain ⟨P, v0, v1, v2, rfl, hP, hq⟩ := h₁
  refine ⟨"tuple", "tuple.index", F.plainAttrs_tuple, F.slot_tuple_index, F.type_tuple_index, (isTup hP).typeIs, fun a e => by cases e; exact ⟨_, hP, rfl⟩, Calls.callWith_builtin rfl (args1 (wpAny_mono hq (fun v s₂ h₂ => ?_) fun _ _ e => e))⟩
  obtain ⟨k, i, hi, hv, hlt, hQ⟩ := h₂
  exact call_tindex (kp_get k hP) hi hv (fun j y hj hy => hlt j y _ _ hj hy) hQ
end
end
end R
end Mine
end
section
open PySem PySem.SeqAt PySem.W PyProof.Rows PySem.Builtin PySem.Builtin.Str
set_option Elab.async false
set_option maxRecDepth 100000
set_option linter.unusedVariables false
namespace Mine
variable {prog : Program} {w : World} {A : Around} {E : Value → Shared → Prop} {s : Shared}
noncomputable abbrev IsD (prog : Program) (w : World) (o : Obj) (kvs : List (Int × Value)) : Prop := o.IsDictOf (intKind prog w) kvs
theorem dOf {h : Heap} {d : Addr} {o : Obj} {kvs : List (Int × Value)} (ho : h.get? d = some o) (hm : IsD prog w o kvs) : h.DictOf (intKind prog w) d kvs := Heap.dictOf_iff.2 ⟨o, ho, hm⟩
theorem itemD {d : Addr} {o : Obj} {kvs : List (Int × Value)} {k : Int} {t : Tok} {v : Value} {Q : Value → Shared → Prop} (ho : s.heap.get? d = some o) (hm : IsD prog w o kvs) (hv : valueAt kvs k = some v) (h : ∀ s', Keeps s s' → Q v s') :
    ItemOn (model prog w) A E (.ref d) (.int k t) Q s :=
  ⟨"dict", _, slot_dict_getitem.lookup, (dOf ho hm).typeIs, wpAny_getItem_of (intKind_is _ _ _ _) (dOf ho hm).mapOf hv (h _ (kp_tok _))⟩
namespace R
section
variable {env : Env}
section
variable {Q : Value → Shared → Prop}
theorem iterD {d : Addr} {o : Obj} {kvs : List (Int × Value)} (hh : A.handled = none) (hd : (d == sysModules) = false) (ho : s.heap.get? d = some o) (hm : IsD prog w o kvs)
    (h : ∀ s' I, Itr prog w A kvs.length (fun i v => ∃ k x t, kvs[i]? = some (k, x) ∧ v = .int k t) [d] s s' I → Q (.ref I) s') : wpAny (model prog w) A (pyIter (.ref d)) Q E s := by
  obtain ⟨ep, hat⟩ := (dOf ho hm).dictAt
  have hlt : d < s.heap.objs.size := Heap.lt_size ho
  have W := Walks.dictKeys (prog := prog) (w := w) (knd := intKind prog w) hh s.heap.objs.size d (Nat.ne_of_lt hlt) kvs ep
  refine wpAny_pyIter_dict hd hat (h _ _ (Itr.mono ⟨_, W, fun i h st => ?_, ⟨⟨_, Heap.get?_push_size _ rfl, rfl, rfl⟩, hat.push _⟩, fun b hb => ?_, get_none_of_ge (Nat.le_refl _), kp_push _⟩ fun i v hp => ?_))
  · obtain ⟨⟨o, ho, _⟩, _⟩ := st; exact ⟨o, ho⟩
  · show b < (s.heap.push _).objs.size
    rw [Heap.size_push]
    simp at hb
    subst hb; exact Nat.lt_succ_of_lt hlt
  · obtain ⟨k, x, hx, hk⟩ := hp
    obtain ⟨t, rfl⟩ := Value.isInt_shape hk
    exact ⟨k, x, t, hx, rfl⟩
theorem dictE {pos : Pos} (h : ∀ s' D o, Keeps s s' → s.heap.get? D = none → s'.heap.get? D = some o → IsD prog w o [] → Q (.ref D) s') : wpAny (model prog w) A (eval (.Dict [] [] pos) env) Q E s := by
  refine wpAny_Dict_empty (h _ _ _ (kp_push _) (get_none_of_ge (Nat.le_refl _)) (Heap.get?_push_size _ rfl) ?_)
  obtain ⟨o, ho, hi⟩ := Heap.dictOf_iff.1 (Heap.DictOf.new (knd := intKind prog w) s.heap)
  rw [Heap.get?_push_size _ rfl] at ho
  cases ho; exact hi
theorem sumV {V d : Addr} {o : Obj} {kvs : List (Int × Value)} (val : Nat → Int) (hh : A.handled = none) (hV : s.heap.IsValuesView V d) (ho : s.heap.get? d = some o) (hm : IsD prog w o kvs) (hval : ∀ (i : Nat) k v, kvs[i]? = some (k, v) → ∃ t, v = .int (val i) t)
    (hfit : ∀ j, j < kvs.length → InLong (val j) ∧ InLong (preSum val (j + 1))) (h : ∀ s' t, Keeps s s' → Q (.int (preSum val kvs.length) t) s') : wpAny (model prog w) A (call (.builtin "sum") [.ref V]) Q E s := by
  obtain ⟨ep, hat⟩ := (dOf ho hm).dictAt
  have hlt : d < s.heap.objs.size := Heap.lt_size ho
  refine call_sum_walk (wpAny_pyIter_values hV hat ?_)
  have hlt' : d < s.heap.objs.size := hlt
  refine ⟨_, [_, d], [_], kvs.length, _, _, val, rfl, Walks.dictValues (knd := intKind prog w) (A := A.in1) hh _ d (Nat.ne_of_lt hlt) kvs ep, ⟨⟨_, Heap.get?_push_size _ rfl, rfl, rfl⟩, hat.push _⟩, fun b hb => ?_, fun i v hp => ?_, hfit, fun h' tk t' hk => ?_⟩
  · show b < (s.heap.push _).objs.size
    rw [Heap.size_push]
    rcases List.mem_cons.mp hb with rfl | hb
    · exact Nat.lt_succ_self _
    · rcases List.mem_cons.mp hb with rfl | hb
      · exact Nat.lt_succ_of_lt hlt
      · cases hb
  · obtain ⟨k, hx⟩ := hp; exact hval i k v hx
  · refine h _ _ ⟨h', tk, rfl, fun b ob e => hk b ob (fun hm => ?_) (Heap.get?_push_of_some _ e)⟩
    rcases List.mem_cons.mp hm with e1 | hm
    · exact absurd (e1 ▸ Heap.lt_size e) (Nat.lt_irrefl _)
    · cases hm
theorem inTup {a : Addr} {vs : List Value} {ns : List Int} {k : Int} {t : Tok} (ho : s.heap.get? a = some (tupO vs)) (hv : IntsAre vs ns) (h : Q (.bool (ns.any (· == k))) s) : wpAny (model prog w) A (compareOp .In (.int k t) (.ref a)) Q E s := by
  let e : Value → Bool := fun v => match v with
    | .int n _ => n == k
    | _ => false
  have he : ∀ y, y ∈ vs.toArray → EqAt A.in1 s y (.int k t) (e y) := fun y hy => by
    have hy' : y ∈ vs := by simpa using hy
    clear h ho hy
    induction hv with
    | nil => cases hy'
    | cons n u _ ih =>
      cases hy' with
      | head => exact EqAt.int_int n u k t
      | tail _ m => exact ih m
  refine in_tupleAt e (isTup ho) he ?_
  have : vs.toArray.any e = ns.any (· == k) := by
    rw [List.any_toArray]
    clear h ho he
    induction hv with
    | nil => rfl
    | cons n u _ ih => rw [List.any_cons, List.any_cons, ih]
  rw [this]; exact h
theorem bNe {a b : Bool} (h : Q (.bool (a != b)) s) : wpAny (model prog w) A (compareOp .NotEq (.bool a) (.bool b)) Q E s := PyProof.Rows.ne_bool h
section
variable {o : Expr} {apos pos : Pos}
theorem values_ (h : wpAny (model prog w) A (eval o env) (fun ov s₁ => ∃ d od kvs, ov = .ref d ∧ (d == sysModules) = false ∧ s₁.heap.get? d = some od ∧ IsD prog w od kvs ∧ ∀ s' V, Keeps s₁ s' → s₁.heap.get? V = none → s'.heap.IsValuesView V d → Q (.ref V) s') E s)
    (hb : attributeBase o "values" env (eval o env) = eval o env := by rfl) (hl : (apos.endLine == pos.line) = true := by rfl) : wpAny (model prog w) A (eval (.Call (.Attribute o "values" apos) [] [] pos) env) Q E s := by
  refine Call_method0 hb hl (wpAny_mono h (fun ov s₁ h₁ => ?_) fun _ _ e => e)
  obtain ⟨d, od, kvs, rfl, hd, ho, hm, hq⟩ := h₁
  have hD := dOf ho hm
  refine ⟨"dict", "dict.values", F.plainAttrs_dict, F.slot_dict_values, F.type_dict_values, hD.typeIs, hD.mapOf.noDict, method_meetsIn F.slot_dict_values F.entry_dict_values rfl (PySem.evalArgs_none ⟨rfl, hD.typeIs, F.args_dict_values_1 _, _, meets_dict_values (intKind prog w) d hd, ⟨kvs, hD⟩, ?_⟩)⟩
  exact hq _ _ (kp_push _) (get_none_of_ge (Nat.le_refl _)) ⟨_, Heap.get?_push_size _ rfl, rfl, rfl⟩
end
end
section
variable {test : Expr} {body orelse : List Stmt} {pos : Pos} {Q : Flow → Shared → Prop}
theorem if_ (h : wpAny (model prog w) A (isTrue test env (eval test env)) (fun b s₂ => (b = true → wpAny (model prog w) A (execs body env) Q E s₂) ∧ (b = false → wpAny (model prog w) A (execs orelse env) Q E s₂)) E s) :
    wpAny (model prog w) A (exec (.If test body orelse pos) env) Q E s :=
  wpAny_If (wpAny_mono h (fun b s₂ h₂ => by cases b with
    | true => exact h₂.1 rfl
    | false => exact h₂.2 rfl) fun _ _ e => e)
end
section
variable {x y : Expr} {pos : Pos} {whole : Sem Value} {Q : Bool → Shared → Prop}
theorem tAnd (h : wpAny (model prog w) A (isTrue x env (eval x env)) (fun b s₁ => (b = true → wpAny (model prog w) A (isTrue y env (eval y env)) Q E s₁) ∧ (b = false → Q false s₁)) E s) :
    wpAny (model prog w) A (isTrue (.BoolOp .And [x, y] pos) env whole) Q E s := by
  refine wpAny_isTrue_BoolOp (wpAny_allTrue_And_cons (wpAny_mono h (fun b s₁ h₁ => ?_) fun _ _ e => e))
  cases b with
  | false => exact h₁.2 rfl
  | true =>
    refine wpAny_allTrue_And_cons (wpAny_mono (h₁.1 rfl) (fun b s₂ h₂ => ?_) fun _ _ e => e)
    cases b with
    | false => exact h₂
    | true => exact wpAny_allTrue_And_nil h₂
end
section
variable {o i value : Expr} {p' pos : Pos} {Q : Flow → Shared → Prop}
theorem setD_ (h : wpAny (model prog w) A (eval value env) (fun v s₁ => wpAny (model prog w) A (eval o env) (fun ov s₂ => wpAny (model prog w) A (eval i env) (fun iv s₃ => ∃ d k t od kvs, ov = .ref d ∧ iv = .int k t ∧ kvs.length ≤ sizeLine ∧ s₃.heap.get? d = some od ∧ IsD prog w od kvs ∧
      ∀ s' od', Upd d od' s₃ s' → IsD prog w od' (stored kvs k v) → Q .next s') E s₂) E s₁) E s)
    (hs : swapsWith value (some (.Subscript o i p')) pos.line env = pure false := by rfl) : wpAny (model prog w) A (exec (.Assign [.Subscript o i p'] value pos) env) Q E s := by
  refine wpAny_Assign_Subscript (wpAny_mono h (fun v s₁ h₁ => wpAny_mono h₁ (fun ov s₂ h₂ => wpAny_mono h₂ (fun iv s₃ h₃ => ?_) fun _ _ e => e) fun _ _ e => e) fun _ _ e => e) hs
  obtain ⟨d, k, t, od, kvs, rfl, rfl, hsz, ho, hm, hq⟩ := h₃
  refine wpAny_setItem_pairs (intKind_is _ _ _ _) (dOf ho hm) (fun h' hD hsb => ?_) hsz
  obtain ⟨o', ho', hi'⟩ := Heap.dictOf_iff.1 hD
  exact hq _ o' ⟨h', _, rfl, fun b x hb e => hsb.extBut b x hb e, ho'⟩ hi'
end
end
end R
end Mine
end
section
open PySem PySem.SeqAt PySem.W PyProof.Rows PySem.Builtin PySem.Builtin.Str
set_option Elab.async false
set_option maxRecDepth 100000
set_option linter.unusedVariables false
namespace Mine
variable {K : Cx}
variable {prog : Program} {w : World} {A : Around} {E : Value → Shared → Prop} {s : Shared}
section
variable {prog : Program} {w : World} {A : Around} {E : Value → Shared → Prop} {s : Shared} {env : Env}
theorem maxT3v {a b c : UInt64} {t u x : Tok} {T : Addr} {Q : Value → Shared → Prop} (hh : A.handled = none) (hT : s.heap.get? T = some (tupO [.float a t, .float b u, .float c x])) (h : ∀ s' v, Keeps s s' → [Value.float a t, .float b u, .float c x][mxI a b c]? = some v → Q v s') :
    Wp prog w A (call (.builtin "max") [.ref T]) Q E s := by
  unfold Wp at *
  exact R.maxT3v hh hT h
section
variable {o e : Expr} {apos pos : Pos} {Q : Value → Shared → Prop}
theorem tindex_ (h : Wp prog w A (eval o env) (fun ov s₁ => ∃ P v0 v1 v2, ov = .ref P ∧ s₁.heap.get? P = some (tupO [v0, v1, v2]) ∧ Wp prog w A (eval e env) (fun v s₂ => Keeps s₁ s₂ ∧ ∃ i : Nat, i < 3 ∧ [v0, v1, v2][i]? = some v ∧ (∀ (j : Nat) y A s, j < i → [v0, v1, v2][j]? = some y → EqAt A s y v false) ∧
      ∀ s' t, Keeps s₂ s' → Q (.int (i : Int) t) s') E s₁) E s)
    (hb : attributeBase o "index" env (eval o env) = eval o env := by rfl) (hs : starEach [e] env = [(false, eval e env)] := by rfl) (hl : (apos.endLine == pos.line) = true := by rfl) : Wp prog w A (eval (.Call (.Attribute o "index" apos) [e] [] pos) env) Q E s := by
  unfold Wp at *
  exact R.tindex_ h hb hs hl
end
end
section
variable {env : Env}
section
variable {Q : Value → Shared → Prop}
theorem iterD {d : Addr} {o : Obj} {kvs : List (Int × Value)} (hh : A.handled = none) (hd : (d == sysModules) = false) (ho : s.heap.get? d = some o) (hm : IsD prog w o kvs)
    (h : ∀ s' I, Itr prog w A kvs.length (fun i v => ∃ k x t, kvs[i]? = some (k, x) ∧ v = .int k t) [d] s s' I → Q (.ref I) s') : Wp prog w A (pyIter (.ref d)) Q E s := by
  unfold Wp at *
  exact R.iterD hh hd ho hm h
theorem dictE {pos : Pos} (h : ∀ s' D o, Keeps s s' → s.heap.get? D = none → s'.heap.get? D = some o → IsD prog w o [] → Q (.ref D) s') : Wp prog w A (eval (.Dict [] [] pos) env) Q E s := by
  unfold Wp at *
  exact R.dictE h
theorem sumV {V d : Addr} {o : Obj} {kvs : List (Int × Value)} (val : Nat → Int) (hh : A.handled = none) (hV : s.heap.IsValuesView V d) (ho : s.heap.get? d = some o) (hm : IsD prog w o kvs) (hval : ∀ (i : Nat) k v, kvs[i]? = some (k, v) → ∃ t, v = .int (val i) t)
    (hfit : ∀ j, j < kvs.length → InLong (val j) ∧ InLong (preSum val (j + 1))) (h : ∀ s' t, Keeps s s' → Q (.int (preSum val kvs.length) t) s') : Wp prog w A (call (.builtin "sum") [.ref V]) Q E s := by
  unfold Wp at *
  exact R.sumV val hh hV ho hm hval hfit h
theorem inTup {a : Addr} {vs : List Value} {ns : List Int} {k : Int} {t : Tok} (ho : s.heap.get? a = some (tupO vs)) (hv : IntsAre vs ns) (h : Q (.bool (ns.any (· == k))) s) : Wp prog w A (compareOp .In (.int k t) (.ref a)) Q E s := by
  unfold Wp at *
  exact R.inTup ho hv h
theorem bNe {a b : Bool} (h : Q (.bool (a != b)) s) : Wp prog w A (compareOp .NotEq (.bool a) (.bool b)) Q E s := by
  unfold Wp at *
  exact R.bNe h
section
variable {o : Expr} {apos pos : Pos}
theorem values_ (h : Wp prog w A (eval o env) (fun ov s₁ => ∃ d od kvs, ov = .ref d ∧ (d == sysModules) = false ∧ s₁.heap.get? d = some od ∧ IsD prog w od kvs ∧ ∀ s' V, Keeps s₁ s' → s₁.heap.get? V = none → s'.heap.IsValuesView V d → Q (.ref V) s') E s)
    (hb : attributeBase o "values" env (eval o env) = eval o env := by rfl) (hl : (apos.endLine == pos.line) = true := by rfl) : Wp prog w A (eval (.Call (.Attribute o "values" apos) [] [] pos) env) Q E s := by
  unfold Wp at *
  exact R.values_ h hb hl
end
end
section
variable {test : Expr} {body orelse : List Stmt} {pos : Pos} {Q : Flow → Shared → Prop}
theorem if_ (h : Wp prog w A (isTrue test env (eval test env)) (fun b s₂ => (b = true → Wp prog w A (execs body env) Q E s₂) ∧ (b = false → Wp prog w A (execs orelse env) Q E s₂)) E s) :
    Wp prog w A (exec (.If test body orelse pos) env) Q E s := by
  unfold Wp at *
  exact R.if_ h
end
section
variable {x y : Expr} {pos : Pos} {whole : Sem Value} {Q : Bool → Shared → Prop}
theorem tAnd (h : Wp prog w A (isTrue x env (eval x env)) (fun b s₁ => (b = true → Wp prog w A (isTrue y env (eval y env)) Q E s₁) ∧ (b = false → Q false s₁)) E s) :
    Wp prog w A (isTrue (.BoolOp .And [x, y] pos) env whole) Q E s := by
  unfold Wp at *
  exact R.tAnd h
end
section
variable {o i value : Expr} {p' pos : Pos} {Q : Flow → Shared → Prop}
theorem setD_ (h : Wp prog w A (eval value env) (fun v s₁ => Wp prog w A (eval o env) (fun ov s₂ => Wp prog w A (eval i env) (fun iv s₃ => ∃ d k t od kvs, ov = .ref d ∧ iv = .int k t ∧ kvs.length ≤ sizeLine ∧ s₃.heap.get? d = some od ∧ IsD prog w od kvs ∧
      ∀ s' od', Upd d od' s₃ s' → IsD prog w od' (stored kvs k v) → Q .next s') E s₂) E s₁) E s)
    (hs : swapsWith value (some (.Subscript o i p')) pos.line env = pure false := by rfl) : Wp prog w A (exec (.Assign [.Subscript o i p'] value pos) env) Q E s := by
  unfold Wp at *
  exact R.setD_ h hs
end
end
end Mine
end
section
open PySem PySem.SeqAt PySem.W PyProof.Rows PySem.Builtin PySem.Builtin.Str
set_option Elab.async false
set_option maxRecDepth 100000
set_option linter.unusedVariables false
namespace Mine
variable {K : Cx} {sc : Scope} {s₀ s s' : Shared} {env : Env} {vs cs : List (Str × Value)} {own own' : List (Addr × Obj)}
theorem St.perm (x : St K sc s₀ env vs cs own s) (h : own.Perm own') : St K sc s₀ env vs cs own' s :=
  { ex := x.ex, mine := fun p hp => x.mine p (h.mem_iff.2 hp), nd := (h.map _).nodup_iff.1 x.nd, scope := x.scope, kind := x.kind, glob := x.glob, blt := x.blt, W := x.W }
theorem St.tl {p : Addr × Obj} (x : St K sc s₀ env vs cs (p :: own) s) : St K sc s₀ env vs cs own s :=
  { ex := x.ex, mine := fun q hq => x.mine q (.tail _ hq), nd := (List.nodup_cons.1 x.nd).2, scope := x.scope, kind := x.kind, glob := x.glob, blt := x.blt, W := x.W }
theorem St.updAt (pre : List (Addr × Obj)) {post : List (Addr × Obj)} {a : Addr} {o o' : Obj} (x : St K sc s₀ env vs cs (pre ++ (a, o) :: post) s) (u : Upd a o' s s') : St K sc s₀ env vs cs (pre ++ (a, o') :: post) s' :=
  ((x.perm List.perm_middle).updU u).perm List.perm_middle.symm
theorem St.dropAt (pre : List (Addr × Obj)) {post : List (Addr × Obj)} {p : Addr × Obj} (x : St K sc s₀ env vs cs (pre ++ p :: post) s) : St K sc s₀ env vs cs (pre ++ post) s :=
  (x.perm List.perm_middle).tl
theorem St.rot {p : Addr × Obj} (x : St K sc s₀ env vs cs (p :: own) s) : St K sc s₀ env vs cs (own ++ [p]) s := x.perm (List.perm_append_singleton p own).symm
theorem St.at (pre : List (Addr × Obj)) {post : List (Addr × Obj)} {a : Addr} {o : Obj} (x : St K sc s₀ env vs cs (pre ++ (a, o) :: post) s) : s.heap.get? a = some o := (x.mine (a, o) (by simp)).1
end Mine
end
section
open PySem PySem.SeqAt PySem.W PyProof.Rows PySem.Builtin PySem.Builtin.Str
set_option Elab.async false
set_option maxRecDepth 100000
set_option linter.unusedVariables false
namespace Mine
variable {prog : Program} {w : World} {A : Around} {E : Value → Shared → Prop} {s : Shared} {env : Env}
theorem sliceLI {value : Expr} {lower upper : Option Expr} {p pos : Pos} {Q : Value → Shared → Prop} (h : Wp prog w A (eval value env) (fun o s₁ => Wp prog w A (evalPart lower env) (fun vl s₂ => Wp prog w A (evalPart upper env) (fun vu s₃ =>
      ∃ l items lo hi, o = .ref l ∧ s₃.heap.IsList l items ∧ items.size ≤ sizeLine ∧ IsPart vl lo ∧ IsPart vu hi ∧
        ∀ s' D, Keeps s₃ s' → s₃.heap.get? D = none → s'.heap.get? D = some (lstO (slicePick items lo hi none).toList 0) → Q (.ref D) s') E s₂) E s₁) E s) :
    Wp prog w A (eval (.Subscript value (.Slice lower upper none p) pos) env) Q E s := by
  unfold Wp at *
  refine R.sliceG (T := "list") list_getitem_lookup (wpAny_mono h (fun o s₁ h₁ => wpAny_Slice (wpAny_mono h₁ (fun vl s₂ h₂ => wpAny_mono h₂ (fun vu s₃ h₃ => ?_) fun _ _ e => e) fun _ _ e => e)) fun _ _ e => e)
  obtain ⟨l, vs, lo, hi, rfl, hl', hsz, pl, pu, hQ⟩ := h₃
  rw [evalPart_none]
  refine wpAny_pure ⟨(hl'.push _).typeIs, wpAny_getItem_list_slice (hl'.push _) (Heap.IsSliceOf.new ..) pl pu .none (by simp) ?_ (by simpa using hsz)⟩
  rw [Heap.size_push]
  refine hQ _ _ (kp_trans (kp_push _) (kp_push _)) (get_none_of_ge (Nat.le_succ _)) ?_
  rw [show s₃.heap.objs.size + 1 = (s₃.heap.push { cls := .type "slice", data := .fields #[vl, vu, .none] }).objs.size from (Heap.size_push ..).symm, Heap.get?_push_size _ rfl]
  rfl
end Mine
end
section
open PySem PySem.SeqAt PySem.W PyProof.Rows PySem.Builtin PySem.Builtin.Str
set_option Elab.async false
set_option maxRecDepth 100000
set_option linter.unusedVariables false
namespace Mine
variable {K : Cx}
/-- an object that is a list -/
noncomputable def LstE (G : Value → Array Value → Prop) (v : Value) (e : Addr × Obj) : Prop := ∃ its m, e.2.cls = .type "list" ∧ e.2.data = .seq its m ∧ G v its
theorem lst_ents {h₁ h : Heap} {G : Value → Array Value → Prop} {D : Addr} : ∀ {us ys : List Value}, Paired (LstIs h₁ G h) us ys → ys.Pairwise (· ≠ ·) → (∀ y ∈ ys, y ≠ .ref D) →
    ∃ ents : List (Addr × Obj), ys = ents.map (fun e => Value.ref e.1) ∧ (ents.map (·.1)).Nodup ∧ (∀ e ∈ ents, h₁.get? e.1 = none ∧ h.get? e.1 = some e.2 ∧ e.1 ≠ D) ∧ Paired (LstE G) us ents
  | _, _, .nil, _, _ => ⟨[], rfl, List.nodup_nil, (fun _ h => nomatch h), .nil⟩
  | _, _, .cons hy hp, hn, hD => by
    obtain ⟨T, its, rfl, hT, hl, hG⟩ := hy
    obtain ⟨hn1, hn2⟩ := List.pairwise_cons.1 hn
    obtain ⟨ents, rfl, nd, hf, hP⟩ := lst_ents hp hn2 fun y hy => hD y (.tail _ hy)
    obtain ⟨o, ho, hc, m, hd⟩ := hl
    refine ⟨(T, o) :: ents, rfl, ?_, ?_, .cons ⟨its, m, hc, hd, hG⟩ hP⟩
    · rw [List.map_cons, List.nodup_cons]
      refine ⟨fun hm => ?_, nd⟩
      obtain ⟨e, he, hee⟩ := List.mem_map.1 hm
      exact hn1 (.ref e.1) (List.mem_map.2 ⟨e, he, rfl⟩) (by rw [hee])
    · intro e he
      rcases List.mem_cons.1 he with rfl | he
      · exact ⟨hT, ho, fun e => hD _ (.head _) (by rw [← e])⟩
      · exact hf e he
theorem filter_true (us : List Value) : us.filter (fun _ => true) = us := List.filter_eq_self.2 fun _ _ => rfl
namespace R
section
variable {prog : Program} {w : World} {A : Around} {E : Value → Shared → Prop} {env : Env}
theorem assign_listcompO {s : Shared} {elt iter : Expr} {x y : Str} {px py : Pos} {ifs : List Expr} {scope : Scope} {cl : List (Str × Addr)} {pos spos : Pos} {Q : Flow → Shared → Prop}
    (p : Value → Bool) (G : Value → Array Value → Prop) {P : Nat → Value → Prop}
    (hsw : swapsWith (.ListComp elt [⟨.Name x px, iter, ifs, 0⟩] scope pos) (some (.Name y py)) spos.line env = pure true)
    (hclos : closureFor scope env = pure cl) (hcell : ∀ z ∈ scope.names, z.2 ≠ .cell) (hkind : scope.kind = .function)
    (hnames : ∀ z ∈ scope.names, z.2 = .local → scope.names.lookup z.1 = some .local) (hx : scope.names.lookup x = some .local)
    (hy : env.kindOf y = some .local) (hp : (env.scope.kind == .class || (env.scope.kind == .module && env.locals != env.globals)) = false)
    (h : wpAny (model prog w) A (eval iter env) (fun xv s₁ => wpAny (model prog w) A (pyIter xv) (fun it s₂ => ∃ I fp wr n St m, it = .ref I ∧ Walks prog w A I fp wr n P St ∧ n ≤ sizeLine ∧ (∀ i h, St i h → ∀ b ∈ wr, ∃ o, h.get? b = some o) ∧ St 0 s₂.heap ∧ (∀ b ∈ fp, b < s₂.heap.objs.size) ∧
      env.locals ∉ wr ∧ s₂.heap.Ns env.locals m ∧ QuietOnCO prog w A env scope cl x ifs elt wr P p G s₂ ∧
      (∀ D h' tk ys (vs : List Value), s₂.heap.get? D = none → h'.IsList D ys → h'.PlainList D ys → vs.length = n → (∀ j v, vs[j]? = some v → P j v) → Paired (LstIs s₂.heap G h') (vs.filter p) ys.toList → ys.toList.Pairwise (· ≠ ·) → (∀ z ∈ ys.toList, z ≠ .ref D) →
        h'.Ns env.locals (fun z => if z = y then some (.ref D) else m z) → (∀ b o, b ≠ env.locals → b ∉ wr → s₂.heap.get? b = some o → h'.get? b = some o) → Q .next { s₂ with heap := h', toks := tk })) E s₁) E s)
    (hs : ∀ x, foldedSetIterable iter env x = pure x := by intro _; rfl) :
    wpAny (model prog w) A (exec (.Assign [.Name y py] (.ListComp elt [⟨.Name x px, iter, ifs, 0⟩] scope pos) spos) env) Q E s := by
  rw [exec_Assign_Name_used _ _ _ _ hsw]
  refine wpAny_bind (wpAny_standAt (wpAny_bind ?_))
  show wpAny _ A (do let _ ← comprehension (.ListComp elt [⟨.Name x px, iter, ifs, 0⟩] scope pos) scope env _ (newList []) false (eval iter env) (some (assign (.Name y py) env))) _ _ s
  refine wpAny_bind (wpAny_mono (wpAny_comprehension_free (use := some (assign (.Name y py) env)) (Q := fun _ s' => Q .next s') rfl hs hclos hkind hnames
    (wpAny_mono h (fun xv s₁ h₁ => wpAny_mono h₁ (fun it s₂ h₂ => ?_) fun _ _ e => e) fun _ _ e => e)) (fun _ s' hq => wpAny_pure (wpAny_pure hq)) fun _ _ e => e)
  obtain ⟨I, fp, wr, n, St, m, rfl, W, hsz, hlive, hst, hfp, hLf, hn, hq, hQ⟩ := h₂
  refine comp_block_walkCO (RR := fun acc C => compPost (model prog w) A E (some (assign (.Name y py) env)) (fun _ s' => Q .next s') acc C) W hsz p G hlive hcell hkind hx hst hfp hq ?_
  intro D C h' tk m' ys vs hD hC hDC hnC hlD hplD hlen hP hF hnd hk
  have hLC : env.locals ≠ C := by rintro rfl; obtain ⟨o, _, _, ho, _⟩ := hn; rw [hC] at ho; cases ho
  have hLD : env.locals ≠ D := by rintro rfl; obtain ⟨o, _, _, ho, _⟩ := hn; rw [hD] at ho; cases ho
  show wpAny _ A (assign (.Name y py) env (.ref D)) _ _ _
  refine wpAny_assign_Name (wpAny_storeName_local hy (hn.at' fun o e => hk _ o hLf e) (fun h₂ hn₂ hs₂ => ?_) hp)
  refine ⟨m', hnC.sameBut hs₂ (Ne.symm hLC), fun h₃ hs₃ => ?_⟩
  refine hQ D h₃ _ ys vs hD ((hlD.extBut hs₂.extBut (Ne.symm hLD)).extBut hs₃.extBut hDC) ((hplD.extBut hs₂.extBut (Ne.symm hLD)).extBut hs₃.extBut hDC) hlen hP ?_ hnd ?_ (hn₂.sameBut hs₃ hLC) fun b o hbL hbf e =>
    hs₃.extBut b o (by rintro rfl; rw [hC] at e; cases e) (hs₂.extBut b o hbL (hk b o hbf e))
  · refine hF.mono fun _ _ hy => ?_
    obtain ⟨T, its, rfl, h1, hTC, _, _, hlT, hG⟩ := hy
    have hTL : T ≠ env.locals := by rintro rfl; obtain ⟨o, _, _, ho, _⟩ := hn; rw [h1] at ho; cases ho
    exact ⟨T, its, rfl, h1, (hlT.extBut hs₂.extBut hTL).extBut hs₃.extBut hTC, hG⟩
  · intro z hz e
    obtain ⟨_, T, _, e', _, _, _, hTD, _, _⟩ := Paired.right hF z hz
    rw [e] at e'; cases e'; exact hTD rfl
end
section
variable {prog : Program} {w : World} {A : Around} {E : Value → Shared → Prop} {s s₀ : Shared} {sc : Scope} {env : Env} {vs cs : List (Str × Value)} {own : List (Addr × Obj)}
theorem asgO {elt iter : Expr} {x y : Str} {px py : Pos} {scope : Scope} {pos spos : Pos} {Q : Flow → Shared → Prop} {n : Nat} {P : Nat → Value → Prop} {src : List Addr} (X : St K sc s₀ env vs cs own s) (r : Rd K sc env vs cs s) (G : Value → Array Value → Prop)
    (hit : ∀ Q' : Value → Shared → Prop, (∀ s' I, Itr prog w A n P src s s' I → Q' (.ref I) s') → wpAny (model prog w) A (eval iter env) (fun xv s₁ => wpAny (model prog w) A (pyIter xv) Q' E s₁) E s) (hsz : n ≤ sizeLine)
    (helt : ∀ i v s₃ env' E', P i v → Rd K (relS scope sc) env' [(x, v)] (capt scope cs) s₃ → (∀ b o, s.heap.get? b = some o → s₃.heap.get? b = some o) →
      wpAny (model prog w) A (eval elt env') (fun y s₄ => (∃ T its, y = .ref T ∧ s₃.heap.get? T = none ∧ s₄.heap.IsList T its ∧ G v its) ∧ Keeps s₃ s₄) E' s₃)
    (hQ : ∀ s' D ys c (us : List Value) (ents : List (Addr × Obj)), St K sc s₀ env ((y, .ref D) :: vs) cs ((D, lstO ys c) :: (ents ++ own)) s' → us.length = n → (∀ j v, us[j]? = some v → P j v) → ys = ents.map (fun e => Value.ref e.1) → Paired (LstE G) us ents → Q .next s')
    (hy : sc.names.lookup y = some .local := by kernel_rfl) (hline : (py.line == pos.line) = true := by rfl) (hyn : (scope.names.any fun x => x.1 == y && (x.2 == .local || x.2 == .cell)) = false := by kernel_rfl)
    (hfr : (scope.names.all fun x => x.2 != .free || ((cs.lookup x.1).isSome && scope.names.lookup x.1 == some .free)) = true := by kernel_rfl)
    (hcell : (scope.names.all fun x => x.2 != .cell) = true := by kernel_rfl) (hnames : (scope.names.all fun y => y.2 != .local || (scope.names.lookup y.1 == some .local)) = true := by kernel_rfl)
    (hkind : scope.kind = .function := by rfl) (hx : scope.names.lookup x = some .local := by kernel_rfl) (hs : ∀ x, foldedSetIterable iter env x = pure x := by intro _; rfl) :
    wpAny (model prog w) A (exec (.Assign [.Name y py] (.ListComp elt [⟨.Name x px, iter, [], 0⟩] scope pos) spos) env) Q E s := by
  have hclos : closureFor scope env = pure (cloOf (fun n => (env.cells.lookup n).getD 0) scope.names []) := closure_is fun y hy hf => by
    have := List.all_eq_true.mp hfr y hy
    simp only [hf, bne_self_eq_false, Bool.false_or, Bool.and_eq_true] at this
    obtain ⟨v, hv⟩ := Option.isSome_iff_exists.mp this.1
    obtain ⟨c, hc, _⟩ := r.cell _ _ hv
    rw [hc]; rfl
  have mk : ∀ (C : Addr) (s₃ : Shared) (m₃ : Str → Option Value) (v : Value), s₃.heap.Ns C m₃ → m₃ x = some v → (∀ b o, s.heap.get? b = some o → s₃.heap.get? b = some o) →
      Rd K (relS scope sc) (compEnvC scope (cloOf (fun n => (env.cells.lookup n).getD 0) scope.names []) C env) [(x, v)] (capt scope cs) s₃ := by
    intro C s₃ m₃ v hn hm hk
    refine ⟨⟨m₃, hn, fun k u e => ?_⟩, fun k u e => ?_, relabel_eq r.scope, hkind, r.glob, r.blt, r.W.keeps hk⟩
    · rw [List.lookup_cons] at e
      cases q : k == x with
      | true => rw [q] at e; cases e; rw [beq_iff_eq.mp q]; exact hm
      | false => rw [q] at e; cases e
    · obtain ⟨e1, e2⟩ := capt_lookup e
      obtain ⟨c, hc, hi⟩ := r.cell _ _ e1
      refine ⟨c, ?_, hi.keeps hk⟩
      have hmem := mem_of_lookup e2
      have := clo_lookup (f := fun n => (env.cells.lookup n).getD 0) scope.names [] (fun _ hx => by cases hx) (n := k) (.inl ⟨_, hmem, rfl, rfl⟩)
      show (cloOf _ scope.names []).lookup k = _
      rw [this, hc]; rfl
  have hkind' : env.scope.kind = .function := by rw [X.scope]; exact X.kind
  refine assign_listcompO (P := P) (fun _ => true) G (swaps_true X.scope X.kind hy hline hyn) hclos (fun y hy hc => by have := List.all_eq_true.mp hcell y hy; rw [hc] at this; cases this) hkind
    (fun y hy hl => by have := List.all_eq_true.mp hnames y hy; rw [hl] at this; simpa using this) hx (by show env.scope.names.lookup y = _; rw [X.scope]; exact hy) (by rw [hkind']; rfl) ?_ hs
  refine wpAny_mono (hit (fun it s₂ => ∃ I, it = .ref I ∧ Itr prog w A n P src s s₂ I) fun s' I h => ⟨I, rfl, h⟩) (fun xv s₁ h => wpAny_mono h (fun it s₂ h => ?_) fun _ _ e => e) fun _ _ e => e
  obtain ⟨I, rfl, St_, W, hlive, st, hsrc, hI, kk⟩ := h
  have kk' : ∀ b o, s.heap.get? b = some o → s₂.heap.get? b = some o := fun b o e => kp_get kk e
  have old : ∀ b o, s.heap.get? b = some o → b ∉ [I] := fun b o e hm => by simp at hm; subst hm; rw [hI] at e; cases e
  obtain ⟨m, cm, c, hv, hcs⟩ := X.ex
  obtain ⟨oL, esL, epL, hoL, _⟩ := id c.toInCall.ns
  refine ⟨I, _, _, n, St_, m, rfl, W, hsz, fun i h st b hb => ?_, st, fun b hb => ?_, ?_, c.toInCall.ns.keeps kk', ⟨fun C i v s₃ m₃ E' _ hP hn hm hk _ => ?_, fun C i v s₃ m₃ E' _ hP hp hn hm hk _ => ?_⟩, fun D h' tk ys us hD hl hpl hlen hP hF hnd hne hns hk => ?_⟩
  · rw [List.mem_singleton.1 hb]; exact hlive i h st
  · rcases List.mem_cons.mp hb with rfl | hb
    · obtain ⟨o, ho⟩ := hlive _ _ st; exact Heap.lt_size ho
    · exact hsrc b hb
  · exact old _ _ hoL
  · rw [List.forIn_nil]; exact wpAny_pure ⟨rfl, kp_rfl⟩
  · exact helt i v s₃ _ E' hP (mk C s₃ m₃ v hn hm fun b o e => hk b o (old b o e) (kk' b o e)) fun b o e => hk b o (old b o e) (kk' b o e)
  · obtain ⟨c', hc'⟩ := hpl
    rw [filter_true] at hF
    obtain ⟨ents, hye, ndE, hfE, hPE⟩ := lst_ents hF hnd hne
    have ne : ∀ b o, s₀.heap.get? b = some o → b ≠ env.locals := fun b o e => Nat.ne_of_lt (Nat.lt_of_lt_of_le (Heap.lt_size e) c.toInCall.fresh)
    have dn : ∀ T, s₂.heap.get? T = none → s.heap.get? T = none := fun T hT => by
      cases e : s.heap.get? T with
      | none => rfl
      | some o => rw [kk' _ _ e] at hT; cases hT
    have hD' : s.heap.get? D = none := dn D hD
    have up : ∀ b o, b ≠ env.locals → s.heap.get? b = some o → h'.get? b = some o := fun b o hb e => hk b o hb (old b o e) (kk' b o e)
    obtain ⟨hs2, ts2, e2, _⟩ := kk
    obtain ⟨h₁, tk₁, e₁⟩ := c.toInCall.same
    have newO : ∀ (T : Addr) (o : Obj), s.heap.get? T = none → h'.get? T = some o → h'.get? T = some o ∧ T ≠ env.locals ∧ (∀ n c, env.cells.lookup n = some c → T ≠ c) ∧ s₀.heap.get? T = none := fun T o hT ho => by
      refine ⟨ho, fun e' => ?_, fun k c1 hl1 hm' => ?_, ?_⟩
      · rw [e', hoL] at hT; cases hT
      · obtain ⟨o', ho', _⟩ := c.cell k c1 hl1
        rw [← hm', hT] at ho'; cases ho'
      · cases e : s₀.heap.get? T with
        | none => rfl
        | some o' => rw [X.keep _ _ e] at hT; cases hT
    refine hQ _ D ys.toList c' us ents ⟨⟨_, cm, ⟨⟨⟨h', tk, by rw [e2, e₁]⟩, hns, fun b o e => up b o (ne b o e) (c.toInCall.keep b o e), c.toInCall.fresh⟩, fun k a ha => ?_, c.apart, c.above⟩, fun k u e => ?_, hcs⟩, fun q hq => ?_, ?_, X.scope, X.kind, X.glob, X.blt, X.W⟩ hlen hP hye hPE
    · obtain ⟨o, ho, hd⟩ := c.cell k a ha
      exact ⟨o, up a o (Nat.ne_of_gt (c.above k a (mem_of_lookup ha))) ho, hd⟩
    · rw [List.lookup_cons] at e
      by_cases hkn : k = y
      · subst hkn; simp at e; simp [e]
      · have : (k == y) = false := by simp [hkn]
        rw [this] at e
        simp only [hkn, if_false]
        exact hv k u e
    · rcases List.mem_cons.mp hq with rfl | hq
      · exact newO _ _ hD' (by rw [hc']; simp [lstO])
      · rcases List.mem_append.1 hq with hq | hq
        · obtain ⟨f1, f2, _⟩ := hfE q hq
          exact newO _ _ (dn _ f1) f2
        · obtain ⟨a1, a2, a3, a4⟩ := X.mine q hq
          exact ⟨up _ _ a2 a1, a2, a3, a4⟩
    · have notOwn : ∀ T, s.heap.get? T = none → T ∉ own.map (·.1) := fun T hT hm => by
        obtain ⟨q, hq, e⟩ := List.mem_map.mp hm
        have := (X.mine q hq).1
        rw [e, hT] at this; cases this
      rw [List.map_cons, List.nodup_cons, List.map_append]
      refine ⟨fun hm => ?_, List.nodup_append.2 ⟨ndE, X.nd, fun a ha b hb e => ?_⟩⟩
      · rcases List.mem_append.1 hm with hm | hm
        · obtain ⟨q, hq, e⟩ := List.mem_map.mp hm
          exact (hfE q hq).2.2 e
        · exact notOwn D hD' hm
      · obtain ⟨q, hq, e'⟩ := List.mem_map.mp ha
        have : s.heap.get? a = none := by rw [← e']; exact dn _ (hfE q hq).1
        exact notOwn a this (e ▸ hb)
end
end R
end Mine
end
section
open PySem PySem.SeqAt PySem.W PyProof.Rows PySem.Builtin PySem.Builtin.Str
set_option Elab.async false
set_option maxRecDepth 100000
set_option linter.unusedVariables false
namespace Mine
variable {K : Cx}
section
variable {prog : Program} {w : World} {A : Around} {E : Value → Shared → Prop} {env : Env}
theorem assign_listcompO {s : Shared} {elt iter : Expr} {x y : Str} {px py : Pos} {ifs : List Expr} {scope : Scope} {cl : List (Str × Addr)} {pos spos : Pos} {Q : Flow → Shared → Prop}
    (p : Value → Bool) (G : Value → Array Value → Prop) {P : Nat → Value → Prop}
    (hsw : swapsWith (.ListComp elt [⟨.Name x px, iter, ifs, 0⟩] scope pos) (some (.Name y py)) spos.line env = pure true)
    (hclos : closureFor scope env = pure cl) (hcell : ∀ z ∈ scope.names, z.2 ≠ .cell) (hkind : scope.kind = .function)
    (hnames : ∀ z ∈ scope.names, z.2 = .local → scope.names.lookup z.1 = some .local) (hx : scope.names.lookup x = some .local)
    (hy : env.kindOf y = some .local) (hp : (env.scope.kind == .class || (env.scope.kind == .module && env.locals != env.globals)) = false)
    (h : Wp prog w A (eval iter env) (fun xv s₁ => Wp prog w A (pyIter xv) (fun it s₂ => ∃ I fp wr n St m, it = .ref I ∧ Walks prog w A I fp wr n P St ∧ n ≤ sizeLine ∧ (∀ i h, St i h → ∀ b ∈ wr, ∃ o, h.get? b = some o) ∧ St 0 s₂.heap ∧ (∀ b ∈ fp, b < s₂.heap.objs.size) ∧
      env.locals ∉ wr ∧ s₂.heap.Ns env.locals m ∧ QuietOnCO prog w A env scope cl x ifs elt wr P p G s₂ ∧
      (∀ D h' tk ys (vs : List Value), s₂.heap.get? D = none → h'.IsList D ys → h'.PlainList D ys → vs.length = n → (∀ j v, vs[j]? = some v → P j v) → Paired (LstIs s₂.heap G h') (vs.filter p) ys.toList → ys.toList.Pairwise (· ≠ ·) → (∀ z ∈ ys.toList, z ≠ .ref D) →
        h'.Ns env.locals (fun z => if z = y then some (.ref D) else m z) → (∀ b o, b ≠ env.locals → b ∉ wr → s₂.heap.get? b = some o → h'.get? b = some o) → Q .next { s₂ with heap := h', toks := tk })) E s₁) E s)
    (hs : ∀ x, foldedSetIterable iter env x = pure x := by intro _; rfl) :
    Wp prog w A (exec (.Assign [.Name y py] (.ListComp elt [⟨.Name x px, iter, ifs, 0⟩] scope pos) spos) env) Q E s := by
  unfold Wp at *
  exact R.assign_listcompO p G hsw hclos hcell hkind hnames hx hy hp h hs
end
section
variable {prog : Program} {w : World} {A : Around} {E : Value → Shared → Prop} {s s₀ : Shared} {sc : Scope} {env : Env} {vs cs : List (Str × Value)} {own : List (Addr × Obj)}
theorem asgO {elt iter : Expr} {x y : Str} {px py : Pos} {scope : Scope} {pos spos : Pos} {Q : Flow → Shared → Prop} {n : Nat} {P : Nat → Value → Prop} {src : List Addr} (X : St K sc s₀ env vs cs own s) (r : Rd K sc env vs cs s) (G : Value → Array Value → Prop)
    (hit : ∀ Q' : Value → Shared → Prop, (∀ s' I, Itr prog w A n P src s s' I → Q' (.ref I) s') → Wp prog w A (eval iter env) (fun xv s₁ => Wp prog w A (pyIter xv) Q' E s₁) E s) (hsz : n ≤ sizeLine)
    (helt : ∀ i v s₃ env' E', P i v → Rd K (relS scope sc) env' [(x, v)] (capt scope cs) s₃ → (∀ b o, s.heap.get? b = some o → s₃.heap.get? b = some o) →
      Wp prog w A (eval elt env') (fun y s₄ => (∃ T its, y = .ref T ∧ s₃.heap.get? T = none ∧ s₄.heap.IsList T its ∧ G v its) ∧ Keeps s₃ s₄) E' s₃)
    (hQ : ∀ s' D ys c (us : List Value) (ents : List (Addr × Obj)), St K sc s₀ env ((y, .ref D) :: vs) cs ((D, lstO ys c) :: (ents ++ own)) s' → us.length = n → (∀ j v, us[j]? = some v → P j v) → ys = ents.map (fun e => Value.ref e.1) → Paired (LstE G) us ents → Q .next s')
    (hy : sc.names.lookup y = some .local := by kernel_rfl) (hline : (py.line == pos.line) = true := by rfl) (hyn : (scope.names.any fun x => x.1 == y && (x.2 == .local || x.2 == .cell)) = false := by kernel_rfl)
    (hfr : (scope.names.all fun x => x.2 != .free || ((cs.lookup x.1).isSome && scope.names.lookup x.1 == some .free)) = true := by kernel_rfl)
    (hcell : (scope.names.all fun x => x.2 != .cell) = true := by kernel_rfl) (hnames : (scope.names.all fun y => y.2 != .local || (scope.names.lookup y.1 == some .local)) = true := by kernel_rfl)
    (hkind : scope.kind = .function := by rfl) (hx : scope.names.lookup x = some .local := by kernel_rfl) (hs : ∀ x, foldedSetIterable iter env x = pure x := by intro _; rfl) :
    Wp prog w A (exec (.Assign [.Name y py] (.ListComp elt [⟨.Name x px, iter, [], 0⟩] scope pos) spos) env) Q E s := by
  unfold Wp at *
  exact R.asgO X r G hit hsz helt hQ hy hline hyn hfr hcell hnames hkind hx hs
end
section
variable {prog : Program} {w : World} {A : Around} {E : Value → Shared → Prop} {s : Shared}
theorem itemLI {a : Addr} {items : Array Value} {k : Int} {t : Tok} {x : Value} {Q : Value → Shared → Prop} (hl : s.heap.IsList a items) (h0 : 0 ≤ k) (hk : k < 2 ^ 63) (hx : items[k.toNat]? = some x) (h : Q x s) :
    ItemOn (model prog w) A E (.ref a) (.int k t) Q s :=
  ⟨"list", _, slot_list_getitem.lookup, hl.typeIs, wpAny_getItem_list hl h0 hk hx h⟩
end
section
variable {prog : Program} {w : World} {A : Around} {E : Value → Shared → Prop} {s s₀ : Shared} {sc : Scope} {env : Env} {vs cs : List (Str × Value)} {own : List (Addr × Obj)}
theorem asg0 {elt iter : Expr} {x y : Str} {px py : Pos} {scope : Scope} {pos spos : Pos} {Q : Flow → Shared → Prop} {n : Nat} {P : Nat → Value → Prop} {src : List Addr} (X : St K sc s₀ env vs cs own s) (r : Rd K sc env vs cs s) (F : Value → Value → Prop)
    (hit : ∀ Q' : Value → Shared → Prop, (∀ s' I, Itr prog w A n P src s s' I → Q' (.ref I) s') → Wp prog w A (eval iter env) (fun xv s₁ => Wp prog w A (pyIter xv) Q' E s₁) E s) (hsz : n ≤ sizeLine)
    (helt : ∀ i v s₃ env' E', P i v → Rd K (relS scope sc) env' [(x, v)] (capt scope cs) s₃ → (∀ b o, s.heap.get? b = some o → s₃.heap.get? b = some o) →
      Wp prog w A (eval elt env') (fun y s₄ => F v y ∧ Keeps s₃ s₄) E' s₃)
    (hQ : ∀ s' D ys c (us : List Value), St K sc s₀ env ((y, .ref D) :: vs) cs ((D, lstO ys c) :: own) s' → us.length = n → (∀ j v, us[j]? = some v → P j v) → Paired F us ys → Q .next s')
    (hy : sc.names.lookup y = some .local := by kernel_rfl) (hline : (py.line == pos.line) = true := by rfl) (hyn : (scope.names.any fun x => x.1 == y && (x.2 == .local || x.2 == .cell)) = false := by kernel_rfl)
    (hfr : (scope.names.all fun x => x.2 != .free || ((cs.lookup x.1).isSome && scope.names.lookup x.1 == some .free)) = true := by kernel_rfl)
    (hcell : (scope.names.all fun x => x.2 != .cell) = true := by kernel_rfl) (hnames : (scope.names.all fun y => y.2 != .local || (scope.names.lookup y.1 == some .local)) = true := by kernel_rfl)
    (hkind : scope.kind = .function := by rfl) (hx : scope.names.lookup x = some .local := by kernel_rfl) (hs : ∀ x, foldedSetIterable iter env x = pure x := by intro _; rfl) :
    Wp prog w A (exec (.Assign [.Name y py] (.ListComp elt [⟨.Name x px, iter, [], 0⟩] scope pos) spos) env) Q E s := by
  refine asgC X r (fun _ => true) F hit hsz (fun i v s₃ env' E' hP r' hk => ?_) (fun i v s₃ env' E' hP _ r' hk => helt i v s₃ env' E' hP r' hk) (fun s' D ys c us X' hl hP hF => hQ s' D ys c us X' hl hP (by rw [filter_true] at hF; exact hF)) hy hline hyn hfr hcell hnames hkind hx hs
  unfold Wp
  rw [List.forIn_nil]
  exact wpAny_pure ⟨rfl, kp_rfl⟩
end
end Mine
end
section
open PySem PySem.SeqAt PySem.W PyProof.Rows PySem.Builtin PySem.Builtin.Str
set_option Elab.async false
set_option maxRecDepth 100000
set_option linter.unusedVariables false
namespace Mine
variable {prog : Program} {w : World} {A : Around} {E : Value → Shared → Prop} {s : Shared} {env : Env}
theorem dictC {k n : Int} {a b : Nat} {p q pos : Pos} {Q : Value → Shared → Prop} (h : ∀ s' D o t, Keeps s s' → s.heap.get? D = none → s'.heap.get? D = some o → IsD prog w o [(k, .int n t)] → Q (.ref D) s') :
    Wp prog w A (eval (.Dict [some (.Constant (.int k) a p)] [.Constant (.int n) b q] pos) env) Q E s := by
  unfold Wp
  refine wpAny_Dict_pairs (knd := intKind prog w) (pairs := [(eval (.Constant (.int k) a p) env, do let x ← eval (.Constant (.int n) b q) env; standAt pos; pure x)]) rfl (by simp) (by simp) (evalPairs_cons (R.cint fun s₁ t₁ k1 => ?_))
  refine wpAny_bind (R.cint fun s₂ t₂ k2 => wpAny_bind (wpAny_standAt (wpAny_pure (evalPairs_nil ?_))))
  obtain ⟨h2, tk2, e2, hk⟩ := kp_trans k1 k2
  subst e2
  have hD : Heap.DictOf (intKind prog w) h2 s.heap.objs.size [] := (Heap.DictOf.new (knd := intKind prog w) s.heap).keep hk
  refine ⟨[(k, .int n t₂)], ⟨intKind_is _ _ _ _, rfl, trivial⟩, hD, fun h' hD' hsb => ?_⟩
  obtain ⟨o, ho, hi⟩ := Heap.dictOf_iff.1 hD'
  exact h _ _ o t₂ ⟨h', _, rfl, fun b o e => hsb.extBut b o (Nat.ne_of_lt (Heap.lt_size e)) (hk b o (Heap.get?_push_of_some _ e))⟩ (get_none_of_ge (Nat.le_refl _)) ho hi
theorem ne_sys {K : Cx} {h : Heap} {D : Addr} (hs : ∃ o, (sysModules, o) ∈ K.obs) (W : Wd K h) (hD : h.get? D = none) : (D == sysModules) = false := by
  obtain ⟨o, ho⟩ := hs
  refine beq_eq_false_iff_ne.mpr fun e => ?_
  rw [e, W.obs _ ho] at hD; cases hD
end Mine
end
section
open PySem PySem.SeqAt PySem.W PyProof.Rows PySem.Builtin PySem.Builtin.Str
set_option Elab.async false
set_option maxRecDepth 100000
set_option linter.unusedVariables false
namespace Mine
variable {prog : Program} {w : World} {A : Around} {E : Value → Shared → Prop} {s : Shared} {env : Env} {K : Cx}
theorem size_sys {h : Heap} (W : Wd K h) : (h.objs.size == sysModules) = false := by
  have h1 : (3 : Nat) < h.objs.size := W.g.lt
  refine beq_eq_false_iff_ne.mpr fun e => ?_
  have e' : (h.objs.size : Nat) = 1 := e
  omega
theorem dictE' {pos : Pos} {Q : Value → Shared → Prop} (W : Wd K s.heap) (h : ∀ s' D o, Keeps s s' → s.heap.get? D = none → s'.heap.get? D = some o → (D == sysModules) = false → IsD prog w o [] → Q (.ref D) s') : Wp prog w A (eval (.Dict [] [] pos) env) Q E s := by
  unfold Wp
  refine wpAny_Dict_empty (h _ _ _ (kp_push _) (get_none_of_ge (Nat.le_refl _)) (Heap.get?_push_size _ rfl) (size_sys W) ?_)
  obtain ⟨o, ho, hi⟩ := Heap.dictOf_iff.1 (Heap.DictOf.new (knd := intKind prog w) s.heap)
  rw [Heap.get?_push_size _ rfl] at ho
  cases ho; exact hi
theorem dictC' {k n : Int} {a b : Nat} {p q pos : Pos} {Q : Value → Shared → Prop} (W : Wd K s.heap) (h : ∀ s' D o t, Keeps s s' → s.heap.get? D = none → s'.heap.get? D = some o → (D == sysModules) = false → IsD prog w o [(k, .int n t)] → Q (.ref D) s') :
    Wp prog w A (eval (.Dict [some (.Constant (.int k) a p)] [.Constant (.int n) b q] pos) env) Q E s := by
  unfold Wp
  refine wpAny_Dict_pairs (knd := intKind prog w) (pairs := [(eval (.Constant (.int k) a p) env, do let x ← eval (.Constant (.int n) b q) env; standAt pos; pure x)]) rfl (by simp) (by simp) (evalPairs_cons (R.cint fun s₁ t₁ k1 => ?_))
  refine wpAny_bind (R.cint fun s₂ t₂ k2 => wpAny_bind (wpAny_standAt (wpAny_pure (evalPairs_nil ?_))))
  obtain ⟨h2, tk2, e2, hk⟩ := kp_trans k1 k2
  subst e2
  have hD : Heap.DictOf (intKind prog w) h2 s.heap.objs.size [] := (Heap.DictOf.new (knd := intKind prog w) s.heap).keep hk
  refine ⟨[(k, .int n t₂)], ⟨intKind_is _ _ _ _, rfl, trivial⟩, hD, fun h' hD' hsb => ?_⟩
  obtain ⟨o, ho, hi⟩ := Heap.dictOf_iff.1 hD'
  exact h _ _ o t₂ ⟨h', _, rfl, fun b o e => hsb.extBut b o (Nat.ne_of_lt (Heap.lt_size e)) (hk b o (Heap.get?_push_of_some _ e))⟩ (get_none_of_ge (Nat.le_refl _)) ho (size_sys W) hi
end Mine
end
section
open PySem PySem.W PyProof.Rows PySem.Builtin PySem.Builtin.Str
set_option Elab.async false
set_option maxRecDepth 100000
set_option linter.unusedVariables false
namespace Mine
section
variable {prog : Program} {w : World} {A : Around} {E : Value → Shared → Prop} {s : Shared}
section
variable {Q : Value → Shared → Prop}
/-- int / int -/
theorem iidiv {a b : Int} {t u : Tok} (hb : ¬ (b == 0) = true) (hi : ¬ Float64.isInf (Float64.ofFrac (decide (a < 0) != decide (b < 0)) a.natAbs b.natAbs) = true)
    (h : ∀ s' t, Keeps s s' → Q (.float (Float64.ofFrac (decide (a < 0) != decide (b < 0)) a.natAbs b.natAbs) t) s') : Wp prog w A (binaryOp .Div (.int a t) (.int b u)) Q E s := by
  unfold Wp; exact AutoIntOps.truediv_2 hb hi (h _ _ (kp_tok _))
/-- float * int -/
theorem fimul {a : UInt64} {b : Int} {t u : Tok} (hi : ¬ Float64.isInf (Float64.ofInt b) = true) (h : ∀ s' t, Keeps s s' → Q (.float (Float64.mul a (Float64.ofInt b)) t) s') : Wp prog w A (binaryOp .Mult (.float a t) (.int b u)) Q E s := by
  unfold Wp; exact AutoFloatOps.mul_fi_1 hi (h _ _ (kp_tok _))
/-- int(float) -/
noncomputable def trc (x : UInt64) : Option Int := match Float64.decode x with
  | .fin sg m e => some (Float64.truncOf sg m e)
  | _ => none
theorem intF {x : UInt64} {u : Tok} {k : Int} (hd : trc x = some k) (h : ∀ s' t, Keeps s s' → Q (.int k t) s') : Wp prog w A (call (.type "int") [.float x u]) Q E s := by
  unfold trc at hd
  split at hd
  · rename_i sg m e hd'
    cases hd
    unfold Wp; exact call_int_float hd' (h _ _ (kp_tok _))
  · cases hd
theorem bEq {a b : Bool} (h : Q (.bool (a == b)) s) : Wp prog w A (compareOp .Eq (.bool a) (.bool b)) Q E s := by
  unfold Wp; exact PyProof.Rows.eq_bool h
theorem sEq {x y : Str} {t u : Tok} (h : Q (.bool (x.cps.toList == y.cps.toList)) s) : Wp prog w A (compareOp .Eq (.str x t) (.str y u)) Q E s := by
  unfold Wp; exact P.eq_str h
theorem sNe {x y : Str} {t u : Tok} (h : Q (.bool (x.cps.toList != y.cps.toList)) s) : Wp prog w A (compareOp .NotEq (.str x t) (.str y u)) Q E s := by
  unfold Wp; exact P.ne_str h
theorem iaug {a b : Int} {t u : Tok} (h : ∀ s' t, Keeps s s' → Q (.int (a + b) t) s') : Wp prog w A (inplaceOp .Add (.int a t) (.int b u)) Q E s := by
  unfold Wp; exact AutoIntOps.iadd_0 (h _ _ (kp_tok _))
theorem isug {a b : Int} {t u : Tok} (h : ∀ s' t, Keeps s s' → Q (.int (a - b) t) s') : Wp prog w A (inplaceOp .Sub (.int a t) (.int b u)) Q E s := by
  unfold Wp; exact AutoIntOps.isub_0 (h _ _ (kp_tok _))
end
section
variable {K : Cx} {sc : Scope} {env : Env} {vs cs : List (Str × Value)} {Q : Flow → Shared → Prop}
/-- n op= value, a local name -/
theorem augv {n : Str} {p' pos : Pos} {op : Operator} {value : Expr} {v : Value} (r : Rd K sc env vs cs s) (hv : vs.lookup n = some v)
    (h : Wp prog w A (eval value env) (fun v' s₂ => Wp prog w A (inplaceOp op v v') (fun r s₃ => Wp prog w A (storeName env n r) (fun _ => Q .next) E s₃) E s₂) E s)
    (hl : sc.names.lookup n = some .local := by kernel_rfl) : Wp prog w A (exec (.AugAssign (.Name n p') op value pos) env) Q E s := by
  unfold Wp at *
  obtain ⟨m, hm, he⟩ := r.ex
  exact wpAny_AugAssign_Name (wpAny_loadName_local (by rw [r.scope]; exact r.kind) (by show env.scope.names.lookup n = _; rw [r.scope]; exact hl) hm (he n v hv) h)
end
section
variable {env : Env} {value : Expr} {lower upper : Option Expr} {p pos : Pos} {Q : Value → Shared → Prop}
/-- a text's slice -/
theorem sliceS (h : Wp prog w A (eval value env) (fun o s₁ => Wp prog w A (evalPart lower env) (fun vl s₂ => Wp prog w A (evalPart upper env) (fun vu s₃ =>
      ∃ x t lo hi, o = .str x t ∧ x.length ≤ sizeLine ∧ IsPart vl lo ∧ IsPart vu hi ∧ ∀ s' t', Keeps s₃ s' → Q (.str (Txt.slice x lo hi) t') s') E s₂) E s₁) E s) :
    Wp prog w A (eval (.Subscript value (.Slice lower upper none p) pos) env) Q E s := by
  unfold Wp at *
  refine R.sliceG (T := "str") F.slot_str_getitem.lookup (wpAny_mono h (fun o s₁ h₁ => wpAny_Slice (wpAny_mono h₁ (fun vl s₂ h₂ => wpAny_mono h₂ (fun vu s₃ h₃ => ?_) fun _ _ e => e) fun _ _ e => e)) fun _ _ e => e)
  obtain ⟨x, t, lo, hi, rfl, hsz, pl, pu, hQ⟩ := h₃
  rw [evalPart_none]
  refine wpAny_pure ⟨typeIs_str _ _ _, ?_⟩
  have kk : ∀ (ob : Obj) (k : Nat), Keeps s₃ { s₃ with heap := s₃.heap.push ob, toks := k } := fun ob k => ⟨_, _, rfl, fun _ _ e => Heap.get?_push_of_some _ e⟩
  cases pl with
  | none => cases pu with
    | none => exact wpAny_getItem_str_slice (l := none) (u := none) (st := none) ⟨_, Heap.get?_push_size _ rfl, rfl, rfl⟩ rfl (post_val_or_str ⟨Nat.le_trans (Txt.slice_le x _ _) hsz, fun t' k => hQ _ t' (kk _ _)⟩)
    | int j uj => exact wpAny_getItem_str_slice (l := none) (u := some (j, uj)) (st := none) ⟨_, Heap.get?_push_size _ rfl, rfl, rfl⟩ rfl (post_val_or_str ⟨Nat.le_trans (Txt.slice_le x _ _) hsz, fun t' k => hQ _ t' (kk _ _)⟩)
  | int i ui => cases pu with
    | none => exact wpAny_getItem_str_slice (l := some (i, ui)) (u := none) (st := none) ⟨_, Heap.get?_push_size _ rfl, rfl, rfl⟩ rfl (post_val_or_str ⟨Nat.le_trans (Txt.slice_le x _ _) hsz, fun t' k => hQ _ t' (kk _ _)⟩)
    | int j uj => exact wpAny_getItem_str_slice (l := some (i, ui)) (u := some (j, uj)) (st := none) ⟨_, Heap.get?_push_size _ rfl, rfl, rfl⟩ rfl (post_val_or_str ⟨Nat.le_trans (Txt.slice_le x _ _) hsz, fun t' k => hQ _ t' (kk _ _)⟩)
/-- a list turned round: value[::-1] -/
theorem sliceR {e : Expr} (h : Wp prog w A (eval value env) (fun o s₁ => Wp prog w A (eval e env) (fun st s₃ =>
      ∃ l vs n t, o = .ref l ∧ st = .int (-1) t ∧ s₃.heap.get? l = some (lstO vs n) ∧ vs.length ≤ sizeLine ∧
        ∀ s' D, Keeps s₃ s' → s₃.heap.get? D = none → s'.heap.get? D = some (lstO (slicePick vs.toArray none none (some (-1))).toList 0) → Q (.ref D) s') E s₁) E s) :
    Wp prog w A (eval (.Subscript value (.Slice none none (some e) p) pos) env) Q E s := by
  unfold Wp at *
  refine R.sub1 (wpAny_mono h (fun o s₁ h₁ => wpAny_Slice ?_) fun _ _ e => e)
  rw [evalPart_none]
  refine wpAny_pure (wpAny_pure (R.pSome (wpAny_mono h₁ (fun st s₃ h₃ => ?_) fun _ _ e => e)))
  obtain ⟨l, vs, n, t, rfl, rfl, hl, hsz, hQ⟩ := h₃
  have hl' := isLst hl
  refine ⟨"list", _, slot_list_getitem.lookup, (hl'.push _).typeIs, wpAny_getItem_list_slice (hl'.push _) (Heap.IsSliceOf.new ..) .none .none (.int (-1) t) (by decide) ?_ (by simpa using hsz)⟩
  rw [Heap.size_push]
  refine hQ _ _ (kp_trans (kp_push _) (kp_push _)) (get_none_of_ge (Nat.le_succ _)) ?_
  rw [show s₃.heap.objs.size + 1 = (s₃.heap.push { cls := .type "slice", data := .fields #[.none, .none, .int (-1) t] }).objs.size from (Heap.size_push ..).symm, Heap.get?_push_size _ rfl]
  rfl
/-- e1 and e2, booleans -/
theorem andB {e1 e2 : Expr} (h : Wp prog w A (eval e1 env) (fun v s₁ => ∃ b, v = .bool b ∧ (b = true → Wp prog w A (eval e2 env) Q E s₁) ∧ (b = false → Q (.bool false) s₁)) E s) : Wp prog w A (eval (.BoolOp .And [e1, e2] pos) env) Q E s := by
  unfold Wp at *
  refine BoolOp_and (wpAny_mono h (fun v s₁ h₁ => ?_) fun _ _ e => e)
  obtain ⟨b, rfl, h1, h2⟩ := h₁
  refine wpAny_truthy_bool ?_
  cases b with
  | true => exact BoolOp_one (h1 rfl)
  | false => exact h2 rfl
end
end
end Mine
end
section
open PySem PySem.W PyProof.Rows PySem.Builtin PySem.Builtin.Str PySem.SeqAt
set_option Elab.async false
set_option maxRecDepth 100000
set_option linter.unusedVariables false
namespace Mine
noncomputable abbrev StrW (v : Value) (l : List Nat) : Prop := ∃ t, v = .str ⟨l.toArray⟩ t
theorem pr2_get {α β : Type} {F : α → β → Prop} : ∀ {l : List α} {m : List β}, Paired F l m → ∀ {i : Nat} {b : β}, m[i]? = some b → ∃ a, l[i]? = some a ∧ F a b
  | _, _, .nil, i, b, h => by simp at h
  | _, _, .cons h1 h2, 0, b, h => by simp at h; subst h; exact ⟨_, rfl, h1⟩
  | _, _, .cons h1 h2, i + 1, b, h => pr2_get h2 (by simpa using h)
section
variable {prog : Program} {w : World} {A : Around} {E : Value → Shared → Prop} {s : Shared} {Q : Value → Shared → Prop}
/-- two lists of the same texts: != -/
theorem neLS {a b : Addr} {vs ws : List Value} {n m : Nat} {ls : List (List Nat)} (ha : s.heap.get? a = some (lstO vs n)) (hb : s.heap.get? b = some (lstO ws m)) (hv : Paired StrW vs ls) (hw : Paired StrW ws ls) (hu : A.units < cLine)
    (h : Q (.bool false) s) : Wp prog w A (compareOp .NotEq (.ref a) (.ref b)) Q E s := by
  unfold Wp
  have hl : vs.length = ws.length := by rw [hv.length, hw.length]
  have := RcNeAt.lists (A := A) (e := fun _ => true) (isLst ha) (isLst hb) (by simpa using hl) hu (fun j h1 h2 => ?_) prog w E Q (by
    rw [show (List.range vs.toArray.size).all (fun _ => true) = true from List.all_eq_true.2 fun _ _ => rfl]; exact h)
  · exact this
  · have h1' : j < vs.length := by simpa using h1
    have h2' : j < ws.length := by simpa using h2
    have hj : ls[j]? = some (ls[j]'(by rw [← hv.length]; exact h1')) := List.getElem?_eq_getElem _
    obtain ⟨v, ev, t, rfl⟩ := pr2_get hv hj
    obtain ⟨u, eu, t', rfl⟩ := pr2_get hw hj
    have e1 : vs.toArray[j] = Value.str ⟨(ls[j]'(by rw [← hv.length]; exact h1')).toArray⟩ t := by
      have := (List.getElem?_eq_some_iff.1 ev).2
      simpa using this
    have e2 : ws.toArray[j] = Value.str ⟨(ls[j]'(by rw [← hv.length]; exact h1')).toArray⟩ t' := by
      have := (List.getElem?_eq_some_iff.1 eu).2
      simpa using this
    rw [e1, e2]
    have := EqAt.str_str (A := A.in1) (s := s) ⟨(ls[j]'(by rw [← hv.length]; exact h1')).toArray⟩ t ⟨(ls[j]'(by rw [← hv.length]; exact h1')).toArray⟩ t'
    rw [beq_self_eq_true] at this
    exact this
theorem ints_at2 {vs : List Value} {ns : List Int} (h : IntsAre vs ns) {j : Nat} (hj : j < vs.length) : ∃ t, vs[j] = .int (ns.getD j 0) t := by
  obtain ⟨t, e⟩ := IntsAre.int_at h j _ (List.getElem?_eq_getElem hj)
  exact ⟨t, e⟩
theorem all_eq_beq (ns ms : List Int) (h : ns.length = ms.length) : (List.range ns.length).all (fun j => ns.getD j 0 == ms.getD j 0) = (ns == ms) := by
  rw [Bool.eq_iff_iff, List.all_eq_true, beq_iff_eq]
  constructor
  · intro hj
    apply List.ext_getElem h
    intro i h1 h2
    have := hj i (by simpa using h1)
    simp only [beq_iff_eq] at this
    rw [List.getD_eq_getElem?_getD, List.getD_eq_getElem?_getD, List.getElem?_eq_getElem h1, List.getElem?_eq_getElem h2] at this
    exact this
  · rintro rfl i _
    simp
/-- two lists of ints of one length: == -/
theorem eqLI {a b : Addr} {vs ws : List Value} {n m : Nat} {ns ms : List Int} (ha : s.heap.get? a = some (lstO vs n)) (hb : s.heap.get? b = some (lstO ws m)) (hv : IntsAre vs ns) (hw : IntsAre ws ms) (hl : ns.length = ms.length) (hu : A.units < cLine)
    (h : Q (.bool (ns == ms)) s) : Wp prog w A (compareOp .Eq (.ref a) (.ref b)) Q E s := by
  unfold Wp
  have hl' : vs.length = ws.length := by rw [hv.length, hw.length, hl]
  refine eq_listAt (e := fun j => ns.getD j 0 == ms.getD j 0) (isLst ha) (isLst hb) (by simpa using hl') hu (fun j h1 h2 => ?_) ?_
  · obtain ⟨t, e1⟩ := ints_at2 hv (j := j) (by simpa using h1)
    obtain ⟨u, e2⟩ := ints_at2 hw (j := j) (by simpa using h2)
    have e1' : vs.toArray[j] = .int (ns.getD j 0) t := by simpa using e1
    have e2' : ws.toArray[j] = .int (ms.getD j 0) u := by simpa using e2
    rw [e1', e2']
    exact EqAt.int_int _ _ _ _
  · rw [List.size_toArray, hv.length, all_eq_beq ns ms hl]; exact h
/-- how many ints are there, each counted once -/
noncomputable def dist (ns : List Int) : Nat := (ns.foldl step_dedup []).length
theorem met_all (ns : List Int) : firstMet (fun i => ns.getD i 0) ns.length = ns.foldl step_dedup [] := by
  unfold firstMet
  have : (List.range ns.length).map (fun i => ns.getD i 0) = ns := by
    apply List.ext_getElem (by simp)
    intro i h1 h2
    simp [List.getD_eq_getElem?_getD, List.getElem?_eq_getElem h2]
  rw [this]
/-- set(list of ints), then its len -/
theorem setL {l : Addr} {vs : List Value} {ns : List Int} {n : Nat} (hh : A.handled = none) (hl : s.heap.get? l = some (lstO vs n)) (hi : IntsAre vs ns) (hb : ns.length + 1 < 4096)
    (h : ∀ s' D, Keeps s s' → s.heap.get? D = none → (∃ S, s'.heap.SetOf (intKind prog w) D S (dist ns)) → Q (.ref D) s') : Wp prog w A (call (.type "set") [.ref l]) Q E s := by
  unfold Wp
  refine PySem.call_set_list (items := vs.toArray) (ns := ns) hh (isLst hl) (by simpa using hi) (by rw [List.size_toArray, hi.length]; exact hb) fun h' tk hS hk => ?_
  rw [show vs.toArray.size = ns.length by rw [List.size_toArray, hi.length], met_all] at hS
  exact h _ _ ⟨h', tk, rfl, fun b o e => hk b o (Heap.lt_size e) e⟩ (get_none_of_ge (Nat.le_refl _)) ⟨_, hS⟩
theorem lenS {a : Addr} {n : Nat} (hS : ∃ S, s.heap.SetOf (intKind prog w) a S n) (h : ∀ s' t, Keeps s s' → Q (.int n t) s') : Wp prog w A (call (.builtin "len") [.ref a]) Q E s := by
  unfold Wp
  obtain ⟨S, o, es, ep, t, ho, hex, hd, _, _, hsz, hf, rfl⟩ := hS
  have : es.size < 4096 := hsz
  exact call_len_set ho hex hd hf (by omega) (h _ _ ⟨s.heap, _, rfl, fun _ _ e => e⟩)
/-- range(a, b, c) and its walk -/
theorem range3 {a b c : Int} {t u v : Tok} (hc : c ≠ 0) (hs : c.natAbs < 1073741824) (h : ∀ s' D t' u' v', Keeps s s' → s.heap.get? D = none → IsRange s'.heap D a b c t' u' v' → Q (.ref D) s') :
    Wp prog w A (call (.type "range") [.int a t, .int b u, .int c v]) Q E s := by
  unfold Wp
  exact PySem.call_range_3 hc (h _ _ _ _ _ ⟨_, _, rfl, fun _ _ e => Heap.get?_push_of_some _ e⟩ (get_none_of_ge (Nat.le_refl _)) (IsRange.new _ _ _ _ _ _ _)) (.inl (PyProof.noPylong_small hs))
theorem iterR3 {r : Addr} {a b c : Int} {t u v : Tok} {n : Nat} (hh : A.handled = none) (hr : IsRange s.heap r a b c t u v) (hsmall : Builtin.Range.small a b c = true) (hn : Builtin.Range.rangeSize a b c = n)
    (h : ∀ s' I, Itr prog w A n (fun i v => ∃ t, v = .int (a + (i : Int) * c) t) [] s s' I → Q (.ref I) s') : Wp prog w A (pyIter (.ref r)) Q E s := by
  unfold Wp
  have W := Walks.range (prog := prog) (w := w) hh s.heap.objs.size a c n
  refine wpAny_pyIter_range hr hsmall (h _ _ ⟨_, W, fun i h st => ⟨_, st⟩, ?_, fun b hb => by simp at hb, get_none_of_ge (Nat.le_refl _), kp_push _⟩)
  rw [hn]
  show Heap.get? (s.heap.push _) s.heap.objs.size = _
  rw [Heap.get?_push_size _ rfl]
  simp
end
end Mine
end
section
open PySem PySem.W PyProof.Rows
set_option Elab.async false
set_option maxRecDepth 100000
set_option linter.unusedVariables false
namespace Mine
variable {K : Cx} {prog : Program} {w : World} {A : Around} {E : Value → Shared → Prop} {s : Shared}
noncomputable abbrev c13 : UInt64 := 4599676419421066581
noncomputable abbrev c16 : UInt64 := 4595172819793696085
noncomputable abbrev c23 : UInt64 := 4604180019048437077
noncomputable abbrev f1 : UInt64 := 4607182418800017408
noncomputable abbrev f6 : UInt64 := 4618441417868443648
noncomputable abbrev fh : UInt64 := 4602678819172646912
noncomputable abbrev f2 : UInt64 := 4611686018427387904
noncomputable def vF (m1 m2 hue : UInt64) : UInt64 :=
  let h := (Float64.divmod hue f1).snd
  if fLt h c16 then Float64.add m1 (Float64.mul (Float64.mul (Float64.sub m2 m1) h) f6) else if fLt h fh then m2 else if fLt h c23 then Float64.add m1 (Float64.mul (Float64.mul (Float64.sub m2 m1) (Float64.sub c23 h)) f6) else m1

/-- what the top has bound -/
structure Tops (K : Cx) : Prop where
  c13 : ∃ t, K.mg "ONE_THIRD" = some (.float c13 t)
  c16 : ∃ t, K.mg "ONE_SIXTH" = some (.float c16 t)
  c23 : ∃ t, K.mg "TWO_THIRD" = some (.float c23 t)

theorem v_spec (TT : Tops K) {m1 m2 hue : UInt64} {t1 t2 t3 : Tok} {a : Addr} {Q : Value → Shared → Prop} (W : Wd K s.heap) (hf : HasFn K.mg s.heap (fn 7) a) (hroom : A.depth < recursionLimit)
    (h : ∀ s' t, Keeps s s' → Q (.float (vF m1 m2 hue) t) s') : Wp prog w A (call (.ref a) [.float m1 t1, .float m2 t2, .float hue t3]) Q E s := by
  obtain ⟨u16, e16⟩ := TT.c16
  obtain ⟨u23, e23⟩ := TT.c23
  refine enter [] (binds := [("m1", .float m1 t1), ("m2", .float m2 t2), ("hue", .float hue t3)]) W hf hroom (fun _ _ _ => by rfl) (locs (by kernel_rfl)) (fun env s₁ x _ => ?_) (fun _ _ h => nomatch h)
  refine seq (asg (bin (ldv x.rd rfl (cflt fun s₂ t₂ k => fmod (by decide +kernel) fun s₃ t₃ k' => stv (x.after (kp_trans k k')) fun s₄ x => ⟨rfl, ?_⟩))))
  unfold vF at h
  generalize (Float64.divmod hue f1).snd = H at x h
  have fin : ∀ {v s'}, Keeps s₄ s' → (Keeps s s' → Q v s') → ∃ v', Flow.ret v = Flow.ret v' ∧ Q v' s' := fun k q => ⟨_, rfl, q (kp_trans x.keeps k)⟩
  dsimp only at h
  refine cons_ (ifCmp (ldv x.rd rfl (ldg x.rd e16 (flt ⟨_, rfl, fun e => ?_, fun e => nil_ ?_⟩))))
  · rw [br (show fLt H c16 = true from e)] at h
    refine cons_ (ret_ (bin ?_))
    refine ldv x.rd rfl (bin (bin (bin ?_)))
    refine ldv x.rd rfl (ldv x.rd rfl (fsub fun s₅ t₅ k5 => ?_))
    refine ldv (x.rd.after k5) rfl (fmul fun s₆ t₆ k6 => cflt fun s₇ t₇ k7 => fmul fun s₈ t₈ k8 => fadd fun s₉ t₉ k9 => ?_)
    exact fin (kp_trans k5 (kp_trans k6 (kp_trans k7 (kp_trans k8 k9)))) (h _ _)
  rw [br' (show fLt H c16 = false from e)] at h
  refine cons_ (ifCmp (ldv x.rd rfl (cflt fun s₅ t₅ k5 => ?_)))
  replace x := x.after k5
  have fin : ∀ {v s'}, Keeps s₅ s' → (Keeps s s' → Q v s') → ∃ v', Flow.ret v = Flow.ret v' ∧ Q v' s' := fun k q => ⟨_, rfl, q (kp_trans x.keeps k)⟩
  refine flt ⟨_, rfl, fun e => ?_, fun e => nil_ ?_⟩
  · rw [br (show fLt H fh = true from e)] at h
    exact cons_ (ret_ (ldv x.rd rfl (fin kp_rfl (h _ _))))
  rw [br' (show fLt H fh = false from e)] at h
  refine cons_ (ifCmp (ldv x.rd rfl (ldg x.rd e23 (flt ⟨_, rfl, fun e => ?_, fun e => nil_ ?_⟩))))
  · rw [br (show fLt H c23 = true from e)] at h
    refine cons_ (ret_ (bin ?_))
    refine ldv x.rd rfl (bin (bin (bin ?_)))
    refine ldv x.rd rfl (ldv x.rd rfl (fsub fun s₅ t₅ k5 => ?_))
    refine bin (ldg (x.rd.after k5) e23 (ldv (x.rd.after k5) rfl (fsub fun s₆ t₆ k6 => ?_)))
    refine fmul fun s₇ t₇ k7 => cflt fun s₈ t₈ k8 => fmul fun s₉ t₉ k9 => fadd fun s₁₀ t₁₀ k10 => ?_
    exact fin (kp_trans k5 (kp_trans k6 (kp_trans k7 (kp_trans k8 (kp_trans k9 k10))))) (h _ _)
  rw [br' (show fLt H c23 = false from e)] at h
  exact cons_ (ret_ (ldv x.rd rfl (fin kp_rfl (h _ _))))
/-- hls_to_rgb(h, 0.5, 1.0) -/
theorem hls_spec (TT : Tops K) (f7 : fn 7 ∈ K.fs) {H : UInt64} {t1 t2 t3 : Tok} {a : Addr} {Q : Value → Shared → Prop} (W : Wd K s.heap) (hf : HasFn K.mg s.heap (fn 6) a) (hroom : A.depth + 1 < recursionLimit)
    (h : ∀ s' D u1 u2 u3, Keeps s s' → s.heap.get? D = none → s'.heap.get? D = some (tupO [.float (vF 0 f1 (Float64.add H c13)) u1, .float (vF 0 f1 H) u2, .float (vF 0 f1 (Float64.sub H c13)) u3]) → Q (.ref D) s') :
    Wp prog w A (call (.ref a) [.float H t1, .float fh t2, .float f1 t3]) Q E s := by
  obtain ⟨u13, e13⟩ := TT.c13
  have key : ∀ {s : Shared} {a : Addr} {hue : UInt64} {t1 t2 t3 : Tok} {A : Around} {Q E : Value → Shared → Prop} (W : Wd K s.heap) (hf : HasFn K.mg s.heap (fn 7) a) (hroom : A.depth < recursionLimit)
    (h : ∀ s' t, Keeps s s' → Q (.float (vF 0 f1 hue) t) s'), Wp prog w A (call (.ref a) [.float 0 t1, .float f1 t2, .float hue t3]) Q E s := fun W hf hr h => v_spec TT W hf hr h
  refine enter [] (binds := [("h", .float H t1), ("l", .float fh t2), ("s", .float f1 t3)]) W hf (Nat.lt_of_succ_lt hroom) (fun _ _ _ => by rfl) (locs (by kernel_rfl)) (fun env s₁ x _ => ?_) (fun _ _ h => nomatch h)
  have hroom' : (A.deeper env).depth < recursionLimit := hroom
  refine cons_ (ifCmp (ldv x.rd rfl (cflt fun s₂ t₂ k2 => feq ⟨_, rfl, fun e => ?_, fun e => nil_ ?_⟩)))
  · exact absurd e (by decide +kernel)
  replace x := x.after k2
  refine cons_ (ifCmp (ldv x.rd rfl (cflt fun s₃ t₃ k3 => fle ⟨_, rfl, fun e => ?_, fun e => ?_⟩)))
  rotate_left
  · exact absurd e (by decide +kernel)
  replace x := x.after k3
  refine seq (asg (bin (ldv x.rd rfl (bin (cflt fun s₄ t₄ k4 => ldv (x.rd.after k4) rfl (fadd fun s₅ t₅ k5 => fmul fun s₆ t₆ k6 => stv ((x.after k4).after (kp_trans k5 k6)) fun s₇ x => ⟨rfl, nil_ ?_⟩))))))
  refine seq (asg (bin (bin (cflt fun s₄ t₄ k4 => ldv (x.rd.after k4) rfl (fmul fun s₅ t₅ k5 => ldv ((x.rd.after k4).after k5) rfl (fsub fun s₆ t₆ k6 => stv (((x.after k4).after k5).after k6) fun s₇ x => ⟨rfl, ?_⟩))))))
  rw [show Float64.mul fh (Float64.add f1 f1) = f1 by decide +kernel, show Float64.sub (Float64.mul f2 fh) f1 = 0 by decide +kernel] at x
  refine cons_ (ret_ (tup3 ?_))
  refine callF3 x.rd f7 fun a1 ha1 => ldv x.rd rfl (ldv x.rd rfl (bin (ldv x.rd rfl (ldg x.rd e13 (fadd fun s₈ t₈ k8 => ⟨k8, key (x.w.after k8) (ha1.keeps fun b o e => kp_get k8 e) hroom' fun s₉ t₉ k9 => ?_⟩)))))
  replace x := x.after (kp_trans k8 k9)
  refine callF3 x.rd f7 fun a1 ha1 => ldv x.rd rfl (ldv x.rd rfl (ldv x.rd rfl ⟨kp_rfl, key x.w ha1 hroom' fun s₁₀ t₁₀ k10 => ?_⟩))
  replace x := x.after k10
  refine callF3 x.rd f7 fun a1 ha1 => ldv x.rd rfl (ldv x.rd rfl (bin (ldv x.rd rfl (ldg x.rd e13 (fsub fun s₈ t₈ k8 => ⟨k8, key (x.w.after k8) (ha1.keeps fun b o e => kp_get k8 e) hroom' fun s₁₁ t₁₁ k11 s₁₂ D k12 hD hD' => ?_⟩)))))
  replace x := x.after (kp_trans k8 k11)
  refine fin_ x.keeps k12 fun kk => h _ _ _ _ _ kk ?_ hD'
  cases e : s.heap.get? D with
  | none => rfl
  | some o => rw [x.keep _ _ e] at hD; cases hD
noncomputable abbrev f4 : UInt64 := 4616189618054758400
noncomputable def rgbH (r g b : UInt64) : UInt64 :=
  if fEq (mn (mn r g) b) (mx (mx r g) b) then 0 else
  let rangec := Float64.sub (mx (mx r g) b) (mn (mn r g) b)
  let rc := Float64.div (Float64.sub (mx (mx r g) b) r) rangec
  let gc := Float64.div (Float64.sub (mx (mx r g) b) g) rangec
  let bc := Float64.div (Float64.sub (mx (mx r g) b) b) rangec
  let h := if fEq r (mx (mx r g) b) then Float64.sub bc gc else if fEq g (mx (mx r g) b) then Float64.sub (Float64.add f2 rc) bc else Float64.sub (Float64.add f4 gc) rc
  (Float64.divmod (Float64.div h f6) f1).snd
noncomputable def rgbOk (r g b : UInt64) : Bool :=
  let mxc := mx (mx r g) b
  let mnc := mn (mn r g) b
  fEq mnc mxc || (!Float64.isZero (Float64.sub mxc mnc) && (if fLe (Float64.div (Float64.add mxc mnc) f2) fh then !Float64.isZero (Float64.add mxc mnc) else !Float64.isZero (Float64.sub (Float64.sub f2 mxc) mnc)))

structure Bt (K : Cx) : Prop where
  max : K.mg "max" = none ∧ K.mb "max" = some (.builtin "max")
  min : K.mg "min" = none ∧ K.mb "min" = some (.builtin "min")
  ord : K.mg "ord" = none ∧ K.mb "ord" = some (.builtin "ord")
  chr : K.mg "chr" = none ∧ K.mb "chr" = some (.builtin "chr")
  len : K.mg "len" = none ∧ K.mb "len" = some (.builtin "len")
  sum : K.mg "sum" = none ∧ K.mb "sum" = some (.builtin "sum")
  tList : K.mg "list" = none ∧ K.mb "list" = some (.type "list")
  tRange : K.mg "range" = none ∧ K.mb "range" = some (.type "range")
  tSet : K.mg "set" = none ∧ K.mb "set" = some (.type "set")
  tInt : K.mg "int" = none ∧ K.mb "int" = some (.type "int")

/-- rgb_to_hls -/
theorem rgb_spec (BT : Bt K) {r g b : UInt64} {t1 t2 t3 : Tok} {a : Addr} {Q : Value → Shared → Prop} (W : Wd K s.heap) (hf : HasFn K.mg s.heap (fn 5) a) (hroom : A.depth < recursionLimit) (hh : A.handled = none)
    (hok : rgbOk r g b = true)
    (h : ∀ s' D l sv u1 u2 u3, Keeps s s' → s.heap.get? D = none → s'.heap.get? D = some (tupO [.float (rgbH r g b) u1, .float l u2, .float sv u3]) → Q (.ref D) s') :
    Wp prog w A (call (.ref a) [.float r t1, .float g t2, .float b t3]) Q E s := by
  refine enter [] (binds := [("r", .float r t1), ("g", .float g t2), ("b", .float b t3)]) W hf hroom (fun _ _ _ => by rfl) (locs (by kernel_rfl)) (fun env s₁ x _ => ?_) (fun _ _ h => nomatch h)
  have hh' : (A.deeper env).handled = none := hh
  refine seq (asg (callB3 x.rd BT.max.1 BT.max.2 (ldv x.rd rfl (ldv x.rd rfl (ldv x.rd rfl (max3 hh' fun s₂ t₂ k2 => stv (x.after k2) fun s₃ x => ⟨rfl, ?_⟩))))))
  refine seq (asg (callB3 x.rd BT.min.1 BT.min.2 (ldv x.rd rfl (ldv x.rd rfl (ldv x.rd rfl (min3 hh' fun s₂ t₂ k2 => stv (x.after k2) fun s₃ x => ⟨rfl, ?_⟩))))))
  unfold rgbH at h
  unfold rgbOk at hok
  generalize mx (mx r g) b = MX at x h hok
  generalize mn (mn r g) b = MN at x h hok
  dsimp only at hok h
  refine seq (asg (bin (ldv x.rd rfl (ldv x.rd rfl (fadd fun s₂ t₂ k2 => stv (x.after k2) fun s₃ x => ⟨rfl, ?_⟩)))))
  refine seq (asg (bin (ldv x.rd rfl (ldv x.rd rfl (fsub fun s₂ t₂ k2 => stv (x.after k2) fun s₃ x => ⟨rfl, ?_⟩)))))
  refine seq (asg (bin (ldv x.rd rfl (cflt fun s₂ t₂ k2 => fdiv (by decide +kernel) fun s₃ t₃ k3 => stv (x.after (kp_trans k2 k3)) fun s₄ x => ⟨rfl, ?_⟩))))
  refine cons_ (ifCmp (ldv x.rd rfl (ldv x.rd rfl (feq ⟨_, rfl, fun e => ?_, fun e => nil_ ?_⟩))))
  · rw [br (show fEq MN MX = true from e)] at h
    refine cons_ (ret_ (tup3 (cflt fun s₅ t₅ k5 => ldv (x.rd.after k5) rfl (cflt fun s₆ t₆ k6 s₇ D k7 hD hD' => ?_))))
    exact fin_ x.keeps (kp_trans k5 (kp_trans k6 k7)) fun kk => h _ _ _ _ _ _ _ kk (fresh_back (kp_trans x.keeps (kp_trans k5 k6)) hD) hD'
  rw [br' (show fEq MN MX = false from e)] at h
  have e' : fEq MN MX = false := e
  rw [e', Bool.false_or, Bool.and_eq_true] at hok
  obtain ⟨hz, hok⟩ := hok
  have hz : ¬ Float64.isZero (Float64.sub MX MN) = true := by intro q; rw [q] at hz; cases hz
  have rest2 : ∀ s₁ hv th sv t tl, St K (fn 5).scope s env [("h", .float hv th), ("s", .float sv t), ("l", .float (Float64.div (Float64.add MX MN) f2) tl)] [] [] s₁ →
      (∀ s' D l sv u1 u2 u3, Keeps s s' → s.heap.get? D = none → s'.heap.get? D = some (tupO [.float (Float64.divmod (Float64.div hv f6) f1).snd u1, .float l u2, .float sv u3]) → Q (.ref D) s') →
      Wp prog w (A.deeper env) (execs ((fn 5).body.drop 11) env) (fun fl s' => ∃ v, fl = .ret v ∧ Q v s') (fun _ _ => False) s₁ := by
    intro s₁ hv th sv t tl x h
    refine seq (asg (bin (bin (ldv x.rd rfl (cflt fun s₂ t₂ k2 => fdiv (by decide +kernel) fun s₃ t₃ k3 => cflt fun s₄ t₄ k4 => fmod (by decide +kernel) fun s₅ t₅ k5 => stv (x.after (kp_trans k2 (kp_trans k3 (kp_trans k4 k5)))) fun s₆ x => ⟨rfl, ?_⟩)))))
    refine cons_ (ret_ (tup3 (ldv x.rd rfl (ldv x.rd rfl (ldv x.rd rfl fun s₇ D k7 hD hD' => ?_)))))
    exact fin_ x.keeps k7 fun kk => h _ _ _ _ _ _ _ kk (fresh_back x.keeps hD) hD'
  have rest : ∀ s₁ sv t tl tr tm, St K (fn 5).scope s env [("s", .float sv t), ("l", .float (Float64.div (Float64.add MX MN) f2) tl), ("rangec", .float (Float64.sub MX MN) tr), ("maxc", .float MX tm), ("r", .float r t1), ("g", .float g t2), ("b", .float b t3)] [] [] s₁ →
      Wp prog w (A.deeper env) (execs ((fn 5).body.drop 7) env) (fun fl s' => ∃ v, fl = .ret v ∧ Q v s') (fun _ _ => False) s₁ := by
    intro s₁ sv t tl tr tm x
    refine seq (asg (bin (bin (ldv x.rd rfl (ldv x.rd rfl (fsub fun s₂ t₂ k2 => ldv (x.rd.after k2) rfl (fdiv hz fun s₃ t₃ k3 => stv (x.after (kp_trans k2 k3)) fun s₄ x => ⟨rfl, ?_⟩)))))))
    refine seq (asg (bin (bin (ldv x.rd rfl (ldv x.rd rfl (fsub fun s₂ t₂ k2 => ldv (x.rd.after k2) rfl (fdiv hz fun s₃ t₃ k3 => stv (x.after (kp_trans k2 k3)) fun s₄ x => ⟨rfl, ?_⟩)))))))
    refine seq (asg (bin (bin (ldv x.rd rfl (ldv x.rd rfl (fsub fun s₂ t₂ k2 => ldv (x.rd.after k2) rfl (fdiv hz fun s₃ t₃ k3 => stv (x.after (kp_trans k2 k3)) fun s₄ x => ⟨rfl, ?_⟩)))))))
    refine cons_ (ifCmp (ldv x.rd rfl (ldv x.rd rfl (feq ⟨_, rfl, fun e => ?_, fun e => ?_⟩))))
    · rw [br (show fEq r MX = true from e)] at h
      refine seq (asg (bin (ldv x.rd rfl (ldv x.rd rfl (fsub fun s₂ t₂ k2 => stv (x.after k2) fun s₃ x => ⟨rfl, nil_ ?_⟩)))))
      exact rest2 _ _ _ sv t tl (x.vars _) h
    rw [br' (show fEq r MX = false from e)] at h
    refine cons_ (ifCmp (ldv x.rd rfl (ldv x.rd rfl (feq ⟨_, rfl, fun e => ?_, fun e => ?_⟩))))
    · rw [br (show fEq g MX = true from e)] at h
      refine seq (asg (bin (bin (cflt fun s₄ t₄ k4 => ldv (x.rd.after k4) rfl (fadd fun s₂ t₂ k2 => ldv ((x.rd.after k4).after k2) rfl (fsub fun s₅ t₅ k5 => stv (((x.after k4).after k2).after k5) fun s₃ x => ⟨rfl, nil_ (nil_ ?_)⟩))))))
      exact rest2 _ _ _ sv t tl (x.vars _) h
    · rw [br' (show fEq g MX = false from e)] at h
      refine seq (asg (bin (bin (cflt fun s₄ t₄ k4 => ldv (x.rd.after k4) rfl (fadd fun s₂ t₂ k2 => ldv ((x.rd.after k4).after k2) rfl (fsub fun s₅ t₅ k5 => stv (((x.after k4).after k2).after k5) fun s₃ x => ⟨rfl, nil_ (nil_ ?_)⟩))))))
      exact rest2 _ _ _ sv t tl (x.vars _) h
  refine cons_ (ifCmp (ldv x.rd rfl (cflt fun s₅ t₅ k5 => fle ⟨_, rfl, fun e => ?_, fun e => ?_⟩)))
  · rw [br (show fLe (Float64.div (Float64.add MX MN) f2) fh = true from e)] at hok
    have hz2 : ¬ Float64.isZero (Float64.add MX MN) = true := by intro q; rw [q] at hok; cases hok
    replace x := x.after k5
    refine seq (asg (bin (ldv x.rd rfl (ldv x.rd rfl (fdiv hz2 fun s₂ t₂ k2 => stv (x.after k2) fun s₃ x => ⟨rfl, nil_ ?_⟩)))))
    exact rest _ _ _ _ _ _ (x.vars _)
  · rw [br' (show fLe (Float64.div (Float64.add MX MN) f2) fh = false from e)] at hok
    have hz2 : ¬ Float64.isZero (Float64.sub (Float64.sub f2 MX) MN) = true := by intro q; rw [q] at hok; cases hok
    replace x := x.after k5
    refine seq (asg (bin (ldv x.rd rfl (bin (bin (cflt fun s₄ t₄ k4 => ldv (x.rd.after k4) rfl (fsub fun s₂ t₂ k2 => ldv ((x.rd.after k4).after k2) rfl (fsub fun s₅ t₅ k5 => fdiv hz2 fun s₆ t₆ k6 => stv ((((x.after k4).after k2).after k5).after k6) fun s₃ x => ⟨rfl, nil_ ?_⟩))))))))
    exact rest _ _ _ _ _ _ (x.vars _)
end Mine
end
section
open PySem PySem.W PyProof.Rows
set_option Elab.async false
set_option maxRecDepth 100000
set_option linter.unusedVariables false
namespace Mine
variable {K : Cx} {prog : Program} {w : World} {A : Around} {E : Value → Shared → Prop} {s : Shared}
noncomputable def unseenL : List Int := [173, 847, 6150, 6155, 6156, 6157, 8203, 8204, 8205, 8288, 65279] ++ (List.range 16).map fun (i : Nat) => 65024 + (i : Int)
noncomputable def formsL : List Int := [97, 65, 119808, 119860, 119912, 120016, 120172, 120224, 120276, 120328, 120380, 120432]
/-- the two signs of a letter in the n-th spelling -/
noncomputable def signA (c : Nat) (n : Int) : Nat := (formsL.getD (n.fmod 12).toNat 0 + c - 97).toNat
noncomputable def signB (n : Int) : Nat := (unseenL.getD ((n.fdiv 12).fmod 27).toNat 0).toNat
noncomputable def signS (c : Nat) (n : Int) : Str := ⟨#[signA c n, signB n]⟩

theorem getD_at {l : List Int} {i : Nat} (h : i < l.length) : l[i]? = some (l.getD i 0) := by
  rw [List.getD_eq_getElem?_getD, List.getElem?_eq_getElem h]; rfl
theorem unseen_all : ∀ i < 27, 0 ≤ unseenL.getD i 0 ∧ unseenL.getD i 0 ≤ 65535 := by decide +kernel
theorem forms_all : ∀ i < 12, 65 ≤ formsL.getD i 0 ∧ formsL.getD i 0 ≤ 120432 := by decide +kernel

theorem sign_spec (BT : Bt K) {c : Nat} {n : Int} {t1 t2 : Tok} {a : Addr} {Q : Value → Shared → Prop} (W : Wd K s.heap) (hf : HasFn K.mg s.heap (fn 19) a) (hroom : A.depth < recursionLimit) (hh : A.handled = none)
    (hc0 : 97 ≤ c) (hc1 : c ≤ 122) (h : ∀ s' t, Keeps s s' → Q (.str (signS c n) t) s') : Wp prog w A (call (.ref a) [.str ⟨#[c]⟩ t1, .int n t2]) Q E s := by
  refine enter [] (binds := [("letter", .str ⟨#[c]⟩ t1), ("n", .int n t2)]) W hf hroom (fun _ _ _ => by rfl) (locs (by kernel_rfl)) (fun env s₁ x _ => ?_) (fun _ _ h => nomatch h)
  have hh' : (A.deeper env).handled = none := hh
  refine seq (asg (bin (listI [173, 847, 6150, 6155, 6156, 6157, 8203, 8204, 8205, 8288, 65279] rfl (by decide) fun s₂ D vs k hD hv hL => ?_)))
  have x2 := x.fresh k hD hL
  refine callT1 x2.rd BT.tList.1 BT.tList.2 (callT2 x2.rd BT.tRange.1 BT.tRange.2 (cint fun s₃ t₃ k3 => cint fun s₄ t₄ k4 => range2 fun s₅ R t5 u5 v5 k5 hR hR' => ?_))
  refine listRange (n := 16) hh' hR' (by decide +kernel) (by decide +kernel) (by decide) fun s₆ L2 ws c6 k6 hL2 hw hL2' => ?_
  have kk := kp_trans k3 (kp_trans k4 (kp_trans k5 k6))
  refine addL (kp_get kk hL) hL2' (by rw [IntsAre.length hv, IntsAre.length hw]; decide) fun s₇ D7 k7 hD7 hD7' => ?_
  refine stv ((x2.after kk).fresh k7 hD7 hD7') fun s₈ x8 => ⟨rfl, ?_⟩
  have hvw : IntsAre (vs ++ ws) unseenL := ints_app hv hw
  generalize vs ++ ws = us at hvw x8
  refine seq (asg (listI formsL rfl (by decide) fun s₉ D9 fs k9 hD9 hfs hL9 => stv (x8.fresh k9 hD9 hL9) fun s₁₀ x10 => ⟨rfl, ?_⟩))
  have i12 : 0 ≤ n.fmod 12 ∧ n.fmod 12 < 12 := ⟨Int.fmod_nonneg_of_pos n (by omega), Int.fmod_lt_of_pos n (by omega)⟩
  have i27 : 0 ≤ (n.fdiv 12).fmod 27 ∧ (n.fdiv 12).fmod 27 < 27 := ⟨Int.fmod_nonneg_of_pos _ (by omega), Int.fmod_lt_of_pos _ (by omega)⟩
  have hF : formsL[(n.fmod 12).toNat]? = some (formsL.getD (n.fmod 12).toNat 0) := getD_at (by show _ < 12; omega)
  have hU : unseenL[((n.fdiv 12).fmod 27).toNat]? = some (unseenL.getD ((n.fdiv 12).fmod 27).toNat 0) := getD_at (by show _ < 27; omega)
  have bF := forms_all (n.fmod 12).toNat (by omega)
  have bU := unseen_all ((n.fdiv 12).fmod 27).toNat (by omega)
  obtain ⟨tF, eF⟩ := ints_get hfs hF
  obtain ⟨tU, eU⟩ := ints_get hvw hU
  have oF := (x10.mine _ (.head _)).1
  have oU := (x10.mine _ (.tail _ (.head _))).1
  unfold signS signA signB at h
  generalize formsL.getD (n.fmod 12).toNat 0 = fv at *
  generalize unseenL.getD ((n.fdiv 12).fmod 27).toNat 0 = uv at *
  refine cons_ (ret_ (bin (callB1 x10.rd BT.chr.1 BT.chr.2 (bin (bin ?_)))))
  refine sub1 (ldv x10.rd rfl (bin (ldv x10.rd rfl (cint fun s₁ t₁ k1 => imod (by decide) fun s₂ t₂ k2 => ?_))))
  have k12 := kp_trans k1 k2
  refine itemL (kp_get k12 oF) i12.1 (by omega) eF ?_
  refine callB1 (x10.after k12).rd BT.ord.1 BT.ord.2 (ldv (x10.after k12).rd rfl (ord1 fun s₃ t₃ k3 => iadd fun s₄ t₄ k4 => cint fun s₅ t₅ k5 => isub fun s₆ t₆ k6 => chr1 (by omega) (by omega) fun s₇ t₇ k7 => ?_))
  have kA := kp_trans k12 (kp_trans k3 (kp_trans k4 (kp_trans k5 (kp_trans k6 k7))))
  have x11 := x10.after kA
  refine callB1 x11.rd BT.chr.1 BT.chr.2 (sub1 (ldv x11.rd rfl (bin (bin (ldv x11.rd rfl (cint fun s₁ t₁ k1 => idiv (by decide) (by decide) fun s₂ t₂ k2 => cint fun s₃ t₃ k3 => imod (by decide) fun s₄ t₄ k4 => ?_))))))
  have kB := kp_trans k1 (kp_trans k2 (kp_trans k3 k4))
  refine itemL (kp_get (kp_trans kA kB) oU) i27.1 (by omega) eU ?_
  refine chr1 (by omega) (by omega) fun s₅ t₅ k5 => sadd (by show 1 + 1 ≤ sizeLine; decide) fun s₆ t₆ k6 => ?_
  exact fin_ x11.keeps (kp_trans kB (kp_trans k5 k6)) (h _ _)
end Mine
end
section
open PySem PySem.W PyProof.Rows PySem.Builtin PySem.Builtin.Str
set_option Elab.async false
set_option maxRecDepth 100000
set_option linter.unusedVariables false
namespace Mine
variable {K : Cx} {prog : Program} {w : World} {A : Around} {E : Value → Shared → Prop} {s : Shared}
noncomputable def b1 (c : Nat) : Bool := unseenL.contains (c : Int)
/-- the table B.1 and B.3 of the top -/
structure Tabs (K : Cx) (prog : Program) (w : World) (D : Int → Option Str) : Prop where
  set : ∃ a n, K.mg "b1_set" = some (.ref a) ∧ ∀ s : Shared, Wd K s.heap → s.heap.SetOf (intKind prog w) a (fun k => unseenL.contains k) n
  dict : ∃ a kvs, K.mg "b3_exceptions" = some (.ref a) ∧ (a == sysModules) = false ∧ (∀ s : Shared, Wd K s.heap → s.heap.DictOf (intKind prog w) a kvs) ∧
    ∀ k, (D k = none → valueAt kvs k = none) ∧ ∀ x, D k = some x → ∃ t, valueAt kvs k = some (.str x t)

theorem intable_spec {D : Int → Option Str} (BT : Bt K) (TB : Tabs K prog w D) {c : Nat} {t1 : Tok} {a : Addr} {Q : Value → Shared → Prop} (W : Wd K s.heap) (hf : HasFn K.mg s.heap (fn 15) a) (hroom : A.depth < recursionLimit)
    (h : ∀ s', Keeps s s' → Q (.bool (b1 c)) s') : Wp prog w A (call (.ref a) [.str ⟨#[c]⟩ t1]) Q E s := by
  refine enter [] (binds := [("code", .str ⟨#[c]⟩ t1)]) W hf hroom (fun _ _ _ => by rfl) (locs (by kernel_rfl)) (fun env s₁ x _ => ?_) (fun _ _ h => nomatch h)
  obtain ⟨sa, n, e, hS⟩ := TB.set
  refine cons_ (ret_ (cmp1 (callB1 x.rd BT.ord.1 BT.ord.2 (ldv x.rd rfl (ord1 fun s₂ t₂ k2 => ldg (x.rd.after k2) e (inSet_ (hS _ (x.w.after k2)) fun s₃ k3 => ?_))))))
  exact fin_ x.keeps (kp_trans k2 k3) (h _)

/-- what map_table_b3 makes of a sign -/
noncomputable def mapF (D : Int → Option Str) (c : Nat) : Str := match D c with
  | some x => x
  | none => Txt.lower ⟨#[c]⟩
theorem maptable_spec {D : Int → Option Str} (BT : Bt K) (TB : Tabs K prog w D) {c : Nat} {t1 : Tok} {a : Addr} {Q : Value → Shared → Prop} (W : Wd K s.heap) (hf : HasFn K.mg s.heap (fn 17) a) (hroom : A.depth < recursionLimit)
    (hc : tooLong (Txt.lower ⟨#[c]⟩).length = false) (h : ∀ s' t, Keeps s s' → Q (.str (mapF D c) t) s') : Wp prog w A (call (.ref a) [.str ⟨#[c]⟩ t1]) Q E s := by
  refine enter [] (binds := [("code", .str ⟨#[c]⟩ t1)]) W hf hroom (fun _ _ _ => by rfl) (locs (by kernel_rfl)) (fun env s₁ x _ => ?_) (fun _ _ h => nomatch h)
  obtain ⟨da, kvs, e, hds, hD, hv⟩ := TB.dict
  have hd0 := hD _ x.w
  refine seq (asg (dget1_ (ldg x.rd e ⟨da, rfl, hds, hd0.typeIs, hd0.mapOf.noDict, callB1 x.rd BT.ord.1 BT.ord.2 (ldv x.rd rfl (ord1 fun s₂ t₂ k2 => ⟨_, _, kvs, rfl, hD _ (x.w.after k2), fun s₃ k3 => ?_⟩))⟩)))
  replace x := x.after (kp_trans k2 k3)
  refine stv x fun s₄ x => ⟨rfl, ?_⟩
  have hm := hv (c : Int)
  unfold mapF at h
  cases hq : D (c : Int) with
  | some y =>
    rw [hq] at h
    obtain ⟨ty, ey⟩ := hm.2 y hq
    rw [ey] at x
    refine cons_ (ifCmp (ldv x.rd rfl (cnone (isNot_ rfl ⟨_, rfl, fun _ => ?_, fun e => nomatch e⟩))))
    exact cons_ (ret_ (ldv x.rd rfl (fin_ x.keeps kp_rfl (h _ _))))
  | none =>
    rw [hq] at h
    rw [hm.1 hq] at x
    refine cons_ (ifCmp (ldv x.rd rfl (cnone (isNot_ rfl ⟨_, rfl, (fun e => nomatch e), fun _ => nil_ ?_⟩))))
    exact cons_ (ret_ (lower_ (ldv x.rd rfl ⟨_, _, rfl, hc, fun s₅ t₅ k5 => fin_ x.keeps k5 (h _ _)⟩)))

noncomputable def readL (D : Int → Option Str) (cs : List Nat) : List Str := (cs.filter fun c => !b1 c).map (mapF D)
noncomputable def keepB (v : Value) : Bool := match v with
  | .str x _ => !b1 (x.cps.getD 0 0)
  | _ => false
theorem paired_read {D : Int → Option Str} : ∀ (cs : List Nat) (us ys : List Value), us.length = cs.length → (∀ (j : Nat) (v : Value), us[j]? = some v → ∃ c u, cs[j]? = some c ∧ v = .str ⟨#[c]⟩ u) →
    Paired (fun v y => ∃ c u t, v = Value.str ⟨#[c]⟩ u ∧ y = Value.str (mapF D c) t) (us.filter keepB) ys → ∃ l, ys = strValues l ∧ l.map (·.1) = readL D cs
  | [], us, ys, hl, _, hP => by
    have : us = [] := List.eq_nil_of_length_eq_zero hl
    subst this
    cases hP
    exact ⟨[], rfl, rfl⟩
  | c :: cs, [], ys, hl, _, _ => by simp at hl
  | c :: cs, v :: us, ys, hl, hv, hP => by
    obtain ⟨c', u, e1, rfl⟩ := hv 0 v rfl
    simp at e1; subst e1
    have hv' : ∀ (j : Nat) (v : Value), us[j]? = some v → ∃ c u, cs[j]? = some c ∧ v = .str ⟨#[c]⟩ u := fun j v e => by
      obtain ⟨c', u, e1, e2⟩ := hv (j + 1) v (by simpa using e)
      exact ⟨c', u, by simpa using e1, e2⟩
    have hl' : us.length = cs.length := by simpa using hl
    have hk : keepB (.str ⟨#[c]⟩ u) = !b1 c := rfl
    unfold readL
    by_cases hb : (!b1 c) = true
    · rw [List.filter_cons_of_pos (by rw [hk]; exact hb)] at hP
      cases hP with
      | cons h1 h2 =>
        obtain ⟨c2, u2, t, e1, rfl⟩ := h1
        cases e1
        obtain ⟨l, rfl, hl⟩ := paired_read cs us _ hl' hv' h2
        refine ⟨(mapF D c, t) :: l, rfl, ?_⟩
        rw [List.filter_cons_of_pos (p := fun c => !b1 c) hb]
        simp only [List.map_cons]
        rw [hl]; rfl
    · rw [List.filter_cons_of_neg (by rw [hk]; exact hb)] at hP
      rw [List.filter_cons_of_neg (p := fun c => !b1 c) hb]
      exact paired_read cs us ys hl' hv' hP

theorem read_spec {D : Int → Option Str} (BT : Bt K) (TB : Tabs K prog w D) (f15 : fn 15 ∈ K.fs) (f17 : fn 17 ∈ K.fs) {row : Str} {t1 : Tok} {a : Addr} {Q : Value → Shared → Prop} (W : Wd K s.heap) (hf : HasFn K.mg s.heap (fn 20) a)
    (hroom : A.depth + 1 < recursionLimit) (hh : A.handled = none) (hsz : row.cps.size ≤ sizeLine) (hlow : ∀ c ∈ row.cps.toList, tooLong (Txt.lower ⟨#[c]⟩).length = false) (hj : JoinOk (Str.ofString "") (readL D row.cps.toList) = true)
    (h : ∀ s' t, Keeps s s' → Q (.str (Txt.join (Str.ofString "") (readL D row.cps.toList)) t) s') : Wp prog w A (call (.ref a) [.str row t1]) Q E s := by
  refine enter [] (binds := [("row", .str row t1)]) W hf (Nat.lt_of_succ_lt hroom) (fun _ _ _ => by rfl) (locs (by kernel_rfl)) (fun env s₁ x _ => ?_) (fun _ _ h => nomatch h)
  have hroom' : (A.deeper env).depth < recursionLimit := hroom
  have hh' : (A.deeper env).handled = none := hh
  refine cons_ (ret_ (join_ (cstr fun s₂ t₂ k2 => ⟨_, _, rfl, ?_⟩)))
  replace x := x.after k2
  refine comp1 x.rd keepB (fun v y => ∃ c u t, v = Value.str ⟨#[c]⟩ u ∧ y = Value.str (mapF D c) t) (n := row.cps.size) (P := SignAt row) (src := [])
    (fun Q' hQ => ldv x.rd rfl (iterS hh' fun s' I it => hQ _ _ it)) hsz ?_ ?_ ?_
  · intro i v s₃ env' E' hP r hk
    obtain ⟨c, u, hc, rfl⟩ := hP
    refine tNot (tVal (callF1 r f15 fun a1 ha1 => ldv r rfl ⟨kp_rfl, intable_spec BT TB r.W ha1 hroom' fun s' k' => ⟨_, rfl, rfl, k'⟩⟩))
  · intro i v s₃ env' E' hP hp r hk
    obtain ⟨c, u, hc, rfl⟩ := hP
    refine callF1 r f17 fun a1 ha1 => ldv r rfl ⟨kp_rfl, maptable_spec BT TB r.W ha1 hroom' (hlow c (List.mem_of_getElem? (by simpa using hc))) fun s' t k' => ⟨⟨c, u, t, rfl, rfl⟩, k'⟩⟩
  · intro s' D' ys c us k hD hD' hl hP hF
    obtain ⟨l, rfl, hl⟩ := paired_read row.cps.toList us ys (by simpa using hl) (fun j v e => by
      obtain ⟨c, u, e1, e2⟩ := hP j v e
      exact ⟨c, u, by simpa using e1, e2⟩) hF
    refine ⟨D', l, c, rfl, hD', by rw [hl]; exact hj, fun s₄ t₄ k4 => ?_⟩
    rw [hl]
    exact fin_ x.keeps (kp_trans k k4) (h _ _)
end Mine
end
section
open PySem PySem.W PyProof.Rows PySem.Builtin PySem.Builtin.Str
set_option Elab.async false
set_option maxRecDepth 100000
set_option linter.unusedVariables false
namespace Mine
/-- joined without glue -/
noncomputable def flat (l : List Str) : List Nat := l.flatMap fun x => x.cps.toList
theorem join_flat (l : List Str) : Txt.join (Str.ofString "") l = ⟨(flat l).toArray⟩ := by
  show glued (Str.ofString "") l = _
  unfold glued
  congr 1
  have he : (Str.ofString "").cps = #[] := rfl
  rw [he]
  have key : ∀ (r : List Str) (acc : Array Nat), r.foldl (fun acc p => acc ++ #[] ++ p.cps) acc = acc ++ (flat r).toArray := by
    intro r
    induction r with
    | nil => intro acc; simp [flat]
    | cons x r ih =>
      intro acc
      rw [List.foldl_cons, ih]
      apply Array.ext'
      simp [flat]
  cases l with
  | nil => rfl
  | cons x r =>
    rw [List.drop_one, List.tail_cons, key]
    simp [flat]
theorem joinOk_of {l : List Str} (h : (flat l).length ≤ 1000000) : JoinOk (Str.ofString "") l = true := by
  unfold JoinOk
  rw [StrLaws.joinTotal]
  have h1 : (l.map (·.length)).sum = (flat l).length := by
    clear h
    induction l with
    | nil => rfl
    | cons x r ih =>
      rw [List.map_cons, List.sum_cons, ih]
      simp [flat, Str.length]
  have h2 : (Str.ofString "").length = 0 := rfl
  rw [h1, h2, Nat.mul_zero, Nat.add_zero]
  unfold Builtin.Str.tooLong
  have : sizeLine = 16777216 := rfl
  rw [this]
  simp
  omega

theorem getD_arr (l : List Nat) (i : Nat) : l.toArray.getD i 0 = l.getD i 0 := by simp [List.getD_eq_getElem?_getD]
theorem getD_app_l {l m : List Nat} {i : Nat} (h : i < l.length) : (l ++ m).getD i 0 = l.getD i 0 := by simp [List.getD_eq_getElem?_getD, List.getElem?_append_left h]
theorem getD_app_r {l m : List Nat} {i : Nat} (h : l.length ≤ i) : (l ++ m).getD i 0 = m.getD (i - l.length) 0 := by simp [List.getD_eq_getElem?_getD, List.getElem?_append_right h]
theorem getD_mem' {l : List Nat} {i : Nat} (h : i < l.length) : l.getD i 0 ∈ l := by
  rw [List.getD_eq_getElem?_getD, List.getElem?_eq_getElem h]; exact List.getElem_mem h

/-- a row and its end -/
noncomputable def RowOk (q : List Nat × List Nat) : Prop := (∀ c ∈ q.1, brk c = false) ∧ q.1 ≠ [] ∧ (q.2 = [10] ∨ q.2 = [13] ∨ q.2 = [13, 10])
noncomputable def cat (rows : List (List Nat × List Nat)) : List Nat := rows.flatMap fun q => q.1 ++ q.2
noncomputable def catN (rows : List (List Nat × List Nat)) : List Nat := rows.flatMap fun q => q.1 ++ [13, 10]
theorem extract_mid (a b c : List Nat) : ((a ++ b ++ c).toArray.extract a.length (a.length + b.length)).toList = b := by
  simp [List.extract_eq_take_drop]
theorem sub2_ms : ∀ (rows : List (List Nat × List Nat)) (pre : List Nat), (∀ q ∈ rows, RowOk q) → ∃ ms, Ms code2 (pre ++ cat rows).toArray pre.length ms ∧ flat (pieces (pre ++ cat rows).toArray ⟨#[13, 10]⟩ pre.length ms) = catN rows ∧ ms.length = rows.length
  | [], pre, _ => by
    refine ⟨[], .nil (finds2_none fun i h1 h2 => by simp [cat] at h2; omega), ?_, rfl⟩
    unfold pieces
    rw [if_neg (by simp [cat])]; rfl
  | (r, e) :: rows, pre, h => by
    obtain ⟨hr, hne, he⟩ := h _ (.head _)
    have hr : ∀ c ∈ r, brk c = false := hr
    have hne : r ≠ [] := hne
    have he : e = [10] ∨ e = [13] ∨ e = [13, 10] := he
    have ht : pre ++ cat ((r, e) :: rows) = (pre ++ r ++ e) ++ cat rows := by simp [cat]
    obtain ⟨ms, hm, hf, hl⟩ := sub2_ms rows (pre ++ r ++ e) fun q hq => h q (.tail _ hq)
    rw [← ht] at hm hf
    have hlen : (pre ++ r ++ e).length = pre.length + r.length + e.length := by simp; omega
    rw [hlen] at hm hf
    have hrl : 0 < r.length := List.length_pos_iff.mpr hne
    have hel : 1 ≤ e.length := by rcases he with rfl | rfl | rfl <;> decide
    have hsz : (pre ++ cat ((r, e) :: rows)).toArray.size = pre.length + r.length + e.length + (cat rows).length := by rw [ht]; simp; omega
    have g1 : ∀ i, i < pre.length + r.length + e.length → (pre ++ cat ((r, e) :: rows)).toArray.getD i 0 = (pre ++ r ++ e).getD i 0 := fun i hi => by
      rw [getD_arr, ht]; exact getD_app_l (l := pre ++ r ++ e) (m := cat rows) (by rw [hlen]; exact hi)
    have gr : ∀ i, pre.length ≤ i → i < pre.length + r.length → brk ((pre ++ cat ((r, e) :: rows)).toArray.getD i 0) = false := fun i h1 h2 => by
      rw [g1 i (by omega), getD_app_l (l := pre ++ r) (m := e) (by rw [List.length_append]; exact h2), getD_app_r (l := pre) (m := r) h1]
      exact hr _ (getD_mem' (by omega))
    have ge : ∀ j, j < e.length → (pre ++ cat ((r, e) :: rows)).toArray.getD (pre.length + r.length + j) 0 = e.getD j 0 := fun j hj => by
      rw [g1 _ (by omega), getD_app_r (l := pre ++ r) (m := e) (by rw [List.length_append]; omega)]
      rw [List.length_append, Nat.add_sub_cancel_left]
    have hnext : e = [13] → ¬ (pre.length + r.length + 1 < (pre ++ cat ((r, e) :: rows)).toArray.size ∧ (pre ++ cat ((r, e) :: rows)).toArray.getD (pre.length + r.length + 1) 0 = 10) := by
      rintro rfl ⟨h1, h2⟩
      rw [getD_arr, ht, getD_app_r (l := pre ++ r ++ [13]) (m := cat rows) (by rw [hlen]; simp)] at h2
      rw [hlen] at h2
      have hz : pre.length + r.length + 1 - (pre.length + r.length + [13].length) = 0 := by simp
      rw [hz] at h2
      cases rows with
      | nil => simp [cat] at h2
      | cons q rows =>
        obtain ⟨r', e'⟩ := q
        obtain ⟨hr', hne', _⟩ := h _ (.tail _ (.head _))
        cases r' with
        | nil => exact hne' rfl
        | cons c r' =>
          have hc := hr' c (.head _)
          simp [cat] at h2
          subst h2
          cases hc
    have hm2 : ∃ b, b = pre.length + r.length + e.length ∧ (b == pre.length + r.length) = false := ⟨_, rfl, beq_eq_false_iff_ne.mpr (by omega)⟩
    refine ⟨(pre.length + r.length, pre.length + r.length + e.length) :: ms, .cons (finds2_some (by omega) gr (by rw [hsz]; omega) ?_) ?_ hm, ?_, by simp [hl]⟩
    · rcases he with rfl | rfl | rfl
      · left; exact ⟨by have := ge 0 (by decide); simpa using this, rfl⟩
      · right; right; exact ⟨by have := ge 0 (by decide); simpa using this, hnext rfl, rfl⟩
      · right; left; exact ⟨by rw [hsz]; simp; omega, by have := ge 0 (by decide); simpa using this, by have := ge 1 (by decide); simpa using this, rfl⟩
    · obtain ⟨b, rfl, hb⟩ := hm2; exact hb
    · unfold pieces
      rw [if_pos (by omega)]
      have hx : ((pre ++ cat ((r, e) :: rows)).toArray.extract pre.length (pre.length + r.length)).toList = r := by
        have := extract_mid pre r (e ++ cat rows)
        rw [show pre ++ r ++ (e ++ cat rows) = pre ++ cat ((r, e) :: rows) by simp [cat]] at this
        exact this
      simp only [flat, List.flatMap_cons, List.cons_append, List.nil_append] at hf ⊢
      rw [hf, hx]
      simp [catN]
/-- a leading dot doubled -/
noncomputable def dbl (r : List Nat) : List Nat := match r with
  | 46 :: r' => 46 :: 46 :: r'
  | r => r
noncomputable def catD (rows : List (List Nat)) : List Nat := rows.flatMap fun r => dbl r ++ [13, 10]
noncomputable def catR (rows : List (List Nat)) : List Nat := rows.flatMap fun r => r ++ [13, 10]
theorem dbl_no {r : List Nat} (h : r.getD 0 0 ≠ 46) : dbl r = r := by
  unfold dbl
  split
  · exact absurd rfl h
  · rfl
theorem sub1_ms : ∀ (rows : List (List Nat)) (pre : List Nat) (q : Nat), (∀ r ∈ rows, ∀ c ∈ r, c ≠ 10) → (pre ++ catR rows).length ≤ 1000000 → (pre = [] ∨ pre.getD (pre.length - 1) 0 = 10) → q ≤ pre.length → (∀ i, q ≤ i → i < pre.length → ¬ dotAt (pre ++ catR rows).toArray i) →
    ∃ ms, Ms code1 (pre ++ catR rows).toArray q ms ∧ flat (pieces (pre ++ catR rows).toArray ⟨#[46, 46]⟩ q ms) = pre.drop q ++ catD rows ∧ ms.length ≤ rows.length
  | [], pre, q, _, hsz, hpre, hq, hno => by
    have e : pre ++ catR [] = pre := by simp [catR]
    rw [e] at hno hsz ⊢
    refine ⟨[], .nil (finds1_none (by simp; omega) fun i h1 h2 => ?_), ?_, Nat.le_refl _⟩
    · have := h2.2.1
      exact hno i h1 (by simpa using this) h2
    · unfold pieces
      by_cases h : q < pre.length
      · rw [if_pos (by simpa using h)]
        simp [flat, catD, List.extract_eq_take_drop]
        exact List.take_of_length_le (by simp)
      · rw [if_neg (by simpa using h)]
        simp [flat, catD]; omega
  | r :: rows, pre, q, hr, hsz, hpre, hq, hno => by
    have hr0 : ∀ c ∈ r, c ≠ 10 := hr r (.head _)
    have ht : pre ++ catR (r :: rows) = (pre ++ r ++ [13, 10]) ++ catR rows := by simp [catR]
    have hlen : (pre ++ r ++ [13, 10]).length = pre.length + r.length + 2 := by simp; omega
    have hpre' : (pre ++ r ++ [13, 10]) = [] ∨ (pre ++ r ++ [13, 10]).getD ((pre ++ r ++ [13, 10]).length - 1) 0 = 10 := by
      right
      rw [hlen, getD_app_r (l := pre ++ r) (m := [13, 10]) (by rw [List.length_append]; omega), List.length_append]
      rw [show pre.length + r.length + 2 - 1 - (pre.length + r.length) = 1 by omega]; rfl
    have g1 : ∀ i, i < pre.length + r.length + 2 → (pre ++ catR (r :: rows)).toArray.getD i 0 = (pre ++ r ++ [13, 10]).getD i 0 := fun i hi => by
      rw [getD_arr, ht]; exact getD_app_l (l := pre ++ r ++ [13, 10]) (m := catR rows) (by rw [hlen]; exact hi)
    -- no head of a line within the row
    have mid : ∀ i, pre.length < i → i < pre.length + r.length + 2 → ¬ dotAt (pre ++ catR (r :: rows)).toArray i := by
      rintro i h1 h2 ⟨h3, _, _⟩
      rcases h3 with h3 | h3
      · omega
      · rw [g1 _ (by omega)] at h3
        by_cases hi : i - 1 < pre.length + r.length
        · rw [getD_app_l (l := pre ++ r) (m := [13, 10]) (by rw [List.length_append]; exact hi), getD_app_r (l := pre) (m := r) (by omega)] at h3
          exact hr0 _ (getD_mem' (by omega)) h3
        · rw [getD_app_r (l := pre ++ r) (m := [13, 10]) (by rw [List.length_append]; omega), List.length_append] at h3
          have : i - 1 - (pre.length + r.length) = 0 := by omega
          rw [this] at h3; cases h3
    have hat : (pre ++ catR (r :: rows)).toArray.getD pre.length 0 = (r ++ [13, 10]).getD 0 0 := by
      rw [g1 _ (by omega), List.append_assoc, getD_app_r (l := pre) (m := r ++ [13, 10]) (Nat.le_refl _), Nat.sub_self]
    have hszt : (pre ++ catR (r :: rows)).toArray.size = pre.length + r.length + 2 + (catR rows).length := by
      rw [List.size_toArray, ht, List.length_append, hlen]
    by_cases hd : r.getD 0 0 = 46
    · -- the row begins with a dot
      obtain ⟨r', rfl⟩ : ∃ r', r = 46 :: r' := by
        cases r with
        | nil => cases hd
        | cons c r' => simp at hd; exact ⟨r', by rw [hd]⟩
      have hdot : dotAt (pre ++ catR ((46 :: r') :: rows)).toArray pre.length := by
        refine ⟨?_, by rw [hszt]; omega, by rw [hat]; rfl⟩
        rcases hpre with h | h
        · left; rw [h]; rfl
        · by_cases h0 : pre.length = 0
          · exact .inl h0
          · right
            rw [g1 _ (by omega), List.append_assoc, getD_app_l (l := pre) (m := (46 :: r') ++ [13, 10]) (by omega)]; exact h
      obtain ⟨ms, hm, hf, hl⟩ := sub1_ms rows (pre ++ (46 :: r') ++ [13, 10]) (pre.length + 1) (fun r hr' => hr r (.tail _ hr')) (by rw [← ht]; exact hsz) hpre' (by rw [hlen]; omega) fun i h1 h2 => by rw [← ht]; exact mid i (by omega) (by rw [hlen] at h2; exact h2)
      rw [← ht] at hm hf
      refine ⟨(pre.length, pre.length + 1) :: ms, .cons (finds1_some (by simp at hsz ⊢; omega) hq hdot fun i h1 h2 => hno i h1 h2) (beq_eq_false_iff_ne.mpr (by omega)) hm, ?_, by simp [hl]⟩
      unfold pieces
      have hdr : (pre ++ (46 :: r') ++ [13, 10]).drop (pre.length + 1) = r' ++ [13, 10] := by
        rw [show pre ++ (46 :: r') ++ [13, 10] = (pre ++ [46]) ++ (r' ++ [13, 10]) by simp]
        exact List.drop_left' (by simp)
      rw [hdr] at hf
      by_cases h : q < pre.length
      · rw [if_pos h]
        have hx : ((pre ++ catR ((46 :: r') :: rows)).toArray.extract q pre.length).toList = pre.drop q := by
          simp [List.extract_eq_take_drop, List.drop_append_of_le_length hq]
        simp only [flat, List.flatMap_cons, List.cons_append, List.nil_append] at hf ⊢
        rw [hf, hx]
        simp [catD, dbl]
      · rw [if_neg h]
        have : pre.drop q = [] := List.drop_eq_nil_of_le (by omega)
        simp only [flat, List.flatMap_cons, List.cons_append, List.nil_append] at hf ⊢
        rw [hf, this]
        simp [catD, dbl]
    · obtain ⟨ms, hm, hf, hl⟩ := sub1_ms rows (pre ++ r ++ [13, 10]) q (fun r hr' => hr r (.tail _ hr')) (by rw [← ht]; exact hsz) hpre' (by rw [hlen]; omega) fun i h1 h2 => by
        rw [← ht]
        rw [hlen] at h2
        by_cases hi : i < pre.length
        · exact hno i h1 hi
        · by_cases hi2 : pre.length < i
          · exact mid i hi2 h2
          · have : i = pre.length := by omega
            subst this
            rintro ⟨_, _, h3⟩
            rw [hat] at h3
            cases r with
            | nil => cases h3
            | cons c r' => exact hd h3
      rw [← ht] at hm hf
      refine ⟨ms, hm, ?_, by simp; omega⟩
      rw [hf]
      have : (pre ++ r ++ [13, 10]).drop q = pre.drop q ++ (r ++ [13, 10]) := by rw [List.append_assoc, List.drop_append_of_le_length hq]
      rw [this]
      simp [catD, dbl_no hd]
end Mine
end
section
open PySem PySem.W PyProof.Rows PySem.Builtin PySem.Builtin.Str
set_option Elab.async false
set_option maxRecDepth 100000
set_option linter.unusedVariables false
namespace Mine
variable {K : Cx} {prog : Program} {w : World} {A : Around} {E : Value → Shared → Prop} {s : Shared}
/-- the two patterns and CRLF of the top -/
structure Pats (K : Cx) : Prop where
  one : ∃ a, K.mg "_twin_re_1" = some (.ref a) ∧ ∀ s : Shared, Wd K s.heap → PatAt s.heap a code1
  two : ∃ a, K.mg "_twin_re_2" = some (.ref a) ∧ ∀ s : Shared, Wd K s.heap → PatAt s.heap a code2
  crlf : ∃ t, K.mg "CRLF" = some (.str ⟨#[13, 10]⟩ t)
theorem cat_le : ∀ rows : List (List Nat × List Nat), (∀ q ∈ rows, RowOk q) → (cat rows).length ≤ (catN rows).length
  | [], _ => Nat.le_refl _
  | q :: rows, h => by
    have := cat_le rows fun r hr => h r (.tail _ hr)
    have he : q.2.length ≤ 2 := by rcases (h q (.head _)).2.2 with e | e | e <;> rw [e] <;> decide
    simp only [cat, catN, List.flatMap_cons, List.length_append] at this ⊢
    simp only [List.length_cons, List.length_nil]
    omega
theorem catN_R (rows : List (List Nat × List Nat)) : catN rows = catR (rows.map (·.1)) := by simp [catN, catR, List.flatMap_map]
theorem catR_len : ∀ rows : List (List Nat), rows.length ≤ (catR rows).length
  | [] => Nat.le_refl _
  | r :: rows => by
    have := catR_len rows
    simp only [catR, List.flatMap_cons, List.length_append, List.length_cons, List.length_nil] at this ⊢
    omega
theorem dbl_len (r : List Nat) : (dbl r).length ≤ r.length + 1 := by
  unfold dbl; split <;> simp
theorem catD_len : ∀ rows : List (List Nat), (catD rows).length ≤ (catR rows).length + rows.length
  | [] => Nat.le_refl _
  | r :: rows => by
    have := catD_len rows
    have := dbl_len r
    simp only [catR, catD, List.flatMap_cons, List.length_append, List.length_cons, List.length_nil] at this ⊢
    simp only [catR, catD] at *
    omega
theorem quote_spec (PT : Pats K) {rows : List (List Nat × List Nat)} (hr : ∀ q ∈ rows, RowOk q) (hne : rows ≠ []) (hsz : (catN rows).length ≤ 5000) {t1 : Tok} {a : Addr} {Q : Value → Shared → Prop} (W : Wd K s.heap) (hf : HasFn K.mg s.heap (fn 12) a)
    (hroom : A.depth < recursionLimit) (h : ∀ s' t, Keeps s s' → Q (.str ⟨(catD (rows.map (·.1))).toArray⟩ t) s') : Wp prog w A (call (.ref a) [.str ⟨(cat rows).toArray⟩ t1]) Q E s := by
  refine enter [] (binds := [("data", .str ⟨(cat rows).toArray⟩ t1)]) W hf hroom (fun _ _ _ => by rfl) (locs (by kernel_rfl)) (fun env s₁ x _ => ?_) (fun _ _ h => nomatch h)
  obtain ⟨a1, e1, h1⟩ := PT.one
  obtain ⟨a2, e2, h2⟩ := PT.two
  obtain ⟨tc, ec⟩ := PT.crlf
  obtain ⟨ms2, m2, f2, l2⟩ := sub2_ms rows [] hr
  simp only [List.nil_append, List.length_nil] at m2 f2
  have hlr : (catR (rows.map (·.1))).length ≤ 5000 := by rw [← catN_R]; exact hsz
  obtain ⟨ms1, m1, f1, l1⟩ := sub1_ms (rows.map (·.1)) [] 0 (fun r hr' c hc e => by
    obtain ⟨q, hq, rfl⟩ := List.mem_map.1 hr'
    have := (hr q hq).1 c hc
    rw [e] at this; cases this) (by simp; omega) (.inl rfl) (Nat.le_refl _) (fun i h1 h2 => by simp at h2)
  simp only [List.nil_append, List.drop_nil] at m1 f1
  have hc : (cat rows).length ≤ 5000 := Nat.le_trans (cat_le rows hr) hsz
  have hrows : rows.length ≤ 5000 := by have := catR_len (rows.map (·.1)); rw [List.length_map] at this; omega
  have hl1 : ms1.length ≤ 5000 := by rw [List.length_map] at l1; omega
  have hd : (catD (rows.map (·.1))).length ≤ 10000 := by
    have := catD_len (rows.map (·.1)); rw [List.length_map] at this; omega
  have hn2 : catN rows ≠ [] := by
    cases rows with
    | nil => exact absurd rfl hne
    | cons q r => simp [catN]
  have hn1 : catD (rows.map (·.1)) ≠ [] := by
    cases rows with
    | nil => exact absurd rfl hne
    | cons q r => simp [catD]
  have ok2 : JoinOk (Str.ofString "") (pieces (cat rows).toArray ⟨#[13, 10]⟩ 0 ms2) = true := joinOk_of (by rw [f2]; omega)
  have ok1 : JoinOk (Str.ofString "") (pieces (catR (rows.map (·.1))).toArray ⟨#[46, 46]⟩ 0 ms1) = true := joinOk_of (by rw [f1]; omega)
  refine cons_ (ret_ (sub_ (ldg x.rd e1 ⟨a1, code1, rfl, h1 _ x.w, cstr fun s₂ t₂ k2 => ?_⟩)))
  refine sub_ (ldg (x.rd.after k2) e2 ⟨a2, code2, rfl, h2 _ (x.w.after k2), ldg (x.rd.after k2) ec (ldv (x.rd.after k2) rfl ⟨⟨#[13, 10]⟩, tc, (cat rows).toArray, t1, ms2, rfl, rfl, kp_rfl, by decide +kernel, by simpa using Nat.le_trans hc (by decide), m2, by omega, ?_, ok2, fun s₃ t₃ k3 => ?_⟩)⟩)
  · intro e; rw [e] at f2; exact hn2 f2.symm
  rw [join_flat, f2, catN_R]
  refine ⟨⟨#[46, 46]⟩, t₂, (catR (rows.map (·.1))).toArray, t₃, ms1, rfl, rfl, kp_trans k2 k3, by decide +kernel, by simpa using Nat.le_trans hlr (by decide), m1, by omega, ?_, ok1, fun s₄ t₄ k4 => ?_⟩
  · intro e; rw [e] at f1; exact hn1 f1.symm
  rw [join_flat, f1]
  exact fin_ x.keeps (kp_trans k2 (kp_trans k3 k4)) (h _ _)
end Mine
end
section
open PySem PySem.W PyProof.Rows PySem.Builtin PySem.Builtin.Str
set_option Elab.async false
set_option maxRecDepth 100000
set_option linter.unusedVariables false
namespace Mine
open StrLaws
noncomputable abbrev crlf : Str := ⟨#[13, 10]⟩
theorem occ_skip (s sub : Str) (hi limit : Nat) : ∀ (l : List Nat) (st : Array Nat × Nat), (∀ i ∈ l, ¬ (st.2 ≤ i ∧ At s sub hi i)) → forIn l st (occBody s sub hi limit) = (pure st : Id _)
  | [], st, _ => rfl
  | a :: l, st, h => by
    rw [List.forIn_cons]
    have ha := h a (.head _)
    have : occBody s sub hi limit a st = pure (ForInStep.yield st) := by
      unfold occBody
      rw [if_neg (fun c => ha ⟨c.1.1.2, c.1.2, c.2⟩)]
    rw [this]
    exact occ_skip s sub hi limit l st fun i hi => h i (.tail _ hi)
theorem occ_skip_app (s sub : Str) (hi limit : Nat) (m : List Nat) : ∀ (l : List Nat) (st : Array Nat × Nat), (∀ i ∈ l, ¬ (st.2 ≤ i ∧ At s sub hi i)) → forIn (l ++ m) st (occBody s sub hi limit) = forIn m st (occBody s sub hi limit)
  | [], st, _ => rfl
  | a :: l, st, h => by
    rw [List.cons_append, List.forIn_cons]
    have ha := h a (.head _)
    have : occBody s sub hi limit a st = pure (ForInStep.yield st) := by
      unfold occBody
      rw [if_neg (fun c => ha ⟨c.1.1.2, c.1.2, c.2⟩)]
    rw [this]
    exact occ_skip_app s sub hi limit m l st fun i hi => h i (.tail _ hi)
noncomputable def cutsOf : Nat → List (List Nat) → List Nat
  | _, [] => []
  | a, r :: rows => (a + r.length) :: cutsOf (a + r.length + 2) rows
theorem at_iff {T : List Nat} {i : Nat} : At ⟨T.toArray⟩ crlf T.length i ↔ T[i]? = some 13 ∧ T[i + 1]? = some 10 := by
  unfold At
  rw [subAt_eq]
  show i + 2 ≤ T.length ∧ ((T.drop i).take 2 == [13, 10]) = true ↔ _
  constructor
  · rintro ⟨h1, h2⟩
    have e := eq_of_beq h2
    have g0 : ((T.drop i).take 2)[0]? = some 13 := by rw [e]; rfl
    have g1 : ((T.drop i).take 2)[1]? = some 10 := by rw [e]; rfl
    simp at g0 g1
    exact ⟨g0, g1⟩
  · rintro ⟨h1, h2⟩
    have l1 : i + 1 < T.length := (List.getElem?_eq_some_iff.1 h2).1
    refine ⟨by omega, ?_⟩
    have e : (T.drop i).take 2 = [13, 10] := by
      rw [List.drop_eq_getElem_cons (by omega), List.drop_eq_getElem_cons (by omega)]
      have e1 := (List.getElem?_eq_some_iff.1 h1).2
      have e2 := (List.getElem?_eq_some_iff.1 h2).2
      simp [e1, e2]
    rw [e]; rfl
theorem occ_rows (limit : Nat) : ∀ (rows : List (List Nat)) (pre : List Nat) (found : Array Nat) (free : Nat), (∀ r ∈ rows, ∀ c ∈ r, c ≠ 13) → free ≤ pre.length → found.size + rows.length ≤ limit →
    (forIn (List.range' pre.length ((pre ++ catR rows).length + 1 - pre.length)) (found, free) (occBody ⟨(pre ++ catR rows).toArray⟩ crlf (pre ++ catR rows).length limit)).run.1.toList = found.toList ++ cutsOf pre.length rows
  | [], pre, found, free, _, _, _ => by
    rw [occ_skip]
    · simp [cutsOf]
    · rintro i hi ⟨_, h⟩
      rw [at_iff] at h
      have := (List.getElem?_eq_some_iff.1 h.1).1
      rw [List.mem_range'_1] at hi
      simp [catR] at this
      omega
  | r :: rows, pre, found, free, hr, hf, hl => by
    have ht : pre ++ catR (r :: rows) = (pre ++ r ++ [13, 10]) ++ catR rows := by simp [catR]
    have hlen : (pre ++ r ++ [13, 10]).length = pre.length + r.length + 2 := by simp; omega
    have hT : (pre ++ catR (r :: rows)).length = pre.length + r.length + 2 + (catR rows).length := by rw [ht, List.length_append, hlen]
    have e1 : List.range' pre.length ((pre ++ catR (r :: rows)).length + 1 - pre.length) = List.range' pre.length r.length ++ ((pre.length + r.length) :: (pre.length + r.length + 1) :: List.range' (pre.length + r.length + 2) ((catR rows).length + 1)) := by
      rw [hT, show pre.length + r.length + 2 + (catR rows).length + 1 - pre.length = r.length + ((catR rows).length + 3) by omega, ← List.range'_append_1]
      rfl
    have g : ∀ i, pre.length ≤ i → i < pre.length + r.length → (pre ++ catR (r :: rows))[i]? ≠ some 13 := fun i h1 h2 => by
      rw [ht, List.getElem?_append_left (by rw [hlen]; omega), List.getElem?_append_left (by simp; omega), List.getElem?_append_right h1, List.getElem?_eq_getElem (by omega)]
      intro e
      exact hr r (.head _) _ (List.getElem_mem _) (Option.some.inj e)
    have hat : At ⟨(pre ++ catR (r :: rows)).toArray⟩ crlf (pre ++ catR (r :: rows)).length (pre.length + r.length) := by
      rw [at_iff, ht]
      refine ⟨?_, ?_⟩
      · rw [List.getElem?_append_left (by rw [hlen]; omega), List.getElem?_append_right (by simp), List.length_append, Nat.sub_self]; rfl
      · rw [List.getElem?_append_left (by rw [hlen]; omega), List.getElem?_append_right (by simp), List.length_append]; simp
    have ih := occ_rows limit rows (pre ++ r ++ [13, 10]) (found.push (pre.length + r.length)) (pre.length + r.length + 2) (fun r' h => hr r' (.tail _ h)) (by rw [hlen]; exact Nat.le_refl _) (by simp at hl ⊢; omega)
    rw [← ht, hlen] at ih
    rw [e1, occ_skip_app]
    · rw [List.forIn_cons]
      have b1 : occBody ⟨(pre ++ catR (r :: rows)).toArray⟩ crlf (pre ++ catR (r :: rows)).length limit (pre.length + r.length) (found, free) = pure (ForInStep.yield (found.push (pre.length + r.length), pre.length + r.length + 2)) := by
        unfold occBody
        rw [if_pos ⟨⟨⟨by show found.size < limit; rw [List.length_cons] at hl; omega, by show free ≤ _; omega⟩, hat.1⟩, hat.2⟩]; rfl
      rw [b1, pure_bind]
      dsimp only
      rw [List.forIn_cons]
      have b2 : occBody ⟨(pre ++ catR (r :: rows)).toArray⟩ crlf (pre ++ catR (r :: rows)).length limit (pre.length + r.length + 1) (found.push (pre.length + r.length), pre.length + r.length + 2) = pure (ForInStep.yield (found.push (pre.length + r.length), pre.length + r.length + 2)) := by
        unfold occBody
        rw [if_neg]
        rintro ⟨⟨⟨_, h⟩, _⟩, _⟩
        simp at h
      rw [b2, pure_bind]
      dsimp only
      have e2 : (pre ++ catR (r :: rows)).length + 1 - (pre.length + r.length + 2) = (catR rows).length + 1 := by rw [hT]; omega
      rw [e2] at ih
      rw [ih]
      simp [cutsOf]
    · rintro i hi ⟨_, h⟩
      rw [List.mem_range'_1] at hi
      rw [at_iff] at h
      exact g i hi.1 (by omega) h.1
theorem parts_rows : ∀ (rows : List (List Nat)) (pre : List Nat), partsFrom ⟨(pre ++ catR rows).toArray⟩ 2 pre.length (cutsOf pre.length rows) = rows.map (fun r => (⟨r.toArray⟩ : Str)) ++ [⟨#[]⟩]
  | [], pre => by
    have : strSub ⟨(pre ++ catR []).toArray⟩ pre.length (Str.length ⟨(pre ++ catR []).toArray⟩) = ⟨#[]⟩ := by
      unfold strSub Str.length
      simp [catR]
    simp [cutsOf, partsFrom, this]
  | r :: rows, pre => by
    have ht : pre ++ catR (r :: rows) = (pre ++ r ++ [13, 10]) ++ catR rows := by simp [catR]
    have hlen : (pre ++ r ++ [13, 10]).length = pre.length + r.length + 2 := by simp; omega
    have ih := parts_rows rows (pre ++ r ++ [13, 10])
    rw [← ht, hlen] at ih
    unfold cutsOf partsFrom
    rw [ih]
    have : strSub ⟨(pre ++ catR (r :: rows)).toArray⟩ pre.length (pre.length + r.length) = ⟨r.toArray⟩ := by
      have := extract_mid pre r ([13, 10] ++ catR rows)
      unfold strSub
      rw [show pre ++ catR (r :: rows) = pre ++ r ++ ([13, 10] ++ catR rows) by simp [catR]]
      congr 1
      apply Array.ext'
      exact this
    rw [this]; rfl
theorem split_occ {rows : List (List Nat)} (h : ∀ r ∈ rows, ∀ c ∈ r, c ≠ 13) : occurrences ⟨(catR rows).toArray⟩ crlf 0 (Str.length ⟨(catR rows).toArray⟩) (Str.length ⟨(catR rows).toArray⟩ + 1) = cutsOf 0 rows := by
  have hl : Str.length ⟨(catR rows).toArray⟩ = (catR rows).length := by simp [Str.length]
  rw [occ_eq, hl]
  have := occ_rows ((catR rows).length + 1) rows [] #[] 0 h (Nat.le_refl _) (by have := catR_len rows; simp; omega)
  simp only [List.nil_append, List.length_nil] at this
  rw [this]
theorem split_parts {rows : List (List Nat)} (h : ∀ r ∈ rows, ∀ c ∈ r, c ≠ 13) : partsBetween ⟨(catR rows).toArray⟩ (occurrences ⟨(catR rows).toArray⟩ crlf 0 (Str.length ⟨(catR rows).toArray⟩) (Str.length ⟨(catR rows).toArray⟩ + 1)) crlf.length = rows.map (fun r => (⟨r.toArray⟩ : Str)) ++ [⟨#[]⟩] := by
  rw [split_occ h, partsBetween_eq]
  exact parts_rows rows []
theorem split_rows {rows : List (List Nat)} (h : ∀ r ∈ rows, ∀ c ∈ r, c ≠ 13) (hne : rows ≠ []) : Txt.split ⟨(catR rows).toArray⟩ crlf = rows.map (fun r => (⟨r.toArray⟩ : Str)) ++ [⟨#[]⟩] := by
  unfold Txt.split
  rw [if_neg, if_neg, split_parts h]
  · rw [split_occ h]
    cases rows with
    | nil => exact absurd rfl hne
    | cons r rows => simp [cutsOf]
  · have h1 : 2 ≤ (catR rows).length := by
      cases rows with
      | nil => exact absurd rfl hne
      | cons r rows => simp [catR]; omega
    have h2 : 1 ≤ PySem.Builtin.Str.strKind ⟨(catR rows).toArray⟩ := by
      unfold PySem.Builtin.Str.strKind
      split
      · decide
      · split <;> decide
    have h3 : PySem.Builtin.Str.strKind crlf = 1 := by decide +kernel
    have h4 : crlf.length = 2 := rfl
    have hl : Str.length ⟨(catR rows).toArray⟩ = (catR rows).length := by simp [Str.length]
    rw [hl, h4, h3]
    simp
    omega
theorem catD_R (rows : List (List Nat)) : catD rows = catR (rows.map dbl) := by simp [catD, catR, List.flatMap_map]
theorem dbl_mem {r : List Nat} {c : Nat} (h : c ∈ dbl r) : c ∈ r := by
  unfold dbl at h
  split at h
  · cases h with
    | head => exact .head _
    | tail _ h => exact h
  · exact h
end Mine
end
section
open PySem PySem.SeqAt PySem.W PyProof.Rows PySem.Builtin PySem.Builtin.Str
set_option Elab.async false
set_option maxRecDepth 100000
set_option linter.unusedVariables false
namespace Mine
theorem pr_set {α β : Type} {F : α → β → Prop} {a : α} {b : β} (hab : F a b) : ∀ {l : List α} {m : List β}, Paired F l m → ∀ (i : Nat), Paired F (l.set i a) (m.set i b)
  | _, _, .nil, i => .nil
  | _, _, .cons h1 h2, 0 => .cons hab h2
  | _, _, .cons h1 h2, i + 1 => .cons h1 (pr_set hab h2 i)
theorem pr_app {α β : Type} {F : α → β → Prop} : ∀ {l l' : List α} {m m' : List β}, Paired F l m → Paired F l' m' → Paired F (l ++ l') (m ++ m')
  | _, _, _, _, .nil, h => h
  | _, _, _, _, .cons h1 h2, h => .cons h1 (pr_app h2 h)
theorem pr_rev {α β : Type} {F : α → β → Prop} : ∀ {l : List α} {m : List β}, Paired F l m → Paired F l.reverse m.reverse
  | _, _, .nil => .nil
  | _, _, .cons h1 h2 => by
    rw [List.reverse_cons, List.reverse_cons]
    exact pr_app (pr_rev h2) (.cons h1 .nil)
theorem pr_take {α β : Type} {F : α → β → Prop} : ∀ {l : List α} {m : List β}, Paired F l m → ∀ (i : Nat), Paired F (l.take i) (m.take i)
  | _, _, h, 0 => by simp; exact .nil
  | _, _, .nil, i + 1 => .nil
  | _, _, .cons h1 h2, i + 1 => .cons h1 (pr_take h2 i)
theorem pr_comp {α β γ : Type} {F : α → β → Prop} {R : α → γ → Prop} {T : β → γ → Prop} : ∀ {us : List α} {ys : List β} {rs : List γ}, Paired F us ys → Paired R us rs → (∀ a b c, c ∈ rs → F a b → R a c → T b c) → Paired T ys rs
  | _, _, _, .nil, .nil, _ => .nil
  | _, _, _, .cons h1 h2, .cons g1 g2, h => .cons (h _ _ _ (.head _) h1 g1) (pr_comp h2 g2 fun a b c hc => h a b c (.tail _ hc))
theorem pr_get' {α β : Type} {F : α → β → Prop} : ∀ {l : List α} {m : List β}, Paired F l m → ∀ {i : Nat} {a : α}, l[i]? = some a → ∃ b, m[i]? = some b ∧ F a b
  | _, _, .nil, i, b, h => by simp at h
  | _, _, .cons h1 h2, 0, b, h => by simp at h; subst h; exact ⟨_, rfl, h1⟩
  | _, _, .cons h1 h2, i + 1, b, h => pr_get' h2 (by simpa using h)
/-- what a comprehension with a test keeps, told of the other list -/
theorem pr_filter {β γ : Type} {R : Value → β → Prop} {F : Value → Value → Prop} {T : Value → γ → Prop} {p : Value → Bool} {q : β → Bool} {g : β → γ} : ∀ {us : List Value} {rs : List β}, Paired R us rs → (∀ v b, b ∈ rs → R v b → p v = q b) → (∀ v y b, b ∈ rs → q b = true → R v b → F v y → T y (g b)) →
    ∀ {ys : List Value}, Paired F (us.filter p) ys → Paired T ys ((rs.filter q).map g)
  | _, _, .nil, _, _, _, h => by cases h; exact .nil
  | v :: us, b :: rs, .cons h1 h2, hp, hT, ys, h => by
    have e := hp v b (.head _) h1
    by_cases hb : q b = true
    · rw [List.filter_cons_of_pos (by rw [e]; exact hb)] at h
      rw [List.filter_cons_of_pos hb, List.map_cons]
      cases h with
      | cons g1 g2 => exact .cons (hT _ _ _ (.head _) hb h1 g1) (pr_filter h2 (fun v b hb => hp v b (.tail _ hb)) (fun v y b hb => hT v y b (.tail _ hb)) g2)
    · rw [List.filter_cons_of_neg (by rw [e]; exact hb)] at h
      rw [List.filter_cons_of_neg hb]
      exact pr_filter h2 (fun v b hb => hp v b (.tail _ hb)) (fun v y b hb => hT v y b (.tail _ hb)) h
noncomputable abbrev IntV (v : Value) (n : Int) : Prop := ∃ t, v = .int n t
theorem ints_pr : ∀ {vs : List Value} {ns : List Int}, IntsAre vs ns → Paired IntV vs ns
  | _, _, .nil => .nil
  | _, _, .cons n t h => .cons ⟨t, rfl⟩ (ints_pr h)
theorem pr_ints : ∀ {vs : List Value} {ns : List Int}, Paired IntV vs ns → IntsAre vs ns
  | _, _, .nil => .nil
  | _, _, .cons ⟨t, e⟩ h => by subst e; exact .cons _ t (pr_ints h)
theorem str_app (a b : List Nat) : (⟨a.toArray⟩ ++ ⟨b.toArray⟩ : Str) = ⟨(a ++ b).toArray⟩ := by
  apply Str.ext'
  show a.toArray ++ b.toArray = _
  simp
theorem strW_of : ∀ {l : List (Str × Tok)} {ls : List (List Nat)}, l.map (·.1) = ls.map (fun r => (⟨r.toArray⟩ : Str)) → Paired StrW (strValues l) ls
  | [], [], _ => .nil
  | [], _ :: _, h => by simp at h
  | _ :: _, [], h => by simp at h
  | (x, t) :: l, r :: ls, h => by
    simp at h
    obtain ⟨rfl, h⟩ := h
    exact .cons ⟨t, rfl⟩ (strW_of (by simpa using h))
theorem strW_to : ∀ {vs : List Value} {ls : List (List Nat)}, Paired StrW vs ls → ∃ l, vs = strValues l ∧ l.map (·.1) = ls.map (fun r => (⟨r.toArray⟩ : Str))
  | _, _, .nil => ⟨[], rfl, rfl⟩
  | _, _, .cons ⟨t, e⟩ h => by
    obtain ⟨l, rfl, e2⟩ := strW_to h
    exact ⟨(_, t) :: l, by rw [e]; rfl, by rw [List.map_cons, e2]; rfl⟩
theorem strW_inj {v : Value} {l l' : List Nat} (h : StrW v l) (h' : StrW v l') : l = l' := by
  obtain ⟨t, rfl⟩ := h
  obtain ⟨t', e⟩ := h'
  injection e with e1 _
  injection e1 with e2
  simpa using e2
noncomputable abbrev castI (l : List Nat) : List Int := l.map fun (n : Nat) => (n : Int)
theorem getD_some {α : Type} {d : α} {l : List α} {i : Nat} (h : i < l.length) : l[i]? = some (l.getD i d) := by
  rw [List.getD_eq_getElem?_getD, List.getElem?_eq_getElem h]; rfl
theorem fmod_nat (a b : Nat) : (a : Int).fmod (b : Int) = ((a % b : Nat) : Int) := (Int.ofNat_fmod a b).symm
theorem fdiv_nat (a b : Nat) : (a : Int).fdiv (b : Int) = ((a / b : Nat) : Int) := (Int.ofNat_fdiv a b).symm
theorem ints_take : ∀ {vs : List Value} {ns : List Int}, IntsAre vs ns → ∀ k, IntsAre (vs.take k) (ns.take k)
  | _, _, h, 0 => by simp; exact .nil
  | _, _, .nil, k + 1 => .nil
  | _, _, .cons n t h, k + 1 => .cons n t (ints_take h k)
theorem ints_drop : ∀ {vs : List Value} {ns : List Int}, IntsAre vs ns → ∀ k, IntsAre (vs.drop k) (ns.drop k)
  | _, _, h, 0 => h
  | _, _, .nil, k + 1 => .nil
  | _, _, .cons n t h, k + 1 => ints_drop h k
theorem same_list {us vs : List Value} (hl : us.length = vs.length) (h : ∀ (j : Nat) v, us[j]? = some v → vs[j]? = some v) : us = vs := by
  apply List.ext_getElem?
  intro i
  by_cases hi : i < us.length
  · rw [List.getElem?_eq_getElem hi]; exact (h i _ (List.getElem?_eq_getElem hi)).symm
  · rw [List.getElem?_eq_none (by omega), List.getElem?_eq_none (by omega)]
theorem castI_sum : ∀ ns : List Nat, (castI ns).sum = ((ns.sum : Nat) : Int)
  | [] => rfl
  | n :: ns => by
    have := castI_sum ns
    show (n : Int) + (castI ns).sum = _
    rw [this, List.sum_cons]; omega
theorem range_all {n : Nat} {p : Nat → Bool} (h : (List.range n).all p = true) {i : Nat} (hi : i < n) : p i = true := List.all_eq_true.1 h i (List.mem_range.2 hi)
theorem revPick (vs : List Value) : (slicePick vs.toArray none none (some (-1))).toList = vs.reverse := by
  unfold slicePick
  have e : sliceBounds none none (some (-1)) vs.toArray.size = ((vs.length : Int) - 1, -1, -1) := by
    simp [sliceBounds]
  rw [e]
  dsimp only
  unfold sliceRange
  rw [if_neg (by decide)]
  dsimp only
  have hn : (if (vs.length : Int) - 1 > -1 then ((vs.length : Int) - 1 - -1 - -1 - 1) / -(-1) else 0) = (vs.length : Int) := by
    split
    · rw [show (-(-1) : Int) = 1 from rfl, Int.ediv_one]; omega
    · omega
  rw [hn, Int.toNat_natCast, List.filterMap_map]
  have key : ∀ m, m ≤ vs.length → (List.range m).filterMap ((fun x => vs.toArray[x]?) ∘ fun (k : Nat) => (((vs.length : Int) - 1) + -1 * (k : Int)).toNat) = vs.reverse.take m := by
    intro m
    induction m with
    | zero => intro _; rfl
    | succ m ih =>
      intro hm
      rw [List.range_succ, List.filterMap_append, ih (by omega), List.take_add_one]
      congr 1
      have e1 : (((vs.length : Int) - 1) + -1 * (m : Int)).toNat = vs.length - 1 - m := by omega
      simp only [List.filterMap_cons, List.filterMap_nil, Function.comp]
      rw [e1, List.getElem?_toArray, List.getElem?_reverse (by omega)]
      cases vs[vs.length - 1 - m]? <;> rfl
  have := key vs.length (Nat.le_refl _)
  rw [List.take_of_length_le (by simp)] at this
  rw [← this]
end Mine
end
section
open PySem PySem.SeqAt PySem.W PyProof.Rows PySem.Builtin PySem.Builtin.Str
set_option Elab.async false
set_option maxRecDepth 100000
set_option linter.unusedVariables false
namespace Mine
variable {K : Cx} {prog : Program} {w : World} {A : Around} {E : Value → Shared → Prop} {s : Shared}
/-- card / j -/
noncomputable def turnF (c j : Nat) : UInt64 := Float64.ofFrac (decide ((c : Int) < 0) != decide ((j : Int) < 0)) (c : Int).natAbs (j : Int).natAbs
noncomputable def pR (H : UInt64) : UInt64 := vF 0 f1 (Float64.add H c13)
noncomputable def pG (H : UInt64) : UInt64 := vF 0 f1 H
noncomputable def pB (H : UInt64) : UInt64 := vF 0 f1 (Float64.sub H c13)
noncomputable def spot (c j : Nat) : UInt64 := Float64.add (Float64.mul (rgbH (pR (turnF c j)) (pG (turnF c j)) (pB (turnF c j))) (Float64.ofInt (j : Int))) fh
noncomputable def placeOk (c j : Nat) : Bool := !Float64.isInf (turnF c j) && rgbOk (pR (turnF c j)) (pG (turnF c j)) (pB (turnF c j)) && !Float64.isInf (Float64.ofInt (j : Int)) && (match trc (spot c j) with | some k => k.fmod (j : Int) == ((c % j : Nat) : Int) | none => false)
theorem place_all : ((List.range 7).all fun c => (List.range 8).all fun j => decide (j < 2) || placeOk c j) = true := by decide +kernel
theorem place_spec (TT : Tops K) (BT : Bt K) (f5 : fn 5 ∈ K.fs) (f6 : fn 6 ∈ K.fs) (f7 : fn 7 ∈ K.fs) {c j : Nat} (hc : c < 7) (h2 : 2 ≤ j) (hj : j < 8) {t1 t2 : Tok} {a : Addr} {Q : Value → Shared → Prop} (W : Wd K s.heap) (hf : HasFn K.mg s.heap (fn 21) a)
    (hroom : A.depth + 2 < recursionLimit) (hh : A.handled = none) (h : ∀ s' t, Keeps s s' → Q (.int ((c % j : Nat) : Int) t) s') : Wp prog w A (call (.ref a) [.int (c : Int) t1, .int (j : Int) t2]) Q E s := by
  have ok : placeOk c j = true := by
    have := range_all (range_all place_all hc) hj
    rw [decide_eq_false (by omega), Bool.false_or] at this
    exact this
  unfold placeOk at ok
  simp only [Bool.and_eq_true, Bool.not_eq_true'] at ok
  obtain ⟨⟨⟨o1, o2⟩, o3⟩, o4⟩ := ok
  obtain ⟨k, hk, hkj⟩ : ∃ k, trc (spot c j) = some k ∧ k.fmod (j : Int) = ((c % j : Nat) : Int) := by
    revert o4
    cases trc (spot c j) with
    | none => intro h; cases h
    | some k => intro h; exact ⟨k, rfl, eq_of_beq h⟩
  refine enter [] (binds := [("card", .int (c : Int) t1), ("j", .int (j : Int) t2)]) W hf (by omega) (fun _ _ _ => by rfl) (locs (by kernel_rfl)) (fun env s₁ x _ => ?_) (fun _ _ h => nomatch h)
  have hr1 : (A.deeper env).depth + 1 < recursionLimit := by show A.depth + 1 + 1 < _; omega
  have hr0 : (A.deeper env).depth < recursionLimit := by omega
  have hh' : (A.deeper env).handled = none := hh
  have hj0 : (j : Int) ≠ 0 := by omega
  -- paint
  refine seq (asg (callF3 x.rd f6 fun a6 ha6 => bin (ldv x.rd rfl (ldv x.rd rfl (iidiv (by simpa using hj0) (by show ¬ Float64.isInf (turnF c j) = true; rw [o1]; exact Bool.false_ne_true) fun s₅ t₅ k5 => ?_)))))
  refine cflt fun s₆ t₆ k6 => cflt fun s₇ t₇ k7 => ⟨kp_trans k5 (kp_trans k6 k7), ?_⟩
  have kk := kp_trans k5 (kp_trans k6 k7)
  replace x := x.after kk
  refine hls_spec TT f7 x.w (ha6.keeps fun b o e => kp_get kk e) hr1 fun s₈ P p1 p2 p3 k8 hP hP' => ?_
  replace x := x.fresh k8 hP hP'
  refine stv x fun s₉ x => ⟨rfl, ?_⟩
  have gP := (x.mine _ (.head _)).1
  refine cons_ (ret_ (bin (callT1 x.rd BT.tInt.1 BT.tInt.2 (bin (bin (sub1 (callF3 x.rd f5 fun a5 ha5 => ?_)))))))
  refine sub1 (ldv x.rd rfl (cint fun s₂ t₂ k2 => itemT (kp_get k2 gP) (by decide) (by decide) rfl ?_))
  refine sub1 (ldv (x.rd.after k2) rfl (cint fun s₃ t₃ k3 => itemT (kp_get k3 (kp_get k2 gP)) (by decide) (by decide) rfl ?_))
  refine sub1 (ldv ((x.rd.after k2).after k3) rfl (cint fun s₄ t₄ k4 => itemT (kp_get k4 (kp_get k3 (kp_get k2 gP))) (by decide) (by decide) rfl ?_))
  have k1 := kp_trans k2 (kp_trans k3 k4)
  refine ⟨k1, rgb_spec BT (x.w.after k1) (ha5.keeps fun b o e => kp_get k1 e) hr0 hh' o2 fun s₂ D l sv u1 u2 u3 k2 hD hD' => ?_⟩
  refine cint fun s₃ t₃ k3 => itemT (kp_get k3 hD') (by decide) (by decide) rfl ?_
  have kk := kp_trans k1 (kp_trans k2 k3)
  refine ldv (x.rd.after kk) rfl (fimul (by rw [o3]; exact Bool.false_ne_true) fun s₄ t₄ k4 => cflt fun s₅ t₅ k5 => fadd fun s₆ t₆ k6 => intF (k := k) hk fun s₇ t₇ k7 => ?_)
  have kz := kp_trans kk (kp_trans k4 (kp_trans k5 (kp_trans k6 k7)))
  refine ldv (x.rd.after kz) rfl (imod hj0 fun s₈ t₈ k8 => ?_)
  rw [hkj]
  exact fin_ x.keeps (kp_trans kz k8) (h _ _)
end Mine
end
section
open PySem PySem.SeqAt PySem.W PyProof.Rows PySem.Builtin PySem.Builtin.Str
set_option Elab.async false
set_option maxRecDepth 100000
set_option linter.unusedVariables false
namespace Mine
variable {K : Cx} {prog : Program} {w : World} {A : Around} {E : Value → Shared → Prop} {s : Shared}
/-- a row of the mail: is it dotted, its card, its spelling -/
structure Cd where
  dot : Bool
  c : Nat
  m : Nat
noncomputable def sg (c m : Nat) : List Nat := (signS (97 + c) (m : Int)).cps.toList
noncomputable def Cd.text (r : Cd) : List Nat := (if r.dot then [46] else []) ++ sg r.c r.m
noncomputable def evs (ns : List Nat) : Nat := (ns.filter fun n => n % 2 == 0).length
noncomputable def ods (ns : List Nat) : Nat := (ns.filter fun n => !(n % 2 == 0)).length
noncomputable def dealR : Nat → List Nat → List Cd
  | _, [] => []
  | u, n :: r => if n % 2 = 1 then ⟨true, u, n / 2⟩ :: dealR (u + 1) r else ⟨false, evs r, n / 2⟩ :: dealR u r
noncomputable def deal (ns : List Nat) : List Cd := dealR (evs ns) ns
theorem ev_od : ∀ ns : List Nat, evs ns + ods ns = ns.length
  | [] => rfl
  | n :: r => by
    have := ev_od r
    unfold evs ods at *
    cases h : (n % 2 == 0) <;> simp [h] <;> omega
theorem evs_cons (n : Nat) (r : List Nat) : evs (n :: r) = (if n % 2 = 1 then evs r else evs r + 1) := by
  unfold evs
  rcases Nat.mod_two_eq_zero_or_one n with h | h <;> simp [h]
theorem ods_cons (n : Nat) (r : List Nat) : ods (n :: r) = (if n % 2 = 1 then ods r + 1 else ods r) := by
  unfold ods
  rcases Nat.mod_two_eq_zero_or_one n with h | h <;> simp [h]
theorem deal_len : ∀ (ns : List Nat) (u : Nat), (dealR u ns).length = ns.length
  | [], _ => rfl
  | n :: r, u => by
    unfold dealR
    split <;> simp [deal_len r]
theorem glue_cat (el : List Nat) (r : List Nat) (rows : List (List Nat)) : ∃ j, Txt.join ⟨el.toArray⟩ ((r :: rows).map fun x => (⟨x.toArray⟩ : Str)) = ⟨j.toArray⟩ ∧ j ++ el = (r :: rows).flatMap fun x => x ++ el := by
  refine ⟨r ++ rows.flatMap fun x => el ++ x, ?_, ?_⟩
  · show glued _ _ = _
    unfold glued
    congr 1
    have key : ∀ (rows : List (List Nat)) (acc : List Nat), (rows.map fun x => (⟨x.toArray⟩ : Str)).foldl (fun acc p => acc ++ el.toArray ++ p.cps) acc.toArray = (acc ++ rows.flatMap fun x => el ++ x).toArray := by
      intro rows
      induction rows with
      | nil => intro acc; simp
      | cons x rows ih =>
        intro acc
        rw [List.map_cons, List.foldl_cons]
        have : acc.toArray ++ el.toArray ++ (⟨x.toArray⟩ : Str).cps = (acc ++ el ++ x).toArray := by simp
        rw [this, ih]
        simp
    rw [List.map_cons, List.drop_one, List.tail_cons]
    exact key rows r
  · have key : ∀ (rows : List (List Nat)), (rows.flatMap fun x => el ++ x) ++ el = el ++ rows.flatMap fun x => x ++ el := by
      intro rows
      induction rows with
      | nil => simp
      | cons x rows ih => simp only [List.flatMap_cons, List.append_assoc]; rw [ih]
    rw [List.append_assoc, key, List.flatMap_cons, List.append_assoc]
theorem char_abc : ∀ i : Nat, i < 7 → Txt.charAt (Str.ofString "abcdefg") (i : Int) = some (97 + i) := by decide +kernel
theorem fits7 : ∀ i : Nat, i < 7 → fitsSsize (i : Int) = true := by decide +kernel
noncomputable abbrev vm (N : Addr) (e : Str) (te : Tok) (u l : Int) (tu tl : Tok) (R : Addr) : List (Str × Value) := [("rows", .ref R), ("lower", .int l tl), ("upper", .int u tu), ("numbers", .ref N), ("end", .str e te)]
noncomputable def forB (f i : Nat) : List Stmt := match (fBody f)[i]? with
  | some (.For _ _ b _ _) => b
  | _ => []
theorem sg_len (c m : Nat) : (sg c m).length = 2 := rfl
theorem sg_str (c m : Nat) : signS (97 + c) (m : Int) = ⟨(sg c m).toArray⟩ := by
  unfold sg; rfl
/-- one row of the mail -/
theorem mail_turn (BT : Bt K) (f19 : fn 19 ∈ K.fs) {s₀ : Shared} {env : Env} {N R I : Addr} {oI : Obj} {own : List (Addr × Obj)} {e : Str} {te tu tl tn : Tok} {u : Nat} {n : Nat} {r : List Nat} {rvs : List Value} {rc : Nat} {done : List Cd} (hroom : A.depth < recursionLimit) (hh : A.handled = none)
    (hu : u + ods (n :: r) = 7) (hev : evs (n :: r) ≤ 7) (hl : rvs.length ≤ 7) (hr : Paired StrW rvs (done.map Cd.text))
    (x : St K (fn 22).scope s₀ env ((Str.ofString "n", Value.int (n : Int) tn) :: vm N e te (u : Int) ((evs (n :: r) : Nat) - 1 : Int) tu tl R) [] ((I, oI) :: (R, lstO rvs rc) :: own) s) :
    Wp prog w A (execs (forB 22 3) env) (fun f s' => f = .next ∧ ∃ (u' : Nat) (tu' tl' : Tok) (rvs' : List Value) (rc' : Nat) (done' : List Cd), u' + ods r = 7 ∧ done' ++ dealR u' r = done ++ dealR u (n :: r) ∧ rvs'.length = rvs.length + 1 ∧ Paired StrW rvs' (done'.map Cd.text) ∧
      St K (fn 22).scope s₀ env (vm N e te (u' : Int) ((evs r : Nat) - 1 : Int) tu' tl' R) [] ((I, oI) :: (R, lstO rvs' rc') :: own) s') E s := by
  have hz : sizeLine = 2 ^ 24 := rfl
  have gR := x.at [_]
  refine cons_ (ifCmp (bin (ldv x.rd rfl (cint fun s₂ t₂ k2 => imod (by decide) fun s₃ t₃ k3 => cint fun s₄ t₄ k4 => iEq ⟨_, rfl, fun h1 => ?_, fun h1 => ?_⟩))))
  · rw [show (n : Int).fmod 2 = ((n % 2 : Nat) : Int) from fmod_nat n 2] at h1
    have hn : n % 2 = 1 := by have := eq_of_beq h1; omega
    replace x := x.after (kp_trans k2 (kp_trans k3 k4))
    replace gR := kp_get (kp_trans k2 (kp_trans k3 k4)) gR
    clear k2 k3 k4
    rw [ods_cons, if_pos hn] at hu
    rw [evs_cons, if_pos hn] at x
    refine cons_ (app_ (hi := x.noint) (ldv x.rd rfl ⟨R, rfl, (isLst gR).typeIs, ⟨_, gR, rfl⟩, bin (cstr fun s₂ t₂ k2 => callF2 (x.rd.after k2) f19 fun a ha => ?_)⟩))
    refine sub1 (cstr fun s₃ t₃ k3 => ldv ((x.rd.after k2).after k3) rfl (itemS (fits7 u (by omega)) (char_abc u (by omega)) fun s₄ t₄ k4 => ?_))
    refine bin (ldv (((x.rd.after k2).after k3).after k4) rfl (cint fun s₅ t₅ k5 => idiv (by decide) (by decide) fun s₆ t₆ k6 => ?_))
    have kk := kp_trans k3 (kp_trans k4 (kp_trans k5 k6))
    rw [show (n : Int).fdiv 2 = ((n / 2 : Nat) : Int) from fdiv_nat n 2]
    refine ⟨kk, sign_spec BT ((x.w.after k2).after kk) (ha.keeps fun b o e => kp_get kk e) hroom hh (by omega) (by omega) fun s₇ t₇ k7 => ?_⟩
    rw [sg_str]
    refine sadd (by show 1 + (sg u (n / 2)).length ≤ sizeLine; rw [sg_len, hz]; decide) fun s₈ t₈ k8 => ?_
    rw [show (Str.ofString "." : Str) = ⟨[46].toArray⟩ from rfl, str_app]
    have kz := kp_trans k2 (kp_trans kk (kp_trans k7 k8))
    refine ⟨rvs, rc, by omega, kp_get kz gR, fun s₉ up => ?_⟩
    replace x := (x.after kz).updAt [_] up
    clear kk kz k2 k3 k4 k5 k6 k7 k8 up
    refine seq (augv x.rd rfl (cint fun s₂ t₂ k2 => iaug fun s₃ t₃ k3 => stv (x.after (kp_trans k2 k3)) fun s₄ x => ⟨rfl, nil_ (nil_ ⟨rfl, u + 1, t₃, tl, rvs ++ [Value.str ⟨([46] ++ sg u (n / 2)).toArray⟩ t₈], rc + 1, done ++ [⟨true, u, n / 2⟩], by omega, ?_, by simp, ?_, ?_⟩)⟩))
    · rw [show dealR u (n :: r) = ⟨true, u, n / 2⟩ :: dealR (u + 1) r by rw [dealR, if_pos hn]]
      simp
    · rw [List.map_append]
      exact pr_app hr (.cons ⟨t₈, rfl⟩ .nil)
    · rw [show ((u + 1 : Nat) : Int) = (u : Int) + 1 by omega]
      exact x.vars _
  · rw [show (n : Int).fmod 2 = ((n % 2 : Nat) : Int) from fmod_nat n 2] at h1
    have hn : ¬ n % 2 = 1 := by
      intro e
      rw [e] at h1
      exact absurd h1 (by decide)
    replace x := x.after (kp_trans k2 (kp_trans k3 k4))
    replace gR := kp_get (kp_trans k2 (kp_trans k3 k4)) gR
    clear k2 k3 k4
    rw [ods_cons, if_neg hn] at hu
    rw [evs_cons, if_neg hn] at hev
    rw [evs_cons, if_neg hn, show ((evs r + 1 : Nat) : Int) - 1 = ((evs r : Nat) : Int) by omega] at x
    refine cons_ (app_ (hi := x.noint) (ldv x.rd rfl ⟨R, rfl, (isLst gR).typeIs, ⟨_, gR, rfl⟩, callF2 x.rd f19 fun a ha => ?_⟩))
    refine sub1 (cstr fun s₃ t₃ k3 => ldv (x.rd.after k3) rfl (itemS (fits7 (evs r) (by omega)) (char_abc (evs r) (by omega)) fun s₄ t₄ k4 => ?_))
    refine bin (ldv ((x.rd.after k3).after k4) rfl (cint fun s₅ t₅ k5 => idiv (by decide) (by decide) fun s₆ t₆ k6 => ?_))
    have kk := kp_trans k3 (kp_trans k4 (kp_trans k5 k6))
    rw [show (n : Int).fdiv 2 = ((n / 2 : Nat) : Int) from fdiv_nat n 2]
    refine ⟨kk, sign_spec BT (x.w.after kk) (ha.keeps fun b o e => kp_get kk e) hroom hh (by omega) (by omega) fun s₇ t₇ k7 => ?_⟩
    rw [sg_str]
    have kz := kp_trans kk k7
    refine ⟨rvs, rc, by omega, kp_get kz gR, fun s₉ up => ?_⟩
    replace x := (x.after kz).updAt [_] up
    clear kk kz k3 k4 k5 k6 k7 up
    refine seq (augv x.rd rfl (cint fun s₂ t₂ k2 => isug fun s₃ t₃ k3 => stv (x.after (kp_trans k2 k3)) fun s₄ x => ⟨rfl, nil_ (nil_ ⟨rfl, u, tu, t₃, rvs ++ [Value.str ⟨(sg (evs r) (n / 2)).toArray⟩ t₇], rc + 1, done ++ [⟨false, evs r, n / 2⟩], by omega, ?_, by simp, ?_, ?_⟩)⟩))
    · rw [show dealR u (n :: r) = ⟨false, evs r, n / 2⟩ :: dealR u r by rw [dealR, if_neg hn]]
      simp
    · rw [List.map_append]
      exact pr_app hr (.cons ⟨t₇, rfl⟩ .nil)
    · exact x.vars _
end Mine
end
section
open PySem PySem.SeqAt PySem.W PyProof.Rows PySem.Builtin PySem.Builtin.Str
set_option Elab.async false
set_option maxRecDepth 100000
set_option linter.unusedVariables false
namespace Mine
variable {K : Cx} {prog : Program} {w : World} {A : Around} {E : Value → Shared → Prop} {s : Shared}
noncomputable abbrev NatV (v : Value) (n : Nat) : Prop := ∃ t, v = .int (n : Int) t
theorem ints_nat : ∀ {vs : List Value} {ns : List Nat}, IntsAre vs (castI ns) → Paired NatV vs ns
  | _, [], .nil => .nil
  | _, n :: ns, .cons _ t h => .cons ⟨t, rfl⟩ (ints_nat h)
theorem nat_ints : ∀ {vs : List Value} {ns : List Nat}, Paired NatV vs ns → IntsAre vs (castI ns)
  | _, [], .nil => .nil
  | _, n :: ns, .cons ⟨t, e⟩ h => by subst e; exact .cons _ t (nat_ints h)
noncomputable def evenV (v : Value) : Bool := match v with
  | .int n _ => n.fmod 2 == 0
  | _ => false
theorem sum_le (B : Nat) : ∀ l : List Nat, (∀ x ∈ l, x ≤ B) → l.sum ≤ B * l.length
  | [], _ => by simp
  | x :: l, h => by
    have h1 := sum_le B l fun y hy => h y (.tail _ hy)
    have h2 := h x (.head _)
    rw [List.sum_cons, List.length_cons, Nat.mul_add]
    omega
theorem joinOk_small {sep : Str} {l : List Str} (h : ∀ x ∈ l, x.length ≤ 10) (hl : l.length ≤ 10) (hs : sep.length ≤ 10) : JoinOk sep l = true := by
  unfold JoinOk
  rw [StrLaws.joinTotal]
  have h1 := sum_le 10 (l.map (·.length)) fun x hx => by
    obtain ⟨y, hy, rfl⟩ := List.mem_map.1 hx
    exact h y hy
  rw [List.length_map] at h1
  have h2 : l.length * sep.length ≤ 10 * 10 := Nat.mul_le_mul hl hs
  unfold Builtin.Str.tooLong
  have : sizeLine = 16777216 := rfl
  rw [this]
  simp
  omega
theorem glue_len (el : List Nat) (hel : el.length ≤ 2) : ∀ rows : List (List Nat), (∀ r ∈ rows, r.length ≤ 4) → (rows.flatMap fun x => x ++ el).length ≤ 6 * rows.length
  | [], _ => by simp
  | r :: rows, h => by
    have h1 := glue_len el hel rows fun x hx => h x (.tail _ hx)
    have h2 := h r (.head _)
    rw [List.flatMap_cons, List.length_append, List.length_append, List.length_cons]
    omega
theorem text_len (r : Cd) : r.text.length ≤ 3 := by
  unfold Cd.text
  rw [List.length_append, sg_len]
  split <;> simp
/-- the mail as it is written -/
noncomputable def mailL (ns : List Nat) (el : List Nat) : List Nat := ((deal ns).map Cd.text).flatMap fun x => x ++ el
theorem mail_spec (BT : Bt K) (f19 : fn 19 ∈ K.fs) {ns : List Nat} (hns : ns.length = 7) {el : List Nat} (hel : el.length ≤ 2) {nvs : List Value} {nc : Nat} (hN : IntsAre nvs (castI ns)) {N : Addr} {te : Tok} {a : Addr} {Q : Value → Shared → Prop} (W : Wd K s.heap) (hf : HasFn K.mg s.heap (fn 22) a)
    (hNo : s.heap.get? N = some (lstO nvs nc)) (hroom : A.depth + 1 < recursionLimit) (hh : A.handled = none) (h : ∀ s' t, Keeps s s' → Q (.str ⟨(mailL ns el).toArray⟩ t) s') : Wp prog w A (call (.ref a) [.ref N, .str ⟨el.toArray⟩ te]) Q E s := by
  have hz : sizeLine = 2 ^ 24 := rfl
  refine enter [] (binds := [("numbers", .ref N), ("end", .str ⟨el.toArray⟩ te)]) W hf (by omega) (fun _ _ _ => by rfl) (locs (by kernel_rfl)) (fun env s₁ x _ => ?_) (fun _ _ h => nomatch h)
  have hroom' : (A.deeper env).depth < recursionLimit := hroom
  have hh' : (A.deeper env).handled = none := hh
  have hnl : nvs.length = 7 := by rw [hN.length, List.length_map, hns]
  have hP := ints_nat hN
  have eo := ev_od ns
  -- upper
  refine seq (asg (callB1 x.rd BT.len.1 BT.len.2 (comp1 x.rd evenV (fun v y => y = v) (n := nvs.length) (P := fun i v => nvs[i]? = some v) (src := [N]) (fun Q' hQ => ldv x.rd rfl (iterL hh' (x.keep _ _ hNo) fun s' I it => hQ _ _ it)) (by omega) ?_ ?_ ?_)))
  · intro i v s₃ env' E' hv r hk
    obtain ⟨n, _, t, rfl⟩ := pr_get' hP hv
    exact tCmp (bin (ldv r rfl (cint fun s₅ t₅ k5 => imod (by decide) fun s₆ t₆ k6 => cint fun s₇ t₇ k7 => iEq ⟨_, rfl, rfl, kp_trans k5 (kp_trans k6 k7)⟩)))
  · intro i v s₃ env' E' hv _ r hk
    exact ldv r rfl ⟨rfl, kp_rfl⟩
  intro s₃ C ys c us k3 hC hC' hul hus hF
  have := (same_list hul hus).symm
  subst this
  have hys : Paired NatV ys ((ns.filter fun n => n % 2 == 0).map id) := pr_filter (q := fun n => n % 2 == 0) hP (fun v n _ ⟨t, e⟩ => by
      subst e
      show ((n : Int).fmod 2 == 0) = _
      rw [show (n : Int).fmod 2 = ((n % 2 : Nat) : Int) from fmod_nat n 2]
      rcases Nat.mod_two_eq_zero_or_one n with e | e <;> rw [e] <;> rfl) (fun v y n _ _ h1 h2 => by subst h2; exact h1) hF
  have hyl : ys.length = evs ns := by rw [hys.length, List.length_map]; rfl
  refine lenL hC' (by rw [hyl]; omega) fun s₄ t₄ k4 => ?_
  rw [hyl]
  refine stv (x.after (kp_trans k3 k4)) fun s₅ x => ⟨rfl, ?_⟩
  clear k3 k4 hC hC' hF hus hul
  -- lower
  refine seq (asg (bin (ldv x.rd rfl (cint fun s₂ t₂ k2 => isub fun s₃ t₃ k3 => stv (x.after (kp_trans k2 k3)) fun s₄ x => ⟨rfl, ?_⟩))))
  clear k2 k3
  -- rows
  refine seq (asg (listD (splN ⟨Nat.zero_le _, fun s₅ R k5 hE hE' => stv (x.fresh k5 hE hE') fun s₆ x => ⟨rfl, ?_⟩⟩)))
  clear k5 hE hE'
  -- the rows
  have x : St K (fn 22).scope s env (vm N ⟨el.toArray⟩ te ((evs ns : Nat) : Int) ((evs ns : Nat) - 1 : Int) _ _ R) [] [(R, lstO [] 0)] s₆ := x.vars _
  refine cons_ (for_ x (fun i vs cs own => cs = [] ∧ ∃ (u : Nat) (tu tl : Tok) (rvs : List Value) (rc : Nat) (done : List Cd), vs = vm N ⟨el.toArray⟩ te (u : Int) ((evs (ns.drop i) : Nat) - 1 : Int) tu tl R ∧ own = [(R, lstO rvs rc)] ∧ u + ods (ns.drop i) = 7 ∧
      done ++ dealR u (ns.drop i) = deal ns ∧ rvs.length = i ∧ Paired StrW rvs (done.map Cd.text)) [(N, lstO nvs nc)] rfl (P := fun i v => nvs[i]? = some v) (n := nvs.length) ?_ ?_ ?_ ?_ ?_)
  · intro Q' hQ
    exact ldv x.rd rfl (iterL hh' (x.keep _ _ hNo) fun s' I it => hQ _ _ it)
  · exact ⟨rfl, evs ns, _, _, [], 0, [], rfl, rfl, by rw [List.drop_zero, eo, hns], rfl, rfl, .nil⟩
  · rintro i vs cs own _ q hq
    rcases List.mem_cons.1 hq with rfl | hq
    · exact .inr hNo
    · cases hq
  · rintro i val vs cs own I oI s₃ E' ⟨rfl, u, tu, tl, rvs, rc, done, rfl, rfl, hu, hd, hrl, hr⟩ hi hv x
    obtain ⟨n, hn, t, rfl⟩ := pr_get' hP hv
    have hil : i < ns.length := (List.getElem?_eq_some_iff.1 hn).1
    have hdrop : ns.drop i = n :: ns.drop (i + 1) := by
      rw [List.drop_eq_getElem_cons hil, (List.getElem?_eq_some_iff.1 hn).2]
    rw [hdrop] at hu hd x
    have hev : evs (n :: ns.drop (i + 1)) ≤ 7 := by
      rw [← hdrop]
      have := ev_od (ns.drop i)
      rw [List.length_drop] at this
      omega
    refine mono_ (mail_turn BT f19 hroom' hh' hu hev (by omega) hr x) (fun f s' hf => ?_) fun _ _ e => e
    obtain ⟨rfl, u', tu', tl', rvs', rc', done', a1, a2, a3, a4, x'⟩ := hf
    exact ⟨rfl, _, _, _, ⟨rfl, u', tu', tl', rvs', rc', done', rfl, rfl, a1, a2.trans hd, by rw [a3, hrl], a4⟩, x'⟩
  · rintro vs cs own s' ⟨rfl, u, tu, tl, rvs, rc, done, rfl, rfl, hu, hd, hrl, hr⟩ x
    rw [hnl, List.drop_of_length_le (by rw [hns]; exact Nat.le_refl _)] at hd
    have hd' : done = deal ns := by rw [← hd, dealR, List.append_nil]
    subst hd'
    obtain ⟨l, rfl, hl⟩ := strW_to hr
    have hlen : ((deal ns).map Cd.text).length = 7 := by rw [List.length_map]; show (dealR _ _).length = 7; rw [deal_len, hns]
    have htx : ∀ r ∈ (deal ns).map Cd.text, r.length ≤ 3 := fun r hr => by
      obtain ⟨q, _, rfl⟩ := List.mem_map.1 hr
      exact text_len q
    have gR := x.at []
    unfold mailL at h
    generalize hT : (deal ns).map Cd.text = T at hl hlen htx h
    cases T with
    | nil => cases hlen
    | cons r0 T =>
      obtain ⟨j, e1, e2⟩ := glue_cat el r0 T
      have hj : j.length + el.length ≤ 42 := by
        have := congrArg List.length e2
        rw [List.length_append] at this
        have h2 := glue_len el hel (r0 :: T) fun r hr => Nat.le_succ_of_le (htx r hr)
        rw [hlen] at h2
        omega
      refine cons_ (ret_ (bin (join_ (ldv x.rd rfl ⟨_, _, rfl, ldv x.rd rfl ⟨R, l, rc, rfl, gR, ?_, fun s₂ t₂ k2 => ldv (x.rd.after k2) rfl ?_⟩⟩))))
      · rw [hl]
        refine joinOk_small (fun y hy => ?_) (by rw [List.length_map, hlen]; decide) (by show el.toArray.size ≤ 10; rw [List.size_toArray]; omega)
        obtain ⟨r, hr, rfl⟩ := List.mem_map.1 hy
        have := htx r hr
        show r.toArray.size ≤ 10
        rw [List.size_toArray]; omega
      · rw [hl, e1]
        refine sadd (by show j.toArray.size + el.toArray.size ≤ sizeLine; rw [List.size_toArray, List.size_toArray, hz]; omega) fun s₃ t₃ k3 => ?_
        rw [str_app, e2]
        exact fin_ x.keeps (kp_trans k2 k3) (h _ _)
end Mine
end
section
open PySem PySem.SeqAt PySem.W PyProof.Rows PySem.Builtin PySem.Builtin.Str
set_option Elab.async false
set_option maxRecDepth 100000
set_option linter.unusedVariables false
namespace Mine
structure GoodTl (D : Int → Option Str) (c : Nat) (tl : List Nat) : Prop where
  read : flat (readL D tl) = [c]
  clean : ∀ x ∈ tl, x ≠ 10 ∧ x ≠ 13 ∧ x ≠ 46
  low : ∀ x ∈ tl, tooLong (Txt.lower ⟨#[x]⟩).length = false
  ne : tl ≠ []
  len : tl.length ≤ 2
/-- '.' is read as it stands -/
structure DotOk (D : Int → Option Str) : Prop where
  b1 : b1 46 = false
  map : mapF D 46 = ⟨#[46]⟩
  low : tooLong (Txt.lower ⟨#[46]⟩).length = false
theorem read_dots {D : Int → Option Str} (h : DotOk D) : ∀ (d : Nat) (tl : List Nat), flat (readL D (List.replicate d 46 ++ tl)) = List.replicate d 46 ++ flat (readL D tl)
  | 0, tl => rfl
  | d + 1, tl => by
    have ih := read_dots h d tl
    unfold readL at ih ⊢
    rw [List.replicate_succ, List.cons_append, List.filter_cons_of_pos (by rw [h.b1]; rfl), List.map_cons, h.map]
    show [46] ++ flat _ = _
    rw [ih]; rfl
noncomputable def Cd.d (r : Cd) : Nat := if r.dot then 2 else 0
noncomputable def Cd.sent (r : Cd) : List Nat := List.replicate r.d 46 ++ sg r.c r.m
noncomputable def Cd.told (r : Cd) : List Nat := List.replicate r.d 46 ++ [97 + r.c]
theorem dealR_c : ∀ (ns : List Nat) (u : Nat), u + ods ns ≤ 7 → evs ns ≤ 7 → ∀ r ∈ dealR u ns, r.c < 7
  | [], _, _, _, _, h => by cases h
  | n :: ns, u, h1, h2, r, hr => by
    unfold dealR at hr
    rw [ods_cons] at h1
    rw [evs_cons] at h2
    by_cases hn : n % 2 = 1
    · rw [if_pos hn] at hr h1 h2
      rcases List.mem_cons.1 hr with rfl | hr
      · show u < 7; omega
      · exact dealR_c ns (u + 1) (by omega) (by omega) r hr
    · rw [if_neg hn] at hr h1 h2
      rcases List.mem_cons.1 hr with rfl | hr
      · show evs ns < 7; omega
      · exact dealR_c ns u (by omega) (by omega) r hr
theorem deal_c {ns : List Nat} (h : ns.length = 7) : ∀ r ∈ deal ns, r.c < 7 := by
  have := ev_od ns
  exact dealR_c ns (evs ns) (by omega) (by omega)
theorem dbl_sent {D : Int → Option Str} {r : Cd} (g : GoodTl D (97 + r.c) (sg r.c r.m)) : dbl r.text = r.sent := by
  obtain ⟨dot, c, m⟩ := r
  cases dot with
  | true => rfl
  | false =>
    have h1 : (sg c m).getD 0 0 ≠ 46 := by
      have := g.ne
      cases e : sg c m with
      | nil => exact absurd e this
      | cons a l => exact (g.clean a (by show a ∈ sg c m; rw [e]; exact .head _)).2.2
    show dbl ([] ++ sg c m) = List.replicate 0 46 ++ sg c m
    rw [List.nil_append, List.replicate_zero, List.nil_append]
    exact dbl_no h1
theorem text_ok {D : Int → Option Str} {r : Cd} (g : GoodTl D (97 + r.c) (sg r.c r.m)) {el : List Nat} (he : el = [10] ∨ el = [13] ∨ el = [13, 10]) : RowOk (r.text, el) := by
  refine ⟨fun c hc => ?_, fun e => ?_, he⟩
  · have : c ≠ 10 ∧ c ≠ 13 := by
      unfold Cd.text at hc
      rcases List.mem_append.1 hc with hc | hc
      · have : c = 46 := by split at hc <;> simpa using hc
        subst this; decide
      · exact ⟨(g.clean c hc).1, (g.clean c hc).2.1⟩
    unfold brk
    simp [this.1, this.2]
  · have := congrArg List.length e
    unfold Cd.text at this
    rw [List.length_append, sg_len] at this
    simp at this
theorem sent_no13 {D : Int → Option Str} {r : Cd} (g : GoodTl D (97 + r.c) (sg r.c r.m)) : ∀ c ∈ r.sent, c ≠ 13 := fun c hc => by
  rcases List.mem_append.1 hc with hc | hc
  · rw [List.eq_of_mem_replicate hc]; decide
  · exact (g.clean c hc).2.1
theorem sent_len (r : Cd) : r.sent.length ≤ 4 := by
  unfold Cd.sent Cd.d
  rw [List.length_append, sg_len, List.length_replicate]
  split <;> simp
variable {K : Cx} {prog : Program} {w : World} {A : Around} {E : Value → Shared → Prop} {s : Shared}
/-- what law 2 stands on -/
structure Law2 (K : Cx) (prog : Program) (w : World) (D : Int → Option Str) : Prop where
  TT : Tops K
  BT : Bt K
  TB : Tabs K prog w D
  PT : Pats K
  dot : DotOk D
  sgn : ∀ c, c < 7 → ∀ m, GoodTl D (97 + c) (sg c m)
  f5 : fn 5 ∈ K.fs
  f6 : fn 6 ∈ K.fs
  f7 : fn 7 ∈ K.fs
  f12 : fn 12 ∈ K.fs
  f15 : fn 15 ∈ K.fs
  f17 : fn 17 ∈ K.fs
  f19 : fn 19 ∈ K.fs
  f20 : fn 20 ∈ K.fs
  f21 : fn 21 ∈ K.fs
  f22 : fn 22 ∈ K.fs
/-- a row sent, read -/
theorem read_cd {D : Int → Option Str} (H : Law2 K prog w D) {r : Cd} (hc : r.c < 7) {t1 : Tok} {a : Addr} {Q : Value → Shared → Prop} (W : Wd K s.heap) (hf : HasFn K.mg s.heap (fn 20) a)
    (hroom : A.depth + 1 < recursionLimit) (hh : A.handled = none) (h : ∀ s' t, Keeps s s' → Q (.str ⟨r.told.toArray⟩ t) s') : Wp prog w A (call (.ref a) [.str ⟨r.sent.toArray⟩ t1]) Q E s := by
  have g := H.sgn r.c hc r.m
  have e : flat (readL D r.sent) = r.told := by
    unfold Cd.sent Cd.told
    rw [read_dots H.dot, g.read]
  have hz : sizeLine = 2 ^ 24 := rfl
  refine read_spec H.BT H.TB H.f15 H.f17 W hf hroom hh ?_ ?_ ?_ fun s' t k => ?_
  · have := sent_len r
    show r.sent.toArray.size ≤ _
    rw [List.size_toArray]; omega
  · intro c hc
    have hc : c ∈ r.sent := by simpa using hc
    rcases List.mem_append.1 hc with hc | hc
    · rw [List.eq_of_mem_replicate hc]; exact H.dot.low
    · exact g.low c hc
  · refine joinOk_of ?_
    show (flat (readL D r.sent)).length ≤ _
    rw [e]
    unfold Cd.told Cd.d
    rw [List.length_append, List.length_replicate]
    split <;> simp
  · have := h s' t k
    rw [← e, ← join_flat] at this
    exact this
noncomputable def drawnN (xs : List Int) : List Nat := ((xs.take 9).map fun x => (x.fmod 1000000).toNat) ++ ([3, 8, 25, 41, 6, 77, 130, 1, 0] : List Nat).drop (xs.take 9).length
theorem drawn_len (xs : List Int) : (drawnN xs).length = 9 := by
  unfold drawnN
  simp
  omega
theorem drawn_lt (xs : List Int) : ∀ n ∈ drawnN xs, n < 1000000 := fun n hn => by
  unfold drawnN at hn
  rcases List.mem_append.1 hn with h | h
  · obtain ⟨x, _, rfl⟩ := List.mem_map.1 h
    have h1 : x.fmod 1000000 < 1000000 := Int.fmod_lt_of_pos x (by decide)
    have h2 : 0 ≤ x.fmod 1000000 := Int.fmod_nonneg_of_pos x (by decide)
    omega
  · have := List.mem_of_mem_drop h
    simp at this
    omega
theorem mod_ints : ∀ {us ys : List Value} {xs : List Int}, IntsAre us xs → Paired (fun v y => ∃ n t u, v = Value.int n t ∧ y = Value.int (n.fmod 1000000) u) us ys → IntsAre ys (xs.map fun x => x.fmod 1000000)
  | _, _, _, .nil, .nil => .nil
  | _, _, _, .cons n t h, .cons ⟨m, t', u, e, e'⟩ hp => by cases e; subst e'; exact .cons _ u (mod_ints h hp)
theorem cast_fmod (xs : List Int) : xs.map (fun x => x.fmod 1000000) = castI (xs.map fun x => (x.fmod 1000000).toNat) := by
  unfold castI
  rw [List.map_map]
  apply List.map_congr_left
  intro x _
  have : 0 ≤ x.fmod 1000000 := Int.fmod_nonneg_of_pos x (by decide)
  show _ = ((x.fmod 1000000).toNat : Int)
  omega
theorem sum_fits {ns : List Nat} (hl : ns.length = 9) (h : ∀ n ∈ ns, n < 1000000) : PySem.SumFits (castI ns) := by
  intro j hj
  constructor
  · have hj' : j < ns.length := by simpa using hj
    have e : (castI ns).getD j 0 = ((ns[j] : Nat) : Int) := by
      rw [List.getD_eq_getElem?_getD, List.getElem?_map, List.getElem?_eq_getElem hj']; rfl
    rw [e]
    have := h _ (List.getElem_mem hj')
    unfold InLong; omega
  · have e : ((castI ns).take (j + 1)).sum = (((ns.take (j + 1)).sum : Nat) : Int) := by
      rw [← castI_sum]; unfold castI; rw [List.map_take]
    rw [e]
    have h1 := sum_le 1000000 (ns.take (j + 1)) fun n hn => Nat.le_of_lt (h n (List.mem_of_mem_take hn))
    have h2 : (ns.take (j + 1)).length ≤ 9 := by rw [List.length_take]; omega
    have h3 : 1000000 * (ns.take (j + 1)).length ≤ 1000000 * 9 := Nat.mul_le_mul_left _ h2
    unfold InLong; omega
noncomputable def elOf (ns : List Nat) : List Nat := match ns.sum % 3 with
  | 0 => [10]
  | 1 => [13]
  | _ => [13, 10]
theorem elOf_is (ns : List Nat) : elOf ns = [10] ∨ elOf ns = [13] ∨ elOf ns = [13, 10] := by
  unfold elOf
  split
  · exact .inl rfl
  · exact .inr (.inl rfl)
  · exact .inr (.inr rfl)
end Mine
end
section
open PySem PySem.W PyProof.Rows
set_option Elab.async false
set_option maxRecDepth 100000
set_option linter.unusedVariables false
namespace Mine
variable {K : Cx}
namespace R
section
variable {prog : Program} {w : World} {A : Around} {E : Value → Shared → Prop} {s s₀ : Shared} {sc : Scope} {env : Env} {vs cs : List (Str × Value)} {own : List (Addr × Obj)}
/-- y = [elt for x in iter if ..], y a local name of the same line -/
theorem asgX {elt iter : Expr} {x y : Str} {px py : Pos} {ifs : List Expr} {scope : Scope} {pos spos : Pos} {Q : Flow → Shared → Prop} {n : Nat} {P : Nat → Value → Prop} (X : St K sc s₀ env vs cs own s) (r : Rd K sc env vs cs s) (p : Value → Bool) (F : Value → Value → Prop)
    (hit : ∀ Q' : Value → Shared → Prop, (∀ s' I src, Itr prog w A n P src s s' I → Q' (.ref I) s') → wpAny (model prog w) A (eval iter env) (fun xv s₁ => wpAny (model prog w) A (pyIter xv) Q' E s₁) E s) (hsz : n ≤ sizeLine)
    (htest : ∀ i v s₃ env' E', P i v → Rd K (relS scope sc) env' [(x, v)] (capt scope cs) s₃ → (∀ b o, s.heap.get? b = some o → s₃.heap.get? b = some o) →
      wpAny (model prog w) A (forIn ifs true fun c r => if r = true then do let ok ← isTrue c env' (eval c env'); pure (ForInStep.yield ok) else pure (ForInStep.yield r)) (fun ok s₄ => ok = p v ∧ Keeps s₃ s₄) E' s₃)
    (helt : ∀ i v s₃ env' E', P i v → p v = true → Rd K (relS scope sc) env' [(x, v)] (capt scope cs) s₃ → (∀ b o, s.heap.get? b = some o → s₃.heap.get? b = some o) →
      wpAny (model prog w) A (eval elt env') (fun y s₄ => F v y ∧ Keeps s₃ s₄) E' s₃)
    (hQ : ∀ s' D ys c (us : List Value), St K sc s₀ env ((y, .ref D) :: vs) cs ((D, lstO ys c) :: own) s' → us.length = n → (∀ j v, us[j]? = some v → P j v) → Paired F (us.filter p) ys → Q .next s')
    (hy : sc.names.lookup y = some .local := by kernel_rfl) (hline : (py.line == pos.line) = true := by rfl) (hyn : (scope.names.any fun x => x.1 == y && (x.2 == .local || x.2 == .cell)) = false := by kernel_rfl)
    (hfr : (scope.names.all fun x => x.2 != .free || ((cs.lookup x.1).isSome && scope.names.lookup x.1 == some .free)) = true := by kernel_rfl)
    (hcell : (scope.names.all fun x => x.2 != .cell) = true := by kernel_rfl) (hnames : (scope.names.all fun y => y.2 != .local || (scope.names.lookup y.1 == some .local)) = true := by kernel_rfl)
    (hkind : scope.kind = .function := by rfl) (hx : scope.names.lookup x = some .local := by kernel_rfl) (hs : ∀ x, foldedSetIterable iter env x = pure x := by intro _; rfl) :
    wpAny (model prog w) A (exec (.Assign [.Name y py] (.ListComp elt [⟨.Name x px, iter, ifs, 0⟩] scope pos) spos) env) Q E s := by
  have hclos : closureFor scope env = pure (cloOf (fun n => (env.cells.lookup n).getD 0) scope.names []) := closure_is fun y hy hf => by
    have := List.all_eq_true.mp hfr y hy
    simp only [hf, bne_self_eq_false, Bool.false_or, Bool.and_eq_true] at this
    obtain ⟨v, hv⟩ := Option.isSome_iff_exists.mp this.1
    obtain ⟨c, hc, _⟩ := r.cell _ _ hv
    rw [hc]; rfl
  have mk : ∀ (C : Addr) (s₃ : Shared) (m₃ : Str → Option Value) (v : Value), s₃.heap.Ns C m₃ → m₃ x = some v → (∀ b o, s.heap.get? b = some o → s₃.heap.get? b = some o) →
      Rd K (relS scope sc) (compEnvC scope (cloOf (fun n => (env.cells.lookup n).getD 0) scope.names []) C env) [(x, v)] (capt scope cs) s₃ := by
    intro C s₃ m₃ v hn hm hk
    refine ⟨⟨m₃, hn, fun k u e => ?_⟩, fun k u e => ?_, relabel_eq r.scope, hkind, r.glob, r.blt, r.W.keeps hk⟩
    · rw [List.lookup_cons] at e
      cases q : k == x with
      | true => rw [q] at e; cases e; rw [beq_iff_eq.mp q]; exact hm
      | false => rw [q] at e; cases e
    · obtain ⟨e1, e2⟩ := capt_lookup e
      obtain ⟨c, hc, hi⟩ := r.cell _ _ e1
      refine ⟨c, ?_, hi.keeps hk⟩
      have hmem := mem_of_lookup e2
      have := clo_lookup (f := fun n => (env.cells.lookup n).getD 0) scope.names [] (fun _ hx => by cases hx) (n := k) (.inl ⟨_, hmem, rfl, rfl⟩)
      show (cloOf _ scope.names []).lookup k = _
      rw [this, hc]; rfl
  have hkind' : env.scope.kind = .function := by rw [X.scope]; exact X.kind
  refine wpAny_Assign_ListComp_free p F (swaps_true X.scope X.kind hy hline hyn) hclos (fun y hy hc => by have := List.all_eq_true.mp hcell y hy; rw [hc] at this; cases this) hkind
    (fun y hy hl => by have := List.all_eq_true.mp hnames y hy; rw [hl] at this; simpa using this) hx (by show env.scope.names.lookup y = _; rw [X.scope]; exact hy) (by rw [hkind']; rfl) ?_ hs
  refine wpAny_mono (hit (fun it s₂ => ∃ I src, it = .ref I ∧ Itr prog w A n P src s s₂ I) fun s' I src h => ⟨I, src, rfl, h⟩) (fun xv s₁ h => wpAny_mono h (fun it s₂ h => ?_) fun _ _ e => e) fun _ _ e => e
  obtain ⟨I, src, rfl, St_, W, hlive, st, hsrc, hI, kk⟩ := h
  have kk' : ∀ b o, s.heap.get? b = some o → s₂.heap.get? b = some o := fun b o e => kp_get kk e
  have old : ∀ b o, s.heap.get? b = some o → b ∉ [I] := fun b o e hm => by simp at hm; subst hm; rw [hI] at e; cases e
  obtain ⟨m, cm, c, hv, hcs⟩ := X.ex
  obtain ⟨oL, esL, epL, hoL, _⟩ := id c.toInCall.ns
  refine ⟨I, _, _, n, P, St_, m, rfl, W, hsz, st, fun b hb => ?_, ?_, c.toInCall.ns.keeps kk', ⟨fun C i v s₃ m₃ E' _ hP hn hm hk _ => ?_, fun C i v s₃ m₃ E' _ hP hp hn hm hk _ => ?_⟩, fun D h' tk ys us hD hl hpl hlen hP hF hns hk => ?_⟩
  · rcases List.mem_cons.mp hb with rfl | hb
    · obtain ⟨o, ho⟩ := hlive _ _ st; exact Heap.lt_size ho
    · exact hsrc b hb
  · exact old _ _ hoL
  · exact htest i v s₃ _ E' hP (mk C s₃ m₃ v hn hm fun b o e => hk b o (old b o e) (kk' b o e)) fun b o e => hk b o (old b o e) (kk' b o e)
  · exact helt i v s₃ _ E' hP hp (mk C s₃ m₃ v hn hm fun b o e => hk b o (old b o e) (kk' b o e)) fun b o e => hk b o (old b o e) (kk' b o e)
  · obtain ⟨c', hc'⟩ := hpl
    have ne : ∀ b o, s₀.heap.get? b = some o → b ≠ env.locals := fun b o e => Nat.ne_of_lt (Nat.lt_of_lt_of_le (Heap.lt_size e) c.toInCall.fresh)
    have hD' : s.heap.get? D = none := by
      cases e : s.heap.get? D with
      | none => rfl
      | some o => rw [kk' _ _ e] at hD; cases hD
    have up : ∀ b o, b ≠ env.locals → s.heap.get? b = some o → h'.get? b = some o := fun b o hb e => hk b o hb (old b o e) (kk' b o e)
    obtain ⟨hs2, ts2, e2, _⟩ := kk
    obtain ⟨h₁, tk₁, e₁⟩ := c.toInCall.same
    refine hQ _ D ys.toList c' us ⟨⟨_, cm, ⟨⟨⟨h', tk, by rw [e2, e₁]⟩, hns, fun b o e => up b o (ne b o e) (c.toInCall.keep b o e), c.toInCall.fresh⟩, fun k a ha => ?_, c.apart, c.above⟩, fun k u e => ?_, hcs⟩, fun q hq => ?_, ?_, X.scope, X.kind, X.glob, X.blt, X.W⟩ hlen hP hF
    · obtain ⟨o, ho, hd⟩ := c.cell k a ha
      exact ⟨o, up a o (Nat.ne_of_gt (c.above k a (mem_of_lookup ha))) ho, hd⟩
    · rw [List.lookup_cons] at e
      by_cases hkn : k = y
      · subst hkn; simp at e; simp [e]
      · have : (k == y) = false := by simp [hkn]
        rw [this] at e
        simp only [hkn, if_false]
        exact hv k u e
    · rcases List.mem_cons.mp hq with rfl | hq
      · refine ⟨by show h'.get? D = _; rw [hc']; simp [lstO], fun e => ?_, fun k c1 hl1 hm1 => ?_, ?_⟩
        · have e' : D = env.locals := e
          rw [e', hoL] at hD'; cases hD'
        · have hm' : D = c1 := hm1
          obtain ⟨o', ho', _⟩ := c.cell k c1 hl1
          rw [← hm', hD'] at ho'; cases ho'
        · show s₀.heap.get? D = none
          cases e : s₀.heap.get? D with
          | none => rfl
          | some o' => rw [X.keep _ _ e] at hD'; cases hD'
      · obtain ⟨a1, a2, a3, a4⟩ := X.mine q hq
        exact ⟨up _ _ a2 a1, a2, a3, a4⟩
    · rw [List.map_cons, List.nodup_cons]
      refine ⟨fun hm => ?_, X.nd⟩
      obtain ⟨q, hq, e⟩ := List.mem_map.mp hm
      have := (X.mine q hq).1
      rw [e, hD'] at this; cases this
/-- for v in iter: body, over a list that the head makes -/
theorem forX {v : Str} {pv pos : Pos} {iter : Expr} {body : List Stmt} {Q : Flow → Shared → Prop} {n : Nat} {P : Nat → Value → Prop} (X : St K sc s₀ env vs cs own s)
    (J : Nat → List (Str × Value) → List (Str × Value) → List (Addr × Obj) → Prop)
    (hit : ∀ Q' : Value → Shared → Prop, (∀ s₁ s' D o I, Keeps s s₁ → s.heap.get? D = none → s₁.heap.get? D = some o → Itr prog w A n P [D] s₁ s' I → Q' (.ref I) s') → wpAny (model prog w) A (eval iter env) (fun xv s₁ => wpAny (model prog w) A (pyIter xv) Q' E s₁) E s)
    (h0 : J 0 vs cs own)
    (turn : ∀ i val vs cs own I oI D oD s₃ E', J i vs cs own → i < n → P i val → St K sc s₀ env ((v, val) :: vs) cs ((I, oI) :: (D, oD) :: own) s₃ →
      wpAny (model prog w) A (execs body env) (fun f s' => f = .next ∧ ∃ vs' cs' own', J (i + 1) vs' cs' own' ∧ St K sc s₀ env vs' cs' ((I, oI) :: (D, oD) :: own') s') E' s₃)
    (fin : ∀ vs cs own s', J n vs cs own → St K sc s₀ env vs cs own s' → Q .next s')
    (hv : sc.names.lookup v = some .local := by kernel_rfl) (hs : ∀ x, foldedSetIterable iter env x = pure x := by intro _; rfl) : wpAny (model prog w) A (exec (.For (.Name v pv) iter body [] pos) env) Q E s := by
  refine wpAny_For ?_ hs
  refine wpAny_mono (hit (fun it s₂ => ∃ s₁ D oD I, it = .ref I ∧ Keeps s s₁ ∧ s.heap.get? D = none ∧ s₁.heap.get? D = some oD ∧ Itr prog w A n P [D] s₁ s₂ I) fun s₁ s' D o I k hD hDo h => ⟨s₁, D, o, I, rfl, k, hD, hDo, h⟩) (fun xv s₁ h => wpAny_mono h (fun it s₂ h => ?_) fun _ _ e => e) fun _ _ e => e
  obtain ⟨s₁', D, oD, I, rfl, kD, hD, hDo, St_, W, hlive, st, hsr, hI, kk⟩ := h
  obtain ⟨oI, hoI⟩ := hlive _ _ st
  have X2 := (X.fresh kD hD hDo).fresh kk hI hoI
  refine codeAny_forLoop (fun k s' => ∃ i vs cs own oI, St K sc s₀ env vs cs ((I, oI) :: (D, oD) :: own) s' ∧ J i vs cs own ∧ St_ i s'.heap ∧ i ≤ n ∧ k = n + 1 - i) ?_ (n + 1) ⟨0, vs, cs, own, oI, X2, h0, st, Nat.zero_le _, rfl⟩
  rintro k s' ⟨i, vs, cs, own, oI, x, hj, sti, hi, rfl⟩
  by_cases hlt : i < n
  · refine W.item i _ _ _ hlt sti fun val h₁ tk₁ hP st₁ hk₁ => ?_
    obtain ⟨o1, ho1⟩ := hlive _ _ st₁
    have x1 := x.upd (tk := tk₁) (fun b o hb e => hk₁ b o (by simpa using hb) e) ho1
    refine wpAny_assign_Name (stv x1 (fun s₃ x3 => ?_) hv)
    refine wpAny_mono (turn i val vs cs own I o1 D oD s₃ _ hj hlt hP x3) (fun f s₅ h₅ => ?_) fun _ _ e => e
    obtain ⟨rfl, vs', cs', own', hj', x5⟩ := h₅
    refine ⟨n + 1 - (i + 1), by omega, i + 1, vs', cs', own', o1, x5, hj', ?_, hlt, rfl⟩
    refine W.frame _ _ _ st₁ fun b hb o e => ?_
    rcases List.mem_cons.mp hb with rfl | hb
    · have a1 := (x5.mine _ (.head _)).1
      have a2 := (x1.mine _ (.head _)).1
      have a2 : h₁.get? b = some o1 := a2
      rw [a2] at e; cases e; exact a1
    · rw [List.mem_singleton] at hb
      subst hb
      have a1 : h₁.get? b = some oD := (x1.mine _ (.tail _ (.head _))).1
      have a2 : s₅.heap.get? b = some oD := (x5.mine _ (.tail _ (.head _))).1
      rw [a1] at e; cases e; exact a2
  · have hin : i = n := by omega
    subst hin
    refine W.done _ _ _ sti fun h₁ tk₁ hk₁ => wpAny_execs_nil (fin vs cs own _ hj (x.drop1 fun b o hb e => hk₁ b o (by simpa using hb) e).tl)
end
end R
section
variable {prog : Program} {w : World} {A : Around} {E : Value → Shared → Prop} {s s₀ : Shared} {sc : Scope} {env : Env} {vs cs : List (Str × Value)} {own : List (Addr × Obj)}
theorem asgX {elt iter : Expr} {x y : Str} {px py : Pos} {ifs : List Expr} {scope : Scope} {pos spos : Pos} {Q : Flow → Shared → Prop} {n : Nat} {P : Nat → Value → Prop} (X : St K sc s₀ env vs cs own s) (r : Rd K sc env vs cs s) (p : Value → Bool) (F : Value → Value → Prop)
    (hit : ∀ Q' : Value → Shared → Prop, (∀ s' I src, Itr prog w A n P src s s' I → Q' (.ref I) s') → Wp prog w A (eval iter env) (fun xv s₁ => Wp prog w A (pyIter xv) Q' E s₁) E s) (hsz : n ≤ sizeLine)
    (htest : ∀ i v s₃ env' E', P i v → Rd K (relS scope sc) env' [(x, v)] (capt scope cs) s₃ → (∀ b o, s.heap.get? b = some o → s₃.heap.get? b = some o) →
      Wp prog w A (forIn ifs true fun c r => if r = true then do let ok ← isTrue c env' (eval c env'); pure (ForInStep.yield ok) else pure (ForInStep.yield r)) (fun ok s₄ => ok = p v ∧ Keeps s₃ s₄) E' s₃)
    (helt : ∀ i v s₃ env' E', P i v → p v = true → Rd K (relS scope sc) env' [(x, v)] (capt scope cs) s₃ → (∀ b o, s.heap.get? b = some o → s₃.heap.get? b = some o) →
      Wp prog w A (eval elt env') (fun y s₄ => F v y ∧ Keeps s₃ s₄) E' s₃)
    (hQ : ∀ s' D ys c (us : List Value), St K sc s₀ env ((y, .ref D) :: vs) cs ((D, lstO ys c) :: own) s' → us.length = n → (∀ j v, us[j]? = some v → P j v) → Paired F (us.filter p) ys → Q .next s')
    (hy : sc.names.lookup y = some .local := by kernel_rfl) (hline : (py.line == pos.line) = true := by rfl) (hyn : (scope.names.any fun x => x.1 == y && (x.2 == .local || x.2 == .cell)) = false := by kernel_rfl)
    (hfr : (scope.names.all fun x => x.2 != .free || ((cs.lookup x.1).isSome && scope.names.lookup x.1 == some .free)) = true := by kernel_rfl)
    (hcell : (scope.names.all fun x => x.2 != .cell) = true := by kernel_rfl) (hnames : (scope.names.all fun y => y.2 != .local || (scope.names.lookup y.1 == some .local)) = true := by kernel_rfl)
    (hkind : scope.kind = .function := by rfl) (hx : scope.names.lookup x = some .local := by kernel_rfl) (hs : ∀ x, foldedSetIterable iter env x = pure x := by intro _; rfl) :
    Wp prog w A (exec (.Assign [.Name y py] (.ListComp elt [⟨.Name x px, iter, ifs, 0⟩] scope pos) spos) env) Q E s := by
  unfold Wp at *
  exact R.asgX X r p F hit hsz htest helt hQ hy hline hyn hfr hcell hnames hkind hx hs
theorem forX {v : Str} {pv pos : Pos} {iter : Expr} {body : List Stmt} {Q : Flow → Shared → Prop} {n : Nat} {P : Nat → Value → Prop} (X : St K sc s₀ env vs cs own s)
    (J : Nat → List (Str × Value) → List (Str × Value) → List (Addr × Obj) → Prop)
    (hit : ∀ Q' : Value → Shared → Prop, (∀ s₁ s' D o I, Keeps s s₁ → s.heap.get? D = none → s₁.heap.get? D = some o → Itr prog w A n P [D] s₁ s' I → Q' (.ref I) s') → Wp prog w A (eval iter env) (fun xv s₁ => Wp prog w A (pyIter xv) Q' E s₁) E s)
    (h0 : J 0 vs cs own)
    (turn : ∀ i val vs cs own I oI D oD s₃ E', J i vs cs own → i < n → P i val → St K sc s₀ env ((v, val) :: vs) cs ((I, oI) :: (D, oD) :: own) s₃ →
      Wp prog w A (execs body env) (fun f s' => f = .next ∧ ∃ vs' cs' own', J (i + 1) vs' cs' own' ∧ St K sc s₀ env vs' cs' ((I, oI) :: (D, oD) :: own') s') E' s₃)
    (fin : ∀ vs cs own s', J n vs cs own → St K sc s₀ env vs cs own s' → Q .next s')
    (hv : sc.names.lookup v = some .local := by kernel_rfl) (hs : ∀ x, foldedSetIterable iter env x = pure x := by intro _; rfl) : Wp prog w A (exec (.For (.Name v pv) iter body [] pos) env) Q E s := by
  unfold Wp at *
  exact R.forX X J hit h0 turn fin hv hs
theorem asgX0 {elt iter : Expr} {x y : Str} {px py : Pos} {scope : Scope} {pos spos : Pos} {Q : Flow → Shared → Prop} {n : Nat} {P : Nat → Value → Prop} (X : St K sc s₀ env vs cs own s) (r : Rd K sc env vs cs s) (F : Value → Value → Prop)
    (hit : ∀ Q' : Value → Shared → Prop, (∀ s' I src, Itr prog w A n P src s s' I → Q' (.ref I) s') → Wp prog w A (eval iter env) (fun xv s₁ => Wp prog w A (pyIter xv) Q' E s₁) E s) (hsz : n ≤ sizeLine)
    (helt : ∀ i v s₃ env' E', P i v → Rd K (relS scope sc) env' [(x, v)] (capt scope cs) s₃ → (∀ b o, s.heap.get? b = some o → s₃.heap.get? b = some o) →
      Wp prog w A (eval elt env') (fun y s₄ => F v y ∧ Keeps s₃ s₄) E' s₃)
    (hQ : ∀ s' D ys c (us : List Value), St K sc s₀ env ((y, .ref D) :: vs) cs ((D, lstO ys c) :: own) s' → us.length = n → (∀ j v, us[j]? = some v → P j v) → Paired F us ys → Q .next s')
    (hy : sc.names.lookup y = some .local := by kernel_rfl) (hline : (py.line == pos.line) = true := by rfl) (hyn : (scope.names.any fun x => x.1 == y && (x.2 == .local || x.2 == .cell)) = false := by kernel_rfl)
    (hfr : (scope.names.all fun x => x.2 != .free || ((cs.lookup x.1).isSome && scope.names.lookup x.1 == some .free)) = true := by kernel_rfl)
    (hcell : (scope.names.all fun x => x.2 != .cell) = true := by kernel_rfl) (hnames : (scope.names.all fun y => y.2 != .local || (scope.names.lookup y.1 == some .local)) = true := by kernel_rfl)
    (hkind : scope.kind = .function := by rfl) (hx : scope.names.lookup x = some .local := by kernel_rfl) (hs : ∀ x, foldedSetIterable iter env x = pure x := by intro _; rfl) :
    Wp prog w A (exec (.Assign [.Name y py] (.ListComp elt [⟨.Name x px, iter, [], 0⟩] scope pos) spos) env) Q E s := by
  refine asgX X r (fun _ => true) F hit hsz (fun i v s₃ env' E' hP r' hk => ?_) (fun i v s₃ env' E' hP _ r' hk => helt i v s₃ env' E' hP r' hk) (fun s' D ys c us X' hl hP hF => hQ s' D ys c us X' hl hP (by rw [filter_true] at hF; exact hF)) hy hline hyn hfr hcell hnames hkind hx hs
  unfold Wp
  rw [List.forIn_nil]
  exact wpAny_pure ⟨rfl, kp_rfl⟩
end
end Mine
end
section
open PySem PySem.SeqAt PySem.W PyProof.Rows PySem.Builtin PySem.Builtin.Str
set_option Elab.async false
set_option maxRecDepth 100000
set_option linter.unusedVariables false
namespace Mine
variable {K : Cx} {prog : Program} {w : World} {A : Around} {E : Value → Shared → Prop} {s : Shared}
theorem pr_index {α β : Type} {R : α → β → Prop} : ∀ {l : List α} {m : List β}, l.length = m.length → (∀ (j : Nat) v b, l[j]? = some v → m[j]? = some b → R v b) → Paired R l m
  | [], [], _, _ => .nil
  | [], _ :: _, h, _ => by simp at h
  | _ :: _, [], h, _ => by simp at h
  | a :: l, b :: m, h, hj => .cons (hj 0 a b rfl rfl) (pr_index (by simpa using h) fun j v n h1 h2 => hj (j + 1) v n (by simpa using h1) (by simpa using h2))
theorem sent_read {D : Int → Option Str} (H : Law2 K prog w D) {r : Cd} (hc : r.c < 7) : flat (readL D r.sent) = r.told := by
  unfold Cd.sent Cd.told
  rw [read_dots H.dot, (H.sgn r.c hc r.m).read]
noncomputable abbrev va (S Fi Dr : Addr) : List (Str × Value) := [("drawn", .ref Dr), ("first", .ref Fi), ("script", .ref S)]
/-- first, drawn -/
theorem law2_A {D : Int → Option Str} (H : Law2 K prog w D) (hh : A.handled = none) {s₀ : Shared} {env : Env} {S : Addr} {items : Array Value} {xs : List Int} {Q : Flow → Shared → Prop}
    (hS : s₀.heap.IsList S items) (hx : IntsAre items.toList xs) (hsz : items.size ≤ sizeLine) (x : St K (fn 23).scope s₀ env [("script", .ref S)] [] [] s)
    (h : ∀ s' Fi Dr dvs, IntsAre dvs (castI (drawnN xs)) → St K (fn 23).scope s₀ env (va S Fi Dr) [] [(Dr, lstO dvs 0)] s' → Wp prog w A (execs (List.drop 2 (fBody 23)) env) Q E s') : Wp prog w A (execs (fBody 23) env) Q E s := by
  have BT := H.BT
  have hz : sizeLine = 2 ^ 24 := rfl
  have hSk : ∀ {h' : Heap}, (∀ b o, s₀.heap.get? b = some o → h'.get? b = some o) → h'.IsList S items := fun hk => let ⟨o, a, b⟩ := hS; ⟨o, hk _ _ a, b⟩
  -- first
  refine seq (asg (sliceLI (ldv x.rd rfl (pNone (pSome (cint fun s₂ t₂ k2 => ⟨S, items, none, some 9, rfl, hSk fun b o e => kp_get k2 (x.keep b o e), hsz, .none, .int 9 _, fun s₃ Fi k3 hF hF' => stv ((x.after k2).fresh k3 hF hF') fun s₄ x => ⟨rfl, ?_⟩⟩))))))
  rw [show (some (9 : Int)) = some ((9 : Nat) : Int) from rfl, slicePick_upto'] at x
  dsimp only at x
  have hf5 : IntsAre (items.toList.take 9) (xs.take 9) := ints_take hx 9
  generalize items.toList.take 9 = fvs at x hf5
  have hfl : fvs.length = (xs.take 9).length := hf5.length
  have hf5' : (xs.take 9).length ≤ 9 := by rw [List.length_take]; omega
  clear k2 k3 hF hF'
  -- drawn
  refine seq (asg (bin (comp0 x.rd (fun v y => ∃ n t u, v = Value.int n t ∧ y = Value.int (n.fmod 1000000) u) (n := fvs.length) (P := fun i v => fvs[i]? = some v) (src := [Fi]) (fun Q' hQ => ldv x.rd rfl (iterL hh (x.at []) fun s' I it => hQ _ _ it)) (by omega) ?_ ?_)))
  · intro i v s₃ env' E' hP r hk
    obtain ⟨n, en⟩ : ∃ n, (xs.take 9)[i]? = some n := by
      have : i < (xs.take 9).length := by rw [← hfl]; exact (List.getElem?_eq_some_iff.1 hP).1
      exact ⟨_, List.getElem?_eq_getElem this⟩
    obtain ⟨t, et⟩ := hf5.get i n en
    rw [hP] at et; cases et
    exact bin (ldv r rfl (cint fun s₅ t₅ k5 => imod (by decide) fun s₆ t₆ k6 => ⟨⟨n, t, t₆, rfl, rfl⟩, kp_trans k5 k6⟩))
  intro s₃ C ys c us k3 hC hC' hul hus hF
  have := same_list hul hus
  subst this
  have hys := mod_ints hf5 hF
  refine sliceL (listI [3, 8, 25, 41, 6, 77, 130, 1, 0] rfl (by decide) fun s₄ L ls k4 hL hls hL' => pSome (callB1 ((x.rd.after k3).after k4) BT.len.1 BT.len.2 (ldv ((x.rd.after k3).after k4) rfl (lenL (kp_get k4 (kp_get k3 (x.at []))) (by omega) fun s₅ t₅ k5 => pNone ⟨L, ls, 0, some (us.length : Int), none, rfl, kp_get k5 hL', by rw [hls.length]; decide, .int _ _, .none, fun s₆ L2 k6 hL2 hL2' => ?_⟩))))
  have hl5 : ls.length = 9 := by rw [hls.length]; rfl
  rw [slicePick_from'] at hL2'
  dsimp only at hL2'
  refine addL (kp_get k6 (kp_get k5 (kp_get k4 hC'))) hL2' (by rw [hys.length, List.length_drop, List.length_map]; omega) fun s₇ Dr k7 hDr hDr' => stv ((((x.after k3).after k4).after (kp_trans k5 k6)).fresh k7 hDr hDr') fun s₈ x => ⟨rfl, ?_⟩
  have hdv : IntsAre (ys ++ ls.drop us.length) (castI (drawnN xs)) := by
    rw [show castI (drawnN xs) = (xs.take 9).map (fun x => x.fmod 1000000) ++ ([3, 8, 25, 41, 6, 77, 130, 1, 0] : List Int).drop us.length by
      rw [cast_fmod, hfl]; unfold drawnN castI; rw [List.map_append, List.map_drop]; rfl]
    exact hys.append (ints_drop hls _)
  generalize ys ++ List.drop us.length ls = dvs at x hdv
  exact h _ Fi Dr dvs hdv (x.pick [0])
noncomputable abbrev vb (S Fi Dr : Addr) (m : List Nat) (tm : Tok) : List (Str × Value) := ("mail", .str ⟨m.toArray⟩ tm) :: va S Fi Dr
/-- mail -/
theorem law2_B {D : Int → Option Str} (H : Law2 K prog w D) (hroom : A.depth + 2 < recursionLimit) (hh : A.handled = none) {s₀ : Shared} {env : Env} {S Fi Dr : Addr} {dvs : List Value} {ns : List Nat} {Q : Flow → Shared → Prop} (hl : ns.length = 9) (hlt : ∀ n ∈ ns, n < 1000000)
    (hdv : IntsAre dvs (castI ns)) (x : St K (fn 23).scope s₀ env (va S Fi Dr) [] [(Dr, lstO dvs 0)] s)
    (h : ∀ s' tm, St K (fn 23).scope s₀ env (vb S Fi Dr (mailL (ns.take 7) (elOf ns)) tm) [] [(Dr, lstO dvs 0)] s' → Wp prog w A (execs (List.drop 3 (fBody 23)) env) Q E s') : Wp prog w A (execs (List.drop 2 (fBody 23)) env) Q E s := by
  have BT := H.BT
  have hz : sizeLine = 2 ^ 24 := rfl
  have gD := x.at []
  have hdl : dvs.length = 9 := by rw [hdv.length, List.length_map, hl]
  refine seq (asg (callF2 x.rd H.f22 fun a ha => sliceL (ldv x.rd rfl (pNone (pSome (cint fun s₂ t₂ k2 => ⟨Dr, dvs, 0, none, some 7, rfl, kp_get k2 gD, by omega, .none, .int 7 _, fun s₃ N k3 hN hN' => ?_⟩))))))
  rw [show (some (7 : Int)) = some ((7 : Nat) : Int) from rfl, slicePick_upto'] at hN'
  dsimp only at hN'
  have k1 := kp_trans k2 k3
  refine sub1 (listD (splC (cstr fun s₄ t₄ k4 => splC (cstr fun s₅ t₅ k5 => splC (cstr fun s₆ t₆ k6 => splN ⟨by rw [hz]; exact (by decide : 3 ≤ 2 ^ 24), fun s₇ L k7 hL hL' => ?_⟩)))))
  have k8 := kp_trans k4 (kp_trans k5 (kp_trans k6 k7))
  have kk := kp_trans k1 k8
  refine bin (callB1 (x.rd.after kk) BT.sum.1 BT.sum.2 (ldv (x.rd.after kk) rfl (sumL hh (kp_get kk gD) hdv (sum_fits hl hlt) fun s₈ t₈ k9 => cint fun s₉ t₉ k10 => imod (by decide) fun s₁₀ t₁₀ k11 => ?_)))
  rw [castI_sum, show ((ns.sum : Nat) : Int).fmod 3 = ((ns.sum % 3 : Nat) : Int) from fmod_nat _ 3]
  have k12 := kp_trans k9 (kp_trans k10 k11)
  obtain ⟨te, he⟩ : ∃ t, [Value.str (Str.ofString "\n") t₄, .str (Str.ofString "\x0d") t₅, .str (Str.ofString "\x0d\n") t₆][ns.sum % 3]? = some (.str ⟨(elOf ns).toArray⟩ t) := by
    unfold elOf
    have h3 : ns.sum % 3 < 3 := Nat.mod_lt _ (by decide)
    generalize ns.sum % 3 = q at h3
    rcases (show q = 0 ∨ q = 1 ∨ q = 2 by omega) with rfl | rfl | rfl
    · exact ⟨t₄, rfl⟩
    · exact ⟨t₅, rfl⟩
    · exact ⟨t₆, rfl⟩
  refine itemL (kp_get k12 hL') (by omega) (by omega) (by rw [Int.toNat_natCast]; exact he) ⟨kp_trans kk k12, ?_⟩
  have hN2 : IntsAre (dvs.take 7) (castI (ns.take 7)) := by unfold castI; rw [List.map_take]; exact ints_take hdv 7
  refine mail_spec BT H.f19 (by rw [List.length_take]; omega) (by rcases elOf_is ns with e | e | e <;> rw [e] <;> decide) hN2 (x.w.after (kp_trans kk k12)) (ha.keeps fun b o e => kp_get (kp_trans kk k12) e) (kp_get (kp_trans k8 k12) hN') (by omega) hh fun s₁₁ tm k13 => ?_
  exact stv (x.after (kp_trans kk (kp_trans k12 k13))) fun s₁₂ x => ⟨rfl, h _ _ x⟩
noncomputable abbrev TellV (v : Value) (r : Cd) : Prop := StrW v r.told
noncomputable abbrev vc (S Fi Dr To : Addr) (m : List Nat) (tm : Tok) : List (Str × Value) := ("told", .ref To) :: vb S Fi Dr m tm
theorem cat_mail (l : List Cd) (el : List Nat) : cat (l.map fun r => (r.text, el)) = (l.map Cd.text).flatMap fun x => x ++ el := by
  simp [cat, List.flatMap_map]
theorem catN_mail (l : List Cd) (el : List Nat) : catN (l.map fun r => (r.text, el)) = (l.map Cd.text).flatMap fun x => x ++ [13, 10] := by
  simp [catN, List.flatMap_map]
/-- told -/
theorem law2_C {D : Int → Option Str} (H : Law2 K prog w D) (hroom : A.depth + 2 < recursionLimit) (hh : A.handled = none) {s₀ : Shared} {env : Env} {S Fi Dr : Addr} {own : List (Addr × Obj)} {ns : List Nat} {el : List Nat} {tm : Tok} {Q : Flow → Shared → Prop} (hl : ns.length = 7) (he : el = [10] ∨ el = [13] ∨ el = [13, 10])
    (x : St K (fn 23).scope s₀ env (vb S Fi Dr (mailL ns el) tm) [] own s)
    (h : ∀ s' To tvs tc, Paired TellV tvs (deal ns) → St K (fn 23).scope s₀ env (vc S Fi Dr To (mailL ns el) tm) [] ((To, lstO tvs tc) :: own) s' → Wp prog w A (execs (List.drop 4 (fBody 23)) env) Q E s') : Wp prog w A (execs (List.drop 3 (fBody 23)) env) Q E s := by
  have BT := H.BT
  have hz : sizeLine = 2 ^ 24 := rfl
  have hdl : (deal ns).length = 7 := by show (dealR _ _).length = 7; rw [deal_len, hl]
  have hc := deal_c hl
  have hg : ∀ r ∈ deal ns, GoodTl D (97 + r.c) (sg r.c r.m) := fun r hr => H.sgn r.c (hc r hr) r.m
  have hrow : ∀ q ∈ (deal ns).map (fun r => (r.text, el)), RowOk q := fun q hq => by
    obtain ⟨r, hr, rfl⟩ := List.mem_map.1 hq
    exact text_ok (hg r hr) he
  have hne : (deal ns).map (fun r => (r.text, el)) ≠ [] := fun e => by have := congrArg List.length e; rw [List.length_map, hdl] at this; cases this
  have hsl : (catN ((deal ns).map fun r => (r.text, el))).length ≤ 5000 := by
    rw [catN_mail]
    have := glue_len [13, 10] (by decide) ((deal ns).map Cd.text) fun r hr => by
      obtain ⟨q, _, rfl⟩ := List.mem_map.1 hr
      exact Nat.le_succ_of_le (text_len q)
    rw [List.length_map, hdl] at this
    omega
  have hsent : catD (((deal ns).map fun r => (r.text, el)).map (·.1)) = catR ((deal ns).map Cd.sent) := by
    rw [catD_R, List.map_map, List.map_map]
    congr 1
    apply List.map_congr_left
    intro r hr
    exact dbl_sent (hg r hr)
  have hno : ∀ r ∈ (deal ns).map Cd.sent, ∀ c ∈ r, c ≠ 13 := fun r hr => by
    obtain ⟨q, hq, rfl⟩ := List.mem_map.1 hr
    exact sent_no13 (hg q hq)
  have hsne : (deal ns).map Cd.sent ≠ [] := fun e => by have := congrArg List.length e; rw [List.length_map, hdl] at this; cases this
  have hcl : (catR ((deal ns).map Cd.sent)).length ≤ 42 := by
    have := glue_len [13, 10] (by decide) ((deal ns).map Cd.sent) fun r hr => by
      obtain ⟨q, _, rfl⟩ := List.mem_map.1 hr
      exact sent_len q
    rw [List.length_map, hdl] at this
    exact this
  have hm : mailL ns el = cat ((deal ns).map fun r => (r.text, el)) := (cat_mail _ _).symm
  refine cons_ (asgX0 x x.rd (fun v y => ∃ l t u, v = Value.str ⟨List.toArray l⟩ t ∧ y = Value.str ⟨(flat (readL D l)).toArray⟩ u) (n := 7) (P := fun i v => ∃ r t, (deal ns)[i]? = some r ∧ v = Value.str ⟨r.sent.toArray⟩ t) ?_ (by omega) ?_ ?_)
  · intro Q' hQ
    refine sliceL (split_ (callF1 x.rd H.f12 fun a ha => ldv x.rd rfl ⟨kp_rfl, ?_⟩))
    rw [hm]
    refine quote_spec H.PT hrow hne hsl x.w ha (by omega) fun s₂ t₂ k2 => ?_
    rw [hsent]
    refine ⟨_, _, rfl, by show (catR ((deal ns).map Cd.sent)).toArray.size ≤ _; rw [List.size_toArray, hz]; omega, cstr fun s₃ t₃ k3 => ⟨_, _, rfl, rfl, ?_, fun s₄ L l k4 hL hll hL' => ?_⟩⟩
    · have := split_parts hno
      show (partsBetween ⟨(catR ((deal ns).map Cd.sent)).toArray⟩ (occurrences ⟨(catR ((deal ns).map Cd.sent)).toArray⟩ crlf 0 (Str.length ⟨(catR ((deal ns).map Cd.sent)).toArray⟩) (Str.length ⟨(catR ((deal ns).map Cd.sent)).toArray⟩ + 1)) crlf.length).length ≤ _
      rw [this, List.length_append, List.length_map, List.length_map, hdl, hz]
      decide
    · rw [show Txt.split ⟨(catR ((deal ns).map Cd.sent)).toArray⟩ (Str.ofString "\x0d\n") = _ from split_rows hno hsne] at hll
      have hl8 : l.length = 8 := by
        have := congrArg List.length hll
        rw [List.length_map, List.length_append, List.length_map, List.length_map, hdl] at this
        exact this
      refine pNone (pSome (un1 (cint fun s₅ t₅ k5 => neg1 fun s₆ t₆ k6 => ⟨L, strValues l, 0, none, some (-1), rfl, kp_get (kp_trans k5 k6) hL', by show (l.map _).length ≤ _; rw [List.length_map, hl8, hz]; decide, .none, .int (-1) _, fun s₇ D7 k7 hD7 hD7' => ?_⟩)))
      rw [show (some (-1 : Int)) = some (-((1 : Nat) : Int)) from rfl, slicePick_butLast _ 1 (Nat.le_refl _)] at hD7'
      have hsz8 : (strValues l).toArray.size = 8 := by rw [List.size_toArray]; show (l.map _).length = 8; rw [List.length_map, hl8]
      rw [hsz8] at hD7'
      dsimp only at hD7'
      have hlen7 : ((strValues l).take 7).length = 7 := by rw [List.length_take]; show min 7 (l.map _).length = 7; rw [List.length_map, hl8]; rfl
      refine iterL hh hD7' fun s' I it => ?_
      rw [show (8 - 1 : Nat) = 7 from rfl] at it
      rw [hlen7] at it
      refine hQ _ _ _ ((it.back (kp_trans k2 (kp_trans k3 (kp_trans k4 (kp_trans k5 (kp_trans k6 k7)))))).mono fun i v hv => ?_)
      have hi : i < 7 := by
        have := (List.getElem?_eq_some_iff.1 hv).1
        omega
      rw [List.getElem?_take_of_lt hi] at hv
      have hPp := strW_of (ls := (deal ns).map Cd.sent ++ [[]]) (by rw [hll, List.map_append]; rfl)
      obtain ⟨b, hb, t, rfl⟩ := pr_get' hPp hv
      rw [List.getElem?_append_left (by rw [List.length_map, hdl]; exact hi), List.getElem?_map] at hb
      obtain ⟨r, hr, rfl⟩ := Option.map_eq_some_iff.1 hb
      exact ⟨r, t, hr, rfl⟩
  · rintro i v s₃ env' E' ⟨r, t, hr, rfl⟩ rd hk
    have hc7 := hc r (List.mem_of_getElem? hr)
    refine callF1 rd H.f20 fun a1 ha1 => ldv rd rfl ⟨kp_rfl, read_cd H hc7 rd.W ha1 (by omega) hh fun s' u k' => ⟨⟨r.sent, t, u, rfl, by rw [sent_read H hc7]⟩, k'⟩⟩
  · intro s₂ To tvs tc us x hul hus hF
    refine h _ To tvs tc ?_ x
    have h1 : Paired (fun v (r : Cd) => ∃ t, v = Value.str ⟨r.sent.toArray⟩ t) us (deal ns) := pr_index (by rw [hul, hdl]) fun j v b h1 h2 => by
      obtain ⟨r, t, hr, rfl⟩ := hus j v h1
      rw [h2] at hr; cases hr
      exact ⟨t, rfl⟩
    have h2 : Paired (fun v (r : Cd) => StrW v r.told) tvs (deal ns) := pr_comp hF h1 fun a b r hr q1 q2 => by
      obtain ⟨l, t, u, rfl, rfl⟩ := q1
      obtain ⟨t', e⟩ := q2
      have el : l = r.sent := strW_inj ⟨t, rfl⟩ ⟨t', e⟩
      subst el
      exact ⟨u, by rw [sent_read H (hc r hr)]⟩
    exact h2
end Mine
end
section
open PySem PySem.SeqAt PySem.W PyProof.Rows PySem.Builtin PySem.Builtin.Str
set_option Elab.async false
set_option maxRecDepth 100000
set_option linter.unusedVariables false
namespace Mine
/-! the deal's order -/
theorem fall_is : ∀ (ns : List Nat) (u : Nat), ((dealR u ns).filter fun r => !r.dot).map (·.c) = (List.range (evs ns)).reverse
  | [], _ => rfl
  | n :: r, u => by
    rw [evs_cons]
    unfold dealR
    by_cases hn : n % 2 = 1
    · rw [if_pos hn, if_pos hn, List.filter_cons_of_neg (by simp)]
      exact fall_is r (u + 1)
    · rw [if_neg hn, if_neg hn, List.filter_cons_of_pos (by simp), List.map_cons, fall_is r u, List.range_succ, List.reverse_append]
      rfl
theorem rise_is : ∀ (ns : List Nat) (u : Nat), ((dealR u ns).filter fun r => r.dot).map (·.c) = List.range' u (ods ns)
  | [], _ => rfl
  | n :: r, u => by
    rw [ods_cons]
    unfold dealR
    by_cases hn : n % 2 = 1
    · rw [if_pos hn, if_pos hn, List.filter_cons_of_pos (by simp), List.map_cons, rise_is r (u + 1), List.range'_succ]
    · rw [if_neg hn, if_neg hn, List.filter_cons_of_neg (by simp)]
      exact rise_is r u
theorem deal_order {ns : List Nat} (h : ns.length = 7) : (((deal ns).filter fun r => !r.dot).map (·.c)).reverse ++ ((deal ns).filter fun r => r.dot).map (·.c) = List.range 7 := by
  unfold deal
  rw [fall_is, rise_is, List.reverse_reverse, List.range_eq_range', show List.range' (evs ns) (ods ns) = List.range' (0 + 1 * evs ns) (ods ns) by rw [Nat.zero_add, Nat.one_mul], List.range'_append, ev_od, h, List.range_eq_range']
noncomputable def cards0 (ns : List Nat) : List Nat := (deal ns).map (·.c)
theorem cards_perm {ns : List Nat} (h : ns.length = 7) : (cards0 ns).Perm (List.range 7) := by
  have h1 := deal_order h
  have h2 : (((deal ns).filter fun r => !r.dot) ++ (deal ns).filter fun r => !!r.dot).Perm (deal ns) := List.filter_append_perm _ _
  have h3 := h2.map (·.c)
  rw [List.map_append] at h3
  have e : ((deal ns).filter fun r => !!r.dot) = (deal ns).filter fun r => r.dot := by simp
  rw [e] at h3
  refine h3.symm.trans ?_
  rw [← h1]
  exact List.Perm.append_right _ (List.reverse_perm _).symm
variable {K : Cx} {prog : Program} {w : World} {A : Around} {E : Value → Shared → Prop} {s : Shared}
theorem sl1 (k : Nat) : Txt.slice ⟨[46, 46, k].toArray⟩ none (some 2) = ⟨[46, 46].toArray⟩ := by kernel_rfl
theorem sl2 (k : Nat) : Txt.slice ⟨[k].toArray⟩ none (some 2) = ⟨[k].toArray⟩ := by kernel_rfl
theorem sl3 (k : Nat) : Txt.slice ⟨[46, 46, k].toArray⟩ (some 2) none = ⟨[k].toArray⟩ := by kernel_rfl
noncomputable def dotV (v : Value) : Bool := match v with
  | .str x _ => x.cps.getD 0 0 == 46
  | _ => false
theorem dot_told (r : Cd) (t : Tok) : dotV (.str ⟨r.told.toArray⟩ t) = r.dot := by
  obtain ⟨dot, c, m⟩ := r
  cases dot with
  | true => rfl
  | false =>
    show (97 + c == 46) = false
    simp; omega
theorem told_char (r : Cd) : Txt.charAt ⟨r.told.toArray⟩ 0 = some (if r.dot then 46 else 97 + r.c) := by
  obtain ⟨dot, c, m⟩ := r
  cases dot <;> rfl
theorem told_t {r : Cd} (h : r.dot = true) : r.told = [46, 46, 97 + r.c] := by
  unfold Cd.told Cd.d; rw [h]; rfl
theorem told_f {r : Cd} (h : r.dot = false) : r.told = [97 + r.c] := by
  unfold Cd.told Cd.d; rw [h]; rfl
theorem told_len (r : Cd) : r.told.length ≤ 3 := by
  cases h : r.dot with
  | true => rw [told_t h]; simp
  | false => rw [told_f h]; simp
section
variable {s₀ : Shared} {sc : Scope} {env : Env} {vs cs : List (Str × Value)} {own : List (Addr × Obj)}
/-- y = [elt for x in iter if tst] -/
theorem asg1 {elt iter tst : Expr} {x y : Str} {px py : Pos} {scope : Scope} {pos spos : Pos} {Q : Flow → Shared → Prop} {n : Nat} {P : Nat → Value → Prop} {src : List Addr} (X : St K sc s₀ env vs cs own s) (r : Rd K sc env vs cs s) (p : Value → Bool) (F : Value → Value → Prop)
    (hit : ∀ Q' : Value → Shared → Prop, (∀ s' I, Itr prog w A n P src s s' I → Q' (.ref I) s') → Wp prog w A (eval iter env) (fun xv s₁ => Wp prog w A (pyIter xv) Q' E s₁) E s) (hsz : n ≤ sizeLine)
    (htest : ∀ i v s₃ env' E', P i v → Rd K (relS scope sc) env' [(x, v)] (capt scope cs) s₃ → (∀ b o, s.heap.get? b = some o → s₃.heap.get? b = some o) →
      Wp prog w A (isTrue tst env' (eval tst env')) (fun ok s₄ => ok = p v ∧ Keeps s₃ s₄) E' s₃)
    (helt : ∀ i v s₃ env' E', P i v → p v = true → Rd K (relS scope sc) env' [(x, v)] (capt scope cs) s₃ → (∀ b o, s.heap.get? b = some o → s₃.heap.get? b = some o) →
      Wp prog w A (eval elt env') (fun y s₄ => F v y ∧ Keeps s₃ s₄) E' s₃)
    (hQ : ∀ s' D ys c (us : List Value), St K sc s₀ env ((y, .ref D) :: vs) cs ((D, lstO ys c) :: own) s' → us.length = n → (∀ j v, us[j]? = some v → P j v) → Paired F (us.filter p) ys → Q .next s')
    (hy : sc.names.lookup y = some .local := by kernel_rfl) (hline : (py.line == pos.line) = true := by rfl) (hyn : (scope.names.any fun x => x.1 == y && (x.2 == .local || x.2 == .cell)) = false := by kernel_rfl)
    (hfr : (scope.names.all fun x => x.2 != .free || ((cs.lookup x.1).isSome && scope.names.lookup x.1 == some .free)) = true := by kernel_rfl)
    (hcell : (scope.names.all fun x => x.2 != .cell) = true := by kernel_rfl) (hnames : (scope.names.all fun y => y.2 != .local || (scope.names.lookup y.1 == some .local)) = true := by kernel_rfl)
    (hkind : scope.kind = .function := by rfl) (hx : scope.names.lookup x = some .local := by kernel_rfl) (hs : ∀ x, foldedSetIterable iter env x = pure x := by intro _; rfl) :
    Wp prog w A (exec (.Assign [.Name y py] (.ListComp elt [⟨.Name x px, iter, [tst], 0⟩] scope pos) spos) env) Q E s := by
  refine asgC X r p F hit hsz (fun i v s₃ env' E' hP r' hk => ?_) helt hQ hy hline hyn hfr hcell hnames hkind hx hs
  have ht := htest i v s₃ env' E' hP r' hk
  unfold Wp at *
  rw [List.forIn_cons, if_pos rfl]
  exact wpAny_bind (wpAny_bind (wpAny_mono ht (fun ok s₄ h => wpAny_pure (by show wpAny _ _ (pure ok) _ _ _; exact wpAny_pure h)) fun _ _ e => e))
end
noncomputable abbrev v2 (Dr : Addr) : List (Str × Value) := [("drawn", .ref Dr)]
noncomputable abbrev c2 (Ca : Addr) : List (Str × Value) := [("cards", .ref Ca)]
/-- falling, rising, the first test, cards -/
theorem law2_D {D : Int → Option Str} (H : Law2 K prog w D) (hroom : A.depth + 2 < recursionLimit) (hun : A.units < cLine) (hh : A.handled = none) {s₀ : Shared} {env : Env} {S Fi Dr To : Addr} {own : List (Addr × Obj)} {ns : List Nat} {m : List Nat} {tm : Tok} {Q : Flow → Shared → Prop} (hl : ns.length = 7) (hlay : Laids env ["cards", "j"])
    {tvs : List Value} {tc : Nat} (hT : Paired TellV tvs (deal ns)) (x : St K (fn 23).scope s₀ env (vc S Fi Dr To m tm) [] ((To, lstO tvs tc) :: own) s)
    (h : ∀ s' Ca cvs, IntsAre cvs (castI (cards0 ns)) → (∃ cc, St K (fn 23).scope s₀ env (v2 Dr) (c2 Ca) ((Ca, lstO cvs cc) :: own) s') → Wp prog w A (execs (List.drop 8 (fBody 23)) env) Q E s') : Wp prog w A (execs (List.drop 4 (fBody 23)) env) Q E s := by
  have BT := H.BT
  have hz : sizeLine = 2 ^ 24 := rfl
  have hdl : (deal ns).length = 7 := by show (dealR _ _).length = 7; rw [deal_len, hl]
  have htl : tvs.length = 7 := by rw [hT.length, hdl]
  have tsz : ∀ r : Cd, Str.length ⟨r.told.toArray⟩ ≤ sizeLine := fun r => by
    have := told_len r
    show r.told.toArray.size ≤ _
    rw [List.size_toArray, hz]; omega
  -- falling
  refine cons_ (asg1 x x.rd (fun v => !dotV v) (fun v y => y = v) (n := tvs.length) (P := fun i v => tvs[i]? = some v) (src := [To]) (fun Q' hQ => ldv x.rd rfl (iterL hh (x.at []) fun s' I it => hQ _ _ it)) (by omega) ?_ (fun i v s₃ env' E' hP _ r hk => ldv r rfl ⟨rfl, kp_rfl⟩) ?_)
  · intro i v s₃ env' E' hP r hk
    obtain ⟨q, hq, t, rfl⟩ := pr_get' hT hP
    refine tCmp (sub1 (ldv r rfl (cint fun s₅ t₅ k5 => itemS (by decide) (told_char q) fun s₆ t₆ k6 => cstr fun s₇ t₇ k7 => sNe ⟨_, rfl, ?_, kp_trans k5 (kp_trans k6 k7)⟩)))
    show ([if q.dot then 46 else 97 + q.c] != [46]) = !dotV _
    rw [dot_told]
    cases q.dot with
    | true => rfl
    | false => simp; omega
  intro s₂ Fa fvs fc us x hul hus hF
  have := (same_list hul hus).symm
  subst this
  have hFa : Paired TellV fvs (((deal ns).filter fun r => !r.dot).map id) := pr_filter (q := fun r => !r.dot) hT (fun v r _ ⟨t, e⟩ => by subst e; show (!dotV _) = _; rw [dot_told]) (fun v y r _ _ h1 h2 => by subst h2; exact h1) hF
  rw [List.map_id] at hFa
  clear hF hul hus
  -- rising
  refine cons_ (asg1 x x.rd dotV (fun v y => ∃ z t u, v = Value.str z t ∧ y = Value.str (Txt.slice z (some 2) none) u) (n := tvs.length) (P := fun i v => tvs[i]? = some v) (src := [To]) (fun Q' hQ => ldv x.rd rfl (iterL hh (x.at [_]) fun s' I it => hQ _ _ it)) (by omega) ?_ ?_ ?_)
  · intro i v s₃ env' E' hP r hk
    obtain ⟨q, hq, t, rfl⟩ := pr_get' hT hP
    refine tCmp (sliceS (ldv r rfl (pNone (pSome (cint fun s₅ t₅ k5 => ⟨_, t, none, some 2, rfl, tsz q, .none, .int 2 _, fun s₆ t₆ k6 => cstr fun s₇ t₇ k7 => sEq ⟨_, rfl, ?_, kp_trans k5 (kp_trans k6 k7)⟩⟩)))))
    rw [dot_told]
    cases e : q.dot with
    | true => rw [told_t e, sl1]; rfl
    | false =>
      rw [told_f e, sl2]
      show ([97 + q.c] == [46, 46]) = false
      simp
  · intro i v s₃ env' E' hP hp r hk
    obtain ⟨q, hq, t, rfl⟩ := pr_get' hT hP
    exact sliceS (ldv r rfl (pSome (cint fun s₅ t₅ k5 => pNone ⟨_, t, some 2, none, rfl, tsz q, .int 2 _, .none, fun s₆ t₆ k6 => ⟨⟨_, _, _, rfl, rfl⟩, kp_trans k5 k6⟩⟩)))
  intro s₃ Ri rvs rc us x hul hus hF
  have := (same_list hul hus).symm
  subst this
  have hRi : Paired StrW rvs (((deal ns).filter fun r => r.dot).map fun r => [97 + r.c]) := pr_filter (q := fun r => r.dot) hT (fun v r _ ⟨t, e⟩ => by subst e; rw [dot_told]) (fun v y r _ hd h1 h2 => by
    obtain ⟨z, t, u, rfl, rfl⟩ := h2
    obtain ⟨t', e⟩ := h1
    injection e with e1 _
    rw [e1, told_t hd, sl3]
    exact ⟨u, rfl⟩) hF
  clear hF hul hus
  -- falling[::-1] + rising != [..]
  have hls : ((((deal ns).filter fun r => !r.dot).map Cd.told).reverse ++ ((deal ns).filter fun r => r.dot).map fun r => [97 + r.c]) = [[97], [98], [99], [100], [101], [102], [103]] := by
    have e1 : ((deal ns).filter fun r => !r.dot).map Cd.told = (((deal ns).filter fun r => !r.dot).map (·.c)).map fun c => [97 + c] := by
      rw [List.map_map]
      apply List.map_congr_left
      intro r hr
      have := (List.mem_filter.1 hr).2
      exact told_f (by simpa using this)
    have e2 : (((deal ns).filter fun r => r.dot).map fun r => [97 + r.c]) = (((deal ns).filter fun r => r.dot).map (·.c)).map fun c => [97 + c] := by
      rw [List.map_map]; rfl
    rw [e1, e2, ← List.map_reverse, ← List.map_append, deal_order hl]
    rfl
  have hFs : Paired StrW fvs (((deal ns).filter fun r => !r.dot).map Cd.told) := by
    have key : ∀ {l : List Value} {m : List Cd}, Paired TellV l m → Paired StrW l (m.map Cd.told) := fun {l m} h => by
      induction h with
      | nil => exact .nil
      | cons h1 _ ih => exact .cons h1 ih
    exact key hFa
  have hfl7 : fvs.length ≤ 7 := by
    rw [hFs.length, List.length_map]
    exact Nat.le_trans (List.length_filter_le _ _) (by omega)
  have hrl7 : rvs.length ≤ 7 := by
    rw [hRi.length, List.length_map]
    exact Nat.le_trans (List.length_filter_le _ _) (by omega)
  have gF := x.at [_]
  have gR := x.at []
  refine cons_ (ifCmp (bin (sliceR (ldv x.rd rfl (un1 (cint fun s₄ t₄ k4 => neg1 fun s₅ t₅ k5 => ⟨Fa, fvs, fc, t₅, rfl, rfl, kp_get (kp_trans k4 k5) gF, by omega, fun s₆ L k6 hL hL' => ?_⟩))))))
  rw [revPick] at hL'
  have k7 := kp_trans k4 (kp_trans k5 k6)
  refine ldv (x.rd.after k7) rfl (addL hL' (kp_get k7 gR) (by rw [List.length_reverse]; omega) fun s₇ L2 k8 hL2 hL2' => ?_)
  have hP := pr_app (pr_rev hFs) hRi
  rw [hls] at hP
  have k9 := kp_trans k7 k8
  refine listD (splC (cstr fun s₈ u1 q1 => splC (cstr fun s₉ u2 q2 => splC (cstr fun s₁₀ u3 q3 => splC (cstr fun s₁₁ u4 q4 => splC (cstr fun s₁₂ u5 q5 => splC (cstr fun s₁₃ u6 q6 => splC (cstr fun s₁₄ u7 q7 => splN ⟨by rw [hz]; exact (by decide : 7 ≤ 2 ^ 24), fun s₁₅ L3 q8 hL3 hL3' => ?_⟩))))))))
  have kq := kp_trans q1 (kp_trans q2 (kp_trans q3 (kp_trans q4 (kp_trans q5 (kp_trans q6 (kp_trans q7 q8))))))
  refine neLS (kp_get kq hL2') hL3' hP (.cons ⟨u1, rfl⟩ (.cons ⟨u2, rfl⟩ (.cons ⟨u3, rfl⟩ (.cons ⟨u4, rfl⟩ (.cons ⟨u5, rfl⟩ (.cons ⟨u6, rfl⟩ (.cons ⟨u7, rfl⟩ .nil))))))) hun ⟨_, rfl, (fun e => nomatch e), fun _ => nil_ ?_⟩
  have x := x.after (kp_trans k9 kq)
  clear k4 k5 k6 k7 k8 k9 q1 q2 q3 q4 q5 q6 q7 q8 kq hL hL' hL2 hL2' hL3 hL3' gF gR
  -- cards
  refine seq (asg (hs := swaps_cell x.scope (by kernel_rfl)) (comp0 x.rd (fun v y => ∃ l c t u, v = Value.str ⟨(l ++ [97 + c]).toArray⟩ t ∧ y = Value.int ((c : Nat) : Int) u) (n := tvs.length) (P := fun i v => tvs[i]? = some v) (src := [To]) (fun Q' hQ => ldv x.rd rfl (iterL hh (x.at [_, _]) fun s' I it => hQ _ _ it)) (by omega) ?_ ?_))
  · intro i v s₃ env' E' hP r hk
    obtain ⟨q, hq, t, rfl⟩ := pr_get' hT hP
    refine bin (callB1 r BT.ord.1 BT.ord.2 (sub1 (ldv r rfl (un1 (cint fun s₅ t₅ k5 => neg1 fun s₆ t₆ k6 => itemS (by decide) charLast fun s₇ t₇ k7 => ord1 fun s₈ t₈ k8 => cint fun s₉ t₉ k9 => isub fun s₁₀ t₁₀ k10 => ⟨⟨List.replicate q.d 46, q.c, t, t₁₀, rfl, ?_⟩, kp_trans k5 (kp_trans k6 (kp_trans k7 (kp_trans k8 (kp_trans k9 k10))))⟩)))))
    congr 1
    omega
  intro s₄ Ca cvs cc us k4 hCa hCa' hul hus hF
  have := (same_list hul hus).symm
  subst this
  have hCv : Paired NatV cvs (cards0 ns) := by
    have h1 : Paired (fun v (r : Cd) => NatV v r.c) cvs (deal ns) := pr_comp hF hT fun a b r hr q1 q2 => by
      obtain ⟨l, c, t, u, rfl, rfl⟩ := q1
      have e := strW_inj ⟨t, rfl⟩ q2
      have e2 := congrArg List.getLast? e
      unfold Cd.told at e2
      rw [List.getLast?_append, List.getLast?_append] at e2
      have : c = r.c := by simpa using e2
      subst this
      exact ⟨u, rfl⟩
    have key : ∀ {l : List Value} {m : List Cd}, Paired (fun v (r : Cd) => NatV v r.c) l m → Paired NatV l (m.map (·.c)) := fun {l m} h => by
      induction h with
      | nil => exact .nil
      | cons h1 _ ih => exact .cons h1 ih
    exact key h1
  refine stc (x.fresh k4 hCa hCa') (hlay _ (by simp)) fun s₅ x => ⟨rfl, ?_⟩
  exact h _ Ca cvs (nat_ints hCv) ⟨cc, (((x.dropAt [_]).dropAt [_]).dropAt [_]).vars _⟩
end Mine
end
section
open PySem PySem.SeqAt PySem.W PyProof.Rows PySem.Builtin PySem.Builtin.Str
set_option Elab.async false
set_option maxRecDepth 100000
set_option linter.unusedVariables false
namespace Mine
variable {K : Cx} {prog : Program} {w : World} {A : Around} {E : Value → Shared → Prop} {s : Shared}
noncomputable def swp (l : List Nat) (n : Nat) : List Nat := (l.set (n % 7) (l.getD (n / 7 % 7) 0)).set (n / 7 % 7) (l.getD (n % 7) 0)
theorem swp_len (l : List Nat) (n : Nat) : (swp l n).length = l.length := by unfold swp; rw [List.length_set, List.length_set]
theorem swp_nat (n : Nat) : ((n : Int).fmod 7).toNat = n % 7 ∧ (((n : Int).fdiv 7).fmod 7).toNat = n / 7 % 7 := by
  rw [show (n : Int).fmod 7 = ((n % 7 : Nat) : Int) from fmod_nat n 7, show (n : Int).fdiv 7 = ((n / 7 : Nat) : Int) from fdiv_nat n 7, show ((n / 7 : Nat) : Int).fmod 7 = ((n / 7 % 7 : Nat) : Int) from fmod_nat (n / 7) 7]
  exact ⟨rfl, rfl⟩
noncomputable abbrev c2n : List Str := ["cards", "j"]
noncomputable abbrev v3 (Dr : Addr) (f b : Bool) : List (Str × Value) := ("blocks", .bool b) :: ("fronts", .bool f) :: v2 Dr
/-- one exchange -/
theorem swap_turn {s₀ : Shared} {env : Env} (hlay : Laids env c2n) {Dr Ca : Addr} {own own' : List (Addr × Obj)} {l : List Nat} (hl : l.length = 7) {n : Nat} {tn : Tok} {cvs : List Value} {cc : Nat} (hC : Paired NatV cvs l)
    (x : St K (fn 23).scope s₀ env ((Str.ofString "n", Value.int (n : Int) tn) :: v2 Dr) (c2 Ca) (own ++ (Ca, lstO cvs cc) :: own') s) :
    Wp prog w A (execs (forB 23 8) env) (fun f s' => f = .next ∧ ∃ cvs', Paired NatV cvs' (swp l n) ∧ St K (fn 23).scope s₀ env (v2 Dr) (c2 Ca) (own ++ (Ca, lstO cvs' cc) :: own') s') E s := by
  have hz : sizeLine = 2 ^ 24 := rfl
  have rC : ∀ {vs own s}, St K (fn 23).scope s₀ env vs (c2 Ca) own s → Rd K (fn 23).scope env vs (c2 Ca) s := fun x => x.rdC hlay (by simp)
  have hcl : cvs.length = 7 := by rw [hC.length, hl]
  have ha : n % 7 < 7 := Nat.mod_lt _ (by decide)
  have hb : n / 7 % 7 < 7 := Nat.mod_lt _ (by decide)
  obtain ⟨e1, e2⟩ := swp_nat n
  have f1 : (n : Int).fmod 7 = ((n % 7 : Nat) : Int) := fmod_nat n 7
  have f2 : ((n : Int).fdiv 7).fmod 7 = ((n / 7 % 7 : Nat) : Int) := by rw [show (n : Int).fdiv 7 = ((n / 7 : Nat) : Int) from fdiv_nat n 7]; exact fmod_nat (n / 7) 7
  unfold swp
  generalize n % 7 = a at *
  generalize n / 7 % 7 = b at *
  obtain ⟨va, ga, ta, rfl⟩ := pr2_get hC (getD_some (d := 0) (hl.symm ▸ ha : a < l.length))
  obtain ⟨vb, gb, tb, rfl⟩ := pr2_get hC (getD_some (d := 0) (hl.symm ▸ hb : b < l.length))
  have gC := x.at own
  -- one
  refine seq (asg (sub1 (ldc (rC x) rfl (bin (ldv (rC x) rfl (cint fun s₂ t₂ k2 => imod (by decide) fun s₃ t₃ k3 => ?_))))))
  rw [f1]
  have kk := kp_trans k2 k3
  refine itemL (kp_get kk gC) (by omega) (by omega) (by rw [Int.toNat_natCast]; exact ga) (stv (x.after kk) fun s₄ x => ⟨rfl, ?_⟩)
  clear k2 k3 kk gC
  have gC := x.at own
  -- the first store
  refine cons_ (setL_ (sub1 (ldc (rC x) rfl (bin (bin (ldv (rC x) rfl (cint fun s₂ t₂ k2 => idiv (by decide) (by decide) fun s₃ t₃ k3 => cint fun s₅ t₅ k5 => imod (by decide) fun s₆ t₆ k6 => ?_)))))))
  rw [f2]
  have kk := kp_trans k2 (kp_trans k3 (kp_trans k5 k6))
  refine itemL (kp_get kk gC) (by omega) (by omega) (by rw [Int.toNat_natCast]; exact gb) ?_
  refine ldc ((rC x).after kk) rfl (bin (ldv ((rC x).after kk) rfl (cint fun s₇ t₇ k7 => imod (by decide) fun s₈ t₈ k8 => ?_)))
  rw [f1]
  have kz := kp_trans kk (kp_trans k7 k8)
  refine ⟨Ca, _, _, cvs, cc, rfl, rfl, by omega, by omega, by omega, kp_get kz gC, fun s₉ u => ?_⟩
  rw [Int.toNat_natCast] at u
  replace x := (x.after kz).updAt own u
  clear k2 k3 k5 k6 k7 k8 kk kz u gC
  have gC := x.at own
  -- the second store
  refine cons_ (setL_ (ldv (rC x) rfl (ldc (rC x) rfl (bin (bin (ldv (rC x) rfl (cint fun s₂ t₂ k2 => idiv (by decide) (by decide) fun s₃ t₃ k3 => cint fun s₅ t₅ k5 => imod (by decide) fun s₆ t₆ k6 => ?_)))))))
  rw [f2]
  have kk := kp_trans k2 (kp_trans k3 (kp_trans k5 k6))
  refine ⟨Ca, _, _, cvs.set a _, cc, rfl, rfl, by omega, by rw [List.length_set]; omega, by rw [List.length_set]; omega, kp_get kk gC, fun s₉ u => nil_ ⟨rfl, _, ?_, (((x.after kk).updAt own u).vars _)⟩⟩
  rw [Int.toNat_natCast]
  exact pr_set ⟨ta, rfl⟩ (pr_set ⟨tb, rfl⟩ hC a) b
/-- the exchanges, then the two flags -/
theorem law2_E {s₀ : Shared} {env : Env} (hh : A.handled = none) (hlay : Laids env c2n) {Dr Ca : Addr} {ns l : List Nat} (hns : ns.length = 9) (hl : l.length = 7) {dvs cvs : List Value} {cc : Nat} (hdv : IntsAre dvs (castI ns)) (hC : Paired NatV cvs l) {Q : Flow → Shared → Prop}
    (x : St K (fn 23).scope s₀ env (v2 Dr) (c2 Ca) ((Ca, lstO cvs cc) :: [(Dr, lstO dvs 0)]) s)
    (h : ∀ s' cvs', Paired NatV cvs' ((ns.drop 7).foldl swp l) → St K (fn 23).scope s₀ env (v3 Dr true true) (c2 Ca) ((Ca, lstO cvs' cc) :: [(Dr, lstO dvs 0)]) s' → Wp prog w A (execs (List.drop 11 (fBody 23)) env) Q E s') : Wp prog w A (execs (List.drop 8 (fBody 23)) env) Q E s := by
  have hz : sizeLine = 2 ^ 24 := rfl
  have rC : ∀ {vs own s}, St K (fn 23).scope s₀ env vs (c2 Ca) own s → Rd K (fn 23).scope env vs (c2 Ca) s := fun x => x.rdC hlay (by simp)
  have hdl : dvs.length = 9 := by rw [hdv.length, List.length_map, hns]
  have hm2 : (ns.drop 7).length = 2 := by rw [List.length_drop, hns]
  have gD := x.at [_]
  have hlen : ∀ (ms : List Nat) (l : List Nat), l.length = 7 → (ms.foldl swp l).length = 7 := by
    intro ms
    induction ms with
    | nil => intro l h; exact h
    | cons m ms ih => intro l h; exact ih _ (by rw [swp_len]; exact h)
  refine cons_ (forX x (n := 2) (P := fun i v => ∃ m t, (ns.drop 7)[i]? = some m ∧ v = Value.int ((m : Nat) : Int) t) (fun i vs cs own => vs = v2 Dr ∧ cs = c2 Ca ∧ ∃ cvs', own = (Ca, lstO cvs' cc) :: [(Dr, lstO dvs 0)] ∧ Paired NatV cvs' (((ns.drop 7).take i).foldl swp l)) ?_ ⟨rfl, rfl, cvs, rfl, hC⟩ ?_ ?_)
  · intro Q' hQ
    refine sliceL (ldv (rC x) rfl (pSome (cint fun s₂ t₂ k2 => pNone ⟨Dr, dvs, 0, some 7, none, rfl, kp_get k2 gD, by omega, .int 7 _, .none, fun s₃ L k3 hL hL' => ?_⟩)))
    rw [show (some (7 : Int)) = some ((7 : Nat) : Int) from rfl, slicePick_from'] at hL'
    dsimp only at hL'
    have hd7 : (dvs.drop 7).length = 2 := by rw [List.length_drop, hdl]
    refine iterL hh hL' fun s' I it => ?_
    rw [hd7] at it
    refine hQ _ _ _ _ _ (kp_trans k2 k3) (fresh_back k2 hL) hL' (it.mono fun i v hv => ?_)
    have h7 : IntsAre (dvs.drop 7) (castI (ns.drop 7)) := by unfold castI; rw [List.map_drop]; exact ints_drop hdv 7
    obtain ⟨m, hm, t, rfl⟩ := pr_get' (ints_nat h7) hv
    exact ⟨m, t, hm, rfl⟩
  · rintro i val vs cs own I oI D oD s₃ E' ⟨rfl, rfl, cvs', rfl, hC'⟩ hi ⟨m, t, hm, rfl⟩ x
    have hl' := hlen ((ns.drop 7).take i) l hl
    refine mono_ (swap_turn (own := [(I, oI), (D, oD)]) hlay hl' hC' x) (fun f s' hf => ?_) fun _ _ e => e
    obtain ⟨rfl, cvs2, hC2, x⟩ := hf
    refine ⟨rfl, _, _, _, ⟨rfl, rfl, cvs2, rfl, ?_⟩, x⟩
    rw [List.take_add_one, hm]
    rw [List.foldl_append]
    exact hC2
  · rintro vs cs own s' ⟨rfl, rfl, cvs', rfl, hC'⟩ x
    rw [List.take_of_length_le (by omega)] at hC'
    refine seq (asg (cbool (stv x fun s₂ x => ⟨rfl, ?_⟩)))
    refine seq (asg (cbool (stv x fun s₃ x => ⟨rfl, ?_⟩)))
    exact h _ _ hC' x
end Mine
end
section
open PySem PySem.SeqAt PySem.W PyProof.Rows PySem.Builtin PySem.Builtin.Str
set_option Elab.async false
set_option maxRecDepth 100000
set_option linter.unusedVariables false
namespace Mine
variable {K : Cx} {prog : Program} {w : World} {A : Around} {E : Value → Shared → Prop} {s : Shared}
theorem pr_drop {α β : Type} {F : α → β → Prop} : ∀ {l : List α} {m : List β}, Paired F l m → ∀ (i : Nat), Paired F (l.drop i) (m.drop i)
  | _, _, h, 0 => h
  | _, _, .nil, i + 1 => .nil
  | _, _, .cons h1 h2, i + 1 => pr_drop h2 i
theorem callT3 {sc : Scope} {env : Env} {vs cs : List (Str × Value)} {n : Str} {T : String} {p pos : Pos} {e e' e'' : Expr} {Q : Value → Shared → Prop} (r : Rd K sc env vs cs s) (hm : K.mg n = none) (hb : K.mb n = some (.type T))
    (h : Wp prog w A (eval e env) (fun v s₁ => Wp prog w A (eval e' env) (fun v' s₂ => Wp prog w A (eval e'' env) (fun v'' s₃ => Wp prog w A (call (.type T) [v, v', v'']) Q E s₃) E s₂) E s₁) E s)
    (hs : backTo pos (starEach [e, e', e''] env) = [(false, eval e env), (false, eval e' env), (false, eval e'' env)] := by rfl)
    (hl : sc.names.lookup n = some .globalImplicit := by kernel_rfl) (hd : (n == ("__debug__" : Str)) = false := by kernel_rfl) :
    Wp prog w A (eval (.Call (.Name n p) [e, e', e''] [] pos) env) Q E s := by
  unfold Wp at *
  show wpAny (model prog w) A (do callWith pos (← eval (.Name n p) env) [] (backTo pos (starEach [e, e', e''] env)) (backToKw pos (keywordEach [] env))) Q E s
  refine wpAny_bind (R.ldb r hm hb ?_ hl hd)
  rw [hs]
  exact PySem.callWith_type rfl (R.args3 h)
theorem ne_cast (a b : Nat) : (((a : Nat) : Int) != ((b : Nat) : Int)) = !(a == b) := by
  by_cases h : a = b
  · subst h; simp
  · have h2 : (a : Int) ≠ b := by omega
    rw [bne_iff_ne.2 h2, beq_eq_false_iff_ne.2 h]; rfl
/-- the places of the cards -/
noncomputable def plc (l : List Nat) (j : Nat) : List Nat := l.map fun c => c % j
noncomputable def frB (l : List Nat) (j : Nat) : Bool := dist (castI ((plc l j).take j)) == j
noncomputable def blB (l : List Nat) (j k : Nat) : Bool := dist (castI (((plc l j).drop k).take j)) == j
noncomputable def blJ (l : List Nat) (j m : Nat) : Bool := (List.range m).all fun t => blB l j (t * j)
theorem blJ_succ (l : List Nat) (j m : Nat) : blJ l j (m + 1) = (blJ l j m && blB l j (m * j)) := by
  unfold blJ; rw [List.range_succ, List.all_append]; simp
noncomputable def frsB (l : List Nat) (m : Nat) : Bool := (List.range m).all fun i => frB l (i + 2)
theorem frsB_succ (l : List Nat) (m : Nat) : frsB l (m + 1) = (frsB l m && frB l (m + 2)) := by
  unfold frsB; rw [List.range_succ, List.all_append]; simp
noncomputable def blsB (l : List Nat) (m : Nat) : Bool := (List.range m).all fun i => blJ l (i + 2) (7 / (i + 2))
theorem blsB_succ (l : List Nat) (m : Nat) : blsB l (m + 1) = (blsB l m && blJ l (m + 2) (7 / (m + 2))) := by
  unfold blsB; rw [List.range_succ, List.all_append]; simp
theorem rng_ok : ∀ j : Nat, j < 8 → 2 ≤ j → Builtin.Range.small 0 (8 - (j : Int)) (j : Int) = true ∧ Builtin.Range.rangeSize 0 (8 - (j : Int)) (j : Int) = ((7 / j : Nat) : Int) := by decide +kernel
noncomputable abbrev v4 (Dr Pl : Addr) (f b : Bool) : List (Str × Value) := ("places", .ref Pl) :: v3 Dr f b
noncomputable abbrev c3 (Ca : Addr) (j : Nat) (tj : Tok) : List (Str × Value) := ("j", .int (j : Int) tj) :: c2 Ca
/-- the blocks of one j -/
theorem blocks_loop (BT : Bt K) {s₀ : Shared} {env : Env} (hh : A.handled = none) (hlay : Laids env c2n) {Dr Ca Pl : Addr} {l : List Nat} (hl : l.length = 7) {j : Nat} (h2 : 2 ≤ j) (hj : j < 8) {tj : Tok} {pvs : List Value} {pc : Nat} (hP : Paired NatV pvs (plc l j)) {own : List (Addr × Obj)} {f b : Bool} {Q : Flow → Shared → Prop}
    (x : St K (fn 23).scope s₀ env (v4 Dr Pl f b) (c3 Ca j tj) ((Pl, lstO pvs pc) :: own) s)
    (h : ∀ s', St K (fn 23).scope s₀ env (v4 Dr Pl f (b && blJ l j (7 / j))) (c3 Ca j tj) ((Pl, lstO pvs pc) :: own) s' → Q .next s') : Wp prog w A (execs (List.drop 2 (forB 23 11)) env) Q E s := by
  have hz : sizeLine = 2 ^ 24 := rfl
  have rC : ∀ {vs own s}, St K (fn 23).scope s₀ env vs (c3 Ca j tj) own s → Rd K (fn 23).scope env vs (c3 Ca j tj) s := fun x => x.rdC hlay (by simp)
  have hpl : pvs.length = 7 := by rw [hP.length]; unfold plc; rw [List.length_map, hl]
  obtain ⟨r1, r2⟩ := rng_ok j hj h2
  have hj0 : (j : Int) ≠ 0 := by omega
  refine cons_ (for_ x (fun t vs cs own' => vs = v4 Dr Pl f (b && blJ l j t) ∧ cs = c3 Ca j tj ∧ own' = (Pl, lstO pvs pc) :: own) [] rfl (P := fun i v => ∃ t, v = Value.int (0 + (i : Int) * (j : Int)) t) (n := 7 / j) ?_ ⟨by rw [show blJ l j 0 = true from rfl, Bool.and_true], rfl, rfl⟩ (fun _ _ _ _ _ q hq => by cases hq) ?_ ?_)
  · intro Q' hQ
    exact callT3 (rC x) BT.tRange.1 BT.tRange.2 (cint fun s₄ t₄ k4 => bin (cint fun s₅ t₅ k5 => ldc ((rC x).after (kp_trans k4 k5)) rfl (isub fun s₆ t₆ k6 => ldc ((rC x).after (kp_trans k4 (kp_trans k5 k6))) rfl (range3 hj0 (by omega) fun s₇ D' t' u' v' k7 hD hr => iterR3 hh hr r1 r2 fun s' I it => hQ _ _ (it.back (kp_trans k4 (kp_trans k5 (kp_trans k6 k7))))))))
  · rintro t val vs cs own' I oI s₃ E' ⟨rfl, rfl, rfl⟩ ht ⟨tk, rfl⟩ x
    have hk : t * j + j ≤ 7 := by
      have h1 : (t + 1) * j ≤ (7 / j) * j := Nat.mul_le_mul_right j ht
      have h3 : (7 / j) * j ≤ 7 := Nat.div_mul_le_self 7 j
      rw [Nat.add_mul, Nat.one_mul] at h1
      omega
    rw [show (0 + (t : Int) * (j : Int)) = ((t * j : Nat) : Int) by push_cast; omega] at x
    have hb := blJ_succ l j t
    unfold blB at hb
    generalize hkk : t * j = k at *
    have gP := x.at [_]
    refine cons_ (ifCmp (callB1 (rC x) BT.len.1 BT.len.2 (callT1 (rC x) BT.tSet.1 BT.tSet.2 (sliceL (ldv (rC x) rfl (pSome (ldv (rC x) rfl (pSome (bin (ldv (rC x) rfl (ldc (rC x) rfl (iadd fun s₄ t₄ k4 => ⟨Pl, pvs, pc, some (k : Int), some ((k : Int) + (j : Int)), rfl, kp_get k4 gP, by omega, .int _ _, .int _ _, fun s₅ L k5 hL hL' => ?_⟩))))))))))))
    rw [show (some ((k : Int) + (j : Int))) = some ((k + j : Nat) : Int) by push_cast; rfl, slicePick_run _ k (k + j) (by rw [List.size_toArray]; omega) (by omega), show k + j - k = j by omega] at hL'
    dsimp only at hL'
    have hI := nat_ints (pr_take (pr_drop hP k) j)
    have hdl : (castI (((plc l j).drop k).take j)).length + 1 < 4096 := by
      rw [List.length_map, List.length_take]; omega
    refine setL hh hL' hI hdl fun s₆ S k6 hS hS' => lenS hS' fun s₇ t₇ k7 => ?_
    have kk := kp_trans k4 (kp_trans k5 (kp_trans k6 k7))
    refine ldc ((rC x).after kk) rfl (iNe ⟨_, rfl, fun e => ?_, fun e => ?_⟩)
    · rw [ne_cast, Bool.not_eq_true'] at e
      refine seq (asg (cbool (stv (x.after kk) fun s₈ x => ⟨rfl, nil_ (nil_ ⟨rfl, _, _, _, ⟨rfl, rfl, rfl⟩, ?_⟩)⟩)))
      rw [hb, e, Bool.and_false, Bool.and_false]
      exact x.vars _
    · rw [ne_cast, Bool.not_eq_false'] at e
      refine nil_ (nil_ ⟨rfl, _, _, _, ⟨rfl, rfl, rfl⟩, ?_⟩)
      rw [hb, e, Bool.and_true]
      exact (x.after kk).vars _
  · rintro vs cs own' s' ⟨rfl, rfl, rfl⟩ x
    exact nil_ (h _ x)
/-- the loop over j -/
theorem law2_F {D : Int → Option Str} (H : Law2 K prog w D) {s₀ : Shared} {env : Env} (hroom : A.depth + 2 < recursionLimit) (hh : A.handled = none) (hlay : Laids env c2n) {Dr Ca : Addr} {l : List Nat} (hl : l.length = 7) (hl7 : ∀ c ∈ l, c < 7) {cvs : List Value} {cc : Nat} (hC : Paired NatV cvs l) {own : List (Addr × Obj)} {Q : Flow → Shared → Prop}
    (x : St K (fn 23).scope s₀ env (v3 Dr true true) (c2 Ca) ((Ca, lstO cvs cc) :: own) s)
    (h : ∀ s', St K (fn 23).scope s₀ env (v3 Dr (frsB l 6) (blsB l 6)) (c2 Ca) ((Ca, lstO cvs cc) :: own) s' → Wp prog w A (execs (List.drop 12 (fBody 23)) env) Q E s') : Wp prog w A (execs (List.drop 11 (fBody 23)) env) Q E s := by
  have hz : sizeLine = 2 ^ 24 := rfl
  have BT := H.BT
  have rC : ∀ {vs own s}, St K (fn 23).scope s₀ env vs (c2 Ca) own s → Rd K (fn 23).scope env vs (c2 Ca) s := fun x => x.rdC hlay (by simp)
  have rJ : ∀ {vs own s j tj}, St K (fn 23).scope s₀ env vs (c3 Ca j tj) own s → Rd K (fn 23).scope env vs (c3 Ca j tj) s := fun x => x.rdC hlay (by simp)
  have hcl : cvs.length = 7 := by rw [hC.length, hl]
  refine cons_ (forC_ x (hlay _ (by simp)) (fun i vs cs own' => vs = v3 Dr (frsB l i) (blsB l i) ∧ cs = c2 Ca ∧ own' = (Ca, lstO cvs cc) :: own) [] rfl (P := fun i v => ∃ t, v = Value.int (2 + (i : Int)) t) (n := 6) ?_ ⟨rfl, rfl, rfl⟩ (fun _ _ _ _ _ q hq => by cases hq) ?_ ?_)
  · intro Q' hQ
    exact callT2 (rC x) BT.tRange.1 BT.tRange.2 (cint fun s₄ t₄ k4 => cint fun s₅ t₅ k5 => range2 fun s₆ D' t' u' v' k6 hD hr => iterR hh hr (by rfl) (by rfl) fun s' I it => hQ _ _ (it.back (kp_trans k4 (kp_trans k5 k6))))
  · rintro i val vs cs own' I oI s₃ E' ⟨rfl, rfl, rfl⟩ hi ⟨tj, rfl⟩ x
    rw [show (2 + (i : Int)) = ((i + 2 : Nat) : Int) by omega] at x
    have hf := frsB_succ l i
    have hb := blsB_succ l i
    unfold frB at hf
    generalize hj : i + 2 = j at *
    have j2 : 2 ≤ j := by omega
    have j8 : j < 8 := by omega
    -- places
    refine cons_ (asg0 x (rJ x) (fun v y => ∀ c, NatV v c → NatV y (c % j)) (n := cvs.length) (P := fun i v => cvs[i]? = some v) (src := [Ca]) (fun Q' hQ => ldc (rJ x) rfl (iterL hh (x.at [_]) fun s' I it => hQ _ _ it)) (by omega) ?_ ?_)
    · intro i v s₄ env' E' hP r hk
      obtain ⟨c, hc, t, rfl⟩ := pr_get' hC hP
      refine callF2 r H.f21 fun a1 ha1 => ldv r rfl (ldc r rfl ⟨kp_rfl, place_spec H.TT BT H.f5 H.f6 H.f7 (hl7 c (List.mem_of_getElem? hc)) j2 j8 r.W ha1 hroom hh fun s' u k' => ⟨fun c' h' => ?_, k'⟩⟩)
      obtain ⟨t', e⟩ := h'
      injection e with e1 _
      have : c = c' := by omega
      subst this
      exact ⟨u, rfl⟩
    intro s₄ Pl pvs pc us x hul hus hF
    have := (same_list hul hus).symm
    subst this
    have hP : Paired NatV pvs (plc l j) := by
      have h1 : Paired (fun v (c : Nat) => NatV v (c % j)) pvs l := pr_comp hF hC fun a b c hc q1 q2 => q1 c q2
      have key : ∀ {l : List Value} {m : List Nat}, Paired (fun v (c : Nat) => NatV v (c % j)) l m → Paired NatV l (m.map fun c => c % j) := fun {l m} h => by
        induction h with
        | nil => exact .nil
        | cons h1 _ ih => exact .cons h1 ih
      exact key h1
    clear hF hul hus
    have hpl : pvs.length = 7 := by rw [hP.length]; unfold plc; rw [List.length_map, hl]
    have gP := x.at []
    have rest : ∀ {f : Bool} {s' : Shared}, f = frsB l (i + 1) → St K (fn 23).scope s₀ env (v4 Dr Pl f (blsB l i)) (c3 Ca j tj) ((Pl, lstO pvs pc) :: (I, oI) :: (Ca, lstO cvs cc) :: own) s' →
        Wp prog w A (execs (List.drop 2 (forB 23 11)) env) (fun f s' => f = .next ∧ ∃ vs' cs' own', (vs' = v3 Dr (frsB l (i + 1)) (blsB l (i + 1)) ∧ cs' = c2 Ca ∧ own' = (Ca, lstO cvs cc) :: own) ∧ St K (fn 23).scope s₀ env vs' cs' ((I, oI) :: own') s') E' s' := by
      intro f s' e x
      refine blocks_loop BT hh hlay hl j2 j8 hP x fun s₅ x => ⟨rfl, _, _, _, ⟨rfl, rfl, rfl⟩, ?_⟩
      rw [e, ← hb] at x
      exact ((x.dropAt []).vars _).cvars _ (fun p hp => by
        rcases List.mem_cons.1 hp with rfl | hp
        · rfl
        · cases hp)
    -- the front
    refine cons_ (ifCmp (callB1 (rJ x) BT.len.1 BT.len.2 (callT1 (rJ x) BT.tSet.1 BT.tSet.2 (sliceL (ldv (rJ x) rfl (pNone (pSome (ldc (rJ x) rfl ⟨Pl, pvs, pc, none, some (j : Int), rfl, gP, by omega, .none, .int _ _, fun s₅ L k5 hL hL' => ?_⟩))))))))
    rw [slicePick_upto'] at hL'
    dsimp only at hL'
    have hI := nat_ints (pr_take hP j)
    have hdl : (castI ((plc l j).take j)).length + 1 < 4096 := by
      rw [List.length_map, List.length_take]; omega
    refine setL hh hL' hI hdl fun s₆ S k6 hS hS' => lenS hS' fun s₇ t₇ k7 => ?_
    have kk := kp_trans k5 (kp_trans k6 k7)
    refine ldc ((rJ x).after kk) rfl (iNe ⟨_, rfl, fun e => ?_, fun e => ?_⟩)
    · rw [ne_cast, Bool.not_eq_true'] at e
      refine seq (asg (cbool (stv (x.after kk) fun s₈ x => ⟨rfl, nil_ ?_⟩)))
      exact rest (by rw [hf, e, Bool.and_false]) (x.vars _)
    · rw [ne_cast, Bool.not_eq_false'] at e
      refine nil_ ?_
      exact rest (by rw [hf, e, Bool.and_true]) ((x.after kk).vars _)
  · rintro vs cs own' s' ⟨rfl, rfl, rfl⟩ x
    exact h _ x
end Mine
end
section
open PySem PySem.SeqAt PySem.W PyProof.Rows PySem.Builtin PySem.Builtin.Str
set_option Elab.async false
set_option maxRecDepth 100000
set_option linter.unusedVariables false
namespace Mine
variable {K : Cx} {prog : Program} {w : World} {A : Around} {E : Value → Shared → Prop} {s : Shared}
noncomputable def ltV (k : Int) (v : Value) : Bool := match v with
  | .int n _ => decide (n < k)
  | _ => false
noncomputable def geV (k : Int) (v : Value) : Bool := match v with
  | .int n _ => decide (n ≥ k)
  | _ => false
noncomputable def blw (l : List Nat) : List Nat := l.filter fun c => decide (c < l.getD 0 0)
noncomputable def abv (l : List Nat) : List Nat := l.filter fun c => decide (l.getD 0 0 ≤ c)
noncomputable def dealtB (l : List Nat) : Bool := castI ((blw l).reverse ++ abv l) == [0, 1, 2, 3, 4, 5, 6]
theorem parts_len (l : List Nat) : (blw l).length + (abv l).length = l.length := by
  have h := (List.filter_append_perm (fun c => decide (c < l.getD 0 0)) l).length_eq
  rw [List.length_append] at h
  have e : (l.filter fun c => !decide (c < l.getD 0 0)) = abv l := by
    unfold abv
    congr 1
    funext c
    by_cases h : c < l.getD 0 0
    · have h2 : ¬ l.getD 0 0 ≤ c := by omega
      rw [decide_eq_true h, decide_eq_false h2]; rfl
    · have h2 : l.getD 0 0 ≤ c := by omega
      rw [decide_eq_false h, decide_eq_true h2]; rfl
  rw [e] at h
  exact h
/-- the last statements -/
theorem law2_G (BT : Bt K) {s₀ : Shared} {env : Env} (hun : A.units < cLine) (hh : A.handled = none) (hlay : Laids env c2n) {Dr Ca : Addr} {l : List Nat} (hl : l.length = 7) {cvs : List Value} {cc : Nat} (hC : Paired NatV cvs l) {own : List (Addr × Obj)} {f b : Bool} (hf : f = dealtB l) (hb : b = dealtB l) {Q : Value → Shared → Prop}
    (x : St K (fn 23).scope s₀ env (v3 Dr f b) (c2 Ca) ((Ca, lstO cvs cc) :: own) s)
    (h : ∀ s', Keeps s₀ s' → Q (.bool true) s') : Wp prog w A (execs (List.drop 12 (fBody 23)) env) (fun fl s' => ∃ v, fl = .ret v ∧ Q v s') E s := by
  have hz : sizeLine = 2 ^ 24 := rfl
  have rC : ∀ {vs own s}, St K (fn 23).scope s₀ env vs (c2 Ca) own s → Rd K (fn 23).scope env vs (c2 Ca) s := fun x => x.rdC hlay (by simp)
  have hcl : cvs.length = 7 := by rw [hC.length, hl]
  obtain ⟨_, g0, t0, rfl⟩ := pr2_get hC (getD_some (d := 0) (by rw [hl]; decide : 0 < l.length))
  -- below
  refine cons_ (asg1 x (rC x) (ltV ((l.getD 0 0 : Nat) : Int)) (fun v y => y = v) (n := cvs.length) (P := fun i v => cvs[i]? = some v) (src := [Ca]) (fun Q' hQ => ldc (rC x) rfl (iterL hh (x.at []) fun s' I it => hQ _ _ it)) (by omega) ?_ (fun i v s₃ env' E' hP _ r hk => ldv r rfl ⟨rfl, kp_rfl⟩) ?_)
  · intro i v s₃ env' E' hP r hk
    obtain ⟨c, hc, t, rfl⟩ := pr_get' hC hP
    exact tCmp (ldv r rfl (sub1 (ldc r rfl (cint fun s₅ t₅ k5 => itemL (kp_get k5 (hk _ _ (x.at []))) (by decide) (by decide) g0 (iLt ⟨_, rfl, rfl, k5⟩)))))
  intro s₂ Be bvs bc us x hul hus hF
  have := (same_list hul hus).symm
  subst this
  have hB : Paired NatV bvs ((blw l).map id) := pr_filter (q := fun c => decide (c < l.getD 0 0)) hC (fun v c _ ⟨t, e⟩ => by
    subst e
    show decide ((c : Int) < ((l.getD 0 0 : Nat) : Int)) = decide (c < l.getD 0 0)
    simp) (fun v y c _ _ h1 h2 => by subst h2; exact h1) hF
  rw [List.map_id] at hB
  clear hF hul hus
  -- above
  refine cons_ (asg1 x (rC x) (geV ((l.getD 0 0 : Nat) : Int)) (fun v y => y = v) (n := cvs.length) (P := fun i v => cvs[i]? = some v) (src := [Ca]) (fun Q' hQ => ldc (rC x) rfl (iterL hh (x.at [_]) fun s' I it => hQ _ _ it)) (by omega) ?_ (fun i v s₃ env' E' hP _ r hk => ldv r rfl ⟨rfl, kp_rfl⟩) ?_)
  · intro i v s₃ env' E' hP r hk
    obtain ⟨c, hc, t, rfl⟩ := pr_get' hC hP
    exact tCmp (ldv r rfl (sub1 (ldc r rfl (cint fun s₅ t₅ k5 => itemL (kp_get k5 (hk _ _ (x.at [_]))) (by decide) (by decide) g0 (iGe ⟨_, rfl, rfl, k5⟩)))))
  intro s₃ Ab avs ac us x hul hus hF
  have := (same_list hul hus).symm
  subst this
  have hA : Paired NatV avs ((abv l).map id) := pr_filter (q := fun c => decide (l.getD 0 0 ≤ c)) hC (fun v c _ ⟨t, e⟩ => by
    subst e
    show decide ((c : Int) ≥ ((l.getD 0 0 : Nat) : Int)) = decide (l.getD 0 0 ≤ c)
    simp) (fun v y c _ _ h1 h2 => by subst h2; exact h1) hF
  rw [List.map_id] at hA
  clear hF hul hus
  have hpl := parts_len l
  rw [hl] at hpl
  have hbl : bvs.length = (blw l).length := hB.length
  have hal : avs.length = (abv l).length := hA.length
  have gB := x.at [_]
  have gA := x.at []
  -- dealt
  refine seq (asg (cmp1 (bin (sliceR (ldv (rC x) rfl (un1 (cint fun s₄ t₄ k4 => neg1 fun s₅ t₅ k5 => ⟨Be, bvs, bc, t₅, rfl, rfl, kp_get (kp_trans k4 k5) gB, by omega, fun s₆ L k6 hL hL' => ?_⟩)))))))
  rw [revPick] at hL'
  have k7 := kp_trans k4 (kp_trans k5 k6)
  refine ldv ((rC x).after k7) rfl (addL hL' (kp_get k7 gA) (by rw [List.length_reverse]; omega) fun s₇ L2 k8 hL2 hL2' => ?_)
  have hP := nat_ints (pr_app (pr_rev hB) hA)
  refine listI [0, 1, 2, 3, 4, 5, 6] rfl (by decide) fun s₈ L3 ls k9 hL3 hls hL3' => ?_
  refine eqLI (kp_get k9 hL2') hL3' hP hls (by rw [List.length_map, List.length_append, List.length_reverse]; exact hpl) hun ?_
  have kk := kp_trans k7 (kp_trans k8 k9)
  refine stv (x.after kk) fun s₉ x => ⟨rfl, ?_⟩
  rw [show (castI ((blw l).reverse ++ abv l) == [0, 1, 2, 3, 4, 5, 6]) = dealtB l from rfl] at x
  refine cons_ (ret_ (andB (cmp1 (ldv (rC x) rfl (ldv (rC x) rfl (bEq ⟨_, rfl, fun _ => cmp1 (ldv (rC x) rfl (ldv (rC x) rfl (bEq ?_))), fun e => ?_⟩))))))
  · rw [hb, beq_self_eq_true]
    exact fin_ x.keeps kp_rfl (h _)
  · rw [hf, beq_self_eq_true] at e
    cases e
end Mine
end
section
open PySem PySem.SeqAt PySem.W PyProof.Rows PySem.Builtin PySem.Builtin.Str
set_option Elab.async false
set_option maxRecDepth 100000
set_option linter.unusedVariables false
namespace Mine
noncomputable def inB (x : Nat) : List Nat → Bool
  | [] => false
  | y :: r => Nat.beq y x || inB x r
noncomputable def ndN : List Nat → List Nat → Bool
  | _, [] => true
  | S, k :: r => !inB k S && ndN (k :: S) r
theorem dedup_le : ∀ (ns S : List Int), (ns.foldl step_dedup S).length ≤ S.length + ns.length
  | [], S => Nat.le_refl _
  | k :: r, S => by
    rw [List.foldl_cons, List.length_cons]
    have h := dedup_le r (step_dedup S k)
    unfold step_dedup at h ⊢
    split at h
    · rename_i e; rw [if_pos e]; omega
    · rename_i e; rw [if_neg e]; rw [List.length_append, List.length_singleton] at h; omega
theorem beq_cast (a b : Nat) : ((a : Int) == (b : Int)) = Nat.beq a b := by
  rw [Bool.eq_iff_iff, beq_iff_eq, Nat.beq_eq]; omega
theorem dedup_nd : ∀ (ns S : List Nat) (T : List Int), (∀ x : Nat, T.any (· == (x : Int)) = inB x S) → (((castI ns).foldl step_dedup T).length == T.length + ns.length) = ndN S ns
  | [], S, T, _ => by simp [ndN]
  | k :: r, S, T, h => by
    show ((List.foldl step_dedup (step_dedup T (k : Int)) (castI r)).length == T.length + (k :: r).length) = _
    unfold ndN
    have hk := h k
    cases e : inB k S with
    | true =>
      rw [e] at hk
      have : step_dedup T (k : Int) = T := by unfold step_dedup; rw [if_pos hk]
      rw [this]
      have hle := dedup_le (castI r) T
      rw [List.length_map] at hle
      rw [List.length_cons]
      simp
      omega
    | false =>
      rw [e] at hk
      have : step_dedup T (k : Int) = T ++ [(k : Int)] := by unfold step_dedup; rw [if_neg (by rw [hk]; exact Bool.false_ne_true)]
      rw [this]
      have ih := dedup_nd r (k :: S) (T ++ [(k : Int)]) fun x => by
        rw [List.any_append, h x]
        show (inB x S || (((k : Int) == (x : Int)) || false)) = (Nat.beq k x || inB x S)
        rw [beq_cast, Bool.or_false, Bool.or_comm]
      rw [List.length_append, List.length_singleton] at ih
      rw [List.length_cons, show T.length + (r.length + 1) = T.length + 1 + r.length by omega, ih]
      simp
theorem dist_nd (ns : List Nat) : (dist (castI ns) == ns.length) = ndN [] ns := by
  have := dedup_nd ns [] [] fun x => rfl
  rw [List.length_nil, Nat.zero_add] at this
  exact this
/-- the check of one order of the cards, for the kernel -/
noncomputable def frN (l : List Nat) (j : Nat) : Bool := ndN [] ((l.map fun c => c % j).take j)
noncomputable def blN (l : List Nat) (j k : Nat) : Bool := ndN [] (((l.map fun c => c % j).drop k).take j)
noncomputable def eqN : List Nat → List Nat → Bool
  | [], [] => true
  | a :: r, b :: q => Nat.beq a b && eqN r q
  | _, _ => false
noncomputable def lowN (x : Nat) : List Nat → List Nat
  | [] => []
  | c :: r => match Nat.blt c x with
    | true => c :: lowN x r
    | false => lowN x r
noncomputable def upN (x : Nat) : List Nat → List Nat
  | [] => []
  | c :: r => match Nat.blt c x with
    | true => upN x r
    | false => c :: upN x r
noncomputable def dealN (l : List Nat) : Bool := eqN ((lowN (l.getD 0 0) l).reverse ++ upN (l.getD 0 0) l) [0, 1, 2, 3, 4, 5, 6]
noncomputable def fN (l : List Nat) : Bool := frN l 2 && (frN l 3 && (frN l 4 && (frN l 5 && (frN l 6 && frN l 7))))
noncomputable def bN (l : List Nat) : Bool := blN l 2 0 && (blN l 2 2 && (blN l 2 4 && (blN l 3 0 && (blN l 3 3 && (blN l 4 0 && (blN l 5 0 && (blN l 6 0 && blN l 7 0)))))))
noncomputable def okP (l : List Nat) : Bool := match dealN l with
  | true => fN l && bN l
  | false => !fN l && !bN l
noncomputable def allQ (p : List Nat → Bool) : Nat → List Nat → Bool
  | 0, acc => p acc
  | k + 1, acc => [0, 1, 2, 3, 4, 5, 6].all fun x => inB x acc || allQ p k (acc ++ [x])
theorem in_mem {x : Nat} : ∀ {l : List Nat}, inB x l = true → x ∈ l
  | y :: r, h => by
    unfold inB at h
    rcases Bool.or_eq_true_iff.1 h with h | h
    · rw [Nat.eq_of_beq_eq_true h]; exact .head _
    · exact .tail _ (in_mem h)
theorem allQ_spec {p : List Nat → Bool} : ∀ (k : Nat) (acc : List Nat), allQ p k acc = true → ∀ suf : List Nat, suf.length = k → (acc ++ suf).Nodup → (∀ x ∈ suf, x < 7) → p (acc ++ suf) = true
  | 0, acc, h, suf, hl, _, _ => by
    have : suf = [] := List.eq_nil_of_length_eq_zero hl
    subst this
    rw [List.append_nil]; exact h
  | k + 1, acc, h, [], hl, _, _ => by cases hl
  | k + 1, acc, h, x :: suf, hl, hn, hx => by
    have hx7 := hx x (.head _)
    have hm : x ∈ [0, 1, 2, 3, 4, 5, 6] := by
      rcases (show x = 0 ∨ x = 1 ∨ x = 2 ∨ x = 3 ∨ x = 4 ∨ x = 5 ∨ x = 6 by omega) with rfl | rfl | rfl | rfl | rfl | rfl | rfl <;> decide
    have h1 := List.all_eq_true.1 (show ([0, 1, 2, 3, 4, 5, 6].all fun x => inB x acc || allQ p k (acc ++ [x])) = true from h) x hm
    have hni : inB x acc = false := by
      cases e : inB x acc with
      | false => rfl
      | true =>
        have := in_mem e
        exact absurd rfl ((List.nodup_append.1 hn).2.2 x this x (.head _))
    rw [hni, Bool.false_or] at h1
    have e : acc ++ x :: suf = acc ++ [x] ++ suf := by simp
    rw [e] at hn ⊢
    exact allQ_spec k (acc ++ [x]) h1 suf (by simpa using hl) hn fun y hy => hx y (.tail _ hy)
theorem q0 : allQ okP 6 [0] = true := by decide +kernel
theorem q1 : allQ okP 6 [1] = true := by decide +kernel
theorem q2 : allQ okP 6 [2] = true := by decide +kernel
theorem q3 : allQ okP 6 [3] = true := by decide +kernel
theorem q4 : allQ okP 6 [4] = true := by decide +kernel
theorem q5 : allQ okP 6 [5] = true := by decide +kernel
theorem q6 : allQ okP 6 [6] = true := by decide +kernel
theorem all5040 : allQ okP 7 [] = true := by
  show ([0, 1, 2, 3, 4, 5, 6].all fun x => inB x [] || allQ okP 6 ([] ++ [x])) = true
  simp only [List.all_cons, List.all_nil, List.nil_append, inB, Bool.false_or, Bool.and_true, q0, q1, q2, q3, q4, q5, q6]
end Mine
end
section
open PySem PySem.SeqAt PySem.W PyProof.Rows PySem.Builtin PySem.Builtin.Str
set_option Elab.async false
set_option maxRecDepth 100000
set_option linter.unusedVariables false
namespace Mine
theorem frB_is {l : List Nat} (hl : l.length = 7) {j : Nat} (hj : j ≤ 7) : frB l j = frN l j := by
  have h := dist_nd ((plc l j).take j)
  have e : ((plc l j).take j).length = j := by rw [List.length_take]; unfold plc; rw [List.length_map, hl]; omega
  rw [e] at h
  exact h
theorem blB_is {l : List Nat} (hl : l.length = 7) {j k : Nat} (hj : k + j ≤ 7) : blB l j k = blN l j k := by
  have h := dist_nd (((plc l j).drop k).take j)
  have e : (((plc l j).drop k).take j).length = j := by rw [List.length_take, List.length_drop]; unfold plc; rw [List.length_map, hl]; omega
  rw [e] at h
  exact h
theorem frs_is {l : List Nat} (hl : l.length = 7) : frsB l 6 = fN l := by
  unfold frsB fN
  rw [show List.range 6 = [0, 1, 2, 3, 4, 5] from rfl]
  simp only [List.all_cons, List.all_nil, Bool.and_true]
  rw [frB_is hl (by decide), frB_is hl (by decide), frB_is hl (by decide), frB_is hl (by decide), frB_is hl (by decide), frB_is hl (by decide)]
theorem bls_is {l : List Nat} (hl : l.length = 7) : blsB l 6 = bN l := by
  unfold blsB bN
  rw [show List.range 6 = [0, 1, 2, 3, 4, 5] from rfl]
  simp only [List.all_cons, List.all_nil, Bool.and_true]
  unfold blJ
  rw [show List.range (7 / (0 + 2)) = [0, 1, 2] from rfl, show List.range (7 / (1 + 2)) = [0, 1] from rfl, show List.range (7 / (2 + 2)) = [0] from rfl]
  simp only [List.all_cons, List.all_nil, Bool.and_true]
  rw [blB_is hl (by decide), blB_is hl (by decide), blB_is hl (by decide), blB_is hl (by decide), blB_is hl (by decide), blB_is hl (by decide), blB_is hl (by decide), blB_is hl (by decide), blB_is hl (by decide)]
  simp only [Bool.and_assoc]
theorem eqN_is : ∀ a b : List Nat, (castI a == castI b) = eqN a b
  | [], [] => rfl
  | [], _ :: _ => rfl
  | _ :: _, [] => rfl
  | a :: r, b :: q => by
    show (((a : Int) :: castI r) == ((b : Int) :: castI q)) = (Nat.beq a b && eqN r q)
    rw [List.cons_beq_cons, eqN_is r q, beq_cast]
theorem lowN_is (x : Nat) : ∀ l : List Nat, lowN x l = l.filter fun c => decide (c < x)
  | [] => rfl
  | c :: r => by
    unfold lowN
    by_cases h : c < x
    · rw [List.filter_cons_of_pos (by simpa using h), show Nat.blt c x = true from by rw [Nat.blt_eq]; exact h, lowN_is x r]
    · rw [List.filter_cons_of_neg (by simpa using h), show Nat.blt c x = false from by rw [← Bool.not_eq_true, Nat.blt_eq]; exact h, lowN_is x r]
theorem upN_is (x : Nat) : ∀ l : List Nat, upN x l = l.filter fun c => decide (x ≤ c)
  | [] => rfl
  | c :: r => by
    unfold upN
    by_cases h : c < x
    · rw [List.filter_cons_of_neg (by simp; omega), show Nat.blt c x = true from by rw [Nat.blt_eq]; exact h, upN_is x r]
    · rw [List.filter_cons_of_pos (by simp; omega), show Nat.blt c x = false from by rw [← Bool.not_eq_true, Nat.blt_eq]; exact h, upN_is x r]
theorem dealt_is (l : List Nat) : dealtB l = dealN l := by
  unfold dealtB dealN blw abv
  rw [lowN_is, upN_is, ← eqN_is]
  rfl
/-- Gilbreath: the fronts, the blocks and the deals say the same -/
theorem gilbreath {l : List Nat} (h : l.Perm (List.range 7)) : frsB l 6 = dealtB l ∧ blsB l 6 = dealtB l := by
  have hl : l.length = 7 := by rw [h.length_eq, List.length_range]
  have hn : ([] ++ l).Nodup := by rw [List.nil_append]; exact h.nodup_iff.2 List.nodup_range
  have hx : ∀ x ∈ l, x < 7 := fun x hx => List.mem_range.1 (h.mem_iff.1 hx)
  have ok := allQ_spec 7 [] all5040 l hl hn hx
  rw [List.nil_append] at ok
  rw [frs_is hl, bls_is hl, dealt_is]
  unfold okP at ok
  cases e : dealN l with
  | true =>
    rw [e] at ok
    exact Bool.and_eq_true_iff.1 ok
  | false =>
    rw [e] at ok
    have := Bool.and_eq_true_iff.1 ok
    exact ⟨by simpa using this.1, by simpa using this.2⟩
theorem swp_perm {l : List Nat} (hl : l.length = 7) (n : Nat) : (swp l n).Perm l := by
  have ha : n % 7 < l.length := by rw [hl]; exact Nat.mod_lt _ (by decide)
  have hb : n / 7 % 7 < l.length := by rw [hl]; exact Nat.mod_lt _ (by decide)
  unfold swp
  have e1 : l.getD (n % 7) 0 = l[n % 7] := by rw [List.getD_eq_getElem?_getD, List.getElem?_eq_getElem ha]; rfl
  have e2 : l.getD (n / 7 % 7) 0 = l[n / 7 % 7] := by rw [List.getD_eq_getElem?_getD, List.getElem?_eq_getElem hb]; rfl
  rw [e1, e2]
  exact List.set_set_perm ha hb
theorem swaps_perm : ∀ (ms : List Nat) {l : List Nat}, l.Perm (List.range 7) → (ms.foldl swp l).Perm (List.range 7)
  | [], _, h => h
  | m :: ms, l, h => swaps_perm ms ((swp_perm (by rw [h.length_eq, List.length_range]) m).trans h)
variable {K : Cx} {prog : Program} {w : World} {A : Around} {E : Value → Shared → Prop} {s : Shared}
/-- law 2 -/
theorem law2_spec {D : Int → Option Str} (H : Law2 K prog w D) (hroom : A.depth + 3 < recursionLimit) (hun : A.units + 3 < cLine) (hh : A.handled = none) {S : Addr} {items : Array Value} {xs : List Int} {a : Addr} {Q : Value → Shared → Prop}
    (W : Wd K s.heap) (hf : HasFn K.mg s.heap (fn 23) a) (hS : s.heap.IsList S items) (hx : IntsAre items.toList xs) (hsz : items.size ≤ sizeLine)
    (h : ∀ s', Keeps s s' → Q (.bool true) s') : Wp prog w A (call (.ref a) [.ref S]) Q E s := by
  refine enter ["cards", "j"] (binds := [("script", .ref S)]) W hf (by omega) (fun _ _ _ => by rfl) (locs (by kernel_rfl)) (fun env s₁ x hl => ?_) ?_
  rotate_left
  · intro L n hn
    rcases List.mem_cons.1 hn with rfl | hn
    · kernel_rfl
    · rcases List.mem_cons.1 hn with rfl | hn
      · kernel_rfl
      · cases hn
  have hroom' : (A.deeper env).depth + 2 < recursionLimit := by show A.depth + 1 + 2 < _; omega
  have hun' : (A.deeper env).units < cLine := hun
  have hh' : (A.deeper env).handled = none := hh
  have l9 := drawn_len xs
  have l7 : ((drawnN xs).take 7).length = 7 := by rw [List.length_take, l9]; rfl
  refine law2_A H hh' hS hx hsz x fun s₂ Fi Dr dvs hdv x => ?_
  refine law2_B H hroom' hh' l9 (drawn_lt xs) hdv x fun s₃ tm x => ?_
  refine law2_C H hroom' hh' l7 (elOf_is _) x fun s₄ To tvs tc hT x => ?_
  refine law2_D H hroom' hun' hh' l7 hl hT x fun s₅ Ca cvs hCv x => ?_
  obtain ⟨cc, x⟩ := x
  have hp0 := cards_perm l7
  have hc0 : (cards0 ((drawnN xs).take 7)).length = 7 := by rw [hp0.length_eq, List.length_range]
  refine law2_E hh' hl l9 hc0 hdv (ints_nat hCv) x fun s₆ cvs' hC x => ?_
  have hp := swaps_perm ((drawnN xs).drop 7) hp0
  generalize ((drawnN xs).drop 7).foldl swp (cards0 ((drawnN xs).take 7)) = l at hC hp
  have hl7 : l.length = 7 := by rw [hp.length_eq, List.length_range]
  obtain ⟨g1, g2⟩ := gilbreath hp
  refine law2_F H hroom' hh' hl hl7 (fun c hc => List.mem_range.1 (hp.mem_iff.1 hc)) hC x fun s₇ x => ?_
  exact law2_G H.BT hun' hh' hl hl7 hC g1 g2 x h
end Mine
end
section
open PySem PySem.W PyProof.Rows PySem.Builtin PySem.Builtin.Str
set_option Elab.async false
set_option maxRecDepth 100000
set_option linter.unusedVariables false
set_option maxHeartbeats 0
namespace Mine
noncomputable abbrev fs1 : List Fnc := [fn 5, fn 6, fn 7, fn 12, fn 15, fn 17, fn 19, fn 20, fn 21, fn 22, fn 23]
theorem recs_is : (recsOf qv).map (fun d => (⟨d.name, d.params, d.body, d.scope⟩ : Fnc)) = fs1 := by kernel_rfl
theorem names_free : (["max", "min", "ord", "chr", "len", "sum", "list", "range", "set", "int"] : List Str).all (fun x => !startupNames.contains x && !(looseW qv lo).contains x && !((recsOf qv).map (·.name)).contains x && !((litsOf qv).map (·.1)).contains x && !((clssOf qv (looseW qv lo)).map (·.name)).contains x) = true := by decide +kernel
theorem boots : bootBuiltins "max" = some (.builtin "max") ∧ bootBuiltins "min" = some (.builtin "min") ∧ bootBuiltins "ord" = some (.builtin "ord") ∧ bootBuiltins "chr" = some (.builtin "chr") ∧ bootBuiltins "len" = some (.builtin "len") ∧ bootBuiltins "sum" = some (.builtin "sum") ∧
    bootBuiltins "list" = some (.type "list") ∧ bootBuiltins "range" = some (.type "range") ∧ bootBuiltins "set" = some (.type "set") ∧ bootBuiltins "int" = some (.type "int") := by
  refine ⟨?_, ?_, ?_, ?_, ?_, ?_, ?_, ?_, ?_, ?_⟩ <;> kernel_rfl
theorem crlf_val : valOf qv "CRLF" = some (.str ⟨#[13, 10]⟩) := by kernel_rfl
theorem bt_of {K : Cx} {mean : ExcName → Option Value} {h : Heap} (T : Top qv (looseW qv lo) mean K.mg K.mb h) : Bt K := by
  have nf : ∀ x : Str, x ∈ (["max", "min", "ord", "chr", "len", "sum", "list", "range", "set", "int"] : List Str) → K.mg x = none := fun x hx => by
    have := List.all_eq_true.1 names_free x hx
    simp only [Bool.and_eq_true, Bool.not_eq_true', List.contains_eq_mem, decide_eq_false_iff_not] at this
    obtain ⟨⟨⟨⟨a, b⟩, c⟩, d⟩, e⟩ := this
    exact T.free x a b c d e
  have nb : ∀ x : Str, x ≠ "__name__" → K.mb x = bootBuiltins x := T.builtins
  obtain ⟨b1, b2, b3, b4, b5, b6, b7, b8, b9, b10⟩ := boots
  constructor
  · exact ⟨nf _ (by decide), (nb _ (by decide)).trans b1⟩
  · exact ⟨nf _ (by decide), (nb _ (by decide)).trans b2⟩
  · exact ⟨nf _ (by decide), (nb _ (by decide)).trans b3⟩
  · exact ⟨nf _ (by decide), (nb _ (by decide)).trans b4⟩
  · exact ⟨nf _ (by decide), (nb _ (by decide)).trans b5⟩
  · exact ⟨nf _ (by decide), (nb _ (by decide)).trans b6⟩
  · exact ⟨nf _ (by decide), (nb _ (by decide)).trans b7⟩
  · exact ⟨nf _ (by decide), (nb _ (by decide)).trans b8⟩
  · exact ⟨nf _ (by decide), (nb _ (by decide)).trans b9⟩
  · exact ⟨nf _ (by decide), (nb _ (by decide)).trans b10⟩
theorem fn_of {mg mb : Str → Option Value} {mean : ExcName → Option Value} {h : Heap} (T : Top qv (looseW qv lo) mean mg mb h) : ∀ f ∈ fs1, ∃ a, HasFn mg h f a := fun f hf => by
  rw [← recs_is] at hf
  obtain ⟨d, hd, rfl⟩ := List.mem_map.1 hf
  obtain ⟨a, o, pm, code, doc, h1, h2, h3, h4⟩ := T.fn d hd
  exact ⟨a, h1, o, pm, code, doc, h2, h3, h4⟩
end Mine
end
section
open PySem PySem.W PyProof.Rows PySem.Builtin PySem.Builtin.Str
set_option Elab.async false
set_option maxRecDepth 100000
set_option linter.unusedVariables false
set_option maxHeartbeats 0
namespace Mine
theorem mg_of {h0 h1 : Heap} {mg : Str → Option Value} (hk : ∀ b o, h0.get? b = some o → h1.get? b = some o) (g : h1.Ns mainGlobals mg) {x : Str} {v : Value} (e : h0.nsMap mainGlobals x = some v) : mg x = some v := by
  obtain ⟨o, es, ep, ho, hd, _, hm⟩ := g
  unfold Heap.nsMap at e
  cases h3 : h0.get? mainGlobals with
  | none => rw [h3] at e; cases e
  | some o' =>
    rw [h3] at e
    have := hk _ _ h3
    rw [ho] at this
    cases this
    dsimp only at e
    rw [hd] at e
    first | exact (hm x).trans e | exact (hm x).symm.trans e
noncomputable def setB (es : List (Int × Value)) : Bool := es.all fun e => match e.2 with
  | .int k _ => e.1 == k && hashInt k == k && unseenL.contains k
  | _ => false
noncomputable def es77 (P : Params) : Array (Int × Value) := match (o77 P).data with
  | .set es _ _ => es
  | _ => #[]
theorem es77_ok : ∀ P, setB (es77 P).toList = true ∧ (unseenL.all fun k => (es77 P).toList.any fun e => match e.2 with | .int j _ => j == k | _ => false) = true := fun P => by
  constructor <;> kernel_rfl
theorem set_of {prog : Program} {w : World} {P : Params} {h : Heap} (ho : h.get? 77 = some (o77 P)) : h.SetOf (intKind prog w) 77 (fun k => unseenL.contains k) 27 := by
  obtain ⟨h1, h2⟩ := es77_ok P
  refine ⟨o77 P, es77 P, 29, _, ho, ⟨rfl, rfl, rfl⟩, rfl, fun e he => ?_, fun k => ⟨fun hk => ?_, fun hk => ?_⟩, by rw [show (es77 P).size = 27 by kernel_rfl]; decide, by kernel_rfl, by kernel_rfl⟩
  · have := List.all_eq_true.1 h1 e he
    obtain ⟨eh, ev⟩ := e
    cases ev with
    | int k t =>
      simp only [Bool.and_eq_true, beq_iff_eq] at this
      exact ⟨⟨k, intKind_is _ _ _ _, by rw [this.1.1]; exact this.1.2.symm⟩, rfl⟩
    | _ => cases this
  · have := List.all_eq_true.1 h2 k (by simpa using hk)
    obtain ⟨e, he, hek⟩ := List.any_eq_true.1 this
    obtain ⟨eh, ev⟩ := e
    cases ev with
    | int j t =>
      refine ⟨_, he, ?_⟩
      have hj : j = k := by simpa using hek
      subst hj; exact intKind_is _ _ _ _
    | _ => cases hek
  · obtain ⟨e, he, hek⟩ := hk
    obtain ⟨t, e2⟩ := Value.isInt_shape hek
    have := List.all_eq_true.1 h1 e he
    rw [e2] at this
    simp only [Bool.and_eq_true, beq_iff_eq] at this
    exact this.2
noncomputable def Dm (k : Int) : Option Str := (b3D.find? fun p => p.1 = k).map (·.2)
theorem keys_hash : (b3D.all fun p => hashInt p.1 == p.1) = true := by decide +kernel
noncomputable def risB : Int → List Int → Bool
  | _, [] => true
  | a, b :: r => decide (a < b) && risB b r
theorem risB_lt : ∀ (l : List Int) (a : Int), risB a l = true → ∀ x ∈ l, a < x
  | [], _, _, _, h => nomatch h
  | b :: r, a, h, x, hx => by
    simp only [risB, Bool.and_eq_true, decide_eq_true_eq] at h
    rcases List.mem_cons.1 hx with rfl | hx
    · exact h.1
    · exact Int.lt_trans h.1 (risB_lt r b h.2 x hx)
theorem risB_nd : ∀ (l : List Int) (a : Int), risB a l = true → l.Nodup
  | [], _, _ => List.nodup_nil
  | b :: r, a, h => by
    simp only [risB, Bool.and_eq_true, decide_eq_true_eq] at h
    exact List.nodup_cons.2 ⟨fun hm => Int.lt_irrefl b (risB_lt r b h.2 b hm), risB_nd r b h.2⟩
theorem keys_nd : (b3D.map (·.1)).Nodup := risB_nd _ (-1) (by decide +kernel)
theorem dict_go {prog : Program} {w : World} : ∀ {es : List DictEntry} {D : List (Int × Str)}, EntsAre es D → (∀ p ∈ D, hashInt p.1 = p.1) → ∃ kvs : List (Int × Value), Pairs (intKind prog w) es kvs ∧ kvs.map (·.1) = D.map (·.1) ∧ (∀ e ∈ es, ∃ k, (intKind prog w).is k e.key = true ∧ e.hash = (intKind prog w).hash k) ∧
    ∀ k : Int, (((D.find? fun p => p.1 = k).map (·.2)) = none → valueAt kvs k = none) ∧ ∀ x, ((D.find? fun p => p.1 = k).map (·.2)) = some x → ∃ t, valueAt kvs k = some (.str x t)
  | [], [], _, _ => ⟨[], .nil, rfl, (fun _ h => nomatch h), fun k => ⟨fun _ => rfl, fun x h => by simp at h⟩⟩
  | e :: es, p :: D, h, hh => by
    obtain ⟨⟨h1, ⟨t, h2⟩, u, h3⟩, h4⟩ := h
    obtain ⟨kvs, a1, a2, a3, a4⟩ := dict_go (prog := prog) (w := w) h4 fun q hq => hh q (.tail _ hq)
    refine ⟨(p.1, .str p.2 u) :: kvs, .cons (by rw [h2]; exact intKind_is _ _ _ _) h3 a1, by simp [a2], fun e' he' => ?_, fun k => ?_⟩
    · rcases List.mem_cons.1 he' with rfl | he'
      · exact ⟨p.1, by rw [h2]; exact intKind_is _ _ _ _, by rw [h1]; exact (hh p (.head _)).symm⟩
      · exact a3 e' he'
    · unfold valueAt at a4 ⊢
      by_cases hk : p.1 = k
      · rw [List.find?_cons_of_pos (by simpa using hk), List.find?_cons_of_pos (by simpa using hk)]
        exact ⟨(fun h => by cases h), fun x hx => ⟨u, by cases hx; rfl⟩⟩
      · rw [List.find?_cons_of_neg (by simpa using hk), List.find?_cons_of_neg (by simpa using hk)]
        exact a4 k
theorem dict_of {prog : Program} {w : World} {h : Heap} {es : List DictEntry} {n : Nat} (hE : EntsAre es b3D) (ho : h.get? 88 = some (dObj es n)) : ∃ kvs, h.DictOf (intKind prog w) 88 kvs ∧ ∀ k, (Dm k = none → valueAt kvs k = none) ∧ ∀ x, Dm k = some x → ∃ t, valueAt kvs k = some (.str x t) := by
  obtain ⟨kvs, a1, a2, a3, a4⟩ := dict_go (prog := prog) (w := w) hE fun p hp => by simpa using List.all_eq_true.1 keys_hash p hp
  refine ⟨kvs, ⟨_, es.toArray, n, ho, ⟨rfl, rfl, rfl⟩, rfl, fun e he => a3 e (by simpa using he), by simpa using a1, by rw [a2]; exact keys_nd⟩, a4⟩
end Mine
end
section
open PySem PySem.W PyProof.Rows PySem.Builtin PySem.Builtin.Str
set_option Elab.async false
set_option maxRecDepth 100000
set_option linter.unusedVariables false
set_option maxHeartbeats 0
namespace Mine
noncomputable def formOk (c a : Nat) : Bool := let x := (formsL.getD a 0 + ((97 + c : Nat) : Int) - 97).toNat
  !b1 x && mapF Dm x == ⟨#[97 + c]⟩ && !tooLong (Txt.lower ⟨#[x]⟩).length && !(x == 10) && !(x == 13) && !(x == 46)
theorem forms_ok : ((List.range 7).all fun c => (List.range 12).all fun a => formOk c a) = true := by decide +kernel
noncomputable def unsOk (b : Nat) : Bool := let y := (unseenL.getD b 0).toNat
  b1 y && !tooLong (Txt.lower ⟨#[y]⟩).length && !(y == 10) && !(y == 13) && !(y == 46)
theorem uns_ok : ((List.range 27).all unsOk) = true := by decide +kernel
theorem dot_ok : DotOk Dm := ⟨by decide +kernel, by decide +kernel, by decide +kernel⟩
theorem sgn_good : ∀ c, c < 7 → ∀ m, GoodTl Dm (97 + c) (sg c m) := fun c hc m => by
  have ha : ((m : Int).fmod 12).toNat < 12 := by
    have h1 : (m : Int).fmod 12 < 12 := Int.fmod_lt_of_pos _ (by decide)
    omega
  have hb : (((m : Int).fdiv 12).fmod 27).toNat < 27 := by
    have h1 : ((m : Int).fdiv 12).fmod 27 < 27 := Int.fmod_lt_of_pos _ (by decide)
    omega
  have f := range_all (range_all forms_ok hc) ha
  have u := range_all uns_ok hb
  have e : sg c m = [(formsL.getD ((m : Int).fmod 12).toNat 0 + ((97 + c : Nat) : Int) - 97).toNat, (unseenL.getD (((m : Int).fdiv 12).fmod 27).toNat 0).toNat] := rfl
  rw [e]
  unfold formOk at f
  unfold unsOk at u
  dsimp only at f u
  generalize (formsL.getD ((m : Int).fmod 12).toNat 0 + ((97 + c : Nat) : Int) - 97).toNat = x at f
  generalize (unseenL.getD (((m : Int).fdiv 12).fmod 27).toNat 0).toNat = y at u
  simp only [Bool.and_eq_true, Bool.not_eq_true', beq_eq_false_iff_ne, beq_iff_eq] at f u
  obtain ⟨⟨⟨⟨⟨f1, f2⟩, f3⟩, f4⟩, f5⟩, f6⟩ := f
  obtain ⟨⟨⟨⟨u1, u3⟩, u4⟩, u5⟩, u6⟩ := u
  refine ⟨?_, fun z hz => ?_, fun z hz => ?_, by simp, by simp⟩
  · unfold readL
    rw [List.filter_cons_of_pos (by rw [f1]; rfl), List.filter_cons_of_neg (by rw [u1]; decide), List.filter_nil, List.map_cons, f2]; rfl
  · rcases List.mem_cons.1 hz with rfl | hz
    · exact ⟨f4, f5, f6⟩
    · rw [List.mem_singleton.1 hz]; exact ⟨u4, u5, u6⟩
  · rcases List.mem_cons.1 hz with rfl | hz
    · exact f3
    · rw [List.mem_singleton.1 hz]; exact u3
end Mine
end
section
open PySem PySem.W PyProof.Rows PySem.Builtin PySem.Builtin.Str
set_option Elab.async false
set_option maxRecDepth 100000
set_option linter.unusedVariables false
set_option maxHeartbeats 0
namespace Mine
theorem pat1 {P : Params} {h : Heap} (a : h.get? 57 = some (o57 P)) (b : h.get? 56 = some (o56 P)) : PatAt h 57 code1 := ⟨_, 56, _, _, _, _, a, rfl, rfl, rfl, b, by kernel_rfl⟩
theorem pat2 {P : Params} {h : Heap} (a : h.get? 62 = some (o62 P)) (b : h.get? 61 = some (o61 P)) : PatAt h 62 code2 := ⟨_, 61, _, _, _, _, a, rfl, rfl, rfl, b, by kernel_rfl⟩
/-- what the top of law 2's program has made -/
structure Made1 (w : World) (s₀ : Shared) : Prop where
  v : ∀ p ∈ ([("ONE_THIRD", .float 4599676419421066581 286), ("ONE_SIXTH", .float 4595172819793696085 290), ("TWO_THIRD", .float 4604180019048437077 294), ("_twin_re_1", .ref 57), ("_twin_re_2", .ref 62), ("b1_set", .ref 77), ("b3_exceptions", .ref 88)] : List (Str × Value)), s₀.heap.nsMap mainGlobals p.1 = some p.2
  o : ∀ p ∈ [(56, o56 w.params), (57, o57 w.params), (61, o61 w.params), (62, o62 w.params), (77, o77 w.params)], s₀.heap.get? p.1 = some p.2
  d : ∃ es n, s₀.heap.get? 88 = some (dObj es n) ∧ EntsAre es b3D
theorem made_of {w : World} {s₀ : Shared} (y : Yf s₀ = Ya w) : Made1 w s₀ := by
  have y1 : lo.map (s₀.heap.nsMap mainGlobals) = _ := congrArg (·.1) y
  have y2 : [56, 57, 61, 62, 77].map s₀.heap.get? = _ := congrArg (·.2.1) y
  have y4 : (∃ es n, s₀.heap.get? 88 = some (dObj es n) ∧ EntsAre es b3D) = True := congrArg (·.2.2.2) y
  unfold lo at y1
  simp only [List.map_cons, List.map_nil, Ya, List.cons.injEq, and_true] at y1 y2
  obtain ⟨a1, a2, a3, a4, a5, a6, a7⟩ := y1
  obtain ⟨b1, b2, b3, b4, b5⟩ := y2
  refine ⟨fun p hp => ?_, fun p hp => ?_, of_eq_true y4⟩
  · simp only [List.mem_cons, List.not_mem_nil, or_false] at hp
    rcases hp with rfl | rfl | rfl | rfl | rfl | rfl | rfl <;> assumption
  · simp only [List.mem_cons, List.not_mem_nil, or_false] at hp
    rcases hp with rfl | rfl | rfl | rfl | rfl <;> assumption
theorem law2_top {w : World} {s₀ s₁ : Shared} {mg mb : Str → Option Value} {mean : ExcName → Option Value} {h₁ : Heap} (T : Top qv (looseW qv lo) mean mg mb s₁.heap) (M : Made1 w s₀) (hk : ∀ b o, s₀.heap.get? b = some o → s₁.heap.get? b = some o) :
    ∃ K : Cx, K.mg = mg ∧ Wd K s₁.heap ∧ K.fs = fs1 ∧ Law2 K pw w Dm := by
  obtain ⟨es, n, hd, hE⟩ := M.d
  have mv : ∀ p ∈ _, _ := M.v
  have v : ∀ x v, (x, v) ∈ ([("ONE_THIRD", .float 4599676419421066581 286), ("ONE_SIXTH", .float 4595172819793696085 290), ("TWO_THIRD", .float 4604180019048437077 294), ("_twin_re_1", .ref 57), ("_twin_re_2", .ref 62), ("b1_set", .ref 77), ("b3_exceptions", .ref 88)] : List (Str × Value)) → mg x = some v := fun x u hx => mg_of hk T.g (M.v _ hx)
  let K : Cx := ⟨mg, mb, fs1, (88, dObj es n) :: [(56, o56 w.params), (57, o57 w.params), (61, o61 w.params), (62, o62 w.params), (77, o77 w.params)]⟩
  have W : Wd K s₁.heap := ⟨T.g, T.b, T.nolimit, T.nodigits, fn_of T, fun p hp => by
    rcases List.mem_cons.1 hp with rfl | hp
    · exact hk _ _ hd
    · exact hk _ _ (M.o p hp)⟩
  refine ⟨K, rfl, W, rfl, ?_⟩
  constructor
  · exact ⟨⟨286, v _ _ (.head _)⟩, ⟨290, v _ _ (.tail _ (.head _))⟩, ⟨294, v _ _ (.tail _ (.tail _ (.head _)))⟩⟩
  · exact bt_of (K := K) T
  · refine ⟨⟨77, 27, v _ _ (by simp), fun s W' => set_of (W'.obs (77, o77 w.params) (by simp [K]))⟩, ?_⟩
    have hdd := fun (s : Shared) (W' : Wd K s.heap) => W'.obs (88, dObj es n) (by simp [K])
    obtain ⟨kvs, a1, a2, a3, a4⟩ := dict_go (prog := pw) (w := w) hE fun p hp => by simpa using List.all_eq_true.1 keys_hash p hp
    exact ⟨88, kvs, v _ _ (by simp), rfl, fun s W' => ⟨_, es.toArray, n, hdd s W', ⟨rfl, rfl, rfl⟩, rfl, fun e he => a3 e (by simpa using he), by simpa using a1, by rw [a2]; exact keys_nd⟩, a4⟩
  · refine ⟨⟨57, v _ _ (by simp), fun s W' => pat1 (P := w.params) (W'.obs (57, o57 w.params) (by simp [K])) (W'.obs (56, o56 w.params) (by simp [K]))⟩, ⟨62, v _ _ (by simp), fun s W' => pat2 (P := w.params) (W'.obs (62, o62 w.params) (by simp [K])) (W'.obs (61, o61 w.params) (by simp [K]))⟩, ?_⟩
    obtain ⟨u, hu, hR⟩ := T.const "CRLF" _ crlf_val
    cases hR s₁.heap
    exact ⟨_, hu⟩
  · exact dot_ok
  · exact sgn_good
  all_goals simp [K, fs1]
end Mine
end
section
open PySem PySem.W PyProof.Rows PySem.Builtin PySem.Builtin.Str
set_option Elab.async false
set_option maxRecDepth 100000
set_option linter.unusedVariables false
set_option maxHeartbeats 0
namespace Mine
theorem int_of {R : WRecords} : ∀ d : WData, WShape.has R d .int = true → ∃ n, d = .int n := fun d hd => by
  cases d with
  | int n => exact ⟨n, rfl⟩
  | _ => exact absurd (show false = true from hd) Bool.false_ne_true
theorem items_of {R : WRecords} : ∀ xs : List WData, WShape.hasItems R xs .int = true → ∃ ns : List Int, xs = ns.map WData.int
  | [], _ => ⟨[], rfl⟩
  | x :: xs, h => by
    obtain ⟨h1, h2⟩ := Bool.and_eq_true_iff.1 (show (WShape.has R x .int && WShape.hasItems R xs .int) = true from h)
    obtain ⟨n, rfl⟩ := int_of x h1
    obtain ⟨ns, rfl⟩ := items_of xs h2
    exact ⟨n :: ns, rfl⟩
theorem shape_ints {R : WRecords} {args : List WData} (h : WShape.hasAll R args [.list .int] = true) : ∃ xs : List Int, args = [.list (xs.map WData.int)] := by
  obtain ⟨d, r, rfl, h1, h2⟩ := hasAllW_cons h
  have hr : r = [] := by
    cases r with
    | nil => rfl
    | cons _ _ => exact absurd (show false = true from h2) Bool.false_ne_true
  subst hr
  cases d with
  | list xs =>
    have h3 : (WShape.hasItems R xs .int || false) = true := h1
    rw [Bool.or_false] at h3
    obtain ⟨ns, rfl⟩ := items_of xs h3
    exact ⟨ns, rfl⟩
  | _ => exact absurd (show false = true from h1) Bool.false_ne_true
theorem reads_ints {R : WRecords} {cl : Str → Option Addr} {h : Heap} : ∀ {vs : List Value} {xs : List Int} {as : List Addr}, ReadsAllW R cl h vs (xs.map WData.int) as → IntsAre vs xs
  | _, [], _, .nil => .nil
  | _, x :: xs, _, .cons hv hr => by
    cases hv
    exact .cons _ _ (reads_ints hr)
end Mine
end
section
open PySem PySem.W PyProof.Rows PySem.Builtin PySem.Builtin.Str
set_option Elab.async false
set_option maxRecDepth 100000
set_option linter.unusedVariables false
set_option maxHeartbeats 0
namespace Mine
theorem law2_call {w : World} {s₀ s₁ : Shared} {mg mb : Str → Option Value} {mean : ExcName → Option Value} (T : Top qv (looseW qv lo) mean mg mb s₁.heap) (M : Made1 w s₀) (hk : ∀ b o, s₀.heap.get? b = some o → s₁.heap.get? b = some o)
    {fa S : Addr} (hmg : mg (fn 23).name = some (.ref fa)) {items : Array Value} {xs : List Int} (hS : s₁.heap.IsList S items) (hx : IntsAre items.toList xs) (hsz : items.size ≤ sizeLine) {Q : Value → Shared → Prop} {E : Value → Shared → Prop}
    (h : ∀ s', Keeps s₁ s' → Q (.bool true) s') : wpAny (model pw w) callerA (call (.ref fa) [.ref S]) Q E s₁ := by
  obtain ⟨K, rfl, W, hfs, H⟩ := law2_top (h₁ := s₁.heap) T M hk
  obtain ⟨a, ha⟩ := W.fn (fn 23) (by rw [hfs]; simp)
  have e : a = fa := by
    have := ha.1
    rw [hmg] at this
    injection this with e; injection e with e; exact e.symm
  subst e
  exact (law2_spec H (by decide +kernel) (by decide +kernel) rfl W ha hS hx hsz h).un
end Mine
end
section
open PySem PySem.W PyProof.Rows
set_option Elab.async false
set_option maxRecDepth 100000
set_option linter.unusedVariables false
set_option maxHeartbeats 0
namespace Mine
theorem saidL : PySem.Challenge.rw_qu0047_02.wellSaid = true := by kernel_rfl
theorem tops : PySem.Challenge.rw_qu0047_02.Holds := by
  refine holds_law saidL fun said => ?_
  refine holds_openX (q := qv) (loose := lo) (Xt := fun _ => true) (XP := fun _ _ => True) (Yf := Yf) (Ya := Ya) (N := 300000) left (fun _ _ => trivial) (fun _ _ _ _ _ => trivial) (by rfl) (by rfl) (by rfl) (fun s e => recFacts_nil rfl) (by rfl) (by assumption) (by decide +kernel) ⟨rfl, rfl, rfl, rfl, rfl, by decide +kernel⟩ ?hw ?hc
  case hw => w_witness2
  case hc =>
    intro w s₀ s₁ mg mb G y fa o pm cd doc dV kV ho hd hcd hD hmg hg args vals as L hpre hlay hrd hwl hlo
    obtain ⟨sh, _⟩ := pre_splitW hpre
    obtain ⟨xs, rfl⟩ := shape_ints sh
    cases hrd with
    | cons hv hr =>
      cases hr
      cases hv with
      | list h1 h2 h3 h4 =>
        have hx := reads_ints h4
        have hlen : xs.length ≤ 1048576 := by
          have := length_le_of_layableW (xs := xs.map WData.int) (by simpa [WData.layableAll] using hlay)
          simpa using this
        refine law2_call G.T (made_of y) L.keeps hmg ⟨_, h1, h2, _, h3⟩ hx ?_ fun s' k => ?_
        · have : sizeLine = 2 ^ 24 := rfl
          have hl := hx.length
          simp at hl
          omega
        · obtain ⟨h', tk, rfl, kk⟩ := k
          refine ⟨.inl ⟨_, .bool true, [], rfl, fun cls => by rfl, .bool true, by first | kernel_rfl | (with_unfolding_all rfl) | (with_unfolding_all decide), fun _ => ⟨List.nodup_nil, fun a ha => by cases ha⟩⟩, .of_keep kk, rfl, .of_eq hg⟩
end Mine
end
theorem PySem.Challenge.cw_qu0047_02_holds : PySem.Challenge.rw_qu0047_02.Holds :=
  Mine.tops
