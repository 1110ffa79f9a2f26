import PyProof.Rows.All
import Wide.All
import OpenK.AllK
import Wide.FinOn
import Lean
import PySem.Challenge.RW_kl0260_03
open PySem PySem.W PyProof.Rows PySem.Calls
set_option maxRecDepth 100000
set_option maxHeartbeats 0
set_option Elab.async false
set_option linter.unusedVariables false
noncomputable section
section
namespace Mine
noncomputable def goT (tb : String -> Option Builtin) (p : Program) (w : World) (n₀ : Nat) (ann : Option Value) : Nat -> SharedT -> Thread -> Option (SharedT × Thread)
 | 0, s, t => some (s, t)
 | n + 1, s, t => match stepOk n₀ ann t with
  | false => none
  | true => match stepT (denote tb) p w s t with
   | some (s', t') => goT tb p w n₀ ann n s' t'
   | none => none
section
variable {tb : String -> Option Builtin} {p : Program} {w : World} {n₀ : Nat} {ann : Option Value}
theorem q5l {s s' : SharedT} {t t' : Thread} (h : stepT (denote tb) p w s t = some (s', t')) : through t = false := by
 cases ht : through t with
 | false => rfl
 | true =>
  exfalso
  obtain ⟨cur, code, pos, stack⟩ := t
  obtain ⟨T, n, life, gens, drawn, toks, os⟩ := s
  unfold through at ht
  simp only [Bool.and_eq_true, List.isEmpty_iff] at ht
  obtain ⟨h1, h2⟩ := ht
  subst h1
  cases cur with
  | pure f =>
   cases f with
   | done f =>
    simp only [stepT, step, finish] at h
    split at h <;> first | (split at h <;> cases h) | cases h
    all_goals (rename_i hh; split at hh <;> cases hh)
   | again c => simp at h2
  | _ => simp at h2
theorem qm6 : ∀ {n N : Nat} {s s' : SharedT} {r : Shared} {t t' : Thread}, goT tb p w n₀ ann n s t = some (s', t') -> topRun tb p w n₀ ann N s'.abs t' = some r ->
  topRun tb p w n₀ ann (n + N) s.abs t = some r
 | 0, N, s, s', r, t, t', h, k => by
  obtain ⟨rfl, rfl⟩ : s = s' /\ t = t' := by simpa [goT] using h
  rw [Nat.zero_add]; exact k
 | n + 1, N, s, s', r, t, t', h, k => by
  rw [show n + 1 + N = n + N + 1 by omega]
  unfold goT at h
  unfold topRun
  cases hk : stepOk n₀ ann t with
  | false => rw [hk] at h; cases h
  | true =>
   rw [hk] at h
   cases hs : stepT (denote tb) p w s t with
   | none => rw [hs] at h; cases h
   | some x =>
    obtain ⟨s₂, t₂⟩ := x
    rw [hs] at h
    rw [q5l hs, stepT_spec hs]
    exact qm6 h k
theorem qjs : ∀ {n m : Nat} {s s' s'' : SharedT} {t t' t'' : Thread}, goT tb p w n₀ ann n s t = some (s', t') -> goT tb p w n₀ ann m s' t' = some (s'', t'') ->
  goT tb p w n₀ ann (n + m) s t = some (s'', t'')
 | 0, m, s, s', s'', t, t', t'', h, k => by
  obtain ⟨rfl, rfl⟩ : s = s' /\ t = t' := by simpa [goT] using h
  rw [Nat.zero_add]; exact k
 | n + 1, m, s, s', s'', t, t', t'', h, k => by
  rw [show n + 1 + m = n + m + 1 by omega]
  unfold goT at h ⊢
  cases hk : stepOk n₀ ann t with
  | false => rw [hk] at h; cases h
  | true =>
   rw [hk] at h
   cases hs : stepT (denote tb) p w s t with
   | none => rw [hs] at h; cases h
   | some x =>
    obtain ⟨s₂, t₂⟩ := x
    rw [hs] at h
    exact qjs h k
noncomputable def RT (tb : String -> Option Builtin) (p : Program) (w : World) (n₀ : Nat) (ann : Option Value) {α : Type} (t : Sem α) (s : SharedT) (q : Pos) (n : Nat) (a : α) (s' : SharedT) (q' : Pos) : Prop :=
 ∀ (K : α -> Sem Fin) (H : Value -> Sem Fin) (gd : Bool -> Bool) (lv : List Value -> List Value) (c : Code) (B : List Frame),
  goT tb p w n₀ ann n s ⟨t.wrap K H gd lv, c, q, B⟩ = some (s', ⟨K a, c, q', B⟩)
variable {α β : Type} {s s₁ s' : SharedT} {q q₁ q' : Pos}
theorem RT.pure {a : α} : RT tb p w n₀ ann (Pure.pure a : Sem α) s q 0 a s q := fun _ _ _ _ _ _ => rfl
theorem RT.bind {m : Sem α} {f : α -> Sem β} {n k : Nat} {a : α} {b : β} (h : RT tb p w n₀ ann m s q n a s₁ q₁) (h' : RT tb p w n₀ ann (f a) s₁ q₁ k b s' q') :
  RT tb p w n₀ ann (m >>= f) s q (n + k) b s' q' := fun K H gd lv c B => by
 rw [Sem.bind_eq_wrap', Sem.wrap_wrap]
 exact qjs (h _ _ _ _ c B) (h' _ _ _ _ c B)
theorem RT.keep {m : Sem α} {vs : List Value} {n : Nat} {a : α} (h : RT tb p w n₀ ann m s q n a s' q') : RT tb p w n₀ ann (m.keep vs) s q n a s' q' := fun K H gd lv c B => by
 rw [Sem.keep_eq_wrap, Sem.wrap_wrap]
 exact h _ _ _ _ c B
theorem RT.holding {m : Sem α} {vs : List Value} {n : Nat} {a : α} (h : RT tb p w n₀ ann m s q n a s' q') : RT tb p w n₀ ann (PySem.holding vs m) s q n a s' q' := by
 rw [holding_eq_keep]; exact h.keep
theorem RT.rule {tag : String} : RT tb p w n₀ ann (PySem.rule tag) s q 1 () s q := fun _ _ _ _ _ _ => rfl
theorem RT.at {x : Pos} : RT tb p w n₀ ann (standAt x) s q 1 () s x := fun _ _ _ _ _ _ => rfl
theorem RT.point : RT tb p w n₀ ann PySem.point s q 1 () s q := fun _ _ _ _ _ _ => rfl
theorem RT.fresh : RT tb p w n₀ ann PySem.fresh s q 1 s.toks { s with toks := s.toks + 1 } q := fun _ _ _ _ _ _ => rfl
theorem RT.ask : RT tb p w n₀ ann PySem.ask s q 1 ⟨p, w.params⟩ s q := fun _ _ _ _ _ _ => rfl
theorem RT.load {a : Addr} {part : Option Value} {o o' : Obj} (h : Nat.blt a s.n = true) (g : s.tree.get a = some o) (al : alive o = some o') : RT tb p w n₀ ann (loadPart a part) s q 1 o' s q := fun K H gd lv c B => by
 show (match stepT (denote tb) p w s ⟨.load a part fun x => K x, c, q, B⟩ with | some (s', t') => some (s', t') | none => none) = _
 obtain ⟨T, n, life, gens, drawn, toks, os⟩ := s
 simp only at h g
 simp only [stepT, h, g, al]
theorem RT.update {a : Addr} {part : Option Value} {f : Obj -> Obj} {o o' : Obj} (h : Nat.blt a s.n = true) (g : s.tree.get a = some o) (al : alive o = some o') (hn : Nat.ble n₀ a = true) :
  RT tb p w n₀ ann (updatePart a part f) s q 1 () { s with tree := s.tree.set a f } q := fun K H gd lv c B => by
 show (match (Nat.ble n₀ a || a == mainNs || a == cStatics || ann == some (.ref a)) with | false => none | true => match stepT (denote tb) p w s ⟨.update a part f fun x => K x, c, q, B⟩ with | some (s', t') => some (s', t') | none => none) = _
 rw [hn]
 obtain ⟨T, n, life, gens, drawn, toks, os⟩ := s
 simp only at h g
 simp only [stepT, h, g, al, Bool.true_or]
theorem RT.alloc {o : Obj} (h : ((s.tree.ins s.n o).get s.n).isSome = true) : RT tb p w n₀ ann (PySem.alloc o) s q 1 s.n { s with tree := s.tree.ins s.n o, n := s.n + 1 } q := fun K H gd lv c B => by
 show (match stepT (denote tb) p w s ⟨.alloc o fun x => K x, c, q, B⟩ with | some (s', t') => some (s', t') | none => none) = _
 obtain ⟨T, n, life, gens, drawn, toks, os⟩ := s
 simp only at h
 simp only [stepT, h]
theorem RT.step_top {env : Env} {st : Stmt} {rest : List Stmt} {c : Code} {B : List Frame} {n N : Nat} {r : Shared} (h : RT tb p w n₀ ann (exec st env) s q n .next s' q')
  (k : topRun tb p w n₀ ann N s'.abs (restOf rest env c q' B) = some r) : topRun tb p w n₀ ann (n + N) s.abs (restOf (st :: rest) env c q B) = some r := by
 refine qm6 (s' := s') (t' := restOf rest env c q' B) ?_ k
 unfold restOf
 rw [execs_cons_wrap]
 exact h _ _ _ _ c B
end
end Mine
end
section
namespace Mine
theorem qtt (p : Program) (n₀ : Nat) (ann : Option Value) (k : Int) (t : Tok) (s : SharedT) (q : Pos) (K : Int -> Sem Fin) (H : Value -> Sem Fin) (gd : Bool -> Bool) (lv : List Value -> List Value) (c : Code) (B : List Frame) (w : World) :
  goT treeTable p w n₀ ann 5 s ⟨(pyHash (.int k t)).wrap K H gd lv, c, q, B⟩ = some ({ s with toks := s.toks + 1 }, ⟨(pyHashByItsType.reduced (rawHash k)).wrap K H gd lv, c, q, B⟩) := by
 refine byRow2 "special-get-raises" (P := fun w => goT treeTable p w n₀ ann 5 s ⟨(pyHash (.int k t)).wrap K H gd lv, c, q, B⟩ = some ({ s with toks := s.toks + 1 }, ⟨(pyHashByItsType.reduced (rawHash k)).wrap K H gd lv, c, q, B⟩)) ?_ ?_ w
 ·intro w; kernel_rfl
 ·intro w; kernel_rfl
theorem qen (k : Int) : pyHashByItsType.reduced (rawHash k) = (Pure.pure (hashInt k) : Sem Int) := by
 have hr := rawHash_range k
 unfold pyHashByItsType.reduced
 rw [if_pos (by rw [decide_eq_true hr.1, decide_eq_true hr.2]; rfl)]
 rfl
theorem RT.pyHash_int {p : Program} {w : World} {n₀ : Nat} {ann : Option Value} {k : Int} {t : Tok} {s : SharedT} {q : Pos} :
  RT treeTable p w n₀ ann (pyHash (.int k t)) s q 5 (hashInt k) { s with toks := s.toks + 1 } q := fun K H gd lv c B => by
 rw [qtt, qen]
 rfl
end Mine
end
section
namespace Mine
theorem q5m (f g : Obj -> Obj) : ∀ (t : BT) (a : Nat), (t.set a f).set a g = t.set a (fun o => g (f o))
 | .nil, _ => rfl
 | .node v l r, a => by
  rw [BT.set_node v l r a f, BT.set_node v l r a]
  by_cases h : a = 0
  ·simp only [h, if_true]; rw [BT.set_node]; simp
  ·by_cases q : a % 2 = 1
   ·simp only [h, q, if_true, if_false]; rw [BT.set_node]; simp only [h, q, if_true, if_false]; rw [q5m f g l]
   ·simp only [h, q, if_false]; rw [BT.set_node]; simp only [h, q, if_false]; rw [q5m f g r]
theorem q1w (o : Obj) : ∀ (t : BT) (n : Nat), (∀ i, i < n -> (t.get i).isSome = true) -> (t.ins n o).get n = some o
 | .nil, n, h => by
  have : n = 0 := by
   by_cases q : n = 0
   ·exact q
   ·have := h 0 (by omega); simp [BT.get] at this
  subst this; rfl
 | .node v l r, n, h => by
  rw [BT.ins_node]
  by_cases h0 : n = 0
  ·subst h0; simp [BT.get_node]
  ·by_cases q : n % 2 = 1
   ·simp only [h0, q, if_true, if_false]; rw [BT.get_node]; simp only [h0, q, if_true, if_false]
    refine q1w o l (n / 2) fun i hi => ?_
    have := h (2 * i + 1) (by omega)
    rw [BT.get_node, if_neg (by omega), if_pos (by omega)] at this
    rwa [show (2 * i + 1) / 2 = i by omega] at this
   ·simp only [h0, q, if_false]; rw [BT.get_node]; simp only [h0, q, if_false]
    refine q1w o r (n / 2 - 1) fun i hi => ?_
    have := h (2 * i + 2) (by omega)
    rw [BT.get_node, if_neg (by omega), if_neg (by omega)] at this
    rwa [show (2 * i + 2) / 2 - 1 = i by omega] at this
noncomputable def dO (es : List DictEntry) (ep : Nat) : Obj := ⟨.type "dict", none, .dict es.toArray ep, #[]⟩
noncomputable def Full (S : SharedT) : Prop := ∀ i, i < S.n -> (S.tree.get i).isSome = true
noncomputable def tick (S : SharedT) (k : Nat) : SharedT := { S with toks := S.toks + k }
noncomputable def setO (S : SharedT) (d : Nat) (o : Obj) : SharedT := { S with tree := S.tree.set d (fun _ => o) }
noncomputable def addO (S : SharedT) (o : Obj) : SharedT := { S with tree := S.tree.ins S.n o, n := S.n + 1 }
theorem Full.tick {S : SharedT} (h : Full S) (k : Nat) : Full (tick S k) := h
theorem Full.setO {S : SharedT} (h : Full S) (d : Nat) (o : Obj) : Full (setO S d o) := fun i hi => by
 show ((S.tree.set d _).get i).isSome = true
 rw [BT.get_set]
 split
 ·rename_i e; subst e; rw [Option.isSome_map]; exact h _ hi
 ·exact h i hi
theorem Full.addO {S : SharedT} (h : Full S) (o : Obj) : Full (addO S o) := fun i hi => by
 have hn := q1w o S.tree S.n h
 show ((S.tree.ins S.n o).get i).isSome = true
 rw [BT.get_ins o S.tree S.n (by rw [hn]; rfl)]
 split
 ·rfl
 ·have : i < S.n + 1 := hi
  exact h i (by omega)
theorem q2q {S : SharedT} {d : Nat} {o o' : Obj} (g : S.tree.get d = some o') (i : Nat) : (setO S d o).tree.get i = if i = d then some o else S.tree.get i := by
 show (S.tree.set d _).get i = _
 rw [BT.get_set, g]; rfl
theorem q3w {S : SharedT} (h : Full S) (o : Obj) (i : Nat) : (addO S o).tree.get i = if i = S.n then some o else S.tree.get i := by
 have hn := q1w o S.tree S.n h
 exact BT.get_ins o S.tree S.n (by rw [hn]; rfl) i
section
variable {p : Program} {w : World} {n₀ : Nat} {ann : Option Value} {S : SharedT} {q : Pos}
theorem q3y (es : List DictEntry) (ep : Nat) : alive (dO es ep) = some (dO es ep) := rfl
theorem q6q {f : Obj -> Obj} {o : Obj} : ∀ {t : BT} {d : Nat}, t.get d = some o -> t.set d f = t.set d (fun _ => f o)
 | .nil, d, h => by simp [BT.get] at h
 | .node v l r, d, h => by
  rw [BT.get_node] at h
  rw [BT.set_node, BT.set_node]
  by_cases h0 : d = 0
  ·simp only [h0, if_true] at h ⊢; cases h; rfl
  ·by_cases q : d % 2 = 1
   ·simp only [h0, q, if_true, if_false] at h ⊢; rw [q6q h]
   ·simp only [h0, q, if_false] at h ⊢; rw [q6q h]
theorem q59 {es : List DictEntry} {h : Int} (hn : ∀ e ∈ es, e.hash ≠ h) : placesWithHash es.toArray.size (fun i => es.toArray[i]?.map (·.hash)) h = [] := by
 unfold placesWithHash
 rw [List.filter_eq_nil_iff]
 intro i hi
 have hi' : i < es.length := by simpa using hi
 simp only [List.getElem?_toArray, List.getElem?_eq_getElem hi', Option.map_some, beq_iff_eq, Option.some.injEq]
 exact hn _ (List.getElem_mem hi')
theorem q1g {d : Nat} {es : List DictEntry} {ep : Nat} {part : Option Value} (hb : Nat.blt d S.n = true) (g : S.tree.get d = some (dO es ep)) :
  RT treeTable p w n₀ ann (dictEntries d part) S q 1 es.toArray S q := by
 unfold dictEntries
 exact RT.bind (n := 1) (k := 0) (RT.load hb g (q3y es ep)) RT.pure
theorem q33 {d : Nat} {es : List DictEntry} {ep : Nat} {k : Int} {t : Tok} {h : Int} (hb : Nat.blt d S.n = true) (g : S.tree.get d = some (dO es ep)) (hn : ∀ e ∈ es, e.hash ≠ h) :
  RT treeTable p w n₀ ann (dictFind d (.int k t) h) S q 1 none S q := by
 unfold dictFind
 refine RT.holding (RT.bind (n := 1) (k := 0) (q1g hb g) ?_)
 dsimp only
 rw [q59 hn]
 exact RT.pure
noncomputable def q1r (es : List DictEntry) (ep : Nat) (e : DictEntry) : Obj := dO (es ++ [e]) (ep + 1)
theorem q2h {d : Nat} {es : List DictEntry} {ep : Nat} {e : DictEntry} {part : Option Value} (hd : Nat.ble n₀ d = true) (hb : Nat.blt d S.n = true) (g : S.tree.get d = some (dO es ep)) (hz : es.length < 2 ^ 24) :
  RT treeTable p w n₀ ann (updateDictKeys d (·.push e) part) S q 3 () (setO S d (q1r es ep e)) q := by
 unfold updateDictKeys
 have hs : S.tree.set d (Obj.mapDictKeys (·.push e)) = S.tree.set d (fun _ => q1r es ep e) := by
  rw [q6q g]
  show S.tree.set d (fun _ => (⟨.type "dict", none, .dict (es.toArray.push e) (ep + 1), #[]⟩ : Obj)) = _
  rw [List.push_toArray]; rfl
 refine RT.bind (n := 1) (k := 2) (RT.load hb g (q3y es ep)) ?_
 show RT treeTable p w n₀ ann (updatePart d part _ >>= fun _ => lookBehind d part) S q 2 () _ q
 refine RT.bind (n := 1) (k := 1) (RT.update hb g (q3y es ep) hd) ?_
 rw [hs]
 unfold lookBehind
 have g2 : (setO S d (q1r es ep e)).tree.get d = some (q1r es ep e) := by rw [q2q g]; simp
 refine RT.bind (n := 1) (k := 0) (RT.load (s := setO S d (q1r es ep e)) hb g2 rfl) ?_
 have hp : (Data.dict (es ++ [e]).toArray (ep + 1)).pastItsLine = none := pastItsLine_dict (by
  simp only [List.size_toArray, List.length_append, List.length_cons, List.length_nil, sizeLine]; omega)
 show RT treeTable p w n₀ ann (match (Data.dict (es ++ [e]).toArray (ep + 1)).pastItsLine with | some what => unsupported what | x => Pure.pure ()) _ q 0 () _ q
 rw [hp]
 exact RT.pure
theorem q4b {d : Nat} {es : List DictEntry} {ep : Nat} {k : Int} {t : Tok} {v : Value} (hd : Nat.ble n₀ d = true) (hb : Nat.blt d S.n = true) (g : S.tree.get d = some (dO es ep)) (hz : es.length < 2 ^ 24) (hn : ∀ e ∈ es, e.hash ≠ hashInt k) :
  RT treeTable p w n₀ ann (dictSet d (.int k t) v) S q 10 () (setO (tick S 1) d (q1r es ep ⟨hashInt k, .int k t, v⟩)) q := by
 unfold dictSet
 refine RT.holding (RT.bind (n := 5) (k := 5) RT.pyHash_int ?_)
 unfold dictSetHashed
 refine RT.holding (RT.bind (n := 1) (k := 4) (q33 (S := tick S 1) hb g hn) ?_)
 exact RT.bind (n := 1) (k := 3) RT.rule (q2h (S := tick S 1) hd hb g hz)
noncomputable def itK (k : Int) : Sem Value := mkInt k
noncomputable def itV (x : Str) (pos : Pos) : Sem Value := do let x <- mkText x; standAt pos; Pure.pure x
noncomputable def ent (t : Nat) (k : Int) (x : Str) : DictEntry := ⟨hashInt k, .int k t, .str x (t + 1)⟩
noncomputable def ents : Nat -> List (Int × Str) -> List DictEntry
 | _, [] => []
 | t, (k, x) :: r => ent t k x :: ents (t + 3) r
theorem q1u : ∀ (l : List (Int × Str)) (t : Nat), (ents t l).length = l.length
 | [], _ => rfl
 | _ :: r, t => by simp [ents, q1u r]
theorem q39 : ∀ (l : List (Int × Str)) (t : Nat) (e : DictEntry), e ∈ ents t l -> ∃ y ∈ l, e.hash = hashInt y.1
 | [], _, _, h => by cases h
 | y :: r, t, e, h => by
  rcases List.mem_cons.mp h with rfl | h
  ·exact ⟨y, .head _, rfl⟩
  ·obtain ⟨z, hz, q⟩ := q39 r _ e h; exact ⟨z, .tail _ hz, q⟩
theorem q7i {d : Nat} {o o' o'' : Obj} (g : S.tree.get d = some o'') : setO (setO S d o) d o' = setO S d o' := by
 unfold setO
 simp only [q5m]
theorem q4t {d : Nat} {o : Obj} {k : Nat} : tick (setO S d o) k = setO (tick S k) d o := rfl
theorem q4v {j k : Nat} : tick (tick S j) k = tick S (j + k) := by unfold tick; simp [Nat.add_assoc]
noncomputable def qwj (b : Int) : List (Int × Str) -> Prop
 | [] => True
 | (k, _) :: r => b < k /\ qwj k r
noncomputable def q5k (b : Int) : List (Int × Str) -> Bool
 | [] => true
 | (k, _) :: r => decide (b < k) && decide (k < 2 ^ 60) && q5k k r
theorem q51 {k : Int} (h0 : 0 <= k) (h1 : k < 2 ^ 60) : hashInt k = k := by
 have : rawHash k = k := by
  have e : ((k.natAbs : Int) % ((2 ^ 61 - 1 : Nat) : Int)) = k := by
   have : (k.natAbs : Int) = k := by omega
   rw [this]
   exact Int.emod_eq_of_lt h0 (by omega)
  unfold rawHash
  simp only [e]
  rw [if_neg (show ¬ k < 0 by omega), if_neg (by simp; omega)]
 unfold hashInt
 rw [this, if_neg (by simp; omega)]
theorem qum {d : Nat} {es : List DictEntry} {ep : Nat} {k : Int} {x : Str} {pos : Pos} (hd : Nat.ble n₀ d = true) (hb : Nat.blt d S.n = true) (g : S.tree.get d = some (dO es ep)) (hz : es.length < 2 ^ 24) (hn : ∀ e ∈ es, e.hash ≠ hashInt k) :
  RT treeTable p w n₀ ann (do let kv <- itK k; let vv <- holding [kv] (itV x pos); holding [kv, vv] (dictSet d kv vv)) S q 13 () (setO (tick S 3) d (q1r es ep (ent S.toks k x))) pos := by
 refine RT.bind (n := 1) (k := 12) (a := .int k S.toks) (s₁ := tick S 1) (q₁ := q) ?_ ?_
 ·unfold itK mkInt; exact RT.bind (n := 1) (k := 0) RT.fresh RT.pure
 refine RT.bind (n := 2) (k := 10) (a := .str x (S.toks + 1)) (s₁ := tick S 2) (q₁ := pos) ?_ ?_
 ·refine RT.holding ?_
  unfold itV mkText
  refine RT.bind (n := 1) (k := 1) (a := .str x (S.toks + 1)) (s₁ := tick S 2) (q₁ := q) ?_ ?_
  ·exact RT.bind (n := 1) (k := 0) (RT.fresh (s := tick S 1)) RT.pure
  ·exact RT.bind (n := 1) (k := 0) RT.at RT.pure
 refine RT.holding ?_
 exact q4b (S := tick S 2) hd hb g hz hn
theorem qje {d : Nat} {pos : Pos} (hd : Nat.ble n₀ d = true) : ∀ (l : List (Int × Str)) (S : SharedT) (es : List DictEntry) (ep : Nat) (q : Pos), Nat.blt d S.n = true -> S.tree.get d = some (dO es ep) -> es.length + l.length < 2 ^ 24 ->
  (∀ e ∈ es, ∀ y ∈ l, e.hash ≠ hashInt y.1) -> (l.Pairwise fun a b => hashInt a.1 ≠ hashInt b.1) ->
  RT treeTable p w n₀ ann (forIn (l.map fun y => (itK y.1, itV y.2 pos)) PUnit.unit fun (kv : Sem Value × Sem Value) _ => do
   let k <- kv.1; let v <- holding [k] kv.2; holding [k, v] (dictSet d k v); Pure.pure (ForInStep.yield PUnit.unit)) S q (13 * l.length) PUnit.unit (setO (tick S (3 * l.length)) d (dO (es ++ ents S.toks l) (ep + l.length))) (if l = [] then q else pos)
 | [], S, es, ep, q, hb, g, hz, h1, h2 => by
  have e : setO (tick S (3 * 0)) d (dO (es ++ ents S.toks []) (ep + 0)) = S := by
   unfold setO tick ents
   simp only [List.append_nil, Nat.mul_zero, Nat.add_zero]
   have := q6q (f := fun x => x) g
   have id : S.tree.set d (fun x => x) = S.tree := by
    clear this h1 h2 hz hb hd
    generalize S.tree = t at g
    induction t generalizing d with
    | nil => simp [BT.get] at g
    | node v l r ihl ihr =>
     rw [BT.get_node] at g
     rw [BT.set_node]
     by_cases h0 : d = 0
     ·simp [h0]
     ·by_cases qq : d % 2 = 1
      ·simp only [h0, qq, if_true, if_false] at g ⊢; rw [ihl g]
      ·simp only [h0, qq, if_false] at g ⊢; rw [ihr g]
   rw [id] at this
   rw [<- this]
  simp only [List.length_nil, List.map_nil, if_true]
  rw [e]
  exact RT.pure
 | (k, x) :: r, S, es, ep, q, hb, g, hz, h1, h2 => by
  have h2' := List.pairwise_cons.mp h2
  simp only [List.length_cons] at hz
  rw [List.map_cons, List.forIn_cons, show 13 * ((k, x) :: r).length = 13 + 13 * r.length by simp [Nat.mul_add]; omega]
  have s1 := qum (p := p) (w := w) (ann := ann) (q := q) (pos := pos) hd hb g (by omega) (x := x) (k := k) (fun e he => h1 e he (k, x) (.head _))
  refine RT.bind (a := ForInStep.yield PUnit.unit) (s₁ := setO (tick S 3) d (q1r es ep (ent S.toks k x))) (q₁ := pos) ?_ ?_
  ·have := RT.bind s1 (f := fun _ => Pure.pure (ForInStep.yield PUnit.unit)) (k := 0) RT.pure
   simpa only [bind_assoc] using this
  ·have ih := qje (pos := pos) hd r (setO (tick S 3) d (q1r es ep (ent S.toks k x))) (es ++ [ent S.toks k x]) (ep + 1) pos hb (by rw [q2q (S := tick S 3) g]; simp [q1r]) (by simp; omega)
    (fun e he y hy => by
     rcases List.mem_append.mp he with he | he
     ·exact h1 e he y (.tail _ hy)
     ·simp only [List.mem_singleton] at he; subst he; exact h2'.1 y hy) h2'.2
   have e1 : setO (tick (setO (tick S 3) d (q1r es ep (ent S.toks k x))) (3 * r.length)) d (dO (es ++ [ent S.toks k x] ++ ents (setO (tick S 3) d (q1r es ep (ent S.toks k x))).toks r) (ep + 1 + r.length)) =
     setO (tick S (3 * ((k, x) :: r).length)) d (dO (es ++ ents S.toks ((k, x) :: r)) (ep + ((k, x) :: r).length)) := by
    rw [q4t, q4v, q7i (S := tick S (3 + 3 * r.length)) g]
    have : 3 + 3 * r.length = 3 * ((k, x) :: r).length := by simp [Nat.mul_add]; omega
    rw [this, List.append_assoc]
    have e2 : ep + 1 + r.length = ep + ((k, x) :: r).length := by simp; omega
    rw [e2]
    rfl
   rw [<- e1]
   simpa using ih
theorem qd9 (hf : Full S) (o o' : Obj) : setO (addO S o) S.n o' = addO S o' := by
 have key : ∀ (t : BT) (n : Nat), (∀ i, i < n -> (t.get i).isSome = true) -> (t.ins n o).set n (fun _ => o') = t.ins n o' := by
  intro t
  induction t with
  | nil =>
   intro n h
   have : n = 0 := by
    by_cases q : n = 0
    ·exact q
    ·have := h 0 (by omega); simp [BT.get] at this
   subst this; rfl
  | node v l r ihl ihr =>
   intro n h
   rw [BT.ins_node, BT.ins_node]
   by_cases h0 : n = 0
   ·simp only [h0, if_true]; rw [BT.set_node]; simp
   ·by_cases q : n % 2 = 1
    ·simp only [h0, q, if_true, if_false]; rw [BT.set_node]; simp only [h0, q, if_true, if_false]
     rw [ihl]
     intro i hi
     have := h (2 * i + 1) (by omega)
     rw [BT.get_node, if_neg (by omega), if_pos (by omega)] at this
     rwa [show (2 * i + 1) / 2 = i by omega] at this
    ·simp only [h0, q, if_false]; rw [BT.set_node]; simp only [h0, q, if_false]
     rw [ihr]
     intro i hi
     have := h (2 * i + 2) (by omega)
     rw [BT.get_node, if_neg (by omega), if_neg (by omega)] at this
     rwa [show (2 * i + 2) / 2 - 1 = i by omega] at this
 unfold setO addO
 simp only
 rw [key S.tree S.n hf]
noncomputable def mkIt (pos : Pos) (y : Int × Str) : Sem Value × Sem Value := (itK y.1, itV y.2 pos)
noncomputable def q25 (l : List (Int × Str)) : Prop := l.Pairwise fun a b => hashInt a.1 ≠ hashInt b.1
theorem qga (hf : Full S) (o : Obj) : RT treeTable p w n₀ ann (alloc o) S q 1 S.n (addO S o) q := RT.alloc (by rw [q1w o S.tree S.n hf]; rfl)
theorem q3c {l : List (Int × Str)} {pos : Pos} (hf : Full S) (hn : Nat.ble n₀ S.n = true) (h15 : 15 < l.length) (hz : l.length < 2 ^ 24) (hd : q25 l) :
  RT treeTable p w n₀ ann (subDict (l.map (mkIt pos))) S q (1 + (1 + 13 * l.length)) S.n (tick (addO S (dO (ents S.toks l) l.length)) (3 * l.length)) pos := by
 unfold subDict
 refine RT.bind (qga hf (dO [] 0)) ?_
 refine RT.bind (k := 0) (a := ()) (s₁ := tick (addO S (dO (ents S.toks l) l.length)) (3 * l.length)) (q₁ := pos) ?_ RT.pure
 refine RT.holding ?_
 rw [if_neg (by simp; omega)]
 refine RT.bind RT.rule ?_
 have hg : (addO S (dO [] 0)).tree.get S.n = some (dO [] 0) := by rw [q3w hf]; simp
 have := qje (p := p) (w := w) (ann := ann) (pos := pos) hn l (addO S (dO [] 0)) [] 0 q (by show Nat.blt S.n (S.n + 1) = true; simp [Nat.blt_eq]) hg (by simpa using hz) (by simp) hd
 rw [if_neg (by intro e; subst e; simp at h15)] at this
 simp only [List.nil_append, Nat.zero_add] at this
 have e : setO (tick (addO S (dO [] 0)) (3 * l.length)) S.n (dO (ents (addO S (dO [] 0)).toks l) l.length) = tick (addO S (dO (ents S.toks l) l.length)) (3 * l.length) := by
  rw [<- q4t, qd9 hf]; rfl
 rw [e] at this
 exact RT.bind (k := 0) this RT.pure
noncomputable def q3z : Nat -> List (Int × Str) -> List DictEntry
 | _, [] => []
 | t, (k, x) :: r => ent t k x :: q3z (t + 2) r
noncomputable def kvs : Nat -> List (Int × Str) -> List (Value × Value)
 | _, [] => []
 | t, (k, x) :: r => (.int k t, .str x (t + 1)) :: kvs (t + 2) r
theorem q5v {pos : Pos} : ∀ (l : List (Int × Str)) (S : SharedT) (q : Pos), RT treeTable p w n₀ ann (evalPairs (l.map (mkIt pos))) S q (3 * l.length) (kvs S.toks l) (tick S (2 * l.length)) (if l = [] then q else pos)
 | [], S, q => RT.pure
 | (k, x) :: r, S, q => by
  rw [List.map_cons]
  show RT _ _ _ _ _ (do let kv <- itK k; let vv <- holding [kv] (itV x pos); return (kv, vv) :: (<- holding [kv, vv] (evalPairs (r.map (mkIt pos))))) _ _ _ _ _ _
  rw [show 3 * ((k, x) :: r).length = 1 + (2 + (3 * r.length + 0)) by simp [Nat.mul_add]; omega]
  refine RT.bind (a := .int k S.toks) (s₁ := tick S 1) (q₁ := q) ?_ ?_
  ·unfold itK mkInt; exact RT.bind (n := 1) (k := 0) RT.fresh RT.pure
  refine RT.bind (a := .str x (S.toks + 1)) (s₁ := tick S 2) (q₁ := pos) ?_ ?_
  ·refine RT.holding ?_
   unfold itV mkText
   refine RT.bind (n := 1) (k := 1) (a := .str x (S.toks + 1)) (s₁ := tick S 2) (q₁ := q) ?_ ?_
   ·exact RT.bind (n := 1) (k := 0) (RT.fresh (s := tick S 1)) RT.pure
   ·exact RT.bind (n := 1) (k := 0) RT.at RT.pure
  have ih := q5v (pos := pos) r (tick S 2) pos
  rw [ite_self] at ih
  rw [if_neg (by simp)]
  have e : tick (tick S 2) (2 * r.length) = tick S (2 * ((k, x) :: r).length) := by rw [q4v]; congr 1; simp [Nat.mul_add]; omega
  rw [e] at ih
  exact RT.bind (RT.holding ih) RT.pure
theorem qky {d : Nat} (hd : Nat.ble n₀ d = true) : ∀ (l : List (Int × Str)) (t : Nat) (S : SharedT) (es : List DictEntry) (ep : Nat) (q : Pos), Nat.blt d S.n = true -> S.tree.get d = some (dO es ep) -> es.length + l.length < 2 ^ 24 ->
  (∀ e ∈ es, ∀ y ∈ l, e.hash ≠ hashInt y.1) -> q25 l ->
  RT treeTable p w n₀ ann (forIn (kvs t l) PUnit.unit fun (kv : Value × Value) _ => do dictSet d kv.1 kv.2; Pure.pure (ForInStep.yield PUnit.unit)) S q (10 * l.length) PUnit.unit
   (if l = [] then S else setO (tick S l.length) d (dO (es ++ q3z t l) (ep + l.length))) q
 | [], t, S, es, ep, q, hb, g, hz, h1, h2 => RT.pure
 | (k, x) :: r, t, S, es, ep, q, hb, g, hz, h1, h2 => by
  have h2' := List.pairwise_cons.mp h2
  simp only [List.length_cons] at hz
  rw [show kvs t ((k, x) :: r) = (.int k t, .str x (t + 1)) :: kvs (t + 2) r from rfl, List.forIn_cons, show 10 * ((k, x) :: r).length = 10 + 10 * r.length by simp [Nat.mul_add]; omega]
  have s1 := q4b (p := p) (w := w) (ann := ann) (q := q) hd hb g (by omega) (k := k) (t := t) (v := .str x (t + 1)) (fun e he => h1 e he (k, x) (.head _))
  refine RT.bind (a := ForInStep.yield PUnit.unit) (s₁ := setO (tick S 1) d (q1r es ep (ent t k x))) (q₁ := q) ?_ ?_
  ·exact RT.bind s1 (f := fun _ => Pure.pure (ForInStep.yield PUnit.unit)) (k := 0) RT.pure
  ·have ih := qky hd r (t + 2) (setO (tick S 1) d (q1r es ep (ent t k x))) (es ++ [ent t k x]) (ep + 1) q hb (by rw [q2q (S := tick S 1) g]; simp [q1r]) (by simp; omega)
    (fun e he y hy => by
     rcases List.mem_append.mp he with he | he
     ·exact h1 e he y (.tail _ hy)
     ·simp only [List.mem_singleton] at he; subst he; exact h2'.1 y hy) h2'.2
   rw [if_neg (by simp)]
   have e1 : (if r = [] then setO (tick S 1) d (q1r es ep (ent t k x)) else setO (tick (setO (tick S 1) d (q1r es ep (ent t k x))) r.length) d (dO (es ++ [ent t k x] ++ q3z (t + 2) r) (ep + 1 + r.length))) =
     setO (tick S ((k, x) :: r).length) d (dO (es ++ q3z t ((k, x) :: r)) (ep + ((k, x) :: r).length)) := by
    have e2 : ep + 1 + r.length = ep + ((k, x) :: r).length := by simp; omega
    split
    ·rename_i hr; subst hr; rfl
    ·rw [q4t, q4v, q7i (S := tick S (1 + r.length)) g, List.append_assoc, e2]
     have : 1 + r.length = ((k, x) :: r).length := by simp; omega
     rw [this]
     rfl
   rw [e1] at ih
   exact ih
theorem q6d {l : List (Int × Str)} {pos : Pos} (hf : Full S) (hn : Nat.ble n₀ S.n = true) (hne : l ≠ []) (h15 : l.length <= 15) (hd : q25 l) :
  RT treeTable p w n₀ ann (subDict (l.map (mkIt pos))) S q (1 + (3 * l.length + 10 * l.length)) S.n (tick (addO S (dO (q3z S.toks l) l.length)) (3 * l.length)) pos := by
 unfold subDict
 refine RT.bind (qga hf (dO [] 0)) ?_
 refine RT.bind (k := 0) (a := ()) (s₁ := tick (addO S (dO (q3z S.toks l) l.length)) (3 * l.length)) (q₁ := pos) ?_ RT.pure
 refine RT.holding ?_
 rw [if_pos (by simpa using h15)]
 have e1 := q5v (p := p) (w := w) (n₀ := n₀) (ann := ann) (pos := pos) l (addO S (dO [] 0)) q
 rw [if_neg hne] at e1
 refine RT.bind e1 (RT.holding ?_)
 have hg : (tick (addO S (dO [] 0)) (2 * l.length)).tree.get S.n = some (dO [] 0) := by show (addO S (dO [] 0)).tree.get S.n = _; rw [q3w hf]; simp
 have := qky (p := p) (w := w) (ann := ann) hn l (addO S (dO [] 0)).toks (tick (addO S (dO [] 0)) (2 * l.length)) [] 0 pos (by show Nat.blt S.n (S.n + 1) = true; simp [Nat.blt_eq]) hg (by simp; omega) (by simp) hd
 rw [if_neg hne] at this
 simp only [List.nil_append, Nat.zero_add] at this
 have e : setO (tick (tick (addO S (dO [] 0)) (2 * l.length)) l.length) S.n (dO (q3z (addO S (dO [] 0)).toks l) l.length) = tick (addO S (dO (q3z S.toks l) l.length)) (3 * l.length) := by
  rw [q4v, show 2 * l.length + l.length = 3 * l.length by omega, <- q4t, qd9 hf]; rfl
 rw [e] at this
 exact RT.bind (k := 0) this RT.pure
theorem qbj {α β : Type} {a : α} {f : α -> Sem β} {n : Nat} {b : β} {S' : SharedT} {q' : Pos} (h : RT treeTable p w n₀ ann (f a) S q n b S' q') : RT treeTable p w n₀ ann ((Pure.pure a : Sem α) >>= f) S q n b S' q' := h
noncomputable def q9l (e : DictEntry) : Prop := ∃ k t, e.key = .int k t
theorem qhj {d : Nat} {es : List DictEntry} {ep : Nat} {e : DictEntry} (hk : q9l e) (hd : Nat.ble n₀ d = true) (hb : Nat.blt d S.n = true) (g : S.tree.get d = some (dO es ep)) (hz : es.length < 2 ^ 24) (hn : ∀ x ∈ es, x.hash ≠ e.hash) :
  RT treeTable p w n₀ ann (dictPut d e.hash e.key e.val) S q 4 () (setO S d (q1r es ep e)) q := by
 obtain ⟨h, key, val⟩ := e
 obtain ⟨k, t, hk⟩ := hk
 simp only at hk; subst hk
 unfold dictPut
 exact RT.bind (n := 1) (k := 3) (q33 hb g hn) (q2h hd hb g hz)
theorem q64 {d : Nat} {es : List DictEntry} {ep : Nat} {part : Option Value} (hb : Nat.blt d S.n = true) (g : S.tree.get d = some (dO es ep)) :
  RT treeTable p w n₀ ann (dictEpoch d part) S q 1 ep S q := by
 unfold dictEpoch
 exact RT.bind (n := 1) (k := 0) (RT.load hb g (q3y es ep)) RT.pure
theorem RT.onRaise_ {α : Type} {m : Sem α} {h : Value -> Sem Unit} {n : Nat} {a : α} {S' : SharedT} {q' : Pos} (r : RT treeTable p w n₀ ann m S q n a S' q') : RT treeTable p w n₀ ann (m.onRaise h) S q n a S' q' := fun K H gd lv c B => by
 rw [Sem.onRaise_eq_wrap, Sem.wrap_wrap]
 exact r _ _ _ _ c B
theorem q5z {d a : Nat} {E : List DictEntry} {epa : Nat} (hd : Nat.ble n₀ d = true) (hda : a ≠ d) : ∀ (m : Nat) (i : Nat) (S : SharedT) (es : List DictEntry) (ep : Nat), i + m = E.length -> Nat.blt d S.n = true -> Nat.blt a S.n = true -> S.tree.get a = some (dO E epa) ->
  S.tree.get d = some (dO es ep) -> es.length + m < 2 ^ 24 -> (∀ x ∈ es, ∀ e ∈ E.drop i, x.hash ≠ e.hash) -> ((E.drop i).Pairwise fun x y => x.hash ≠ y.hash) -> (∀ e ∈ E, q9l e) ->
  RT treeTable p w n₀ ann (forIn (List.range' i m) PUnit.unit fun i (_ : PUnit) => do
   let __do_lift <- dictEntries a
   match __do_lift[i]? with
    | some e => do
     holding [e.key, e.val] (dictPut d e.hash e.key e.val)
     let __do_lift <- dictEpoch a
     if (__do_lift != epa) = true then do
       unsupported "dict.changed-during-merge"
       Pure.pure (ForInStep.yield PUnit.unit)
      else Pure.pure (ForInStep.yield PUnit.unit)
    | x => do
     unsupported "dict.changed-during-merge"
     Pure.pure (ForInStep.yield PUnit.unit)) S q (6 * m) PUnit.unit (if m = 0 then S else setO S d (dO (es ++ E.drop i) (ep + m))) q
 | 0, i, S, es, ep, hi, hb, hba, ga, g, hz, h1, h2, hk => RT.pure
 | m + 1, i, S, es, ep, hi, hb, hba, ga, g, hz, h1, h2, hk => by
  have hlt : i < E.length := by omega
  have hdr : E.drop i = E[i] :: E.drop (i + 1) := List.drop_eq_getElem_cons hlt
  rw [hdr] at h1 h2
  have h2' := List.pairwise_cons.mp h2
  rw [List.range'_succ, List.forIn_cons, show 6 * (m + 1) = 6 + 6 * m by omega]
  refine RT.bind (a := ForInStep.yield PUnit.unit) (s₁ := setO S d (q1r es ep E[i])) (q₁ := q) ?_ ?_
  ·refine RT.bind (n := 1) (k := 5) (q1g hba ga) ?_
   have : E.toArray[i]? = some E[i] := by simp [hlt]
   rw [this]
   refine RT.bind (n := 4) (k := 1) (RT.holding (qhj (hk _ (List.getElem_mem hlt)) hd hb g (by omega) (fun x hx => h1 x hx _ (.head _)))) ?_
   refine RT.bind (n := 1) (k := 0) (q64 (S := setO S d (q1r es ep E[i])) hba (by rw [q2q g, if_neg hda]; exact ga)) ?_
   rw [if_neg (by simp)]
   exact RT.pure
  ·have ih := q5z hd hda m (i + 1) (setO S d (q1r es ep E[i])) (es ++ [E[i]]) (ep + 1) (by omega) hb hba (by rw [q2q g, if_neg hda]; exact ga) (by rw [q2q g]; simp [q1r]) (by simp; omega)
    (fun x hx e he => by
     rcases List.mem_append.mp hx with hx | hx
     ·exact h1 x hx e (.tail _ he)
     ·simp only [List.mem_singleton] at hx; subst hx; exact h2'.1 e he) h2'.2 hk
   rw [if_neg (by omega)]
   have e1 : (if m = 0 then setO S d (q1r es ep E[i]) else setO (setO S d (q1r es ep E[i])) d (dO (es ++ [E[i]] ++ E.drop (i + 1)) (ep + 1 + m))) = setO S d (dO (es ++ E.drop i) (ep + (m + 1))) := by
    rw [hdr]
    split
    ·rename_i hm
     subst hm
     have : E.drop (i + 1) = [] := List.drop_eq_nil_of_le (by omega)
     rw [this]; rfl
    ·rw [q7i g, List.append_assoc, show ep + 1 + m = ep + (m + 1) by omega]; rfl
   rw [e1] at ih
   exact ih
theorem qmm {a : Nat} {E : List DictEntry} {epa : Nat} (hba : Nat.blt a S.n = true) (ga : S.tree.get a = some (dO E epa)) : RT treeTable p w n₀ ann (isInstance (.ref a) (.type "dict")) S q 1 true S q := by
 unfold isInstance
 refine RT.bind (n := 1) (k := 0) (a := .type "dict") (s₁ := S) (q₁ := q) ?_ ?_
 ·unfold typeOf
  exact RT.bind (n := 1) (k := 0) (RT.load hba ga (q3y E epa)) RT.pure
 ·have : isSubtype (.type "dict") (.type "dict") = Pure.pure true := by rw [isSubtype_type]; kernel_rfl
  rw [this]; exact RT.pure
theorem qka {a : Nat} {E : List DictEntry} {epa : Nat} (hba : Nat.blt a S.n = true) (ga : S.tree.get a = some (dO E epa)) : RT treeTable p w n₀ ann (specialOf (.ref a) "__iter__") S q 1 (some (.builtin "dict.__iter__")) S q := by
 unfold specialOf
 refine RT.bind (n := 1) (k := 0) (a := .type "dict") (s₁ := S) (q₁ := q) ?_ ?_
 ·unfold typeOf
  exact RT.bind (n := 1) (k := 0) (RT.load hba ga (q3y E epa)) RT.pure
 ·have : typeLookup (.type "dict") "__iter__" = Pure.pure (some (.builtin "dict.__iter__")) := by rw [typeLookup_type, builtinLookup_eq_fast]; kernel_rfl
  rw [this]; exact RT.pure
theorem qnx {d a : Nat} {E : List DictEntry} {epa : Nat} {es : List DictEntry} {ep : Nat} (hd : Nat.ble n₀ d = true) (hda : a ≠ d) (hsys : a ≠ 1) (hne : es ≠ []) (hE : E ≠ []) (hb : Nat.blt d S.n = true) (hba : Nat.blt a S.n = true) (ga : S.tree.get a = some (dO E epa))
  (g : S.tree.get d = some (dO es ep)) (hz : es.length + E.length < 2 ^ 24) (h1 : ∀ x ∈ es, ∀ e ∈ E, x.hash ≠ e.hash) (h2 : E.Pairwise fun x y => x.hash ≠ y.hash) (hk : ∀ e ∈ E, q9l e) :
  RT treeTable p w n₀ ann (mergeMapping d (.ref a) false) S q (5 + 6 * E.length) () (setO S d (dO (es ++ E) (ep + E.length))) q := by
 unfold mergeMapping
 rw [show 5 + 6 * E.length = 1 + (1 + (1 + (1 + (1 + (6 * E.length + 0))))) by omega]
 refine RT.bind (qmm hba ga) ?_
 dsimp only
 rw [if_pos rfl]
 refine RT.bind (qka hba ga) ?_
 refine qbj ?_
 rw [show (some (Value.builtin "dict.__iter__") == some (Value.builtin "dict.__iter__")) = true from by simp]
 dsimp only
 rw [if_neg (by simp [sysModules]; exact hsys)]
 refine RT.bind (q1g hb g) ?_
 rw [if_neg (by simp; exact hne)]
 refine RT.bind (q1g hba ga) ?_
 refine RT.bind (q64 hba ga) ?_
 have := q5z (p := p) (w := w) (ann := ann) (q := q) (epa := epa) hd hda E.length 0 S es ep (by omega) hb hba ga g hz (by simpa using h1) (by simpa using h2) hk
 rw [if_neg (by simpa using hE), List.drop_zero] at this
 rw [List.size_toArray, List.range_eq_range']
 exact RT.bind (k := 0) this RT.pure
abbrev PairT := Sem Value × Sem Value
abbrev DS := Option Addr × List PairT
noncomputable def opt (y : PairT) : Option (Sem Value) × Sem Value := (some y.1, y.2)
section
variable {f : Option (Sem Value) × Sem Value -> DS -> Sem (ForInStep DS)} {flush : List PairT -> Option Addr -> Sem (Option Addr)}
theorem qda (F1 : ∀ y main run, (run ++ [y]).length ≠ 17 -> f (opt y) (main, run) = Pure.pure (ForInStep.yield (main, run ++ [y]))) : ∀ (l : List PairT) (main : Option Addr) (run : List PairT), run.length + l.length < 17 ->
  forIn (l.map opt) (main, run) f = (Pure.pure (main, run ++ l) : Sem DS)
 | [], main, run, _ => by simp
 | y :: r, main, run, h => by
  simp only [List.length_cons] at h
  rw [List.map_cons, List.forIn_cons, F1 y main run (by simp; omega), pure_bind]
  show forIn (r.map opt) (main, run ++ [y]) f = _
  rw [qda F1 r main (run ++ [y]) (by simp; omega), List.append_assoc]; rfl
theorem q5c (F1 : ∀ y main run, (run ++ [y]).length ≠ 17 -> f (opt y) (main, run) = Pure.pure (ForInStep.yield (main, run ++ [y])))
  (F2 : ∀ y main run, (run ++ [y]).length = 17 -> f (opt y) (main, run) = (do let m <- flush (run ++ [y]) main; Pure.pure (ForInStep.yield (m, [])))) (rest : List (Option (Sem Value) × Sem Value)) :
  ∀ (l : List PairT) (main : Option Addr) (run : List PairT), run.length + l.length = 17 -> l ≠ [] -> forIn (l.map opt ++ rest) (main, run) f = (flush (run ++ l) main >>= fun m => forIn rest (m, []) f)
 | [], _, _, _, h => absurd rfl h
 | [y], main, run, h, _ => by
  simp only [List.length_cons, List.length_nil] at h
  rw [List.map_cons, List.map_nil, List.cons_append, List.nil_append, List.forIn_cons, F2 y main run (by simp; omega)]
  simp only [bind_assoc, pure_bind]
 | y :: z :: r, main, run, h, _ => by
  simp only [List.length_cons] at h
  rw [List.map_cons, List.cons_append, List.forIn_cons, F1 y main run (by simp; omega), pure_bind]
  show forIn ((z :: r).map opt ++ rest) (main, run ++ [y]) f = _
  rw [q5c F1 F2 rest (z :: r) main (run ++ [y]) (by simp; omega) (by simp), List.append_assoc]; rfl
end
noncomputable def q5w (run : List PairT) (main : Option Addr) : Sem (Option Addr) :=
 if run.isEmpty = true then Pure.pure main else
  match main with
  | none => do return some (<- subDict run)
  | some d => do
   let sub <- holding [.ref d] (subDict run)
   (holding [.ref d, .ref sub] (mergeMapping d (.ref sub) false)).onRaise fun x => do let _ <- holding [.ref d, x] (runValue (.builtin "proto.let_go" {}))
   return some d
theorem q71 : ∀ (l : List (Int × Str)) (t : Nat) (e : DictEntry), e ∈ ents t l -> q9l e
 | [], _, _, h => by cases h
 | y :: r, t, e, h => by
  rcases List.mem_cons.mp h with rfl | h
  ·exact ⟨_, _, rfl⟩
  ·exact q71 r _ e h
theorem q5r : ∀ (l : List (Int × Str)) (t : Nat) (e : DictEntry), e ∈ q3z t l -> q9l e
 | [], _, _, h => by cases h
 | y :: r, t, e, h => by
  rcases List.mem_cons.mp h with rfl | h
  ·exact ⟨_, _, rfl⟩
  ·exact q5r r _ e h
theorem q5f : ∀ (l : List (Int × Str)) (t : Nat) (e : DictEntry), e ∈ q3z t l -> ∃ y ∈ l, e.hash = hashInt y.1
 | [], _, _, h => by cases h
 | y :: r, t, e, h => by
  rcases List.mem_cons.mp h with rfl | h
  ·exact ⟨y, .head _, rfl⟩
  ·obtain ⟨z, hz, q⟩ := q5f r _ e h; exact ⟨z, .tail _ hz, q⟩
theorem q63 : ∀ (l : List (Int × Str)) (t : Nat), (q3z t l).length = l.length
 | [], _ => rfl
 | _ :: r, t => by simp [q3z, q63 r]
theorem q9c : ∀ (l : List (Int × Str)) (t : Nat), q25 l -> (ents t l).Pairwise fun x y => x.hash ≠ y.hash
 | [], _, _ => .nil
 | y :: r, t, h => by
  have h' := List.pairwise_cons.mp h
  exact List.pairwise_cons.mpr ⟨fun e he => by obtain ⟨z, hz, q⟩ := q39 r _ e he; rw [q]; exact h'.1 z hz, q9c r _ h'.2⟩
theorem q75 : ∀ (l : List (Int × Str)) (t : Nat), q25 l -> (q3z t l).Pairwise fun x y => x.hash ≠ y.hash
 | [], _, _ => .nil
 | y :: r, t, h => by
  have h' := List.pairwise_cons.mp h
  exact List.pairwise_cons.mpr ⟨fun e he => by obtain ⟨z, hz, q⟩ := q5f r _ e he; rw [q]; exact h'.1 z hz, q75 r _ h'.2⟩
noncomputable def qc3 (S : SharedT) (E : List DictEntry) (m : Nat) (d : Nat) (es : List DictEntry) (ep : Nat) : SharedT := setO (tick (addO S (dO E m)) (3 * m)) d (dO (es ++ E) (ep + m))
theorem qgd {d : Nat} {es : List DictEntry} {ep : Nat} {l : List (Int × Str)} {pos : Pos} {E : List DictEntry} {ns : Nat} (hd : Nat.ble n₀ d = true) (hf : Full S) (hn : Nat.ble n₀ S.n = true) (hS : 1 < S.n) (hdn : d < S.n) (g : S.tree.get d = some (dO es ep)) (hne : es ≠ [])
  (hsub : RT treeTable p w n₀ ann (subDict (l.map (mkIt pos))) S q ns S.n (tick (addO S (dO E l.length)) (3 * l.length)) pos) (hl : l ≠ []) (hEl : E.length = l.length) (hz : es.length + l.length < 2 ^ 24)
  (h1 : ∀ x ∈ es, ∀ y ∈ l, x.hash ≠ hashInt y.1) (hEh : ∀ e ∈ E, ∃ y ∈ l, e.hash = hashInt y.1) (hEa : E.Pairwise fun x y => x.hash ≠ y.hash) (hEk : ∀ e ∈ E, q9l e) :
  RT treeTable p w n₀ ann (q5w (l.map (mkIt pos)) (some d)) S q (ns + (5 + 6 * l.length)) (some d) (qc3 S E l.length d es ep) pos := by
 unfold q5w
 rw [if_neg (by simpa using hl)]
 dsimp only
 refine RT.bind (RT.holding hsub) ?_
 have hg1 : (tick (addO S (dO E l.length)) (3 * l.length)).tree.get S.n = some (dO E l.length) := by show (addO S (dO E l.length)).tree.get S.n = _; rw [q3w hf]; simp
 have hg2 : (tick (addO S (dO E l.length)) (3 * l.length)).tree.get d = some (dO es ep) := by show (addO S (dO E l.length)).tree.get d = _; rw [q3w hf, if_neg (by omega)]; exact g
 have hb1 : Nat.blt d (S.n + 1) = true := by rw [Nat.blt_eq]; omega
 have hb2 : Nat.blt S.n (S.n + 1) = true := by rw [Nat.blt_eq]; omega
 have := qnx (p := p) (w := w) (ann := ann) (q := pos) (S := tick (addO S (dO E l.length)) (3 * l.length)) hd (by omega) (by omega) hne (by intro e; rw [e] at hEl; cases l <;> simp at hEl hl) hb1 hb2 hg1 hg2 (by omega)
  (fun x hx e he => by obtain ⟨y, hy, qq⟩ := hEh e he; rw [qq]; exact h1 x hx y hy) hEa hEk
 rw [hEl] at this
 exact RT.bind (k := 0) (RT.onRaise_ (RT.holding this)) RT.pure
noncomputable def chS (d : Nat) : SharedT -> List DictEntry -> Nat -> List (List (Int × Str)) -> List (Int × Str) -> SharedT
 | S, es, ep, [], l => qc3 S (q3z S.toks l) l.length d es ep
 | S, es, ep, c :: cs, l => chS d (qc3 S (ents S.toks c) c.length d es ep) (es ++ ents S.toks c) (ep + c.length) cs l
noncomputable def chN : List (List (Int × Str)) -> List (Int × Str) -> Nat
 | [], l => (1 + (3 * l.length + 10 * l.length)) + (5 + 6 * l.length)
 | c :: cs, l => ((1 + (1 + 13 * c.length)) + (5 + 6 * c.length)) + chN cs l
noncomputable def endD : DS -> Sem Value := fun s => q5w s.2 s.1 >>= fun m => match m with | some d => Pure.pure (.ref d) | none => newDict
theorem qbr {f : Option (Sem Value) × Sem Value -> DS -> Sem (ForInStep DS)} {d : Nat} {pos : Pos} {l : List (Int × Str)}
  (F1 : ∀ y main run, (run ++ [y]).length ≠ 17 -> f (opt y) (main, run) = Pure.pure (ForInStep.yield (main, run ++ [y])))
  (F2 : ∀ y main run, (run ++ [y]).length = 17 -> f (opt y) (main, run) = (do let m <- q5w (run ++ [y]) main; Pure.pure (ForInStep.yield (m, []))))
  (hd : Nat.ble n₀ d = true) (hl : l ≠ []) (hl15 : l.length <= 15) : ∀ (cs : List (List (Int × Str))) (S : SharedT) (es : List DictEntry) (ep : Nat) (q : Pos), Full S -> Nat.ble n₀ S.n = true -> 1 < S.n -> d < S.n -> S.tree.get d = some (dO es ep) -> es ≠ [] ->
   (∀ c ∈ cs, c.length = 17) -> es.length + 17 * cs.length + 15 < 2 ^ 24 -> (∀ x ∈ es, ∀ y ∈ cs.flatten ++ l, x.hash ≠ hashInt y.1) -> q25 (cs.flatten ++ l) ->
   RT treeTable p w n₀ ann (forIn ((cs.flatten ++ l).map fun y => opt (mkIt pos y)) (some d, []) f >>= endD) S q (chN cs l) (.ref d) (chS d S es ep cs l) pos
 | [], S, es, ep, q, hf, hn, hS, hdn, g, hne, hcs, hz, h1, h2 => by
  rw [List.flatten_nil, List.nil_append] at h1 h2 ⊢
  have e : (l.map fun y => opt (mkIt pos y)) = (l.map (mkIt pos)).map opt := by rw [List.map_map]; rfl
  rw [e, qda F1 _ _ _ (by simp; omega), pure_bind]
  show RT _ _ _ _ _ (q5w (l.map (mkIt pos)) (some d) >>= _) _ _ _ _ _ _
  have := qgd (p := p) (w := w) (ann := ann) (q := q) hd hf hn hS hdn g hne (q6d (pos := pos) hf hn hl hl15 h2) hl (q63 _ _) (by omega) h1 (q5f l _) (q75 l _ h2) (q5r l _)
  exact RT.bind (k := 0) this RT.pure
 | c :: cs, S, es, ep, q, hf, hn, hS, hdn, g, hne, hcs, hz, h1, h2 => by
  have hc := hcs c (.head _)
  simp only [List.length_cons] at hz
  rw [List.flatten_cons, List.append_assoc] at h1 h2 ⊢
  have h2' := List.pairwise_append.mp h2
  have e : ((c ++ (cs.flatten ++ l)).map fun y => opt (mkIt pos y)) = (c.map (mkIt pos)).map opt ++ (cs.flatten ++ l).map fun y => opt (mkIt pos y) := by rw [List.map_append, List.map_map]; rfl
  have hcne : c ≠ [] := by intro q; subst q; simp at hc
  rw [e, q5c F1 F2 _ _ _ _ (by simp; omega) (by simpa using hcne), bind_assoc]
  have fl := qgd (p := p) (w := w) (ann := ann) (q := q) hd hf hn hS hdn g hne (q3c (pos := pos) (l := c) hf hn (by omega) (by omega) h2'.1) hcne (q1u _ _) (by omega)
   (fun x hx y hy => h1 x hx y (List.mem_append_left _ hy)) (q39 c _) (q9c c _ h2'.1) (q71 c _)
  refine RT.bind fl ?_
  have hdn' : d < S.n + 1 := by omega
  have gg : (tick (addO S (dO (ents S.toks c) c.length)) (3 * c.length)).tree.get d = some (dO es ep) := by show (addO S _).tree.get d = _; rw [q3w hf, if_neg (by omega)]; exact g
  exact qbr F1 F2 hd hl hl15 cs (qc3 S (ents S.toks c) c.length d es ep) (es ++ ents S.toks c) (ep + c.length) pos (((hf.addO _).tick _).setO _ _) (Nat.ble_eq_true_of_le (Nat.le_succ_of_le (Nat.le_of_ble_eq_true hn))) (Nat.lt_succ_of_lt hS) hdn'
   (by unfold qc3; rw [q2q gg]; simp) (by simp [hne]) (fun c' hc' => hcs c' (.tail _ hc')) (by simp only [List.length_append, q1u]; omega)
   (fun x hx y hy => by
    rcases List.mem_append.mp hx with hx | hx
    ·exact h1 x hx y (List.mem_append_right _ hy)
    ·obtain ⟨z, hz, qq⟩ := q39 c _ x hx; rw [qq]; exact h2'.2.2 z hz y hy) h2'.2.1
noncomputable def qd5 (S : SharedT) (c : List (Int × Str)) : SharedT := tick (addO S (dO (ents S.toks c) c.length)) (3 * c.length)
theorem qhy {pos : Pos} {c : List (Int × Str)} {cs : List (List (Int × Str))} {l : List (Int × Str)} (hl : l ≠ []) (hl15 : l.length <= 15) (hf : Full S) (hn : Nat.ble n₀ S.n = true) (hS : 1 < S.n) (hc : c.length = 17) (hcs : ∀ c ∈ cs, c.length = 17) (hz : cs.length < 2 ^ 16)
  (h2 : q25 (c ++ (cs.flatten ++ l))) :
  RT treeTable p w n₀ ann (dictDisplay ((c ++ (cs.flatten ++ l)).map fun y => opt (mkIt pos y))) S q ((1 + (1 + 13 * c.length)) + chN cs l) (.ref S.n) (chS S.n (qd5 S c) (ents S.toks c) c.length cs l) pos := by
 unfold dictDisplay
 have h2' := List.pairwise_append.mp h2
 have e : ((c ++ (cs.flatten ++ l)).map fun y => opt (mkIt pos y)) = (c.map (mkIt pos)).map opt ++ (cs.flatten ++ l).map fun y => opt (mkIt pos y) := by rw [List.map_append, List.map_map]; rfl
 have hcne : c ≠ [] := by intro q; subst q; simp at hc
 rw [e]
 have key : ∀ (f : Option (Sem Value) × Sem Value -> DS -> Sem (ForInStep DS)), (∀ y main run, (run ++ [y]).length ≠ 17 -> f (opt y) (main, run) = Pure.pure (ForInStep.yield (main, run ++ [y]))) ->
   (∀ y main run, (run ++ [y]).length = 17 -> f (opt y) (main, run) = (do let m <- q5w (run ++ [y]) main; Pure.pure (ForInStep.yield (m, [])))) ->
   RT treeTable p w n₀ ann (forIn ((c.map (mkIt pos)).map opt ++ (cs.flatten ++ l).map fun y => opt (mkIt pos y)) ((none, []) : DS) f >>= endD) S q ((1 + (1 + 13 * c.length)) + chN cs l) (.ref S.n) (chS S.n (qd5 S c) (ents S.toks c) c.length cs l) pos := by
  intro f F1 F2
  rw [q5c F1 F2 _ _ _ _ (by simp; omega) (by simpa using hcne), bind_assoc]
  have fl : RT treeTable p w n₀ ann (q5w ([] ++ c.map (mkIt pos)) none) S q (1 + (1 + 13 * c.length)) (some S.n) (qd5 S c) pos := by
   rw [List.nil_append]
   unfold q5w
   rw [if_neg (by simpa using hcne)]
   exact RT.bind (k := 0) (q3c (pos := pos) (l := c) hf hn (by omega) (by omega) h2'.1) RT.pure
  refine RT.bind fl ?_
  exact qbr F1 F2 hn hl hl15 cs (qd5 S c) (ents S.toks c) c.length pos ((hf.addO _).tick _) (Nat.ble_eq_true_of_le (Nat.le_succ_of_le (Nat.le_of_ble_eq_true hn))) (Nat.lt_succ_of_lt hS) (Nat.lt_succ_self _)
   (by show (addO S _).tree.get S.n = _; rw [q3w hf]; simp) (by intro q; have := q1u c S.toks; rw [q] at this; simp at this; omega) hcs (by rw [q1u]; omega)
   (fun x hx y hy => by obtain ⟨z, hz, qq⟩ := q39 c _ x hx; rw [qq]; exact h2'.2.2 z hz y hy) h2'.2.1
 refine key _ ?_ ?_
 ·intro y main run h
  show (if ((run ++ [y]).length == 17) = true then _ else _) = _
  rw [if_neg (by simpa using h)]
 ·intro y main run h
  show (if ((run ++ [y]).length == 17) = true then _ else _) = _
  rw [if_pos (by simpa using h)]
  rfl
end
end Mine
end
section
namespace Mine
abbrev pw : Program := PySem.Challenge.pw_kl0260_03
noncomputable def lf : Life := {}
noncomputable def kE (P : Params) (s : Str) (t : Tok) (v : Value) : DictEntry := ⟨PyData.keyHash P s, .str s t, v⟩
noncomputable def q45 : List Stmt := behindTheImports pw
noncomputable def stm (i : Nat) : Stmt := q45[i]?.getD (.Pass default)
noncomputable def meth (i j : Nat) : Stmt := match stm i with | .ClassDef _ _ _ b .. => b[j]?.getD (.Pass default) | _ => .Pass default
noncomputable def fA : Stmt -> Arguments | .FunctionDef _ a .. => a | _ => ⟨[], [], none, [], [], none, []⟩
noncomputable def fB : Stmt -> List Stmt | .FunctionDef _ _ b .. => b | _ => []
noncomputable def fS : Stmt -> Scope | .FunctionDef _ _ _ _ _ _ s .. => s | _ => default
noncomputable def b3Ks : Stmt -> List (Option PySem.Expr) | .Assign _ (.Dict ks _ _) _ => ks | _ => []
noncomputable def b3Vs : Stmt -> List PySem.Expr | .Assign _ (.Dict _ vs _) _ => vs | _ => []
noncomputable def r4l : Option PySem.Expr -> Int | some (.Constant (.int k) _ _) => k | _ => 0
noncomputable def r30 : PySem.Expr -> Str | .Constant (.str s) _ _ => s | _ => Str.empty
noncomputable def b3L : List (Int × Str) := ((b3Ks (stm 3)).map r4l).zip ((b3Vs (stm 3)).map r30)
noncomputable def hFn (c : Value) (a b : String) (S : Stmt) (g : Nat) (d k m r : Value) : Obj := ⟨c, none, (.func { name := (Str.ofString a), qualname := (Str.ofString b), params := fA S, body := .stmts (fB S), scope := fS S, globals := g, closure := [], defaults := d, kwdefaults := k, doc := .none, pyModule := m, annotations := none, code := r, closureTuple := .none, builtins := 0 }), #[]⟩
noncomputable def hCd (a : String) (t1 : Nat) (b : String) (t2 t3 : Nat) (i1 i2 i3 i4 i5 : Int) (r1 : Nat) (x : Bool) (r2 : Nat) (v1 v2 v3 v4 : Value) (i6 i7 : Int) (t4 : Nat) : Obj := ⟨(.type "code"), none, (.fields #[(.str (Str.ofString a) t1), (.str (Str.ofString b) t2), (.str (Str.ofString "/claim/cut.py") t3), (.int i1 0), (.int i2 0), (.int i3 0), (.int i4 0), (.int i5 0), (.ref r1), (.bool x), (.int 276 0), (.ref r2), v1, v2, v3, v4, (.int i6 0), (.int i7 0), (.str (Str.ofString "/claim/cut.py") t4)]), #[]⟩
noncomputable def hKs (P : Params) (a : String) (t : Tok) (v : Value) : DictEntry := kE P (Str.ofString a) t v
noncomputable def o1v0 (P : Params) : Obj := ⟨(.type "dict"), none, (.dict #[(hKs P "builtins" 162 (.ref 4)), (hKs P "__main__" 163 (.ref 5)), (hKs P "_sre" 244 (.ref 12))] 3), #[]⟩
noncomputable def o2v0 (P : Params) : Obj := ⟨.none, none, (.dict #[(hKs P "im\x70ort.loaded._sre" 183 (.bool true)), (hKs P "class._frozen_importlib.BuiltinImporter" 185 (.ref 14)), (hKs P "watched.im\x70ort" 206 (.ref 18)), (hKs P "class._frozen_importlib.ModuleSpec" 216 (.ref 22)), (hKs P "sys.modules.booked-epoch" 245 (.int 3 0)), (hKs P "im\x70ort.later-laid._sre" 270 (.bool true)), (hKs P "watched.library" 272 (.ref 27)), (hKs P "watched.library-objects" 0 (.str (Str.mk #[12]) 0)), (hKs P "watched.library-deep._sre" 273 (.str (Str.mk #[4, 0, 0, 11, 4, 0, 0, 11, 4, 0, 0, 3, 4, 0, 0, 11, 8, 4, 100, 105, 99, 116, 2]) 0))] 9), #[]⟩
noncomputable def o3v0 (P : Params) : Obj := ⟨(.type "dict"), none, (.dict #[(hKs P "__name__" 165 (.str (Str.ofString "__main__") 164)), (hKs P "__doc__" 166 .none), (hKs P "__package__" 167 .none), (hKs P "__loader__" 168 (.builtin "__main__.__loader__#opaque")), (hKs P "__spec__" 169 .none), (hKs P "__annotations__" 170 (.ref 6)), (hKs P "__builtins__" 171 (.ref 4)), (hKs P "__file__" 173 (.str (Str.ofString "/claim/cut.py") 172)), (hKs P "__cached__" 174 .none), (hKs P "_sre" 275 (.ref 12))] 10), #[]⟩
noncomputable def qet (P : Params) : Obj := ⟨(.type "dict"), none, (.dict #[(hKs P "__name__" 247 (.str (Str.ofString "_sre") 246)), (hKs P "__doc__" 248 .none), (hKs P "__package__" 250 (.str (Str.ofString "") 249)), (hKs P "__loader__" 251 (.builtin "off-the-table:_sre.__loader__:shared#opaque")), (hKs P "__spec__" 252 (.builtin "off-the-table:_sre.__spec__:shared#opaque")), (hKs P "compile" 253 (.builtin "_sre.compile")), (hKs P "template" 254 (.builtin "off-the-table:_sre.template:shared#opaque")), (hKs P "getcodesize" 255 (.builtin "off-the-table:_sre.getcodesize:shared#opaque")), (hKs P "ascii_iscased" 256 (.builtin "off-the-table:_sre.ascii_iscased:shared#opaque")), (hKs P "unicode_iscased" 257 (.builtin "off-the-table:_sre.unicode_iscased:shared#opaque")), (hKs P "ascii_tolower" 258 (.builtin "off-the-table:_sre.ascii_tolower:shared#opaque")), (hKs P "unicode_tolower" 259 (.builtin "off-the-table:_sre.unicode_tolower:shared#opaque")), (hKs P "MAGIC" 261 (.int 20230612 260)), (hKs P "CODESIZE" 263 (.int 4 262)), (hKs P "MAXREPEAT" 265 (.int 4294967295 264)), (hKs P "MAXGROUPS" 267 (.int 1073741823 266)), (hKs P "copyright" 269 (.str (Str.ofString " SRE 2.2.2 Copyright (c) 1997-2002 by Secret Labs AB ") 268))] 17), #[]⟩
noncomputable def qfj (P : Params) : Obj := ⟨(.type "module"), (some 11), .plain, #[]⟩
noncomputable def qfr (P : Params) : Obj := ⟨(.type "dict"), none, (.dict #[(hKs P "__module__" 189 (.str (Str.ofString "_frozen_importlib") 186)), (hKs P "__firstlineno__" 190 (.int 971 187)), (hKs P "__doc__" 191 (.builtin "_frozen_importlib.BuiltinImporter.__doc__:str#opaque")), (hKs P "_ORIGIN" 192 (.str (Str.ofString "built-in") 188)), (hKs P "find_spec" 193 (.builtin "_frozen_importlib.BuiltinImporter.find_spec#opaque")), (hKs P "create_module" 194 (.builtin "_frozen_importlib.BuiltinImporter.create_module#opaque")), (hKs P "exec_module" 195 (.builtin "_frozen_importlib.BuiltinImporter.exec_module#opaque")), (hKs P "get_code" 196 (.builtin "_frozen_importlib.BuiltinImporter.get_code#opaque")), (hKs P "get_source" 197 (.builtin "_frozen_importlib.BuiltinImporter.get_source#opaque")), (hKs P "is_package" 198 (.builtin "_frozen_importlib.BuiltinImporter.is_package#opaque")), (hKs P "load_module" 199 (.builtin "_frozen_importlib.BuiltinImporter.load_module#opaque")), (hKs P "__static_attributes__" 200 (.ref 15)), (hKs P "__dict__" 202 (.ref 16)), (hKs P "__weakref__" 204 (.ref 17))] 14), #[]⟩
noncomputable def qe2 (P : Params) : Obj := ⟨(.type "type"), none, (.cls { name := (Str.ofString "BuiltinImporter"), bases := [(.type "object")], mro := [(.ref 14), (.type "object")], ns := 13, qualname := (Str.ofString "BuiltinImporter"), hasDict := true, slotNames := [], subclasses := [], abstract := false, collection := none, hasDel := false }), #[]⟩
noncomputable def q06 (P : Params) : Obj := ⟨(.type "tuple"), none, (.seq #[] 0), #[]⟩
noncomputable def qdy (P : Params) : Obj := ⟨(.type "getset_descriptor"), none, (.fields #[(.str (Str.ofString "__dict__") 201), (.ref 14), (.builtin "function.__dict__"), (.builtin "function.__dict__#set")]), #[]⟩
noncomputable def qem (P : Params) : Obj := ⟨(.type "getset_descriptor"), none, (.fields #[(.str (Str.ofString "__weakref__") 203), (.ref 14), (.builtin "ExceptionGroup.__weakref__"), .none]), #[]⟩
noncomputable def qe5 (P : Params) : Obj := ⟨.none, none, (.seq #[(.int 13 0), (.str (Str.mk #[6, 189, 10, 95, 95, 109, 111, 100, 117, 108, 101, 95, 95, 6, 186, 17, 95, 102, 114, 111, 122, 101, 110, 95, 105, 109, 112, 111, 114, 116, 108, 105, 98, 6, 190, 15, 95, 95, 102, 105, 114, 115, 116, 108, 105, 110, 101, 110, 111, 95, 95, 4, 187, 0, 971, 6, 191, 7, 95, 95, 100, 111, 99, 95, 95, 9, 52, 95, 102, 114, 111, 122, 101, 110, 95, 105, 109, 112, 111, 114, 116, 108, 105, 98, 46, 66, 117, 105, 108, 116, 105, 110, 73, 109, 112, 111, 114, 116, 101, 114, 46, 95, 95, 100, 111, 99, 95, 95, 58, 115, 116, 114, 35, 111, 112, 97, 113, 117, 101, 6, 192, 7, 95, 79, 82, 73, 71, 73, 78, 6, 188, 8, 98, 117, 105, 108, 116, 45, 105, 110, 6, 193, 9, 102, 105, 110, 100, 95, 115, 112, 101, 99, 9, 50, 95, 102, 114, 111, 122, 101, 110, 95, 105, 109, 112, 111, 114, 116, 108, 105, 98, 46, 66, 117, 105, 108, 116, 105, 110, 73, 109, 112, 111, 114, 116, 101, 114, 46, 102, 105, 110, 100, 95, 115, 112, 101, 99, 35, 111, 112, 97, 113, 117, 101, 6, 194, 13, 99, 114, 101, 97, 116, 101, 95, 109, 111, 100, 117, 108, 101, 9, 54, 95, 102, 114, 111, 122, 101, 110, 95, 105, 109, 112, 111, 114, 116, 108, 105, 98, 46, 66, 117, 105, 108, 116, 105, 110, 73, 109, 112, 111, 114, 116, 101, 114, 46, 99, 114, 101, 97, 116, 101, 95, 109, 111, 100, 117, 108, 101, 35, 111, 112, 97, 113, 117, 101, 6, 195, 11, 101, 120, 101, 99, 95, 109, 111, 100, 117, 108, 101, 9, 52, 95, 102, 114, 111, 122, 101, 110, 95, 105, 109, 112, 111, 114, 116, 108, 105, 98, 46, 66, 117, 105, 108, 116, 105, 110, 73, 109, 112, 111, 114, 116, 101, 114, 46, 101, 120, 101, 99, 95, 109, 111, 100, 117, 108, 101, 35, 111, 112, 97, 113, 117, 101, 6, 196, 8, 103, 101, 116, 95, 99, 111, 100, 101, 9, 49, 95, 102, 114, 111, 122, 101, 110, 95, 105, 109, 112, 111, 114, 116, 108, 105, 98, 46, 66, 117, 105, 108, 116, 105, 110, 73, 109, 112, 111, 114, 116, 101, 114, 46, 103, 101, 116, 95, 99, 111, 100, 101, 35, 111, 112, 97, 113, 117, 101, 6, 197, 10, 103, 101, 116, 95, 115, 111, 117, 114, 99, 101, 9, 51, 95, 102, 114, 111, 122, 101, 110, 95, 105, 109, 112, 111, 114, 116, 108, 105, 98, 46, 66, 117, 105, 108, 116, 105, 110, 73, 109, 112, 111, 114, 116, 101, 114, 46, 103, 101, 116, 95, 115, 111, 117, 114, 99, 101, 35, 111, 112, 97, 113, 117, 101, 6, 198, 10, 105, 115, 95, 112, 97, 99, 107, 97, 103, 101, 9, 51, 95, 102, 114, 111, 122, 101, 110, 95, 105, 109, 112, 111, 114, 116, 108, 105, 98, 46, 66, 117, 105, 108, 116, 105, 110, 73, 109, 112, 111, 114, 116, 101, 114, 46, 105, 115, 95, 112, 97, 99, 107, 97, 103, 101, 35, 111, 112, 97, 113, 117, 101, 6, 199, 11, 108, 111, 97, 100, 95, 109, 111, 100, 117, 108, 101, 9, 52, 95, 102, 114, 111, 122, 101, 110, 95, 105, 109, 112, 111, 114, 116, 108, 105, 98, 46, 66, 117, 105, 108, 116, 105, 110, 73, 109, 112, 111, 114, 116, 101, 114, 46, 108, 111, 97, 100, 95, 109, 111, 100, 117, 108, 101, 35, 111, 112, 97, 113, 117, 101, 6, 200, 21, 95, 95, 115, 116, 97, 116, 105, 99, 95, 97, 116, 116, 114, 105, 98, 117, 116, 101, 115, 95, 95, 4, 0, 0, 15, 6, 202, 8, 95, 95, 100, 105, 99, 116, 95, 95, 4, 0, 0, 16, 6, 204, 11, 95, 95, 119, 101, 97, 107, 114, 101, 102, 95, 95, 4, 0, 0, 17]) 0), (.bool true), (.bool true), (.str (Str.ofString "") 205), (.int 21 0), (.str (Str.mk #[6, 227, 10, 95, 95, 109, 111, 100, 117, 108, 101, 95, 95, 6, 217, 17, 95, 102, 114, 111, 122, 101, 110, 95, 105, 109, 112, 111, 114, 116, 108, 105, 98, 6, 228, 15, 95, 95, 102, 105, 114, 115, 116, 108, 105, 110, 101, 110, 111, 95, 95, 4, 218, 0, 562, 6, 229, 7, 95, 95, 100, 111, 99, 95, 95, 9, 47, 95, 102, 114, 111, 122, 101, 110, 95, 105, 109, 112, 111, 114, 116, 108, 105, 98, 46, 77, 111, 100, 117, 108, 101, 83, 112, 101, 99, 46, 95, 95, 100, 111, 99, 95, 95, 58, 115, 116, 114, 35, 111, 112, 97, 113, 117, 101, 6, 230, 8, 95, 95, 105, 110, 105, 116, 95, 95, 9, 44, 95, 102, 114, 111, 122, 101, 110, 95, 105, 109, 112, 111, 114, 116, 108, 105, 98, 46, 77, 111, 100, 117, 108, 101, 83, 112, 101, 99, 46, 95, 95, 105, 110, 105, 116, 95, 95, 35, 111, 112, 97, 113, 117, 101, 6, 231, 8, 95, 95, 114, 101, 112, 114, 95, 95, 9, 44, 95, 102, 114, 111, 122, 101, 110, 95, 105, 109, 112, 111, 114, 116, 108, 105, 98, 46, 77, 111, 100, 117, 108, 101, 83, 112, 101, 99, 46, 95, 95, 114, 101, 112, 114, 95, 95, 35, 111, 112, 97, 113, 117, 101, 6, 232, 6, 95, 95, 101, 113, 95, 95, 9, 42, 95, 102, 114, 111, 122, 101, 110, 95, 105, 109, 112, 111, 114, 116, 108, 105, 98, 46, 77, 111, 100, 117, 108, 101, 83, 112, 101, 99, 46, 95, 95, 101, 113, 95, 95, 35, 111, 112, 97, 113, 117, 101, 6, 233, 6, 99, 97, 99, 104, 101, 100, 9, 42, 95, 102, 114, 111, 122, 101, 110, 95, 105, 109, 112, 111, 114, 116, 108, 105, 98, 46, 77, 111, 100, 117, 108, 101, 83, 112, 101, 99, 46, 99, 97, 99, 104, 101, 100, 35, 111, 112, 97, 113, 117, 101, 6, 234, 6, 112, 97, 114, 101, 110, 116, 9, 42, 95, 102, 114, 111, 122, 101, 110, 95, 105, 109, 112, 111, 114, 116, 108, 105, 98, 46, 77, 111, 100, 117, 108, 101, 83, 112, 101, 99, 46, 112, 97, 114, 101, 110, 116, 35, 111, 112, 97, 113, 117, 101, 6, 235, 12, 104, 97, 115, 95, 108, 111, 99, 97, 116, 105, 111, 110, 9, 48, 95, 102, 114, 111, 122, 101, 110, 95, 105, 109, 112, 111, 114, 116, 108, 105, 98, 46, 77, 111, 100, 117, 108, 101, 83, 112, 101, 99, 46, 104, 97, 115, 95, 108, 111, 99, 97, 116, 105, 111, 110, 35, 111, 112, 97, 113, 117, 101, 6, 236, 21, 95, 95, 115, 116, 97, 116, 105, 99, 95, 97, 116, 116, 114, 105, 98, 117, 116, 101, 115, 95, 95, 4, 0, 0, 23, 6, 238, 8, 95, 95, 100, 105, 99, 116, 95, 95, 4, 0, 0, 24, 6, 240, 11, 95, 95, 119, 101, 97, 107, 114, 101, 102, 95, 95, 4, 0, 0, 25, 6, 241, 8, 95, 95, 104, 97, 115, 104, 95, 95, 0]) 0), (.bool true), (.bool true), (.str (Str.ofString "") 242)] 1), #[]⟩
noncomputable def qeo (P : Params) : Obj := ⟨(.type "list"), none, (.seq #[] 0), #[]⟩
noncomputable def qf4 (P : Params) : Obj := ⟨(.type "dict"), none, (.dict #[(hKs P "name" 208 (.str (Str.ofString "_sre") 207)), (hKs P "loader" 209 (.ref 14)), (hKs P "origin" 210 (.str (Str.ofString "built-in") 184)), (hKs P "loader_state" 211 .none), (hKs P "submodule_search_locations" 212 .none), (hKs P "_uninitialized_submodules" 213 (.ref 19)), (hKs P "_set_fileattr" 214 (.bool false)), (hKs P "_cached" 215 .none), (hKs P "_initializing" 243 (.bool false))] 9), #[]⟩
noncomputable def qfq (P : Params) : Obj := ⟨(.type "dict"), none, (.dict #[(hKs P "__module__" 227 (.str (Str.ofString "_frozen_importlib") 217)), (hKs P "__firstlineno__" 228 (.int 562 218)), (hKs P "__doc__" 229 (.builtin "_frozen_importlib.ModuleSpec.__doc__:str#opaque")), (hKs P "__init__" 230 (.builtin "_frozen_importlib.ModuleSpec.__init__#opaque")), (hKs P "__repr__" 231 (.builtin "_frozen_importlib.ModuleSpec.__repr__#opaque")), (hKs P "__eq__" 232 (.builtin "_frozen_importlib.ModuleSpec.__eq__#opaque")), (hKs P "cached" 233 (.builtin "_frozen_importlib.ModuleSpec.cached#opaque")), (hKs P "parent" 234 (.builtin "_frozen_importlib.ModuleSpec.parent#opaque")), (hKs P "has_location" 235 (.builtin "_frozen_importlib.ModuleSpec.has_location#opaque")), (hKs P "__static_attributes__" 236 (.ref 23)), (hKs P "__dict__" 238 (.ref 24)), (hKs P "__weakref__" 240 (.ref 25)), (hKs P "__hash__" 241 .none)] 13), #[]⟩
noncomputable def qef (P : Params) : Obj := ⟨(.type "type"), none, (.cls { name := (Str.ofString "ModuleSpec"), bases := [(.type "object")], mro := [(.ref 22), (.type "object")], ns := 21, qualname := (Str.ofString "ModuleSpec"), hasDict := true, slotNames := [], subclasses := [], abstract := false, collection := none, hasDel := false }), #[]⟩
noncomputable def qej (P : Params) : Obj := ⟨(.type "tuple"), none, (.seq #[(.str (Str.ofString "_cached") 219), (.str (Str.ofString "_set_fileattr") 220), (.str (Str.ofString "_uninitialized_submodules") 221), (.str (Str.ofString "loader") 222), (.str (Str.ofString "loader_state") 223), (.str (Str.ofString "name") 224), (.str (Str.ofString "origin") 225), (.str (Str.ofString "submodule_search_locations") 226)] 0), #[]⟩
noncomputable def qfc (P : Params) : Obj := ⟨(.type "getset_descriptor"), none, (.fields #[(.str (Str.ofString "__dict__") 237), (.ref 22), (.builtin "function.__dict__"), (.builtin "function.__dict__#set")]), #[]⟩
noncomputable def qf5 (P : Params) : Obj := ⟨(.type "getset_descriptor"), none, (.fields #[(.str (Str.ofString "__weakref__") 239), (.ref 22), (.builtin "ExceptionGroup.__weakref__"), .none]), #[]⟩
noncomputable def qfb (P : Params) : Obj := ⟨(.ref 22), (some 20), .plain, #[]⟩
noncomputable def qe8 (P : Params) : Obj := ⟨.none, none, (.seq #[(.int 11 0), (.str (Str.mk #[6, 247, 8, 95, 95, 110, 97, 109, 101, 95, 95, 6, 246, 4, 95, 115, 114, 101, 6, 248, 7, 95, 95, 100, 111, 99, 95, 95, 0, 6, 250, 11, 95, 95, 112, 97, 99, 107, 97, 103, 101, 95, 95, 6, 249, 0, 6, 251, 10, 95, 95, 108, 111, 97, 100, 101, 114, 95, 95, 4, 0, 0, 14, 6, 252, 8, 95, 95, 115, 112, 101, 99, 95, 95, 4, 0, 0, 26, 6, 253, 7, 99, 111, 109, 112, 105, 108, 101, 9, 12, 95, 115, 114, 101, 46, 99, 111, 109, 112, 105, 108, 101, 6, 254, 8, 116, 101, 109, 112, 108, 97, 116, 101, 9, 13, 95, 115, 114, 101, 46, 116, 101, 109, 112, 108, 97, 116, 101, 6, 255, 11, 103, 101, 116, 99, 111, 100, 101, 115, 105, 122, 101, 9, 16, 95, 115, 114, 101, 46, 103, 101, 116, 99, 111, 100, 101, 115, 105, 122, 101, 6, 256, 13, 97, 115, 99, 105, 105, 95, 105, 115, 99, 97, 115, 101, 100, 9, 18, 95, 115, 114, 101, 46, 97, 115, 99, 105, 105, 95, 105, 115, 99, 97, 115, 101, 100, 6, 257, 15, 117, 110, 105, 99, 111, 100, 101, 95, 105, 115, 99, 97, 115, 101, 100, 9, 20, 95, 115, 114, 101, 46, 117, 110, 105, 99, 111, 100, 101, 95, 105, 115, 99, 97, 115, 101, 100, 6, 258, 13, 97, 115, 99, 105, 105, 95, 116, 111, 108, 111, 119, 101, 114, 9, 18, 95, 115, 114, 101, 46, 97, 115, 99, 105, 105, 95, 116, 111, 108, 111, 119, 101, 114, 6, 259, 15, 117, 110, 105, 99, 111, 100, 101, 95, 116, 111, 108, 111, 119, 101, 114, 9, 20, 95, 115, 114, 101, 46, 117, 110, 105, 99, 111, 100, 101, 95, 116, 111, 108, 111, 119, 101, 114, 6, 261, 5, 77, 65, 71, 73, 67, 4, 260, 0, 20230612, 6, 263, 8, 67, 79, 68, 69, 83, 73, 90, 69, 4, 262, 0, 4, 6, 265, 9, 77, 65, 88, 82, 69, 80, 69, 65, 84, 4, 264, 0, 4294967295, 6, 267, 9, 77, 65, 88, 71, 82, 79, 85, 80, 83, 4, 266, 0, 1073741823, 6, 269, 9, 99, 111, 112, 121, 114, 105, 103, 104, 116, 6, 268, 53, 32, 83, 82, 69, 32, 50, 46, 50, 46, 50, 32, 67, 111, 112, 121, 114, 105, 103, 104, 116, 32, 40, 99, 41, 32, 49, 57, 57, 55, 45, 50, 48, 48, 50, 32, 98, 121, 32, 83, 101, 99, 114, 101, 116, 32, 76, 97, 98, 115, 32, 65, 66, 32]) 0), (.bool true), (.bool false), (.str (Str.ofString "_sre") 271)] 0), #[]⟩
noncomputable def q3f (P : Params) : Heap := ⟨#[boot_o_0 P, o1v0 P, o2v0 P, o3v0 P, boot_o_4 P, boot_o_5 P, boot_o_6 P, boot_o_7 P, boot_o_8 P, boot_o_9 P, boot_o_10 P, qet P, qfj P, qfr P, qe2 P, q06 P, qdy P, qem P, qe5 P, qeo P, qf4 P, qfq P, qef P, qej P, qfc P, qf5 P, qfb P, qe8 P], lf⟩
noncomputable def stH0 (w : World) (os : OsState) : Shared := ⟨q3f w.params, #[], ⟨0, 0, 0, 0⟩, 276, os⟩
noncomputable def q0r (P : Params) : Obj := ⟨.none, none, (.fields #[]), #[]⟩
noncomputable def qho (P : Params) : Obj := hCd "<module>" 277 "<module>" 278 279 1 0 0 0 0 28 false 29 .none .none .none .none 280 1 281
noncomputable def qik (P : Params) : Obj := ⟨(.type "frame"), none, .plain, #[(some (.ref 30)), (some (.ref 3)), (some (.ref 3)), none, (some (.str (Str.ofString "__main__") 164)), none, (some (.ref 0))]⟩
noncomputable def qtn (P : Params) : Heap := ⟨#[boot_o_0 P, o1v0 P, o2v0 P, o3v0 P, boot_o_4 P, boot_o_5 P, boot_o_6 P, boot_o_7 P, boot_o_8 P, boot_o_9 P, boot_o_10 P, qet P, qfj P, qfr P, qe2 P, q06 P, qdy P, qem P, qe5 P, qeo P, qf4 P, qfq P, qef P, qej P, qfc P, qf5 P, qfb P, qe8 P, q06 P, q0r P, qho P, qik P], lf⟩
noncomputable def qzq (w : World) (os : OsState) : Shared := ⟨qtn w.params, #[], ⟨0, 0, 0, 0⟩, 282, os⟩
noncomputable def qt9 (P : Params) : BT := (.node (boot_o_0 P) (.node (o1v0 P) (.node (o3v0 P) (.node (boot_o_7 P) (.node (q06 P) (.node (qik P) .nil .nil) .nil) (.node (qej P) .nil .nil)) (.node (qet P) (.node (qeo P) .nil .nil) (.node (qe8 P) .nil .nil))) (.node (boot_o_5 P) (.node (boot_o_9 P) (.node (qem P) .nil .nil) (.node (qf5 P) .nil .nil)) (.node (qfr P) (.node (qfq P) .nil .nil) (.node (q0r P) .nil .nil)))) (.node (o2v0 P) (.node (boot_o_4 P) (.node (boot_o_8 P) (.node (qdy P) .nil .nil) (.node (qfc P) .nil .nil)) (.node (qfj P) (.node (qf4 P) .nil .nil) (.node (q06 P) .nil .nil))) (.node (boot_o_6 P) (.node (boot_o_10 P) (.node (qe5 P) .nil .nil) (.node (qfb P) .nil .nil)) (.node (qe2 P) (.node (qef P) .nil .nil) (.node (qho P) .nil .nil)))))
noncomputable def qza (w : World) (os : OsState) : SharedT := ⟨qt9 w.params, 32, lf, #[], ⟨0, 0, 0, 0⟩, 282, os⟩
noncomputable def o3v1 (P : Params) : Obj := ⟨(.type "dict"), none, (.dict #[(hKs P "__name__" 165 (.str (Str.ofString "cpy313.stringprep") 282)), (hKs P "__doc__" 166 .none), (hKs P "__package__" 167 .none), (hKs P "__loader__" 168 (.builtin "__main__.__loader__#opaque")), (hKs P "__spec__" 169 .none), (hKs P "__annotations__" 170 (.ref 6)), (hKs P "__builtins__" 171 (.ref 4)), (hKs P "__file__" 173 (.str (Str.ofString "/claim/cut.py") 172)), (hKs P "__cached__" 174 .none), (hKs P "_sre" 275 (.ref 12))] 10), #[]⟩
noncomputable def r1r (P : Params) : BT := (.node (boot_o_0 P) (.node (o1v0 P) (.node (o3v1 P) (.node (boot_o_7 P) (.node (q06 P) (.node (qik P) .nil .nil) .nil) (.node (qej P) .nil .nil)) (.node (qet P) (.node (qeo P) .nil .nil) (.node (qe8 P) .nil .nil))) (.node (boot_o_5 P) (.node (boot_o_9 P) (.node (qem P) .nil .nil) (.node (qf5 P) .nil .nil)) (.node (qfr P) (.node (qfq P) .nil .nil) (.node (q0r P) .nil .nil)))) (.node (o2v0 P) (.node (boot_o_4 P) (.node (boot_o_8 P) (.node (qdy P) .nil .nil) (.node (qfc P) .nil .nil)) (.node (qfj P) (.node (qf4 P) .nil .nil) (.node (q06 P) .nil .nil))) (.node (boot_o_6 P) (.node (boot_o_10 P) (.node (qe5 P) .nil .nil) (.node (qfb P) .nil .nil)) (.node (qe2 P) (.node (qef P) .nil .nil) (.node (qho P) .nil .nil)))))
noncomputable def stC1 (w : World) (os : OsState) : SharedT := ⟨r1r w.params, 32, lf, #[], ⟨0, 0, 0, 0⟩, 284, os⟩
noncomputable def o3v2 (P : Params) : Obj := ⟨(.type "dict"), none, (.dict #[(hKs P "__name__" 165 (.str (Str.ofString "cpy313.stringprep") 282)), (hKs P "__doc__" 166 .none), (hKs P "__package__" 167 .none), (hKs P "__loader__" 168 (.builtin "__main__.__loader__#opaque")), (hKs P "__spec__" 169 .none), (hKs P "__annotations__" 170 (.ref 6)), (hKs P "__builtins__" 171 (.ref 4)), (hKs P "__file__" 173 (.str (Str.ofString "/claim/cut.py") 172)), (hKs P "__cached__" 174 .none), (hKs P "_sre" 275 (.ref 12)), (hKs P "b1_set" 343 (.ref 39))] 11), #[]⟩
noncomputable def qut (P : Params) : Obj := ⟨(.type "list"), none, (.seq #[(.int 173 284), (.int 847 285), (.int 6150 286), (.int 6155 287), (.int 6156 288), (.int 6157 289), (.int 8203 290), (.int 8204 291), (.int 8205 292), (.int 8288 293), (.int 65279 294)] 0), #[]⟩
noncomputable def qua (P : Params) : Obj := ⟨(.type "range"), none, (.fields #[(.int 65024 295), (.int 65040 296), (.int 1 297)]), #[]⟩
noncomputable def qug (P : Params) : Obj := ⟨(.type "list"), none, (.seq #[(.int 65024 300), (.int 65025 301), (.int 65026 302), (.int 65027 303), (.int 65028 304), (.int 65029 305), (.int 65030 306), (.int 65031 307), (.int 65032 308), (.int 65033 309), (.int 65034 310), (.int 65035 311), (.int 65036 312), (.int 65037 313), (.int 65038 314), (.int 65039 315)] 18), #[]⟩
noncomputable def qra (P : Params) : Obj := ⟨(.type "range_iterator"), none, (.fields #[(.int 65040 0), (.int 0 0), (.int 1 0)]), #[]⟩
noncomputable def qsz (P : Params) : Obj := ⟨(.type "StopIteration"), none, (.fields #[(.ref 36), .none, .none, .none, (.bool false), .none]), #[]⟩
noncomputable def qt0 (P : Params) : Obj := ⟨(.type "list"), none, (.seq #[(.int 173 284), (.int 847 285), (.int 6150 286), (.int 6155 287), (.int 6156 288), (.int 6157 289), (.int 8203 290), (.int 8204 291), (.int 8205 292), (.int 8288 293), (.int 65279 294), (.int 65024 300), (.int 65025 301), (.int 65026 302), (.int 65027 303), (.int 65028 304), (.int 65029 305), (.int 65030 306), (.int 65031 307), (.int 65032 308), (.int 65033 309), (.int 65034 310), (.int 65035 311), (.int 65036 312), (.int 65037 313), (.int 65038 314), (.int 65039 315)] 0), #[]⟩
noncomputable def q5n (P : Params) : Obj := ⟨(.type "set"), none, (.set #[(65024, (.int 65024 300)), (65025, (.int 65025 301)), (65026, (.int 65026 302)), (65027, (.int 65027 303)), (65028, (.int 65028 304)), (65029, (.int 65029 305)), (6150, (.int 6150 286)), (65030, (.int 65030 306)), (65031, (.int 65031 307)), (65032, (.int 65032 308)), (65033, (.int 65033 309)), (6155, (.int 6155 287)), (6156, (.int 6156 288)), (6157, (.int 6157 289)), (8203, (.int 8203 290)), (8204, (.int 8204 291)), (8205, (.int 8205 292)), (65034, (.int 65034 310)), (65035, (.int 65035 311)), (65036, (.int 65036 312)), (65037, (.int 65037 313)), (65038, (.int 65038 314)), (65039, (.int 65039 315)), (173, (.int 173 284)), (847, (.int 847 285)), (8288, (.int 8288 293)), (65279, (.int 65279 294))] 29 { mask := 127, place := #[0, 1, 2, 3, 4, 5, 6, 7, 8, 9, 10, 11, 12, 13, 14, 15, 16, 17, 18, 19, 20, 21, 22, 45, 79, 96, 127], dummies := #[], finger := 0, led := (!P.followText "set-order"), moves := 2, plain := true }), #[]⟩
noncomputable def qs6 (P : Params) : Obj := ⟨(.type "list_iterator"), none, (.fields #[.none, (.int 27 0)]), #[]⟩
noncomputable def qth (P : Params) : Obj := ⟨(.type "StopIteration"), none, (.fields #[(.ref 41), .none, .none, .none, (.bool false), .none]), #[]⟩
noncomputable def qy4 (P : Params) : BT := (.node (boot_o_0 P) (.node (o1v0 P) (.node (o3v2 P) (.node (boot_o_7 P) (.node (q06 P) (.node (qik P) .nil .nil) .nil) (.node (qej P) (.node (q5n P) .nil .nil) .nil)) (.node (qet P) (.node (qeo P) (.node (qra P) .nil .nil) .nil) (.node (qe8 P) .nil .nil))) (.node (boot_o_5 P) (.node (boot_o_9 P) (.node (qem P) (.node (qua P) .nil .nil) .nil) (.node (qf5 P) (.node (q06 P) .nil .nil) .nil)) (.node (qfr P) (.node (qfq P) (.node (qsz P) .nil .nil) .nil) (.node (q0r P) .nil .nil)))) (.node (o2v0 P) (.node (boot_o_4 P) (.node (boot_o_8 P) (.node (qdy P) (.node (qut P) .nil .nil) .nil) (.node (qfc P) (.node (qs6 P) .nil .nil) .nil)) (.node (qfj P) (.node (qf4 P) (.node (q06 P) .nil .nil) .nil) (.node (q06 P) .nil .nil))) (.node (boot_o_6 P) (.node (boot_o_10 P) (.node (qe5 P) (.node (qug P) .nil .nil) .nil) (.node (qfb P) (.node (qth P) .nil .nil) .nil)) (.node (qe2 P) (.node (qef P) (.node (qt0 P) .nil .nil) .nil) (.node (qho P) .nil .nil)))))
noncomputable def stC2 (w : World) (os : OsState) : SharedT := ⟨qy4 w.params, 43, lf, #[], ⟨0, 0, 0, 0⟩, 344, os⟩
noncomputable def o3v3 (P : Params) : Obj := ⟨(.type "dict"), none, (.dict #[(hKs P "__name__" 165 (.str (Str.ofString "cpy313.stringprep") 282)), (hKs P "__doc__" 166 .none), (hKs P "__package__" 167 .none), (hKs P "__loader__" 168 (.builtin "__main__.__loader__#opaque")), (hKs P "__spec__" 169 .none), (hKs P "__annotations__" 170 (.ref 6)), (hKs P "__builtins__" 171 (.ref 4)), (hKs P "__file__" 173 (.str (Str.ofString "/claim/cut.py") 172)), (hKs P "__cached__" 174 .none), (hKs P "_sre" 275 (.ref 12)), (hKs P "b1_set" 343 (.ref 39)), (hKs P "in_table_b1" 350 (.ref 49))] 12), #[]⟩
noncomputable def r1n (P : Params) : Obj := ⟨.none, none, (.fields #[(.int 4 0), (.int 0 0), (.ref 48)]), #[]⟩
noncomputable def qul (P : Params) : Obj := ⟨(.type "tuple"), none, (.seq #[(.str (Str.ofString "code") 347)] 0), #[]⟩
noncomputable def qtd (P : Params) : Obj := hFn .none "in_table_b1" "in_table_b1" (stm 2) 0 .none .none .none .none
noncomputable def qjz (P : Params) : Obj := hCd "in_table_b1" 344 "in_table_b1" 345 346 4 1 0 0 3 43 true 44 .none (.ref 45) (.ref 46) (.ref 47) 348 4 349
noncomputable def qey (P : Params) : Obj := hFn (.type "function") "in_table_b1" "in_table_b1" (stm 2) 3 .none .none (.str (Str.ofString "cpy313.stringprep") 282) (.ref 48)
noncomputable def qx6 (P : Params) : BT := (.node (boot_o_0 P) (.node (o1v0 P) (.node (o3v3 P) (.node (boot_o_7 P) (.node (q06 P) (.node (qik P) .nil .nil) (.node (qtd P) .nil .nil)) (.node (qej P) (.node (q5n P) .nil .nil) .nil)) (.node (qet P) (.node (qeo P) (.node (qra P) .nil .nil) .nil) (.node (qe8 P) (.node (q06 P) .nil .nil) .nil))) (.node (boot_o_5 P) (.node (boot_o_9 P) (.node (qem P) (.node (qua P) .nil .nil) (.node (qey P) .nil .nil)) (.node (qf5 P) (.node (q06 P) .nil .nil) .nil)) (.node (qfr P) (.node (qfq P) (.node (qsz P) .nil .nil) .nil) (.node (r1n P) (.node (qul P) .nil .nil) .nil)))) (.node (o2v0 P) (.node (boot_o_4 P) (.node (boot_o_8 P) (.node (qdy P) (.node (qut P) .nil .nil) (.node (qjz P) .nil .nil)) (.node (qfc P) (.node (qs6 P) .nil .nil) .nil)) (.node (qfj P) (.node (qf4 P) (.node (q06 P) .nil .nil) .nil) (.node (q06 P) (.node (q0r P) .nil .nil) .nil))) (.node (boot_o_6 P) (.node (boot_o_10 P) (.node (qe5 P) (.node (qug P) .nil .nil) .nil) (.node (qfb P) (.node (qth P) .nil .nil) .nil)) (.node (qe2 P) (.node (qef P) (.node (qt0 P) .nil .nil) .nil) (.node (qho P) (.node (q06 P) .nil .nil) .nil)))))
noncomputable def stC3 (w : World) (os : OsState) : SharedT := ⟨qx6 w.params, 50, lf, #[], ⟨0, 0, 0, 0⟩, 351, os⟩
noncomputable def o3v4 (P : Params) : Obj := ⟨(.type "dict"), none, (.dict #[(hKs P "__name__" 165 (.str (Str.ofString "cpy313.stringprep") 282)), (hKs P "__doc__" 166 .none), (hKs P "__package__" 167 .none), (hKs P "__loader__" 168 (.builtin "__main__.__loader__#opaque")), (hKs P "__spec__" 169 .none), (hKs P "__annotations__" 170 (.ref 6)), (hKs P "__builtins__" 171 (.ref 4)), (hKs P "__file__" 173 (.str (Str.ofString "/claim/cut.py") 172)), (hKs P "__cached__" 174 .none), (hKs P "_sre" 275 (.ref 12)), (hKs P "b1_set" 343 (.ref 39)), (hKs P "in_table_b1" 350 (.ref 49)), (hKs P "b3_exceptions" 2301 (.ref 50))] 13), #[]⟩
noncomputable def q90 (P : Params) : Obj := ⟨(.type "dict"), none, (.dict (ents 351 ((b3L.drop 0).take 647) ++ q3z 2291 ((b3L.drop 647).take 3)).toArray 650), #[]⟩
noncomputable def r47 (P : Params) : Obj := ⟨(.type "dict"), none, (.dict (ents 402 ((b3L.drop 17).take 17)).toArray 17), #[]⟩
noncomputable def r4x (P : Params) : Obj := ⟨(.type "dict"), none, (.dict (ents 453 ((b3L.drop 34).take 17)).toArray 17), #[]⟩
noncomputable def r5k (P : Params) : Obj := ⟨(.type "dict"), none, (.dict (ents 504 ((b3L.drop 51).take 17)).toArray 17), #[]⟩
noncomputable def r5e (P : Params) : Obj := ⟨(.type "dict"), none, (.dict (ents 555 ((b3L.drop 68).take 17)).toArray 17), #[]⟩
noncomputable def r4f (P : Params) : Obj := ⟨(.type "dict"), none, (.dict (ents 606 ((b3L.drop 85).take 17)).toArray 17), #[]⟩
noncomputable def r3f (P : Params) : Obj := ⟨(.type "dict"), none, (.dict (ents 657 ((b3L.drop 102).take 17)).toArray 17), #[]⟩
noncomputable def r4r (P : Params) : Obj := ⟨(.type "dict"), none, (.dict (ents 708 ((b3L.drop 119).take 17)).toArray 17), #[]⟩
noncomputable def r61 (P : Params) : Obj := ⟨(.type "dict"), none, (.dict (ents 759 ((b3L.drop 136).take 17)).toArray 17), #[]⟩
noncomputable def r5f (P : Params) : Obj := ⟨(.type "dict"), none, (.dict (ents 810 ((b3L.drop 153).take 17)).toArray 17), #[]⟩
noncomputable def r3c (P : Params) : Obj := ⟨(.type "dict"), none, (.dict (ents 861 ((b3L.drop 170).take 17)).toArray 17), #[]⟩
noncomputable def r6c (P : Params) : Obj := ⟨(.type "dict"), none, (.dict (ents 912 ((b3L.drop 187).take 17)).toArray 17), #[]⟩
noncomputable def r4n (P : Params) : Obj := ⟨(.type "dict"), none, (.dict (ents 963 ((b3L.drop 204).take 17)).toArray 17), #[]⟩
noncomputable def r2v (P : Params) : Obj := ⟨(.type "dict"), none, (.dict (ents 1014 ((b3L.drop 221).take 17)).toArray 17), #[]⟩
noncomputable def r3n (P : Params) : Obj := ⟨(.type "dict"), none, (.dict (ents 1065 ((b3L.drop 238).take 17)).toArray 17), #[]⟩
noncomputable def r68 (P : Params) : Obj := ⟨(.type "dict"), none, (.dict (ents 1116 ((b3L.drop 255).take 17)).toArray 17), #[]⟩
noncomputable def r43 (P : Params) : Obj := ⟨(.type "dict"), none, (.dict (ents 1167 ((b3L.drop 272).take 17)).toArray 17), #[]⟩
noncomputable def r5b (P : Params) : Obj := ⟨(.type "dict"), none, (.dict (ents 1218 ((b3L.drop 289).take 17)).toArray 17), #[]⟩
noncomputable def r3q (P : Params) : Obj := ⟨(.type "dict"), none, (.dict (ents 1269 ((b3L.drop 306).take 17)).toArray 17), #[]⟩
noncomputable def r3l (P : Params) : Obj := ⟨(.type "dict"), none, (.dict (ents 1320 ((b3L.drop 323).take 17)).toArray 17), #[]⟩
noncomputable def r53 (P : Params) : Obj := ⟨(.type "dict"), none, (.dict (ents 1371 ((b3L.drop 340).take 17)).toArray 17), #[]⟩
noncomputable def r35 (P : Params) : Obj := ⟨(.type "dict"), none, (.dict (ents 1422 ((b3L.drop 357).take 17)).toArray 17), #[]⟩
noncomputable def r3j (P : Params) : Obj := ⟨(.type "dict"), none, (.dict (ents 1473 ((b3L.drop 374).take 17)).toArray 17), #[]⟩
noncomputable def r5r (P : Params) : Obj := ⟨(.type "dict"), none, (.dict (ents 1524 ((b3L.drop 391).take 17)).toArray 17), #[]⟩
noncomputable def r3e (P : Params) : Obj := ⟨(.type "dict"), none, (.dict (ents 1575 ((b3L.drop 408).take 17)).toArray 17), #[]⟩
noncomputable def r41 (P : Params) : Obj := ⟨(.type "dict"), none, (.dict (ents 1626 ((b3L.drop 425).take 17)).toArray 17), #[]⟩
noncomputable def r63 (P : Params) : Obj := ⟨(.type "dict"), none, (.dict (ents 1677 ((b3L.drop 442).take 17)).toArray 17), #[]⟩
noncomputable def r2r (P : Params) : Obj := ⟨(.type "dict"), none, (.dict (ents 1728 ((b3L.drop 459).take 17)).toArray 17), #[]⟩
noncomputable def r39 (P : Params) : Obj := ⟨(.type "dict"), none, (.dict (ents 1779 ((b3L.drop 476).take 17)).toArray 17), #[]⟩
noncomputable def r4m (P : Params) : Obj := ⟨(.type "dict"), none, (.dict (ents 1830 ((b3L.drop 493).take 17)).toArray 17), #[]⟩
noncomputable def r2u (P : Params) : Obj := ⟨(.type "dict"), none, (.dict (ents 1881 ((b3L.drop 510).take 17)).toArray 17), #[]⟩
noncomputable def r34 (P : Params) : Obj := ⟨(.type "dict"), none, (.dict (ents 1932 ((b3L.drop 527).take 17)).toArray 17), #[]⟩
noncomputable def r4a (P : Params) : Obj := ⟨(.type "dict"), none, (.dict (ents 1983 ((b3L.drop 544).take 17)).toArray 17), #[]⟩
noncomputable def r2t (P : Params) : Obj := ⟨(.type "dict"), none, (.dict (ents 2034 ((b3L.drop 561).take 17)).toArray 17), #[]⟩
noncomputable def r4e (P : Params) : Obj := ⟨(.type "dict"), none, (.dict (ents 2085 ((b3L.drop 578).take 17)).toArray 17), #[]⟩
noncomputable def r5w (P : Params) : Obj := ⟨(.type "dict"), none, (.dict (ents 2136 ((b3L.drop 595).take 17)).toArray 17), #[]⟩
noncomputable def r2z (P : Params) : Obj := ⟨(.type "dict"), none, (.dict (ents 2187 ((b3L.drop 612).take 17)).toArray 17), #[]⟩
noncomputable def r50 (P : Params) : Obj := ⟨(.type "dict"), none, (.dict (ents 2238 ((b3L.drop 629).take 17)).toArray 17), #[]⟩
noncomputable def r2s (P : Params) : Obj := ⟨(.type "dict"), none, (.dict (q3z 2289 ((b3L.drop 646).take 4)).toArray 4), #[]⟩
noncomputable def qpm (P : Params) : BT := (.node (boot_o_0 P) (.node (o1v0 P) (.node (o3v4 P) (.node (boot_o_7 P) (.node (q06 P) (.node (qik P) (.node (r2v P) .nil .nil) .nil) (.node (qtd P) (.node (r4m P) .nil .nil) .nil)) (.node (qej P) (.node (q5n P) (.node (r35 P) .nil .nil) .nil) (.node (r4f P) (.node (r50 P) .nil .nil) .nil))) (.node (qet P) (.node (qeo P) (.node (qra P) (.node (r5b P) .nil .nil) .nil) (.node (r47 P) (.node (r2t P) .nil .nil) .nil)) (.node (qe8 P) (.node (q06 P) (.node (r41 P) .nil .nil) .nil) (.node (r5f P) .nil .nil)))) (.node (boot_o_5 P) (.node (boot_o_9 P) (.node (qem P) (.node (qua P) (.node (r68 P) .nil .nil) .nil) (.node (qey P) (.node (r34 P) .nil .nil) .nil)) (.node (qf5 P) (.node (q06 P) (.node (r5r P) .nil .nil) .nil) (.node (r4r P) .nil .nil))) (.node (qfr P) (.node (qfq P) (.node (qsz P) (.node (r3l P) .nil .nil) .nil) (.node (r5k P) (.node (r5w P) .nil .nil) .nil)) (.node (r1n P) (.node (qul P) (.node (r2r P) .nil .nil) .nil) (.node (r6c P) .nil .nil))))) (.node (o2v0 P) (.node (boot_o_4 P) (.node (boot_o_8 P) (.node (qdy P) (.node (qut P) (.node (r3n P) .nil .nil) .nil) (.node (qjz P) (.node (r2u P) .nil .nil) .nil)) (.node (qfc P) (.node (qs6 P) (.node (r3j P) .nil .nil) .nil) (.node (r3f P) (.node (r2s P) .nil .nil) .nil))) (.node (qfj P) (.node (qf4 P) (.node (q06 P) (.node (r3q P) .nil .nil) .nil) (.node (r4x P) (.node (r4e P) .nil .nil) .nil)) (.node (q06 P) (.node (q0r P) (.node (r63 P) .nil .nil) .nil) (.node (r3c P) .nil .nil)))) (.node (boot_o_6 P) (.node (boot_o_10 P) (.node (qe5 P) (.node (qug P) (.node (r43 P) .nil .nil) .nil) (.node (q90 P) (.node (r4a P) .nil .nil) .nil)) (.node (qfb P) (.node (qth P) (.node (r3e P) .nil .nil) .nil) (.node (r61 P) .nil .nil))) (.node (qe2 P) (.node (qef P) (.node (qt0 P) (.node (r53 P) .nil .nil) .nil) (.node (r5e P) (.node (r2z P) .nil .nil) .nil)) (.node (qho P) (.node (q06 P) (.node (r39 P) .nil .nil) .nil) (.node (r4n P) .nil .nil))))))
noncomputable def stC4 (w : World) (os : OsState) : SharedT := ⟨qpm w.params, 89, lf, #[], ⟨0, 0, 0, 0⟩, 2302, os⟩
noncomputable def o3v5 (P : Params) : Obj := ⟨(.type "dict"), none, (.dict #[(hKs P "__name__" 165 (.str (Str.ofString "law_kl0260_03") 2794)), (hKs P "__doc__" 166 .none), (hKs P "__package__" 167 .none), (hKs P "__loader__" 168 (.builtin "__main__.__loader__#opaque")), (hKs P "__spec__" 169 .none), (hKs P "__annotations__" 170 (.ref 6)), (hKs P "__builtins__" 171 (.ref 4)), (hKs P "__file__" 173 (.str (Str.ofString "/claim/cut.py") 172)), (hKs P "__cached__" 174 .none), (hKs P "_sre" 275 (.ref 12)), (hKs P "b1_set" 343 (.ref 39)), (hKs P "in_table_b1" 350 (.ref 49)), (hKs P "b3_exceptions" 2301 (.ref 50)), (hKs P "map_table_b3" 2309 (.ref 95)), (hKs P "ENDMARKER" 2313 (.int 0 2312)), (hKs P "LPAR" 2315 (.int 7 2314)), (hKs P "RPAR" 2317 (.int 8 2316)), (hKs P "LSQB" 2319 (.int 9 2318)), (hKs P "RSQB" 2321 (.int 10 2320)), (hKs P "COLON" 2323 (.int 11 2322)), (hKs P "COMMA" 2325 (.int 12 2324)), (hKs P "SEMI" 2327 (.int 13 2326)), (hKs P "PLUS" 2329 (.int 14 2328)), (hKs P "MINUS" 2331 (.int 15 2330)), (hKs P "STAR" 2333 (.int 16 2332)), (hKs P "SLASH" 2335 (.int 17 2334)), (hKs P "VBAR" 2337 (.int 18 2336)), (hKs P "AMPER" 2339 (.int 19 2338)), (hKs P "LESS" 2341 (.int 20 2340)), (hKs P "GREATER" 2343 (.int 21 2342)), (hKs P "EQUAL" 2345 (.int 22 2344)), (hKs P "DOT" 2347 (.int 23 2346)), (hKs P "PERCENT" 2349 (.int 24 2348)), (hKs P "LBRACE" 2351 (.int 25 2350)), (hKs P "RBRACE" 2353 (.int 26 2352)), (hKs P "EQEQUAL" 2355 (.int 27 2354)), (hKs P "NOTEQUAL" 2357 (.int 28 2356)), (hKs P "LESSEQUAL" 2359 (.int 29 2358)), (hKs P "GREATEREQUAL" 2361 (.int 30 2360)), (hKs P "TILDE" 2363 (.int 31 2362)), (hKs P "CIRCUMFLEX" 2365 (.int 32 2364)), (hKs P "LEFTSHIFT" 2367 (.int 33 2366)), (hKs P "RIGHTSHIFT" 2369 (.int 34 2368)), (hKs P "DOUBLESTAR" 2371 (.int 35 2370)), (hKs P "PLUSEQUAL" 2373 (.int 36 2372)), (hKs P "MINEQUAL" 2375 (.int 37 2374)), (hKs P "STAREQUAL" 2377 (.int 38 2376)), (hKs P "SLASHEQUAL" 2379 (.int 39 2378)), (hKs P "PERCENTEQUAL" 2381 (.int 40 2380)), (hKs P "AMPEREQUAL" 2383 (.int 41 2382)), (hKs P "VBAREQUAL" 2385 (.int 42 2384)), (hKs P "CIRCUMFLEXEQUAL" 2387 (.int 43 2386)), (hKs P "LEFTSHIFTEQUAL" 2389 (.int 44 2388)), (hKs P "RIGHTSHIFTEQUAL" 2391 (.int 45 2390)), (hKs P "DOUBLESTAREQUAL" 2393 (.int 46 2392)), (hKs P "DOUBLESLASH" 2395 (.int 47 2394)), (hKs P "DOUBLESLASHEQUAL" 2397 (.int 48 2396)), (hKs P "AT" 2399 (.int 49 2398)), (hKs P "ATEQUAL" 2401 (.int 50 2400)), (hKs P "RARROW" 2403 (.int 51 2402)), (hKs P "ELLIPSIS" 2405 (.int 52 2404)), (hKs P "COLONEQUAL" 2407 (.int 53 2406)), (hKs P "EXCLAMATION" 2409 (.int 54 2408)), (hKs P "NT_OFFSET" 2411 (.int 256 2410)), (hKs P "EXACT_TOKEN_TYPES" 2508 (.ref 96)), (hKs P "ISTERMINAL" 2515 (.ref 105)), (hKs P "ISNONTERMINAL" 2522 (.ref 112)), (hKs P "ISEOF" 2529 (.ref 119)), (hKs P "tspecials" 2565 (.ref 124)), (hKs P "_name_disallowed_re" 2591 (.ref 129)), (hKs P "_value_disallowed_re" 2625 (.ref 134)), (hKs P "_formatparam" 2635 (.ref 142)), (hKs P "Headers" 2793 (.ref 263)), (hKs P "_law_form" 2804 (.ref 274)), (hKs P "_law_nothing" 2811 (.ref 281)), (hKs P "_law_beside" 2818 (.ref 288)), (hKs P "_law_net" 2836 (.ref 295)), (hKs P "_law_seen" 2842 (.ref 300)), (hKs P "_law_text" 2848 (.ref 305)), (hKs P "_law_rows" 2854 (.ref 310)), (hKs P "_law_closed" 2860 (.ref 315)), (hKs P "_law_code" 2866 (.ref 320)), (hKs P "_law_firsts" 2872 (.ref 325)), (hKs P "_law_short" 2880 (.ref 332)), (hKs P "law" 2886 (.ref 337))] 85), #[]⟩
noncomputable def r51 (P : Params) : Obj := ⟨(.type "tuple"), none, (.seq #[(.str (Str.ofString "code") 2305), (.str (Str.ofString "r") 2306)] 0), #[]⟩
noncomputable def r46 (P : Params) : Obj := hFn .none "map_table_b3" "map_table_b3" (stm 4) 0 .none .none .none .none
noncomputable def qr1 (P : Params) : Obj := hCd "map_table_b3" 2302 "map_table_b3" 2303 2304 7 1 0 0 3 89 true 90 .none (.ref 91) (.ref 92) (.ref 93) 2307 7 2308
noncomputable def qk8 (P : Params) : Obj := hFn (.type "function") "map_table_b3" "map_table_b3" (stm 4) 3 .none .none (.str (Str.ofString "cpy313.stringprep") 282) (.ref 94)
noncomputable def qez (P : Params) : Obj := ⟨(.type "dict"), none, (.dict #[(hKs P "!" 2412 (.int 54 2408)), (hKs P "!=" 2414 (.int 28 2356)), (hKs P "%" 2416 (.int 24 2348)), (hKs P "%=" 2418 (.int 40 2380)), (hKs P "&" 2420 (.int 19 2338)), (hKs P "&=" 2422 (.int 41 2382)), (hKs P "(" 2424 (.int 7 2314)), (hKs P ")" 2426 (.int 8 2316)), (hKs P "*" 2428 (.int 16 2332)), (hKs P "**" 2430 (.int 35 2370)), (hKs P "**=" 2432 (.int 46 2392)), (hKs P "*=" 2434 (.int 38 2376)), (hKs P "+" 2436 (.int 14 2328)), (hKs P "+=" 2438 (.int 36 2372)), (hKs P "," 2440 (.int 12 2324)), (hKs P "-" 2442 (.int 15 2330)), (hKs P "-=" 2444 (.int 37 2374)), (hKs P "->" 2446 (.int 51 2402)), (hKs P "." 2448 (.int 23 2346)), (hKs P "..." 2450 (.int 52 2404)), (hKs P "/" 2452 (.int 17 2334)), (hKs P "//" 2454 (.int 47 2394)), (hKs P "//=" 2456 (.int 48 2396)), (hKs P "/=" 2458 (.int 39 2378)), (hKs P ":" 2460 (.int 11 2322)), (hKs P ":=" 2462 (.int 53 2406)), (hKs P ";" 2464 (.int 13 2326)), (hKs P "<" 2466 (.int 20 2340)), (hKs P "<<" 2468 (.int 33 2366)), (hKs P "<<=" 2470 (.int 44 2388)), (hKs P "<=" 2472 (.int 29 2358)), (hKs P "=" 2474 (.int 22 2344)), (hKs P "==" 2476 (.int 27 2354)), (hKs P ">" 2478 (.int 21 2342)), (hKs P ">=" 2480 (.int 30 2360)), (hKs P ">>" 2481 (.int 34 2368)), (hKs P ">>=" 2482 (.int 45 2390)), (hKs P "@" 2483 (.int 49 2398)), (hKs P "@=" 2484 (.int 50 2400)), (hKs P "[" 2485 (.int 9 2318)), (hKs P "]" 2486 (.int 10 2320)), (hKs P "^" 2487 (.int 32 2364)), (hKs P "^=" 2488 (.int 43 2386)), (hKs P "{" 2489 (.int 25 2350)), (hKs P "|" 2490 (.int 18 2336)), (hKs P "|=" 2491 (.int 42 2384)), (hKs P "}" 2492 (.int 26 2352)), (hKs P "~" 2493 (.int 31 2362))] 48), #[]⟩
noncomputable def r1i (P : Params) : Obj := ⟨(.type "tuple"), none, (.seq #[(.str (Str.ofString "x") 2512)] 0), #[]⟩
noncomputable def qw0 (P : Params) : Obj := hFn .none "ISTERMINAL" "ISTERMINAL" (stm 57) 0 .none .none .none .none
noncomputable def qmf (P : Params) : Obj := hCd "ISTERMINAL" 2509 "ISTERMINAL" 2510 2511 64 1 0 0 3 99 true 100 .none (.ref 101) (.ref 102) (.ref 103) 2513 64 2514
noncomputable def qdn (P : Params) : Obj := hFn (.type "function") "ISTERMINAL" "ISTERMINAL" (stm 57) 3 .none .none (.str (Str.ofString "cpy313.token") 2310) (.ref 104)
noncomputable def r11 (P : Params) : Obj := ⟨(.type "tuple"), none, (.seq #[(.str (Str.ofString "x") 2519)] 0), #[]⟩
noncomputable def r0l (P : Params) : Obj := hFn .none "ISNONTERMINAL" "ISNONTERMINAL" (stm 58) 0 .none .none .none .none
noncomputable def qkx (P : Params) : Obj := hCd "ISNONTERMINAL" 2516 "ISNONTERMINAL" 2517 2518 66 1 0 0 3 106 true 107 .none (.ref 108) (.ref 109) (.ref 110) 2520 66 2521
noncomputable def qdi (P : Params) : Obj := hFn (.type "function") "ISNONTERMINAL" "ISNONTERMINAL" (stm 58) 3 .none .none (.str (Str.ofString "cpy313.token") 2310) (.ref 111)
noncomputable def r27 (P : Params) : Obj := ⟨(.type "tuple"), none, (.seq #[(.str (Str.ofString "x") 2526)] 0), #[]⟩
noncomputable def qx3 (P : Params) : Obj := hFn .none "ISEOF" "ISEOF" (stm 59) 0 .none .none .none .none
noncomputable def qme (P : Params) : Obj := hCd "ISEOF" 2523 "ISEOF" 2524 2525 68 1 0 0 3 113 true 114 .none (.ref 115) (.ref 116) (.ref 117) 2527 68 2528
noncomputable def qcp (P : Params) : Obj := hFn (.type "function") "ISEOF" "ISEOF" (stm 59) 3 .none .none (.str (Str.ofString "cpy313.token") 2310) (.ref 118)
noncomputable def qw8 (P : Params) : Obj := ⟨(.type "tuple"), none, (.seq #[(.int 14 0), (.int 14 0), (.int 4 0), (.int 1 0), (.int 1 0), (.int 9 0), (.int 0 0), (.int 4227896069 0), (.int 939524097 0), (.int 0 0), (.int 0 0), (.int 0 0), (.int 0 0), (.int 0 0), (.int 0 0), (.int 13 0), (.int 11 0), (.int 9 0), (.int 0 0), (.int 4227896069 0), (.int 939524097 0), (.int 0 0), (.int 0 0), (.int 0 0), (.int 0 0), (.int 0 0), (.int 0 0), (.int 1 0)] 0), #[]⟩
noncomputable def qwn (P : Params) : Obj := ⟨(.type "re.Pattern"), none, (.fields #[(.str (Str.mk #[91, 32, 92, 40, 92, 41, 60, 62, 64, 44, 59, 58, 92, 92, 34, 47, 92, 91, 92, 93, 92, 63, 61, 93]) 2533), (.int 32 2564), (.int 0 0), .none, .none, (.ref 123), (.int 0 0)]), #[]⟩
noncomputable def q9r (P : Params) : Obj := ⟨(.type "tuple"), none, (.seq #[(.int 14 0), (.int 10 0), (.int 4 0), (.int 1 0), (.int 1 0), (.int 22 0), (.int 0 0), (.int 31 0), (.int 16 0), (.int 127 0), (.int 0 0), (.int 13 0), (.int 7 0), (.int 22 0), (.int 0 0), (.int 31 0), (.int 16 0), (.int 127 0), (.int 0 0), (.int 1 0)] 0), #[]⟩
noncomputable def qpd (P : Params) : Obj := ⟨(.type "re.Pattern"), none, (.fields #[(.str (Str.mk #[91, 92, 120, 48, 48, 45, 92, 120, 49, 70, 92, 120, 55, 70, 93]) 2567), (.int 32 2590), (.int 0 0), .none, .none, (.ref 128), (.int 0 0)]), #[]⟩
noncomputable def q9i (P : Params) : Obj := ⟨(.type "tuple"), none, (.seq #[(.int 14 0), (.int 14 0), (.int 4 0), (.int 1 0), (.int 1 0), (.int 9 0), (.int 4294966783 0), (.int 0 0), (.int 0 0), (.int 2147483648 0), (.int 0 0), (.int 0 0), (.int 0 0), (.int 0 0), (.int 0 0), (.int 13 0), (.int 11 0), (.int 9 0), (.int 4294966783 0), (.int 0 0), (.int 0 0), (.int 2147483648 0), (.int 0 0), (.int 0 0), (.int 0 0), (.int 0 0), (.int 0 0), (.int 1 0)] 0), #[]⟩
noncomputable def qpb (P : Params) : Obj := ⟨(.type "re.Pattern"), none, (.fields #[(.str (Str.mk #[91, 92, 120, 48, 48, 45, 92, 120, 48, 56, 92, 120, 48, 65, 45, 92, 120, 49, 70, 92, 120, 55, 70, 93]) 2593), (.int 32 2624), (.int 0 0), .none, .none, (.ref 133), (.int 0 0)]), #[]⟩
noncomputable def qzc (P : Params) : Obj := ⟨(.type "tuple"), none, (.seq #[.none, (.int 1 2626)] 0), #[]⟩
noncomputable def qxd (P : Params) : Obj := ⟨(.type "tuple"), none, (.seq #[(.str (Str.ofString "param") 2630), (.str (Str.ofString "value") 2631), (.str (Str.ofString "quote") 2632)] 0), #[]⟩
noncomputable def r07 (P : Params) : Obj := hFn .none "_formatparam" "_formatparam" (stm 64) 0 .none .none .none .none
noncomputable def qxp (P : Params) : Obj := hCd "_formatparam" 2627 "_formatparam" 2628 2629 74 3 0 0 3 136 true 137 .none (.ref 138) (.ref 139) (.ref 140) 2633 74 2634
noncomputable def r0a (P : Params) : Obj := hFn (.type "function") "_formatparam" "_formatparam" (stm 64) 3 (.ref 135) .none (.str (Str.ofString "cpy313.wsgiref.headers") 2530) (.ref 141)
noncomputable def qgm (P : Params) : Obj := ⟨(.type "tuple"), none, (.seq #[.none] 0), #[]⟩
noncomputable def qx7 (P : Params) : Obj := ⟨(.type "tuple"), none, (.seq #[(.str (Str.ofString "self") 2651), (.str (Str.ofString "headers") 2652), (.str (Str.ofString "k") 2653), (.str (Str.ofString "v") 2654)] 0), #[]⟩
noncomputable def r1f (P : Params) : Obj := hFn .none "__init__" "Headers.__init__" (meth 65 0) 0 .none .none .none .none
noncomputable def qlq (P : Params) : Obj := hCd "__init__" 2648 "Headers.__init__" 2649 2650 85 2 0 0 3 151 true 152 .none (.ref 153) (.ref 154) (.ref 155) 2655 85 2656
noncomputable def q4c (P : Params) : Obj := hFn (.type "function") "__init__" "Headers.__init__" (meth 65 0) 3 (.ref 150) .none (.str (Str.ofString "cpy313.wsgiref.headers") 2530) (.ref 156)
noncomputable def r2f (P : Params) : Obj := ⟨(.type "tuple"), none, (.seq #[(.str (Str.ofString "self") 2661), (.str (Str.ofString "value") 2662), (.str (Str.ofString "name") 2663), (.str (Str.ofString "regex") 2664)] 0), #[]⟩
noncomputable def r2j (P : Params) : Obj := hFn .none "_convert_string_type" "Headers._convert_string_type" (meth 65 1) 0 .none .none .none .none
noncomputable def qkg (P : Params) : Obj := hCd "_convert_string_type" 2658 "Headers._convert_string_type" 2659 2660 95 2 0 1 3 158 true 159 .none (.ref 160) (.ref 161) (.ref 162) 2665 95 2666
noncomputable def q7a (P : Params) : Obj := hFn (.type "function") "_convert_string_type" "Headers._convert_string_type" (meth 65 1) 3 .none .none (.str (Str.ofString "cpy313.wsgiref.headers") 2530) (.ref 163)
noncomputable def r20 (P : Params) : Obj := ⟨(.type "tuple"), none, (.seq #[(.str (Str.ofString "self") 2671)] 0), #[]⟩
noncomputable def r1v (P : Params) : Obj := hFn .none "__len__" "Headers.__len__" (meth 65 2) 0 .none .none .none .none
noncomputable def qzp (P : Params) : Obj := hCd "__len__" 2668 "Headers.__len__" 2669 2670 103 1 0 0 3 165 true 166 .none (.ref 167) (.ref 168) (.ref 169) 2672 103 2673
noncomputable def qpq (P : Params) : Obj := hFn (.type "function") "__len__" "Headers.__len__" (meth 65 2) 3 .none .none (.str (Str.ofString "cpy313.wsgiref.headers") 2530) (.ref 170)
noncomputable def r1b (P : Params) : Obj := ⟨(.type "tuple"), none, (.seq #[(.str (Str.ofString "self") 2678), (.str (Str.ofString "name") 2679), (.str (Str.ofString "val") 2680)] 0), #[]⟩
noncomputable def qz3 (P : Params) : Obj := hFn .none "__setitem__" "Headers.__setitem__" (meth 65 3) 0 .none .none .none .none
noncomputable def r01 (P : Params) : Obj := hCd "__setitem__" 2675 "Headers.__setitem__" 2676 2677 106 3 0 0 3 172 true 173 .none (.ref 174) (.ref 175) (.ref 176) 2681 106 2682
noncomputable def qpo (P : Params) : Obj := hFn (.type "function") "__setitem__" "Headers.__setitem__" (meth 65 3) 3 .none .none (.str (Str.ofString "cpy313.wsgiref.headers") 2530) (.ref 177)
noncomputable def qva (P : Params) : Obj := hFn .none "__delitem__" "Headers.__delitem__" (meth 65 4) 0 .none .none .none .none
noncomputable def qy3 (P : Params) : Obj := hCd "__delitem__" 2684 "Headers.__delitem__" 2685 2686 110 2 0 0 3 179 true 180 .none .none .none (.ref 181) 2687 110 2688
noncomputable def qpz (P : Params) : Obj := hFn (.type "function") "__delitem__" "Headers.__delitem__" (meth 65 4) 3 .none .none (.str (Str.ofString "cpy313.wsgiref.headers") 2530) (.ref 182)
noncomputable def r03 (P : Params) : Obj := ⟨(.type "tuple"), none, (.seq #[(.str (Str.ofString "self") 2693), (.str (Str.ofString "name") 2694)] 0), #[]⟩
noncomputable def qyw (P : Params) : Obj := hFn .none "__getitem__" "Headers.__getitem__" (meth 65 5) 0 .none .none .none .none
noncomputable def r2k (P : Params) : Obj := hCd "__getitem__" 2690 "Headers.__getitem__" 2691 2692 114 2 0 0 3 184 true 185 .none (.ref 186) (.ref 187) (.ref 188) 2695 114 2696
noncomputable def qxy (P : Params) : Obj := hFn (.type "function") "__getitem__" "Headers.__getitem__" (meth 65 5) 3 .none .none (.str (Str.ofString "cpy313.wsgiref.headers") 2530) (.ref 189)
noncomputable def qxk (P : Params) : Obj := ⟨(.type "tuple"), none, (.seq #[(.str (Str.ofString "self") 2701), (.str (Str.ofString "name") 2702)] 0), #[]⟩
noncomputable def qz6 (P : Params) : Obj := hFn .none "__contains__" "Headers.__contains__" (meth 65 6) 0 .none .none .none .none
noncomputable def qyx (P : Params) : Obj := hCd "__contains__" 2698 "Headers.__contains__" 2699 2700 117 2 0 0 3 191 true 192 .none (.ref 193) (.ref 194) (.ref 195) 2703 117 2704
noncomputable def r1k (P : Params) : Obj := hFn (.type "function") "__contains__" "Headers.__contains__" (meth 65 6) 3 .none .none (.str (Str.ofString "cpy313.wsgiref.headers") 2530) (.ref 196)
noncomputable def qw4 (P : Params) : Obj := hFn .none "get_all" "Headers.get_all" (meth 65 7) 0 .none .none .none .none
noncomputable def qiy (P : Params) : Obj := hCd "get_all" 2706 "Headers.get_all" 2707 2708 120 2 0 0 3 198 true 199 .none .none .none (.ref 200) 2709 120 2710
noncomputable def q9p (P : Params) : Obj := hFn (.type "function") "get_all" "Headers.get_all" (meth 65 7) 3 .none .none (.str (Str.ofString "cpy313.wsgiref.headers") 2530) (.ref 201)
noncomputable def qwa (P : Params) : Obj := ⟨(.type "tuple"), none, (.seq #[(.str (Str.ofString "self") 2715), (.str (Str.ofString "name") 2716), (.str (Str.ofString "default") 2717), (.str (Str.ofString "k") 2718), (.str (Str.ofString "v") 2719)] 0), #[]⟩
noncomputable def qv2 (P : Params) : Obj := hFn .none "get" "Headers.get" (meth 65 8) 0 .none .none .none .none
noncomputable def qlg (P : Params) : Obj := hCd "get" 2712 "Headers.get" 2713 2714 124 3 0 0 3 204 true 205 .none (.ref 206) (.ref 207) (.ref 208) 2720 124 2721
noncomputable def q2x (P : Params) : Obj := hFn (.type "function") "get" "Headers.get" (meth 65 8) 3 (.ref 203) .none (.str (Str.ofString "cpy313.wsgiref.headers") 2530) (.ref 209)
noncomputable def r0e (P : Params) : Obj := hFn .none "keys" "Headers.keys" (meth 65 9) 0 .none .none .none .none
noncomputable def qxe (P : Params) : Obj := hCd "keys" 2723 "Headers.keys" 2724 2725 131 1 0 0 3 211 true 212 .none .none .none (.ref 213) 2726 131 2727
noncomputable def qpf (P : Params) : Obj := hFn (.type "function") "keys" "Headers.keys" (meth 65 9) 3 .none .none (.str (Str.ofString "cpy313.wsgiref.headers") 2530) (.ref 214)
noncomputable def qyj (P : Params) : Obj := hFn .none "values" "Headers.values" (meth 65 10) 0 .none .none .none .none
noncomputable def qve (P : Params) : Obj := hCd "values" 2729 "Headers.values" 2730 2731 134 1 0 0 3 216 true 217 .none .none .none (.ref 218) 2732 134 2733
noncomputable def qy8 (P : Params) : Obj := hFn (.type "function") "values" "Headers.values" (meth 65 10) 3 .none .none (.str (Str.ofString "cpy313.wsgiref.headers") 2530) (.ref 219)
noncomputable def r15 (P : Params) : Obj := ⟨(.type "tuple"), none, (.seq #[(.str (Str.ofString "self") 2738)] 0), #[]⟩
noncomputable def qyg (P : Params) : Obj := hFn .none "items" "Headers.items" (meth 65 11) 0 .none .none .none .none
noncomputable def qmr (P : Params) : Obj := hCd "items" 2735 "Headers.items" 2736 2737 137 1 0 0 3 221 true 222 .none (.ref 223) (.ref 224) (.ref 225) 2739 137 2740
noncomputable def q9t (P : Params) : Obj := hFn (.type "function") "items" "Headers.items" (meth 65 11) 3 .none .none (.str (Str.ofString "cpy313.wsgiref.headers") 2530) (.ref 226)
noncomputable def r2a (P : Params) : Obj := ⟨(.type "tuple"), none, (.seq #[(.str (Str.ofString "self") 2745)] 0), #[]⟩
noncomputable def qz2 (P : Params) : Obj := hFn .none "__repr__" "Headers.__repr__" (meth 65 12) 0 .none .none .none .none
noncomputable def qwz (P : Params) : Obj := hCd "__repr__" 2742 "Headers.__repr__" 2743 2744 140 1 0 0 3 228 true 229 .none (.ref 230) (.ref 231) (.ref 232) 2746 140 2747
noncomputable def qvv (P : Params) : Obj := hFn (.type "function") "__repr__" "Headers.__repr__" (meth 65 12) 3 .none .none (.str (Str.ofString "cpy313.wsgiref.headers") 2530) (.ref 233)
noncomputable def r10 (P : Params) : Obj := hFn .none "__str__" "Headers.__str__" (meth 65 13) 0 .none .none .none .none
noncomputable def r0q (P : Params) : Obj := hCd "__str__" 2749 "Headers.__str__" 2750 2751 143 1 0 0 3 235 true 236 .none .none .none (.ref 237) 2752 143 2753
noncomputable def qvp (P : Params) : Obj := hFn (.type "function") "__str__" "Headers.__str__" (meth 65 13) 3 .none .none (.str (Str.ofString "cpy313.wsgiref.headers") 2530) (.ref 238)
noncomputable def qyr (P : Params) : Obj := ⟨(.type "tuple"), none, (.seq #[(.str (Str.ofString "self") 2758)] 0), #[]⟩
noncomputable def qyi (P : Params) : Obj := hFn .none "__bytes__" "Headers.__bytes__" (meth 65 14) 0 .none .none .none .none
noncomputable def r0i (P : Params) : Obj := hCd "__bytes__" 2755 "Headers.__bytes__" 2756 2757 146 1 0 0 3 240 true 241 .none (.ref 242) (.ref 243) (.ref 244) 2759 146 2760
noncomputable def qxc (P : Params) : Obj := hFn (.type "function") "__bytes__" "Headers.__bytes__" (meth 65 14) 3 .none .none (.str (Str.ofString "cpy313.wsgiref.headers") 2530) (.ref 245)
noncomputable def quv (P : Params) : Obj := ⟨(.type "tuple"), none, (.seq #[(.str (Str.ofString "self") 2765), (.str (Str.ofString "name") 2766), (.str (Str.ofString "value") 2767), (.str (Str.ofString "result") 2768)] 0), #[]⟩
noncomputable def qw3 (P : Params) : Obj := hFn .none "setdefault" "Headers.setdefault" (meth 65 15) 0 .none .none .none .none
noncomputable def qld (P : Params) : Obj := hCd "setdefault" 2762 "Headers.setdefault" 2763 2764 149 3 0 0 3 247 true 248 .none (.ref 249) (.ref 250) (.ref 251) 2769 149 2770
noncomputable def q9g (P : Params) : Obj := hFn (.type "function") "setdefault" "Headers.setdefault" (meth 65 15) 3 .none .none (.str (Str.ofString "cpy313.wsgiref.headers") 2530) (.ref 252)
noncomputable def r0k (P : Params) : Obj := ⟨(.type "tuple"), none, (.seq #[(.str (Str.ofString "self") 2775), (.str (Str.ofString "_name") 2776), (.str (Str.ofString "_value") 2777), (.str (Str.ofString "_params") 2778), (.str (Str.ofString "parts") 2779), (.str (Str.ofString "k") 2780), (.str (Str.ofString "v") 2781)] 0), #[]⟩
noncomputable def r0u (P : Params) : Obj := hFn .none "add_header" "Headers.add_header" (meth 65 16) 0 .none .none .none .none
noncomputable def ql8 (P : Params) : Obj := hCd "add_header" 2772 "Headers.add_header" 2773 2774 157 3 0 0 11 254 true 255 .none (.ref 256) (.ref 257) (.ref 258) 2782 157 2783
noncomputable def q81 (P : Params) : Obj := hFn (.type "function") "add_header" "Headers.add_header" (meth 65 16) 3 .none .none (.str (Str.ofString "cpy313.wsgiref.headers") 2530) (.ref 259)
noncomputable def r28 (P : Params) : Obj := ⟨(.type "tuple"), none, (.seq #[(.str (Str.ofString "_headers") 2785)] 0), #[]⟩
noncomputable def q16 (P : Params) : Obj := ⟨(.type "dict"), none, (.dict #[(hKs P "__module__" 2643 (.str (Str.ofString "cpy313.wsgiref.headers") 2530)), (hKs P "__firstlineno__" 2647 (.int 83 2646)), (hKs P "__init__" 2657 (.ref 157)), (hKs P "_convert_string_type" 2667 (.ref 164)), (hKs P "__len__" 2674 (.ref 171)), (hKs P "__setitem__" 2683 (.ref 178)), (hKs P "__delitem__" 2689 (.ref 183)), (hKs P "__getitem__" 2697 (.ref 190)), (hKs P "__contains__" 2705 (.ref 197)), (hKs P "get_all" 2711 (.ref 202)), (hKs P "get" 2722 (.ref 210)), (hKs P "keys" 2728 (.ref 215)), (hKs P "values" 2734 (.ref 220)), (hKs P "items" 2741 (.ref 227)), (hKs P "__repr__" 2748 (.ref 234)), (hKs P "__str__" 2754 (.ref 239)), (hKs P "__bytes__" 2761 (.ref 246)), (hKs P "setdefault" 2771 (.ref 253)), (hKs P "add_header" 2784 (.ref 260)), (hKs P "__static_attributes__" 2786 (.ref 261)), (hKs P "__dict__" 2788 (.ref 264)), (hKs P "__weakref__" 2790 (.ref 265)), (hKs P "__doc__" 2791 .none)] 4), #[]⟩
noncomputable def qqi (P : Params) : Obj := ⟨(.type "type"), none, (.cls { name := (Str.ofString "Headers"), bases := [(.type "object")], mro := [(.ref 263), (.type "object")], ns := 262, qualname := (Str.ofString "Headers"), hasDict := true, slotNames := [], subclasses := [], abstract := false, collection := none, hasDel := false }), #[none, none, (some (.str (Str.ofString "Headers") 2636)), (some (.str (Str.ofString "Headers") 2644)), (some (.builtin "object.__new__")), (some (.bool true))]⟩
noncomputable def qyp (P : Params) : Obj := ⟨(.type "getset_descriptor"), none, (.fields #[(.str (Str.ofString "__dict__") 2787), (.ref 263), (.builtin "function.__dict__"), (.builtin "function.__dict__#set")]), #[]⟩
noncomputable def qyt (P : Params) : Obj := ⟨(.type "getset_descriptor"), none, (.fields #[(.str (Str.ofString "__weakref__") 2789), (.ref 263), (.builtin "ExceptionGroup.__weakref__"), .none]), #[]⟩
noncomputable def r23 (P : Params) : Obj := ⟨(.type "tuple"), none, (.seq #[(.str (Str.ofString "letter") 2799), (.str (Str.ofString "k") 2800), (.str (Str.ofString "great") 2801)] 0), #[]⟩
noncomputable def qzb (P : Params) : Obj := hFn .none "_law_form" "_law_form" (stm 67) 0 .none .none .none .none
noncomputable def qjg (P : Params) : Obj := hCd "_law_form" 2796 "_law_form" 2797 2798 171 2 0 0 3 268 true 269 .none (.ref 270) (.ref 271) (.ref 272) 2802 171 2803
noncomputable def qc6 (P : Params) : Obj := hFn (.type "function") "_law_form" "_law_form" (stm 67) 3 .none .none (.str (Str.ofString "law_kl0260_03") 2794) (.ref 273)
noncomputable def qvf (P : Params) : Obj := ⟨(.type "tuple"), none, (.seq #[(.str (Str.ofString "n") 2808)] 0), #[]⟩
noncomputable def r04 (P : Params) : Obj := hFn .none "_law_nothing" "_law_nothing" (stm 68) 0 .none .none .none .none
noncomputable def qjy (P : Params) : Obj := hCd "_law_nothing" 2805 "_law_nothing" 2806 2807 174 1 0 0 3 275 true 276 .none (.ref 277) (.ref 278) (.ref 279) 2809 174 2810
noncomputable def qbv (P : Params) : Obj := hFn (.type "function") "_law_nothing" "_law_nothing" (stm 68) 3 .none .none (.str (Str.ofString "law_kl0260_03") 2794) (.ref 280)
noncomputable def qx2 (P : Params) : Obj := ⟨(.type "tuple"), none, (.seq #[(.str (Str.ofString "n") 2815)] 0), #[]⟩
noncomputable def r0y (P : Params) : Obj := hFn .none "_law_beside" "_law_beside" (stm 69) 0 .none .none .none .none
noncomputable def qj8 (P : Params) : Obj := hCd "_law_beside" 2812 "_law_beside" 2813 2814 176 1 0 0 3 282 true 283 .none (.ref 284) (.ref 285) (.ref 286) 2816 176 2817
noncomputable def qcl (P : Params) : Obj := hFn (.type "function") "_law_beside" "_law_beside" (stm 69) 3 .none .none (.str (Str.ofString "law_kl0260_03") 2794) (.ref 287)
noncomputable def qyy (P : Params) : Obj := ⟨(.type "tuple"), none, (.seq #[(.str (Str.ofString "script") 2822), (.str (Str.ofString "numbers") 2823), (.str (Str.ofString "table") 2824), (.str (Str.ofString "roads") 2825), (.str (Str.ofString "values") 2826), (.str (Str.ofString "k") 2827), (.str (Str.ofString "x") 2828), (.str (Str.ofString "e") 2829), (.str (Str.ofString "rest") 2830), (.str (Str.ofString "kind") 2831), (.str (Str.ofString "beside") 2832), (.str (Str.ofString "signs") 2833)] 0), #[]⟩
noncomputable def qv5 (P : Params) : Obj := hFn .none "_law_net" "_law_net" (stm 70) 0 .none .none .none .none
noncomputable def qj2 (P : Params) : Obj := hCd "_law_net" 2819 "_law_net" 2820 2821 178 1 0 0 3 289 true 290 .none (.ref 291) (.ref 292) (.ref 293) 2834 178 2835
noncomputable def qd8 (P : Params) : Obj := hFn (.type "function") "_law_net" "_law_net" (stm 70) 3 .none .none (.str (Str.ofString "law_kl0260_03") 2794) (.ref 294)
noncomputable def r06 (P : Params) : Obj := hFn .none "_law_seen" "_law_seen" (stm 71) 0 .none .none .none .none
noncomputable def ql3 (P : Params) : Obj := hCd "_law_seen" 2837 "_law_seen" 2838 2839 190 1 0 0 3 296 true 297 .none .none .none (.ref 298) 2840 190 2841
noncomputable def qba (P : Params) : Obj := hFn (.type "function") "_law_seen" "_law_seen" (stm 71) 3 .none .none (.str (Str.ofString "law_kl0260_03") 2794) (.ref 299)
noncomputable def qyh (P : Params) : Obj := hFn .none "_law_text" "_law_text" (stm 72) 0 .none .none .none .none
noncomputable def qkd (P : Params) : Obj := hCd "_law_text" 2843 "_law_text" 2844 2845 193 2 0 0 3 301 true 302 .none .none .none (.ref 303) 2846 193 2847
noncomputable def qbh (P : Params) : Obj := hFn (.type "function") "_law_text" "_law_text" (stm 72) 3 .none .none (.str (Str.ofString "law_kl0260_03") 2794) (.ref 304)
noncomputable def qzm (P : Params) : Obj := hFn .none "_law_rows" "_law_rows" (stm 73) 0 .none .none .none .none
noncomputable def qlo (P : Params) : Obj := hCd "_law_rows" 2849 "_law_rows" 2850 2851 201 1 0 0 3 306 true 307 .none .none .none (.ref 308) 2852 201 2853
noncomputable def qcg (P : Params) : Obj := hFn (.type "function") "_law_rows" "_law_rows" (stm 73) 3 .none .none (.str (Str.ofString "law_kl0260_03") 2794) (.ref 309)
noncomputable def qxn (P : Params) : Obj := hFn .none "_law_closed" "_law_closed" (stm 74) 0 .none .none .none .none
noncomputable def qip (P : Params) : Obj := hCd "_law_closed" 2855 "_law_closed" 2856 2857 213 1 0 0 3 311 true 312 .none .none .none (.ref 313) 2858 213 2859
noncomputable def qc9 (P : Params) : Obj := hFn (.type "function") "_law_closed" "_law_closed" (stm 74) 3 .none .none (.str (Str.ofString "law_kl0260_03") 2794) (.ref 314)
noncomputable def qwf (P : Params) : Obj := hFn .none "_law_code" "_law_code" (stm 75) 0 .none .none .none .none
noncomputable def qmc (P : Params) : Obj := hCd "_law_code" 2861 "_law_code" 2862 2863 224 2 0 0 3 316 true 317 .none .none .none (.ref 318) 2864 224 2865
noncomputable def qc8 (P : Params) : Obj := hFn (.type "function") "_law_code" "_law_code" (stm 75) 3 .none .none (.str (Str.ofString "law_kl0260_03") 2794) (.ref 319)
noncomputable def qwy (P : Params) : Obj := hFn .none "_law_firsts" "_law_firsts" (stm 76) 0 .none .none .none .none
noncomputable def qm2 (P : Params) : Obj := hCd "_law_firsts" 2867 "_law_firsts" 2868 2869 234 1 0 0 3 321 true 322 .none .none .none (.ref 323) 2870 234 2871
noncomputable def qb6 (P : Params) : Obj := hFn (.type "function") "_law_firsts" "_law_firsts" (stm 76) 3 .none .none (.str (Str.ofString "law_kl0260_03") 2794) (.ref 324)
noncomputable def qzd (P : Params) : Obj := ⟨(.type "tuple"), none, (.seq #[(.str (Str.ofString "word") 2876), (.str (Str.ofString "k") 2877)] 0), #[]⟩
noncomputable def r0o (P : Params) : Obj := hFn .none "_law_short" "_law_short" (stm 77) 0 .none .none .none .none
noncomputable def qmp (P : Params) : Obj := hCd "_law_short" 2873 "_law_short" 2874 2875 248 1 0 0 3 326 true 327 .none (.ref 328) (.ref 329) (.ref 330) 2878 248 2879
noncomputable def qdh (P : Params) : Obj := hFn (.type "function") "_law_short" "_law_short" (stm 77) 3 .none .none (.str (Str.ofString "law_kl0260_03") 2794) (.ref 331)
noncomputable def r13 (P : Params) : Obj := hFn .none "law" "law" (stm 78) 0 .none .none .none .none
noncomputable def ql9 (P : Params) : Obj := hCd "law" 2881 "law" 2882 2883 252 1 0 0 3 333 true 334 .none .none .none (.ref 335) 2884 252 2885
noncomputable def qcd (P : Params) : Obj := hFn (.type "function") "law" "law" (stm 78) 3 .none .none (.str (Str.ofString "law_kl0260_03") 2794) (.ref 336)
noncomputable def KF (P : Params) : Frag := [(0, boot_o_0 P), (2, o2v0 P), (3, o3v5 P), (39, q5n P), (43, q06 P), (44, q0r P), (45, qul P), (46, q06 P), (47, qtd P), (48, qjz P), (49, qey P), (50, q90 P), (89, q06 P), (90, q0r P), (91, r51 P), (92, q06 P), (93, r46 P), (94, qr1 P), (95, qk8 P), (96, qez P), (99, q06 P), (100, q0r P), (101, r1i P), (102, q06 P), (103, qw0 P), (104, qmf P), (105, qdn P), (106, q06 P), (107, q0r P), (108, r11 P), (109, q06 P), (110, r0l P), (111, qkx P), (112, qdi P), (113, q06 P), (114, q0r P), (115, r27 P), (116, q06 P), (117, qx3 P), (118, qme P), (119, qcp P), (123, qw8 P), (124, qwn P), (128, q9r P), (129, qpd P), (133, q9i P), (134, qpb P), (135, qzc P), (136, q06 P), (137, q0r P), (138, qxd P), (139, q06 P), (140, r07 P), (141, qxp P), (142, r0a P), (150, qgm P), (151, q06 P), (152, q0r P), (153, qx7 P), (154, q06 P), (155, r1f P), (156, qlq P), (157, q4c P), (158, q06 P), (159, q0r P), (160, r2f P), (161, q06 P), (162, r2j P), (163, qkg P), (164, q7a P), (165, q06 P), (166, q0r P), (167, r20 P), (168, q06 P), (169, r1v P), (170, qzp P), (171, qpq P), (172, q06 P), (173, q0r P), (174, r1b P), (175, q06 P), (176, qz3 P), (177, r01 P), (178, qpo P), (179, q06 P), (180, q0r P), (181, qva P), (182, qy3 P), (183, qpz P), (184, q06 P), (185, q0r P), (186, r03 P), (187, q06 P), (188, qyw P), (189, r2k P), (190, qxy P), (191, q06 P), (192, q0r P), (193, qxk P), (194, q06 P), (195, qz6 P), (196, qyx P), (197, r1k P), (198, q06 P), (199, q0r P), (200, qw4 P), (201, qiy P), (202, q9p P), (203, qgm P), (204, q06 P), (205, q0r P), (206, qwa P), (207, q06 P), (208, qv2 P), (209, qlg P), (210, q2x P), (211, q06 P), (212, q0r P), (213, r0e P), (214, qxe P), (215, qpf P), (216, q06 P), (217, q0r P), (218, qyj P), (219, qve P), (220, qy8 P), (221, q06 P), (222, q0r P), (223, r15 P), (224, q06 P), (225, qyg P), (226, qmr P), (227, q9t P), (228, q06 P), (229, q0r P), (230, r2a P), (231, q06 P), (232, qz2 P), (233, qwz P), (234, qvv P), (235, q06 P), (236, q0r P), (237, r10 P), (238, r0q P), (239, qvp P), (240, q06 P), (241, q0r P), (242, qyr P), (243, q06 P), (244, qyi P), (245, r0i P), (246, qxc P), (247, q06 P), (248, q0r P), (249, quv P), (250, q06 P), (251, qw3 P), (252, qld P), (253, q9g P), (254, q06 P), (255, q0r P), (256, r0k P), (257, q06 P), (258, r0u P), (259, ql8 P), (260, q81 P), (261, r28 P), (262, q16 P), (263, qqi P), (264, qyp P), (265, qyt P), (268, q06 P), (269, q0r P), (270, r23 P), (271, q06 P), (272, qzb P), (273, qjg P), (274, qc6 P), (275, q06 P), (276, q0r P), (277, qvf P), (278, q06 P), (279, r04 P), (280, qjy P), (281, qbv P), (282, q06 P), (283, q0r P), (284, qx2 P), (285, q06 P), (286, r0y P), (287, qj8 P), (288, qcl P), (289, q06 P), (290, q0r P), (291, qyy P), (292, q06 P), (293, qv5 P), (294, qj2 P), (295, qd8 P), (296, q06 P), (297, q0r P), (298, r06 P), (299, ql3 P), (300, qba P), (301, q06 P), (302, q0r P), (303, qyh P), (304, qkd P), (305, qbh P), (306, q06 P), (307, q0r P), (308, qzm P), (309, qlo P), (310, qcg P), (311, q06 P), (312, q0r P), (313, qxn P), (314, qip P), (315, qc9 P), (316, q06 P), (317, q0r P), (318, qwf P), (319, qmc P), (320, qc8 P), (321, q06 P), (322, q0r P), (323, qwy P), (324, qm2 P), (325, qb6 P), (326, q06 P), (327, q0r P), (328, qzd P), (329, q06 P), (330, r0o P), (331, qmp P), (332, qdh P), (333, q06 P), (334, q0r P), (335, r13 P), (336, ql9 P), (337, qcd P)]
noncomputable def Kas : List Addr := [0, 2, 3, 39, 43, 44, 45, 46, 47, 48, 49, 50, 89, 90, 91, 92, 93, 94, 95, 96, 99, 100, 101, 102, 103, 104, 105, 106, 107, 108, 109, 110, 111, 112, 113, 114, 115, 116, 117, 118, 119, 123, 124, 128, 129, 133, 134, 135, 136, 137, 138, 139, 140, 141, 142, 150, 151, 152, 153, 154, 155, 156, 157, 158, 159, 160, 161, 162, 163, 164, 165, 166, 167, 168, 169, 170, 171, 172, 173, 174, 175, 176, 177, 178, 179, 180, 181, 182, 183, 184, 185, 186, 187, 188, 189, 190, 191, 192, 193, 194, 195, 196, 197, 198, 199, 200, 201, 202, 203, 204, 205, 206, 207, 208, 209, 210, 211, 212, 213, 214, 215, 216, 217, 218, 219, 220, 221, 222, 223, 224, 225, 226, 227, 228, 229, 230, 231, 232, 233, 234, 235, 236, 237, 238, 239, 240, 241, 242, 243, 244, 245, 246, 247, 248, 249, 250, 251, 252, 253, 254, 255, 256, 257, 258, 259, 260, 261, 262, 263, 264, 265, 268, 269, 270, 271, 272, 273, 274, 275, 276, 277, 278, 279, 280, 281, 282, 283, 284, 285, 286, 287, 288, 289, 290, 291, 292, 293, 294, 295, 296, 297, 298, 299, 300, 301, 302, 303, 304, 305, 306, 307, 308, 309, 310, 311, 312, 313, 314, 315, 316, 317, 318, 319, 320, 321, 322, 323, 324, 325, 326, 327, 328, 329, 330, 331, 332, 333, 334, 335, 336, 337]
noncomputable def env : Env := { scope := pw.main.scope, locals := mainNs, globals := mainNs, cells := [], code := (.ref 30), frame := some 31 }
abbrev cE : Code := .body q45 env
abbrev fB_ : List Frame := [topFrame ⟨0, 0, 0, 0⟩]
abbrev annE : Option Value := (some (.ref 6))
theorem q5o {α : Type} (l : List α) (a b : Nat) (h : a <= b) : l.drop a = (l.drop a).take (b - a) ++ l.drop b := by
 rw [show l.drop b = (l.drop a).drop (b - a) by rw [List.drop_drop]; congr 1; omega]
 exact (List.take_append_drop _ _).symm
noncomputable def mods : List Str := importedModules pw.main.body
theorem qoy (w : World) : (fencedOpening treeTable pw w 40000).map (fun s => (s.heap, s.gens, s.drawn, s.toks)) = some (q3f w.params, #[], ⟨0, 0, 0, 0⟩, (stH0 w (start (opening pw)).1.os).toks) := by
 unfold fencedOpening
 rw [PySem.W.Fast.te10274390034422433532, PySem.W.Fast.te14289696077712309145, PySem.W.Fast.te14364793385576792824, PySem.W.Fast.te1435165496053646825]
 kernel_rfl
theorem pre_ (w : World) (os : OsState) : topGo treeTable pw w 28 annE 12 (stH0 w os) (topStub pw) = some (qzq w os, ⟨denote treeTable cE, cE, ⟨0, 0, 0, 0⟩, fB_⟩) := by kernel_rfl
theorem blk_ (w : World) (os : OsState) : segRun treeTable pw w 28 annE 1 1 (qzq w os) (blockOf q45 env cE ⟨0, 0, 0, 0⟩ fB_) = some (.next, (qza w os).abs, cE, ⟨0, 0, 0, 0⟩) := by kernel_rfl
theorem qzs (w : World) (os : OsState) : segRunT treeTable pw w 28 annE 1 10 (qza w os) ⟨(execs ((q45.drop 0).take (1 - 0)) env).wrap doneF deadEnd id id, cE, ⟨0, 0, 0, 0⟩, fB_⟩ = some (.next, stC1 w os, cE, ⟨2, 0, 2, 8⟩) := by rw [PySem.W.Fast.te10110043849684766642, PySem.W.Fast.te14364793385576792824, PySem.W.Fast.te12563942051412417395]; kernel_rfl
theorem qzv (w : World) (os : OsState) : segRunT treeTable pw w 28 annE 1 999 (stC1 w os) ⟨(execs ((q45.drop 1).take (2 - 1)) env).wrap doneF deadEnd id id, cE, ⟨2, 0, 2, 8⟩, fB_⟩ = some (.next, stC2 w os, cE, ⟨3, 0, 3, 6⟩) := by
 rw [PySem.W.Fast.te10110043849684766642, PySem.W.Fast.te14364793385576792824, PySem.W.Fast.te12563942051412417395]
 refine byRow2 "set-order" (P := fun w => PySem.W.Fast.tw10110043849684766642 PySem.W.Fast.tw14364793385576792824 pw w 28 annE 1 999 (stC1 w os) ⟨(PySem.W.Fast.tw12563942051412417395 ((q45.drop 1).take (2 - 1)) env).wrap doneF deadEnd id id, cE, ⟨2, 0, 2, 8⟩, fB_⟩ = some (.next, stC2 w os, cE, ⟨3, 0, 3, 6⟩)) ?_ ?_ w
 ·intro w
  refine byRow2 "special-get-raises" (P := fun w' => (fun w => PySem.W.Fast.tw10110043849684766642 PySem.W.Fast.tw14364793385576792824 pw w 28 annE 1 999 (stC1 w os) ⟨(PySem.W.Fast.tw12563942051412417395 ((q45.drop 1).take (2 - 1)) env).wrap doneF deadEnd id id, cE, ⟨2, 0, 2, 8⟩, fB_⟩ = some (.next, stC2 w os, cE, ⟨3, 0, 3, 6⟩)) (w'.withFollow "set-order" false)) ?_ ?_ w
  ·intro w; kernel_rfl
  ·intro w; kernel_rfl
 ·intro w
  refine byRow2 "special-get-raises" (P := fun w' => (fun w => PySem.W.Fast.tw10110043849684766642 PySem.W.Fast.tw14364793385576792824 pw w 28 annE 1 999 (stC1 w os) ⟨(PySem.W.Fast.tw12563942051412417395 ((q45.drop 1).take (2 - 1)) env).wrap doneF deadEnd id id, cE, ⟨2, 0, 2, 8⟩, fB_⟩ = some (.next, stC2 w os, cE, ⟨3, 0, 3, 6⟩)) (w'.withFollow "set-order" true)) ?_ ?_ w
  ·intro w; kernel_rfl
  ·intro w; kernel_rfl
theorem qv3 (w : World) (os : OsState) : segRunT treeTable pw w 28 annE 1 30 (stC2 w os) ⟨(execs ((q45.drop 2).take (3 - 2)) env).wrap doneF deadEnd id id, cE, ⟨3, 0, 3, 6⟩, fB_⟩ = some (.next, stC3 w os, cE, ⟨4, 0, 5, 30⟩) := by rw [PySem.W.Fast.te10110043849684766642, PySem.W.Fast.te14364793385576792824, PySem.W.Fast.te12563942051412417395]; kernel_rfl
noncomputable def b3T : Stmt -> PySem.Expr | .Assign [t] _ _ => t | _ => .Constant .none 0 default
noncomputable def b3P : Stmt -> Pos | .Assign _ (.Dict _ _ p) _ => p | _ => default
noncomputable def b3Q : Stmt -> Pos | .Assign _ _ p => p | _ => default
noncomputable def b3n : Nat := b3L.length / 17
noncomputable def b3c : List (Int × Str) := b3L.take 17
noncomputable def b3cs : List (List (Int × Str)) := (List.range (b3n - 1)).map fun i => (b3L.drop (17 * (i + 1))).take 17
noncomputable def b3l : List (Int × Str) := b3L.drop (17 * b3n)
theorem qb1 : ∀ (l : List (Int × Str)) (b : Int), q5k b l = true -> ∀ y ∈ l, b < y.1 /\ y.1 < 2 ^ 60
 | [], _, _, _, h => by cases h
 | (k, x) :: r, b, h, y, hy => by
  simp only [q5k, Bool.and_eq_true, decide_eq_true_eq] at h
  rcases List.mem_cons.mp hy with rfl | hy
  ·exact h.1
  ·have := qb1 r k h.2 y hy; omega
theorem q29 : ∀ (l : List (Int × Str)) (b : Int), 0 <= b + 1 -> q5k b l = true -> q25 l
 | [], _, _, _ => .nil
 | (k, x) :: r, b, hb, h => by
  simp only [q5k, Bool.and_eq_true, decide_eq_true_eq] at h
  refine List.pairwise_cons.mpr ⟨fun y hy => ?_, q29 r k (by omega) h.2⟩
  have := qb1 r k h.2 y hy
  show hashInt k ≠ hashInt y.1
  rw [q51 (by omega) (by omega), q51 (by omega) (by omega)]
  omega
theorem qgi : b3L = b3c ++ (b3cs.flatten ++ b3l) := by kernel_rfl
theorem qk9 : q5k (-1) b3L = true := by kernel_rfl
theorem qw7 : b3c.length = 17 /\ b3cs.all (fun c => c.length == 17) = true /\ (b3l.isEmpty = false /\ Nat.ble b3l.length 15 = true) /\ Nat.blt b3cs.length 65536 = true := ⟨by kernel_rfl, by kernel_rfl, ⟨by kernel_rfl, by kernel_rfl⟩, by kernel_rfl⟩
theorem qsk (w : World) (os : OsState) : Full (stC3 w os) := fun i hi => by
 have h : (List.range 50).all (fun i => ((stC3 w os).tree.get i).isSome) = true := by kernel_rfl
 exact List.all_eq_true.mp h i (List.mem_range.mpr hi)
theorem qn4 : ((evalEachOpt (b3Ks (stm 3)) env).zip ((evalEach (b3Vs (stm 3)) env).map fun v => do let x <- v; standAt (b3P (stm 3)); Pure.pure x)) = b3L.map fun y => opt (mkIt (b3P (stm 3)) y) := by kernel_rfl
noncomputable def midS (w : World) (os : OsState) : SharedT := { stC4 w os with tree := (qpm w.params).set 3 (fun _ => o3v3 w.params), toks := 2301 }
theorem qy5 (w : World) (os : OsState) : chS 50 (qd5 (stC3 w os) b3c) (ents (stC3 w os).toks b3c) b3c.length b3cs b3l = midS w os := by kernel_rfl
theorem qs2 (w : World) (os : OsState) (K : Flow -> Sem Fin) (H : Value -> Sem Fin) (gd : Bool -> Bool) (lv : List Value -> List Value) (c : Code) (B : List Frame) :
  goT treeTable pw w 28 annE 7 (midS w os) ⟨(assignStores env (.ref 50) none [assign (b3T (stm 3)) env]).wrap K H gd lv, c, b3P (stm 3), B⟩ = some (stC4 w os, ⟨K .next, c, ⟨6, 0, 6, 13⟩, B⟩) := by kernel_rfl
theorem qqu : exec (stm 3) env = (standAt (b3Q (stm 3)) >>= fun _ => (standAt (b3P (stm 3)) >>= fun _ => dictDisplay ((evalEachOpt (b3Ks (stm 3)) env).zip ((evalEach (b3Vs (stm 3)) env).map fun v => do let x <- v; standAt (b3P (stm 3)); Pure.pure x))) >>= fun v => assignStores env v none [assign (b3T (stm 3)) env]) := by kernel_rfl
theorem qoh (w : World) (os : OsState) : RT treeTable pw w 28 annE (assignStores env (.ref 50) none [assign (b3T (stm 3)) env]) (midS w os) (b3P (stm 3)) 7 .next (stC4 w os) ⟨6, 0, 6, 13⟩ := qs2 w os
@[irreducible] def b3N : Nat := 1 + ((1 + ((1 + (1 + 13 * b3c.length)) + chN b3cs b3l)) + 7)
theorem r02 (w : World) (os : OsState) : RT treeTable pw w 28 annE (exec (stm 3) env) (stC3 w os) ⟨4, 0, 5, 30⟩ b3N .next (stC4 w os) ⟨6, 0, 6, 13⟩ := by
 rw [qqu, qn4, qgi]
 rw [b3N]
 obtain ⟨h1, h2, ⟨h3, h4⟩, h5⟩ := qw7
 refine RT.bind RT.at (RT.bind (a := .ref 50) (RT.bind RT.at ?_) (qoh w os))
 rw [<- qy5]
 exact qhy (by intro q; rw [q] at h3; cases h3) (Nat.le_of_ble_eq_true h4) (qsk w os) (by rfl) (by show 1 < 50; omega) h1 (fun c hc => by simpa using List.all_eq_true.mp h2 c hc) (Nat.le_of_ble_eq_true h5) (qgi ▸ q29 _ _ (by omega) qk9)
theorem qta : b3N <= 13000 := Nat.le_of_ble_eq_true (by kernel_rfl)
theorem qub : q45.drop 3 = stm 3 :: q45.drop 4 := by kernel_rfl
noncomputable def qv : Program := { pw with main := { pw.main with body := [stm 78] } }
noncomputable def q9m : List Str := pw.boundNames.filter (fun n => n != Str.ofString "law")
noncomputable def XtF : Shared -> Bool := fun _ => true
theorem qrd (P : Params) : Kas = (KF P).map (·.1) := by kernel_rfl
abbrev KH : Hook := kHook KF Kas qrd
noncomputable def qgz (w : World) (S : Shared) := ((staticsOk mods (q3f w.params) S.heap && namesBound pw S.heap && gensDone S && laidKept (q3f w.params) S.heap), openSeen qv q9m mods XtF true S, Kas.map S.heap.get?)
noncomputable def qnf (w : World) := (true, openGood qv q9m, (KF w.params).map fun p => some p.2)
theorem r6e (w : World) (os : OsState) : (segRunT treeTable pw w 28 annE 1 2897 (stC4 w os) ⟨(execs (q45.drop 4) env).wrap doneF deadEnd id id, cE, ⟨6, 0, 6, 13⟩, fB_⟩).map (fun r => (r.1, r.2.2.1, r.2.2.2, qgz w r.2.1.abs)) = some (.next, cE, ⟨252, 0, 271, 92⟩, qnf w) := by
 rw [PySem.W.Fast.te10110043849684766642, PySem.W.Fast.te14364793385576792824, PySem.W.Fast.te12563942051412417395]
 refine byRow2 "special-get-raises" (P := fun w => (PySem.W.Fast.tw10110043849684766642 PySem.W.Fast.tw14364793385576792824 pw w 28 annE 1 2897 (stC4 w os) ⟨(PySem.W.Fast.tw12563942051412417395 (q45.drop 4) env).wrap doneF deadEnd id id, cE, ⟨6, 0, 6, 13⟩, fB_⟩).map (fun r => (r.1, r.2.2.1, r.2.2.2, qgz w r.2.1.abs)) = some (.next, cE, ⟨252, 0, 271, 92⟩, qnf w)) ?_ ?_ w
 ·intro w; kernel_rfl
 ·intro w; kernel_rfl
theorem r3m (w : World) : (((q3f w.params).isNs mainGlobals && (#[] : Array GenState).size == 0), (q3f w.params).objs.size, (q3f w.params).nsMap mainGlobals "__annotations__") = (true, 28, annE) := by kernel_rfl
theorem fin_ (w : World) (s : Shared) (p : Pos) : topRun treeTable pw w 28 annE 2 s ⟨doneF .next, cE, p, fB_⟩ = some s := by
 obtain ⟨h, g, d, k, os⟩ := s
 kernel_rfl
theorem qzk (X : Nat) (h : X <= 13000) : 12 + (1 + (10 + (999 + (30 + (X + (2897 + 2)))))) <= 40000 := by omega
theorem run_ (w : World) (os : OsState) : ∃ M r, M <= 40000 /\ topRun treeTable pw w 28 annE M (stH0 w os) (topStub pw) = some r /\ qgz w r = qnf w := by
 obtain ⟨⟨f, S, c, q⟩, e1, e2⟩ := Option.map_eq_some_iff.mp (r6e w os)
 simp only [Prod.mk.injEq] at e2
 obtain ⟨rfl, rfl, rfl, e3⟩ := e2
 have t : topRun treeTable pw w 28 annE 2 S.abs (restOf [] env cE ⟨252, 0, 271, 92⟩ fB_) = some S.abs := piece_nil (fin_ w S.abs _)
 have t := piece_app (rest := []) (segRun_of e1) t
 rw [List.append_nil] at t
 have t := RT.step_top (r02 w os) t
 rw [<- qub] at t
 have t := piece_app (segRun_of (qv3 w os)) t
 rw [<- q5o q45 2 3 (by omega)] at t
 have t := piece_app (segRun_of (qzv w os)) t
 rw [<- q5o q45 1 2 (by omega)] at t
 have t := piece_app (segRun_of (qzs w os)) t
 rw [<- q5o q45 0 1 (by omega)] at t
 rw [List.drop_zero] at t
 have t := piece_block (blk_ w os) t
 have t := go_top (pre_ w os) t
 exact ⟨_, S.abs, qzk _ qta, t, e3⟩
theorem r5o : LeftO pw qv q9m XtF KH.obs KH.val 40000 := fun w => by
 obtain ⟨⟨h, gs, d, k, os⟩, e, e'⟩ := Option.map_eq_some_iff.mp (qoy w)
 simp only [Prod.mk.injEq] at e'
 obtain ⟨rfl, rfl, rfl, rfl⟩ := e'
 obtain ⟨M, r, hM, t, lk⟩ := run_ w os
 have z := r3m w
 simp only [Prod.mk.injEq] at z
 obtain ⟨z1, z2, z3⟩ := z
 simp only [qgz, qnf, Prod.mk.injEq] at lk
 obtain ⟨l1, l2, l3⟩ := lk
 have t := topRun_mono (40000 - M) _ _ _ _ t
 rw [show M + (40000 - M) = 40000 by omega] at t
 unfold openEnds
 rw [e]
 have q : topFrom treeTable pw w 40000 ⟨q3f w.params, #[], ⟨0, 0, 0, 0⟩, (stH0 w (start (opening pw)).1.os).toks, os⟩ = some r := by
  unfold topFrom
  dsimp only
  rw [z1, z2, z3]
  have t' : topRun treeTable pw w 28 annE 40000 ⟨q3f w.params, #[], ⟨0, 0, 0, 0⟩, (stH0 w (start (opening pw)).1.os).toks, os⟩ (topStub pw) = some r := t
  rw [t']
  show (match staticsOk mods (q3f w.params) r.heap && namesBound pw r.heap && gensDone r && laidKept (q3f w.params) r.heap with | true => _ | false => _) = _
  rw [l1]
 show (topFrom treeTable pw w 40000 _).map _ = _
 rw [q]
 exact congrArg some (Prod.ext l2 l3)
end Mine
end
section
namespace Mine
noncomputable def dLaw : DefRec := ⟨Str.ofString "law", fA (stm 78), fB (stm 78), fS (stm 78), match stm 78 with | .FunctionDef _ _ _ _ _ _ _ _ _ p => p | _ => default⟩
theorem qu1 : defOf qv PySem.Challenge.rw_kl0260_03.row.name = some (dLaw, []) := by kernel_rfl
theorem qqo : PySem.Challenge.rw_kl0260_03.row.prog.theDef PySem.Challenge.rw_kl0260_03.row.name = some (dLaw.params, dLaw.body, dLaw.scope) := by kernel_rfl
theorem r22 : kwWritten? dLaw.params.kwonlyargs dLaw.params.kw_defaults = some [] := by kernel_rfl
theorem qok : PySem.Challenge.rw_kl0260_03.wellSaid = true := by kernel_rfl
theorem qow (call : WalkO qv q9m (fun _ _ => True) KH.says PySem.Challenge.rw_kl0260_03.row.toRowW dLaw [] fun f vs => PySem.call f vs) : PySem.Challenge.rw_kl0260_03.Holds := by
 refine holds_law qok fun said => ?_
 refine holds_open (r := PySem.Challenge.rw_kl0260_03.row) (q := qv) (loose := q9m) (Xt := XtF) (XP := fun _ _ => True) (Yf := KH.obs) (Ya := KH.val) (YP := KH.says) (N := 40000) r5o (Hook.of KH) (Hook.keeps KH) (fun _ _ => trivial) (fun _ _ _ _ _ => trivial)
  qu1 qqo r22 (fun s e => ?a) (by rfl) ‹_› ?b ⟨rfl, rfl, rfl, rfl, rfl, by decide +kernel⟩ ?hw call
 case a => exact recFacts_of (R := []) (by rfl)
 case b => decide +kernel
 case hw => exact ⟨[.list [.int 3]], by decide +kernel, by decide +kernel⟩
end Mine
end
section
namespace Ev
inductive V where
 | none | bool (b : Bool) | int (i : Int) | str (s : List Nat)
 | tup (vs : List V) | lst (vs : List V)
 | ref (i : Nat) | hd (i : Nat)
 | rng (a b : Int)
 | nod | noi
 | g (x : Str) | bi (id : String) | ty (n : String)
 | fn (x : Str)
 | m (o : V) (x : Str)
inductive O where
 | list (vs : List V)
 | dict (es : List (V × V))
abbrev St := List O
abbrev EvM (α : Type) := StateT St Option α
noncomputable def bad {α : Type} : EvM α := fun _ => .none
noncomputable def gt {α : Type} : Option α -> EvM α
 | .none => bad
 | .some a => pure a
mutual
noncomputable def beqV : V -> V -> Bool
 | .none, .none => true
 | .bool a, .bool b => a == b
 | .int a, .int b => a == b
 | .str a, .str b => a == b
 | .tup a, .tup b => qsx a b
 | .lst a, .lst b => qsx a b
 | _, _ => false
noncomputable def qsx : List V -> List V -> Bool
 | [], [] => true
 | a :: r, b :: t => beqV a b && qsx r t
 | _, _ => false
end
noncomputable def cap : Nat := 65536
noncomputable def lstV (vs : List V) : Option V := if vs.length <= cap then some (.lst vs) else .none
noncomputable def strV (s : List Nat) : Option V := if s.length <= cap then some (.str s) else .none
inductive Kd where | none | bool | int | str | tup | lst | other
 deriving DecidableEq
noncomputable def V.kd : V -> Kd
 | .none => .none | .bool _ => .bool | .int _ => .int | .str _ => .str | .tup _ => .tup | .lst _ => .lst | _ => .other
noncomputable def full {α : Type} (l : List α) : Option Bool := if l.length <= cap then some (decide (l.length ≠ 0)) else .none
noncomputable def q26 (st : St) : V -> Option Bool
 | .none => some false
 | .bool b => some b
 | .int i => some (i != 0)
 | .str s => full s
 | .tup vs => full vs
 | .lst vs => full vs
 | .ref i => match st[i]? with
  | some (.list vs) => full vs
  | _ => .none
 | _ => .none
noncomputable def binS (op : Operator) (a b : V) : Option V := match op, a, b with
 | .Add, .int a, .int b => some (.int (a + b))
 | .Sub, .int a, .int b => some (.int (a - b))
 | .Mult, .int a, .int b => if a.natAbs < 2 ^ 30 \/ b.natAbs < 2 ^ 30 then some (.int (a * b)) else .none
 | .FloorDiv, .int a, .int b => if b ≠ 0 /\ b.natAbs < 1073741824 then some (.int (a.fdiv b)) else .none
 | .Mod, .int a, .int b => if b = 0 then .none else some (.int (a.fmod b))
 | .Pow, .int a, .int b => if 0 <= b /\ b <= 1000000 /\ a.natAbs < 2 ^ 64 then some (.int (a ^ b.toNat)) else .none
 | .LShift, .int a, .int b => if 0 <= b /\ b <= 1000000 /\ a.natAbs < 2 ^ 64 then some (.int (a * 2 ^ b.toNat)) else .none
 | .RShift, .int a, .int b => if 0 <= b then some (.int (a.fdiv (2 ^ b.toNat))) else .none
 | .BitAnd, .int a, .int b => some (.int (Builtin.bitAnd a b))
 | .BitOr, .int a, .int b => some (.int (Builtin.bitOr a b))
 | .Add, .str a, .str b => strV (a ++ b)
 | _, _, _ => .none
noncomputable def S (l : List Nat) : Str := ⟨l.toArray⟩
noncomputable def isIn (s xs : List Nat) : Bool := !(Builtin.Str.occurrences (S xs) (S s) 0 (S xs).length 1).isEmpty
noncomputable def q1v (st : St) : V -> Option (List V)
 | .lst vs => some vs
 | .ref i => match st[i]? with
  | some (.list vs) => some vs
  | _ => .none
 | _ => .none
noncomputable def binV (st : St) (op : Operator) (a b : V) : Option V := match binS op a b with
 | some v => some v
 | .none => match op with
  | .Add => do
   let x <- q1v st a
   let y <- q1v st b
   lstV (x ++ y)
  | _ => .none
noncomputable def augV (op : Operator) (a b : V) : Option V := match op, a, b with
 | .Add, .int a, .int b => some (.int (a + b))
 | .Add, .str a, .str b => strV (a ++ b)
 | .BitOr, .int a, .int b => some (.int (Builtin.bitOr a b))
 | .BitAnd, .int a, .int b => some (.int (Builtin.bitAnd a b))
 | _, _, _ => .none
noncomputable def dat (st : St) : Nat -> V -> Option PyData
 | _, .none => some .none
 | _, .bool b => some (.bool b)
 | _, .int i => some (.int i)
 | _, .str l => some (.str ⟨l.toArray⟩)
 | n + 1, .tup vs => (vs.mapM (dat st n)).map .tuple
 | n + 1, .lst vs => (vs.mapM (dat st n)).map .list
 | n + 1, .ref i => match st[i]? with
  | some (.list vs) => (vs.mapM (dat st n)).map .list
  | _ => .none
 | _, _ => .none
noncomputable def eqV (st : St) (a b : V) : Option Bool := do
 let x <- dat st 8 a
 let y <- dat st 8 b
 some (PyData.eqv x y)
noncomputable def inV (st : St) (a b : V) : Option Bool := do
 let x <- dat st 8 a
 match <- dat st 8 b with
 | .list ys => some (ys.any fun y => PyData.eqv y x)
 | .tuple ys => some (ys.any fun y => PyData.eqv y x)
 | _ => .none
noncomputable def q3b : V -> V -> Option Bool
 | .none, .none => some true
 | .bool a, .bool b => some (a == b)
 | .none, .bool _ | .bool _, .none => some false
 | .none, .str _ | .str _, .none | .none, .int _ | .int _, .none | .none, .ref _ | .ref _, .none | .none, .lst _ | .lst _, .none | .none, .tup _ | .tup _, .none => some false
 | .ty a, .ty b => if a = "Headers" \/ b = "Headers" then .none else some (a == b)
 | .none, .g _ | .g _, .none => some false
 | _, _ => .none
noncomputable def q9e (gd : Str -> Option (List (V × V))) (st : St) (b a : V) : Option Bool := match b, a with
 | .g x, .int i => if x = ("b1_set" : Str) then (gd x).map fun es => es.any fun e => beqV e.1 (.int i) else .none
 | .g x, .str s => if x = ("EXACT_TOKEN_TYPES" : Str) then (gd x).map fun es => es.any fun e => beqV e.1 (.str s) else .none
 | _, _ => .none
noncomputable def cmpV (gd : Str -> Option (List (V × V))) (st : St) (op : CmpOp) (a b : V) : Option Bool := match op, a, b with
 | .Eq, a, b => eqV st a b
 | .NotEq, a, b => (eqV st a b).map (!·)
 | .Lt, .int a, .int b => some (decide (a < b))
 | .LtE, .int a, .int b => some (decide (a <= b))
 | .Gt, .int a, .int b => some (decide (b < a))
 | .GtE, .int a, .int b => some (decide (b <= a))
 | .Is, a, b => q3b a b
 | .IsNot, a, b => (q3b a b).map (!·)
 | .In, .str a, .str b => some (isIn a b)
 | .NotIn, .str a, .str b => some (!isIn a b)
 | .In, a, b => match q9e gd st b a with
  | some t => some t
  | .none => inV st a b
 | .NotIn, a, b => match q9e gd st b a with
  | some t => some !t
  | .none => (inV st a b).map (!·)
 | _, _, _ => .none
noncomputable def unV (st : St) (op : UnaryOp) (a : V) : Option V := match op, a with
 | .USub, .int a => some (.int (-a))
 | .Not, a => (q26 st a).map fun b => .bool (!b)
 | _, _ => .none
noncomputable def idx (n : Nat) (i : Int) : Option Nat :=
 if n <= cap then (if 0 <= i then (if i < n then some i.toNat else .none) else (if -(n : Int) <= i then some (i + n).toNat else .none)) else .none
noncomputable def q1o (st : St) (v : V) (i : V) : Option V := match v, i with
 | .str s, .int i => do let k <- idx s.length i; let c <- s[k]?; some (.str [c])
 | .tup vs, .int i => do let k <- idx vs.length i; vs[k]?
 | .lst vs, .int i => do let k <- idx vs.length i; vs[k]?
 | .ref r, i => match st[r]?, i with
  | some (.list vs), .int i => do let k <- idx vs.length i; vs[k]?
  | _, _ => .none
 | _, _ => .none
noncomputable def q3m (n : Nat) (d : Int) : V -> Option Nat
 | .none => some d.toNat
 | .int i => some (if i < 0 then (i + n).toNat else min i.toNat n)
 | _ => .none
noncomputable def cut {α : Type} (l : List α) (a b : V) : Option (List α) := if cap < l.length then .none else do
 let x <- q3m l.length 0 a
 let y <- q3m l.length l.length b
 some ((l.take y).drop x)
noncomputable def q60 (st : St) (v a b c : V) : Option V := match v, c with
 | .str s, .none => (cut s a b).map .str
 | v, .none => do let vs <- q1v st v; (cut vs a b).map .lst
 | v, .int (-1) => match a, b with | .none, .none => do let vs <- q1v st v; some (.lst vs.reverse) | _, _ => .none
 | _, _ => .none
noncomputable def q5u (st : St) : V -> Option (List V)
 | .str s => some (s.map fun c => .str [c])
 | .tup vs => some vs
 | .rng a b => if -65536 <= a /\ a <= 65536 /\ -65536 <= b /\ b <= 65536 then some ((List.range (b - a).toNat).map fun (i : Nat) => .int (a + i)) else .none
 | .ref i => match st[i]? with
  | some (.list vs) => some vs
  | _ => .none
 | .noi => some []
 | v => q1v st v
mutual
noncomputable def q55 : V -> V -> Bool
 | .none, .none => true
 | .bool a, .bool b => a == b
 | .int a, .int b => a == b
 | .str a, .str b => a == b
 | .tup a, .tup b => q1x a b
 | .lst a, .lst b => q1x a b
 | .ref a, .ref b => a == b
 | .hd a, .hd b => a == b
 | .g a, .g b => a == b
 | _, _ => false
noncomputable def q1x : List V -> List V -> Bool
 | [], [] => true
 | a :: r, b :: t => q55 a b && q1x r t
 | _, _ => false
end
noncomputable def q9d : List (V × V) -> List (V × V) -> Bool
 | [], [] => true
 | a :: r, b :: t => q55 a.1 b.1 && q55 a.2 b.2 && q9d r t
 | _, _ => false
noncomputable def q4j : O -> O -> Bool
 | .list a, .list b => q1x a b
 | .dict a, .dict b => q9d a b
 | _, _ => false
structure Ctx where
 glob : Str -> Option V
 call : V -> List V -> List (Str × V) -> EvM V
 meth : St -> V -> Str -> Option V
 attr : V -> Str -> Option V
 keep : Pos -> Bool
 gd : Str -> Option (List (V × V))
structure Fr where
 sc : List (Str × NameKind)
 vars : List (Str × V)
 out : Str -> Option V
noncomputable def Fr.get (Γ : Ctx) (ρ : Fr) (x : Str) : Option V := match ρ.sc.lookup x with
 | some .local | some .cell => ρ.vars.lookup x
 | some .free => ρ.out x
 | some .globalImplicit => Γ.glob x
 | _ => .none
noncomputable def Fr.seen (Γ : Ctx) (ρ : Fr) (x : Str) : Option V := match ρ.sc.lookup x with
 | some .cell => ρ.vars.lookup x
 | some .free => ρ.out x
 | _ => .none
noncomputable def q0c (x : Str) (v : V) : List (Str × V) -> List (Str × V)
 | [] => [(x, v)]
 | (y, u) :: r => if y = x then (x, v) :: r else (y, u) :: q0c x v r
noncomputable def Fr.set (ρ : Fr) (x : Str) (v : V) : Option Fr := match ρ.sc.lookup x with
 | some .local | some .cell => some { ρ with vars := q0c x v ρ.vars }
 | _ => .none
noncomputable def Fr.inner (Γ : Ctx) (ρ : Fr) (sc : Scope) : Fr := ⟨sc.names, [], ρ.seen Γ⟩
noncomputable def alloc (o : O) : EvM V := fun st => some (.ref st.length, st ++ [o])
noncomputable def q1q (Γ : Ctx) (p : Pos) (vs : List V) : EvM V := if vs.length <= cap then (if Γ.keep p then alloc (.list vs) else pure (.lst vs)) else bad
noncomputable def mkSl (Γ : Ctx) (p : Pos) : V -> EvM V
 | .lst vs => q1q Γ p vs
 | v => pure v
mutual
noncomputable def q0e (nw : Bool) (st : St) : PySem.Expr -> V -> Fr -> Option Fr
 | .Name x _, v, ρ => if nw && (ρ.vars.lookup x).isSome then .none else ρ.set x v
 | .Tuple es _ _, .tup vs, ρ => q0b nw st es vs ρ
 | _, _, _ => .none
noncomputable def q0b (nw : Bool) (st : St) : List PySem.Expr -> List V -> Fr -> Option Fr
 | [], [], ρ => some ρ
 | e :: es, v :: vs, ρ => do
  let ρ' <- q0e nw st e v ρ
  q0b nw st es vs ρ'
 | _, _, _ => .none
end
noncomputable def qd0 : PySem.Expr -> Bool
 | .Tuple .. => true
 | _ => false
noncomputable def qj7 : PySem.Expr -> Bool
 | .Starred .. => true
 | _ => false
noncomputable def r25 (sc : List (Str × NameKind)) (line : Nat) : PySem.Expr -> Option Str
 | .Name id pos => if sc.lookup id == some .local && pos.line == line then some id else .none
 | _ => .none
noncomputable def q4u (ts : List PySem.Expr) (sc : List (Str × NameKind)) : List Str := ts.filterMap (r25 sc ((ts.head?.map (·.pos.line)).getD 0))
noncomputable def qcy (ts vs : List PySem.Expr) (sc : List (Str × NameKind)) : Option (Option (List Str)) :=
 if !(ts.length == 2 || ts.length == 3) || vs.length != ts.length then some .none
 else if vs.any qj7 then some .none
 else if (q4u ts sc).length != ts.length || (q4u ts sc).eraseDups.length != (q4u ts sc).length then some .none
 else if vs.all (foldedForSure 8) then some .none
 else if vs.all (constantsAlone 8) then .none
 else some (some (q4u ts sc))
noncomputable def q1j : List Str -> List V -> Fr -> Option Fr
 | [], [], ρ => some ρ
 | x :: xs, v :: vs, ρ => do
  let ρ' <- ρ.set x v
  q1j xs vs ρ'
 | _, _, _ => .none
noncomputable def q6c (st : St) (t e : PySem.Expr) (v : V) (ρ : Fr) : Option Fr := match t with
 | .Tuple ts _ _ => match e with
  | .Tuple es _ _ => do
   match <- qcy ts es ρ.sc with
   | some names => match v with
    | .tup vs => q1j names.reverse vs.reverse ρ
    | _ => .none
   | .none => q0e false st t v ρ
  | _ => q0e false st t v ρ
 | t => q0e false st t v ρ
noncomputable def rd {α : Type} (f : St -> Option α) : EvM α := fun st => (f st).map (·, st)
noncomputable def same : List (Nat × O) -> EvM Unit
 | [] => pure ()
 | (i, o) :: r => do
  let p <- rd fun st => st[i]?
  if q4j o p then same r else bad
noncomputable def srcV (st : St) (v : V) : Option (List V × List (Nat × O)) := match v with
 | .ref i => do
  let xs <- q5u st v
  let o <- st[i]?
  some (xs, [(i, o)])
 | v => (q5u st v).map (·, [])
noncomputable def mapE (ws : List (Nat × O)) : List V -> (V -> EvM (List V)) -> EvM (List V)
 | [], _ => pure []
 | x :: r, f => do
  let a <- f x
  same ws
  return a ++ (<- mapE ws r f)
inductive Fl where
 | next
 | ret (v : V)
noncomputable def q2r (ws : List (Nat × O)) : List V -> Fr -> (V -> Fr -> EvM (Fl × Fr)) -> EvM (Fl × Fr)
 | [], ρ, _ => pure (.next, ρ)
 | x :: r, ρ, f => do
  match <- f x ρ with
  | (.next, ρ') => do
   same ws
   q2r ws r ρ' f
  | o => pure o
noncomputable def setO (i : Nat) (o : O) : EvM Unit := fun st => if i < st.length then some ((), st.set i o) else .none
noncomputable def q1y (o i v : V) : EvM Unit := match o with
 | .ref r => do
  match <- rd fun st => st[r]? with
  | .list vs => match i with
   | .int n => do
    let k <- gt (if 0 <= n then idx vs.length n else .none)
    setO r (.list (vs.set k v))
   | _ => bad
  | _ => bad
 | _ => bad
noncomputable def q0h : List (Str × NameKind) -> Bool
 | [] => true
 | (n, _) :: r => (r.lookup n).isNone && q0h r
noncomputable def q72 (ρ : Fr) (sc : Scope) : Bool :=
 sc.kind == .function && q0h sc.names && sc.names.all fun x => match x.2 with
  | .free => x.1 != ("__classdict__" : Str) && (match ρ.sc.lookup x.1 with | some .cell | some .free => true | _ => false)
  | .local | .cell | .globalImplicit => true
  | _ => false
noncomputable def q0d : PySem.Expr -> Bool
 | .Set .. => false
 | _ => true
noncomputable def q52 (g : Comprehension) : Bool := g.is_async == 0 && q0d g.iter
noncomputable def qfa (a k : Nat) : Bool := decide (a + k + (if k == 0 then 0 else 1) < 30)
noncomputable def q2l : PySem.Expr -> Bool
 | .Call (.Name _ _) [] [] _ => false
 | _ => true
noncomputable def txtV (l : List Nat) : Option V := if l.all (· < 0x110000) then strV l else .none
noncomputable def qn1 (ov : V) (o : PySem.Expr) (args : List PySem.Expr) (kws : List Keyword) : EvM V := match ov, o, args, kws with
 | .str s, .BinOp (.Constant (.str _) _ _) _ _ _, [.Constant (.str a) _ _, .Constant (.str b) _ _], [] =>
  if a ≠ b /\ s.length <= 65536 /\ b.length <= 14 then gt (txtV (Txt.replace (S s) a b).cps.toList) else bad
 | _, _, _, _ => bad
mutual
noncomputable def q01 (Γ : Ctx) : PySem.Expr -> Fr -> EvM V
 | .Constant c _ _, _ => match c with
  | .none => pure .none
  | .bool b => pure (.bool b)
  | .int i => pure (.int i)
  | .str s => if s.cps.all (· < 0x110000) && s.cps.size <= cap then pure (.str s.cps.toList) else bad
  | _ => bad
 | .Name x _, ρ => if x = ("__debug__" : Str) then pure (.bool true) else gt (ρ.get Γ x)
 | .BinOp l op r _, ρ => do
  let a <- q01 Γ l ρ
  let b <- q01 Γ r ρ
  rd fun st => binV st op a b
 | .UnaryOp op x _, ρ => do
  let a <- q01 Γ x ρ
  rd fun st => unV st op a
 | .BoolOp op vs _, ρ => q1f Γ vs op ρ
 | .IfExp t b o _, ρ => do if <- q0g Γ t ρ (q01 Γ t ρ) then q01 Γ b ρ else q01 Γ o ρ
 | .Compare l ops cs _, ρ => do
  let a <- q01 Γ l ρ
  return .bool (<- q2d Γ cs ops a ρ)
 | .Call (.Attribute o name apos) args kws pos, ρ => do
  let ov <- q01 Γ o ρ
  if q2l o && apos.endLine == pos.line && qfa args.length kws.length then do
   if name = ("replace" : Str) then qn1 ov o args kws else do
   let f <- rd fun st => Γ.meth st ov name
   let vs <- q0j Γ args ρ
   let ks <- q0y Γ kws ρ
   Γ.call f vs ks
  else bad
 | .Call f args kws _, ρ => do
  let fv <- q01 Γ f ρ
  let vs <- q0j Γ args ρ
  let ks <- q0y Γ kws ρ
  Γ.call fv vs ks
 | .Attribute o name _, ρ => do
  let ov <- q01 Γ o ρ
  if q2l o then gt (Γ.attr ov name) else bad
 | .Subscript o (.Slice l u s _) p, ρ => do
  let ov <- q01 Γ o ρ
  let a <- q38 Γ l ρ
  let b <- q38 Γ u ρ
  let c <- q38 Γ s ρ
  let r <- rd fun st => q60 st ov a b c
  mkSl Γ p r
 | .Subscript o i _, ρ => do
  let ov <- q01 Γ o ρ
  let iv <- q01 Γ i ρ
  rd fun st => q1o st ov iv
 | .List es p, ρ => do q1q Γ p (<- q0j Γ es ρ)
 | .Tuple es _ _, ρ => if es.length <= cap then do return .tup (<- q0j Γ es ρ) else bad
 | .ListComp e gs sc p, ρ => do
  if q72 ρ sc && gs.all q52 && !gs.isEmpty then do
   let xs <- q0t Γ gs (fun ρ' => do return [<- q01 Γ e ρ']) ρ (ρ.inner Γ sc)
   q1q Γ p xs
  else bad
 | _, _ => bad
noncomputable def q0g (Γ : Ctx) : PySem.Expr -> Fr -> EvM V -> EvM Bool
 | .UnaryOp .Not x _, ρ, _ => do return !(<- q0g Γ x ρ (q01 Γ x ρ))
 | .BoolOp op vs _, ρ, _ => q13 Γ vs op ρ
 | .IfExp t b o _, ρ, _ => do if <- q0g Γ t ρ (q01 Γ t ρ) then q0g Γ b ρ (q01 Γ b ρ) else q0g Γ o ρ (q01 Γ o ρ)
 | .Compare l ops cs _, ρ, _ => do
  let a <- q01 Γ l ρ
  q2d Γ cs ops a ρ
 | _, _, whole => do
  let v <- whole
  rd fun st => q26 st v
noncomputable def q13 (Γ : Ctx) : List PySem.Expr -> BoolOp -> Fr -> EvM Bool
 | [], op, _ => pure (op == .And)
 | x :: r, op, ρ => do
  let t <- q0g Γ x ρ (q01 Γ x ρ)
  match op, t with
  | .And, false => pure false
  | .Or, true => pure true
  | _, _ => q13 Γ r op ρ
noncomputable def q1f (Γ : Ctx) : List PySem.Expr -> BoolOp -> Fr -> EvM V
 | [], _, _ => bad
 | [x], _, ρ => q01 Γ x ρ
 | x :: r, op, ρ => do
  let v <- q01 Γ x ρ
  let t <- rd fun st => q26 st v
  match op, t with
  | .And, false => pure v
  | .Or, true => pure v
  | _, _ => q1f Γ r op ρ
noncomputable def q2d (Γ : Ctx) : List PySem.Expr -> List CmpOp -> V -> Fr -> EvM Bool
 | [e], [op], a, ρ => do
  let b <- q01 Γ e ρ
  rd fun st => cmpV Γ.gd st op a b
 | _, _, _, _ => bad
noncomputable def q0j (Γ : Ctx) : List PySem.Expr -> Fr -> EvM (List V)
 | [], _ => pure []
 | e :: r, ρ => do
  let v <- q01 Γ e ρ
  return v :: (<- q0j Γ r ρ)
noncomputable def q38 (Γ : Ctx) : Option PySem.Expr -> Fr -> EvM V
 | .none, _ => pure .none
 | .some e, ρ => q01 Γ e ρ
noncomputable def q0y (Γ : Ctx) : List Keyword -> Fr -> EvM (List (Str × V))
 | [], _ => pure []
 | ⟨.some n, e, _⟩ :: r, ρ => do
  let v <- q01 Γ e ρ
  return (n, v) :: (<- q0y Γ r ρ)
 | ⟨.none, _, _⟩ :: _, _ => bad
noncomputable def q0v (Γ : Ctx) : List PySem.Expr -> Fr -> EvM Bool
 | [], _ => pure true
 | e :: r, ρ => do
  if <- q0g Γ e ρ (q01 Γ e ρ) then q0v Γ r ρ else pure false
noncomputable def q0t (Γ : Ctx) : List Comprehension -> (Fr -> EvM (List V)) -> Fr -> Fr -> EvM (List V)
 | [], leaf, _, ρi => leaf ρi
 | ⟨t, it, ifs, as⟩ :: gs, leaf, ρ, ρi => do
  if as == 0 && q0d it then do
   let xs <- q0f Γ t it (q01 Γ it ρ) ρ
   mapE xs.2 xs.1 fun x => do
    let ρ' <- rd fun st => q0e true st t x ρi
    if <- q0v Γ ifs ρ' then q0t Γ gs leaf ρ' ρ' else pure []
  else bad
noncomputable def q0f (Γ : Ctx) : PySem.Expr -> PySem.Expr -> EvM V -> Fr -> EvM (List V × List (Nat × O))
 | t, .Call (.Name f _) args [] _, whole, ρ => do
  match ρ.get Γ f with
  | some (.ty n) =>
   if n = "enumerate" /\ f ≠ ("__debug__" : Str) then do
    let vs <- q0j Γ args ρ
    match vs with
    | [.lst xs] => if qd0 t then pure (xs.zipIdx.map fun x => .tup [.int x.2, x.1], []) else bad
    | _ => bad
   else do
    let v <- whole
    rd fun st => srcV st v
  | _ => do
   let v <- whole
   rd fun st => srcV st v
 | _, _, whole, _ => do
  let v <- whole
  rd fun st => srcV st v
end
noncomputable def qea : PySem.Expr -> Bool
 | .Call .. => true
 | _ => false
mutual
noncomputable def q0m (Γ : Ctx) : PySem.Stmt -> Fr -> EvM (Fl × Fr)
 | .Expr e _, ρ => if qea e then do
   let _ <- q01 Γ e ρ
   pure (.next, ρ)
  else bad
 | .Return (.some e) _, ρ => do
  let v <- q01 Γ e ρ
  pure (.ret v, ρ)
 | .Assign [t] e _, ρ => do
  let v <- q01 Γ e ρ
  let ρ' <- rd fun st => q6c st t e v ρ
  pure (.next, ρ')
 | .AugAssign (.Name x _) op e _, ρ => do
  let a <- gt (ρ.get Γ x)
  let b <- q01 Γ e ρ
  let c <- gt (augV op a b)
  let ρ' <- gt (ρ.set x c)
  pure (.next, ρ')
 | .AugAssign (.Subscript o i _) op e _, ρ => match i with
  | .Slice .. => bad
  | i => do
   let ov <- q01 Γ o ρ
   let iv <- q01 Γ i ρ
   let a <- rd fun st => q1o st ov iv
   let b <- q01 Γ e ρ
   let c <- gt (augV op a b)
   q1y ov iv c
   pure (.next, ρ)
 | .If t body orelse _, ρ => do
  if <- q0g Γ t ρ (q01 Γ t ρ) then q09 Γ body ρ else q09 Γ orelse ρ
 | .For t it body [] _, ρ => if q0d it then do
   let xs <- q0f Γ t it (q01 Γ it ρ) ρ
   q2r xs.2 xs.1 ρ fun x ρ => do
    let ρ' <- rd fun st => q0e false st t x ρ
    q09 Γ body ρ'
  else bad
 | _, _ => bad
noncomputable def q09 (Γ : Ctx) : List PySem.Stmt -> Fr -> EvM (Fl × Fr)
 | [], ρ => pure (.next, ρ)
 | s :: r, ρ => do
  match <- q0m Γ s ρ with
  | (.next, ρ') => q09 Γ r ρ'
  | o => pure o
end
end Ev
end
section
namespace Ev
noncomputable def chs (s : String) : List Nat := (Str.ofString s).cps.toList
noncomputable def q28 : List V -> Option (List (List Nat))
 | [] => some []
 | .str s :: r => (q28 r).map (s :: ·)
 | _ :: _ => .none
noncomputable def q4q : List V -> Option (List Int)
 | [] => some []
 | .int s :: r => (q4q r).map (s :: ·)
 | _ :: _ => .none
noncomputable def r4w (v : V) : List V -> Option Nat
 | [] => .none
 | x :: r => if beqV x v then some 0 else (r4w v r).map (· + 1)
noncomputable def qx8 (s t : List Nat) : Option Nat := (Builtin.Str.occurrences (S s) (S t) 0 (S s).length 1).head?
noncomputable def r6g (n : Nat) : List Nat := (Nat.toDigits 10 n).map Char.toNat
noncomputable def qyq : List Nat -> Nat -> Option Nat
 | [], a => some a
 | c :: r, a => if 48 <= c /\ c <= 57 then qyq r (10 * a + (c - 48)) else .none
noncomputable def qqg (x : Int) : List Int -> List Int
 | [] => [x]
 | y :: r => if x < y then x :: y :: r else y :: qqg x r
noncomputable def r6i (l : List Int) : List Int := l.foldl (fun a x => qqg x a) []
noncomputable def qhh (s : List Nat) (xs : List (List Nat)) : Option V := if JoinOk (S s) (xs.map S) then txtV (Txt.join (S s) (xs.map S)).cps.toList else .none
noncomputable def builtin (id : String) (vs : List V) : EvM V := match id, vs with
 | "chr", [.int i] => if 0 <= i /\ i < 1114112 then pure (.str [i.toNat]) else bad
 | "ord", [.str [c]] => pure (.int c)
 | "len", [.str s] => if s.length <= cap then pure (.int s.length) else bad
 | "len", [.lst vs] => if vs.length <= cap then pure (.int vs.length) else bad
 | "min", [.int a, .int b] => pure (.int (if b < a then b else a))
 | "max", [.int a, .int b] => pure (.int (if a < b then b else a))
 | "max", [.lst vs] => do
  match <- gt (q4q vs) with
  | a :: r => pure (.int (r.foldl (fun a b => if a < b then b else a) a))
  | [] => bad
 | "sum", [.lst vs] => do
  let l <- gt (q4q vs)
  if l.length <= cap /\ l.all (fun i => decide (-1000000 <= i /\ i <= 1000000)) then pure (.int l.sum) else bad
 | _, _ => bad
noncomputable def ctor (Γ : Ctx) (n : String) (vs : List V) : EvM V := match n, vs with
 | "str", [.int i] => if 0 <= i /\ i < 1000000 then gt (txtV (chs (toString i))) else bad
 | "range", [.int n] => pure (.rng 0 n)
 | "list", [.rng a b] => do
  let xs <- rd fun st => q5u st (.rng a b)
  pure (.lst xs)
 | "Headers", [] => do
  match <- alloc (.list []) with
  | .ref i => pure (.hd i)
  | _ => bad
 | _, _ => bad
noncomputable def setL (i : Nat) (vs : List V) : EvM V := do
 if vs.length <= cap then setO i (.list vs) else bad
 pure .none
noncomputable def qb9 (gd : Str -> Option (List (V × V))) (o : V) (name : Str) (vs : List V) : EvM V :=
 if name = "append" then match o, vs with
  | .ref i, [v] => do
   match <- rd fun st => st[i]? with
   | .list xs => setL i (xs ++ [v])
   | _ => bad
  | _, _ => bad
 else if name = "items" then match o, vs with
  | .nod, [] => pure .noi
  | _, _ => bad
 else if name = "index" then match o, vs with
  | .str s, [.str t] => do
   let k <- gt (qx8 s t)
   pure (.int k)
  | .lst vs, [.str t] => do
   let xs <- gt (q28 vs)
   if vs.length <= cap /\ t ∈ xs then pure (.int (xs.idxOf t)) else bad
  | _, _ => bad
 else if name = "lower" then match o, vs with
  | .str s, [] => gt (txtV (Txt.lower (S s)).cps.toList)
  | _, _ => bad
 else if name = "upper" then match o, vs with
  | .str s, [] => gt (txtV (Txt.upper (S s)).cps.toList)
  | _, _ => bad
 else if name = "join" then match o, vs with
  | .str s, [v] => do
   let xs <- rd fun st => (q1v st v).bind q28
   gt (qhh s xs)
  | _, _ => bad
 else if name = "get" then match o, vs with
  | .g x, [.int k] => if x = ("b3_exceptions" : Str) then do
   let es <- gt (gd x)
   pure ((es.find? fun e => beqV e.1 (.int k)).elim .none (·.2))
   else bad
  | .g x, [.str k, d] => if x = ("EXACT_TOKEN_TYPES" : Str) then do
   let es <- gt (gd x)
   pure ((es.find? fun e => beqV e.1 (.str k)).elim d (·.2))
   else bad
  | _, _ => bad
 else if name = "search" then match o, vs with
  | .g x, [.str s] => if (x = ("_name_disallowed_re" : Str) \/ x = ("_value_disallowed_re" : Str)) /\ s.any (fun c => c < 32 && (x = ("_name_disallowed_re" : Str) || c != 9) || c == 127) = false then pure .none else bad
  | _, _ => bad
 else bad
structure FnD where
 params : List Str
 dflt : List V
 kwonly : List Str
 kwarg : Option Str
 body : List PySem.Stmt
 sc : Scope
noncomputable def qbb : PySem.Expr -> V
 | .Constant (.int i) _ _ => .int i
 | .Constant (.str s) _ _ => .str s.cps.toList
 | .Constant (.bool b) _ _ => .bool b
 | _ => .none
noncomputable def fnD : PySem.Stmt -> Option FnD
 | .FunctionDef _ a b _ _ _ sc _ _ _ => some ⟨a.args.map (·.arg), a.defaults.map qbb, a.kwonlyargs.map (·.arg), a.kwarg.map (·.arg), b, sc⟩
 | _ => .none
noncomputable def q4s (d : FnD) (vs : List V) (ks : List (Str × V)) : Option (List (Str × V)) :=
 let pos := vs ++ d.dflt.drop (d.dflt.length - (d.params.length - vs.length))
 if vs.length <= d.params.length /\ pos.length = d.params.length /\ d.kwonly = ks.map (·.1) then some (d.params.zip pos ++ ks) else .none
noncomputable def qmy : List Str -> Bool
 | [] => true
 | x :: r => !r.contains x && qmy r
noncomputable def okFn (d : FnD) : Bool := qmy (d.params ++ d.kwonly ++ d.kwarg.toList) && d.sc.kind == .function && !d.sc.isGenerator && !d.sc.isCoroutine && q0h d.sc.names && d.sc.names.all (fun x => x.2 == .local || x.2 == .cell || x.2 == .globalImplicit) &&
 (d.params ++ d.kwonly ++ d.kwarg.toList).all fun x => match d.sc.names.lookup x with | some .local | some .cell => true | _ => false
noncomputable def q22 (d : FnD) (b : List (Str × V)) : List (Str × V) := match d.kwarg with | .none => b | some x => b ++ [(x, .nod)]
noncomputable def qbk (Γ : Ctx) (d : FnD) (vs : List V) (ks : List (Str × V)) : EvM V := do
 let b <- gt (if okFn d then q4s d vs ks else .none)
 match <- q09 Γ d.body ⟨d.sc.names, q22 d b, fun _ => .none⟩ with
 | (.ret v, _) => pure v
 | (.next, _) => pure .none
structure Prg where
 fns : List (Str × FnD)
 mths : List (Str × FnD)
 glob : Str -> Option V
 gd : Str -> Option (List (V × V))
 keep : Pos -> Bool
 prim : Str -> Option (List V -> EvM V)
noncomputable def q4f : List Str := ["__len__", "__setitem__", "__delitem__", "_convert_string_type", "get_all", "get", "keys", "items", "setdefault", "add_header"]
noncomputable def qfh (y x : Str) : Bool := if y = "_name_disallowed_re" \/ y = "_value_disallowed_re" then x = "search" else if y = "b3_exceptions" \/ y = "EXACT_TOKEN_TYPES" then x = "get" else false
noncomputable def qhn (st : St) (o : V) (x : Str) : Option V := match o with
 | .str _ => if x = "lower" || x = "upper" || x = "join" || x = "index" then some (.m o x) else .none
 | .lst _ => if x = "index" then some (.m o x) else .none
 | .nod => if x = "items" then some (.m o x) else .none
 | .ref i => match st[i]? with
  | some (.list _) => if x = "append" then some (.m o x) else .none
  | _ => .none
 | .g y => if qfh y x then some (.m o x) else .none
 | .hd _ => if q4f.contains x then some (.m o x) else .none
 | _ => .none
noncomputable def qmz (o : V) (x : Str) : Option V := match o with | .hd i => if x = "_headers" then some (.ref i) else .none | _ => .none
noncomputable def q43 (P : Prg) (Γ : Ctx) (f : V) (vs : List V) (ks : List (Str × V)) : EvM V := match f with
 | .bi id => match id, vs, ks with
  | id, vs, [] => builtin id vs
  | _, _, _ => bad
 | .ty n => match n, vs, ks with
  | "type", [.str _], [] => pure (.ty "str")
  | n, vs, [] => ctor Γ n vs
  | _, _, _ => bad
 | .fn x => match P.prim x with
  | some p => match ks with | [] => p vs | _ => bad
  | .none => do
   let d <- gt (P.fns.lookup x)
   qbk Γ d vs ks
 | .m (.hd i) x => do
  let d <- gt (P.mths.lookup x)
  qbk Γ d (.hd i :: vs) ks
 | .m o x => match ks with
  | [] => qb9 P.gd o x vs
  | _ => bad
 | _ => bad
noncomputable def ctxN (P : Prg) : Nat -> Ctx
 | 0 => ⟨P.glob, fun _ _ _ => bad, qhn, qmz, P.keep, P.gd⟩
 | n + 1 => ⟨P.glob, q43 P (ctxN P n), qhn, qmz, P.keep, P.gd⟩
noncomputable def qqr (b : List PySem.Stmt) : List (Str × FnD) := b.filterMap fun
 | .FunctionDef x a b c d e sc f g h => (fnD (.FunctionDef x a b c d e sc f g h)).map (x, ·)
 | _ => .none
noncomputable def qv0 (b : List PySem.Stmt) : List (Str × FnD) := (b.findSome? fun
 | .ClassDef _ _ _ b .. => some (qqr b)
 | _ => .none).getD []
noncomputable def qg0 (b : List PySem.Stmt) : List (Str × V) := b.filterMap fun
 | .Assign [.Name x _] (.Constant (.int i) _ _) _ => some (x, .int i)
 | _ => .none
noncomputable def qsb (b : List PySem.Stmt) : List (Str × List (V × V)) := b.filterMap fun
 | .Assign [.Name x _] (.Dict ks vs _) _ => some (x, (ks.zip vs).filterMap fun
  | (some k, .Name y _) => ((qg0 b).lookup y).map (qbb k, ·)
  | (some k, .Constant c a b) => some (qbb k, qbb (.Constant c a b))
  | _ => .none)
 | _ => .none
noncomputable def b1 : List (V × V) := ([173, 847, 6150, 6155, 6156, 6157, 8203, 8204, 8205, 8288, 65279] ++ (List.range 16).map (65024 + ·)).map fun (n : Nat) => (.int n, .none)
noncomputable def gdOf (b : List PySem.Stmt) (x : Str) : Option (List (V × V)) := if x = "b1_set" then some b1 else (qsb b).lookup x
noncomputable def isBi (x : Str) : Option V :=
 if x = "chr" then some (.bi "chr") else if x = "ord" then some (.bi "ord") else if x = "len" then some (.bi "len") else if x = "min" then some (.bi "min")
 else if x = "max" then some (.bi "max") else if x = "sum" then some (.bi "sum") else if x = "sorted" then some (.bi "sorted")
 else if x = "str" then some (.ty "str") else if x = "int" then some (.ty "int") else if x = "list" then some (.ty "list") else if x = "range" then some (.ty "range")
 else if x = "enumerate" then some (.ty "enumerate") else if x = "zip" then some (.ty "zip") else if x = "type" then some (.ty "type") else .none
noncomputable def r0f (b : List PySem.Stmt) (x : Str) : Option V :=
 if ((qqr b).lookup x).isSome then some (.fn x)
 else if x = "Headers" then some (.ty "Headers")
 else match (qg0 b).lookup x with
  | some v => some v
  | .none => if (gdOf b x).isSome || x = "_name_disallowed_re" || x = "_value_disallowed_re" then some (.g x) else isBi x
noncomputable def qvm (w : List Nat) : Option (List Nat) :=
 let r := (Txt.replace (Txt.replace (Txt.replace (S w) "~~" "") "kk" "k") "k~k~k~k" "k~k").cps.toList
 if w.length <= 65536 /\ r.all (· < 0x110000) then some r else .none
noncomputable def qqe : Nat -> List Nat -> Option (List Nat)
 | 0, w => some w
 | n + 1, w => (qvm w).bind (qqe n)
noncomputable def qxt (x : Str) : Option (List V -> EvM V) := if x = "_law_short" then some fun vs => match vs with
 | [.str w] => gt ((qqe 12 w).map .str)
 | _ => bad else .none
noncomputable def prg (b : List PySem.Stmt) (keep : Pos -> Bool) : Prg := ⟨qqr b, qv0 b, r0f b, gdOf b, keep, qxt⟩
noncomputable def r6f (b : List PySem.Stmt) (keep : Pos -> Bool) (script : List Int) : Option (V × St) :=
 q43 (prg b keep) (ctxN (prg b keep) 8) (.fn "law") [.lst (script.map .int)] [] []
end Ev
end
section
namespace Ev
structure Base where
 gA : Addr
 bA : Addr
 addr : Str -> Option Addr
 meth : Str -> Option Addr
 gadr : Str -> Option Addr
 cls : Addr
 objs : Frag
structure HdObj (C x d a : Addr) (o o' : Obj) : Prop where
 cls : o.cls = .ref C
 nocls : ∀ c, o.data ≠ .cls c
 dict : o.dict = some d
 ne : d ≠ x
 ns : ∃ es ep, o'.data = .dict es ep /\ StrKeys es /\ UniqKeys es /\ ∀ name, nsFind es name = if name = ("_headers" : Str) then some (.ref a) else none
variable (B : Base)
mutual
inductive Rep (h : Heap) (as : List Addr) (F : Addr -> Prop) : V -> Value -> Prop
 | none : Rep h as F .none .none
 | bool (b) : Rep h as F (.bool b) (.bool b)
 | int (i t) : Rep h as F (.int i) (.int i t)
 | str (l t) : (∀ c ∈ l, c < 0x110000) -> Rep h as F (.str l) (.str (S l) t)
 | tup {vs xs a} : h.IsTuple a xs.toArray -> a ∉ as -> ¬ F a -> Reps h as F vs xs -> Rep h as F (.tup vs) (.ref a)
 | lst {vs xs a} : PlainL h a xs.toArray -> a ∉ as -> ¬ F a -> Reps h as F vs xs -> Rep h as F (.lst vs) (.ref a)
 | rng {a b r t u v} : IsRange h r a b 1 t u v -> r ∉ as -> ¬ F r -> Rep h as F (.rng a b) (.ref r)
 | ref {i a} : as[i]? = some a -> Rep h as F (.ref i) (.ref a)
 | hd {i a x d o o'} : as[i]? = some a -> h.get? x = some o -> x ∉ as -> ¬ F x -> h.get? d = some o' -> HdObj B.cls x d a o o' -> d ∉ as -> ¬ F d -> Rep h as F (.hd i) (.ref x)
 | nod {a n} : h.get? a = some { cls := .type "dict", data := .dict #[] n } -> (a == sysModules) = false -> a ∉ as -> ¬ F a -> Rep h as F .nod (.ref a)
 | noi {x a n} : h.get? x = some { cls := .type "dict_items", data := .fields #[.ref a] } -> x ∉ as -> ¬ F x -> h.get? a = some { cls := .type "dict", data := .dict #[] n } -> (a == sysModules) = false -> a ∉ as -> ¬ F a -> Rep h as F .noi (.ref x)
 | g {x a} : B.gadr x = some a -> Rep h as F (.g x) (.ref a)
 | fn {x a} : B.addr x = some a -> Rep h as F (.fn x) (.ref a)
 | bi (id) : Rep h as F (.bi id) (.builtin id)
 | ty (n) : n ≠ "Headers" -> Rep h as F (.ty n) (.type n)
 | cls : Rep h as F (.ty "Headers") (.ref B.cls)
inductive Reps (h : Heap) (as : List Addr) (F : Addr -> Prop) : List V -> List Value -> Prop
 | nil : Reps h as F [] []
 | cons {v x vs xs} : Rep h as F v x -> Reps h as F vs xs -> Reps h as F (v :: vs) (x :: xs)
end
variable {B}
structure Ext (G : Addr -> Prop) (h : Heap) (as : List Addr) (h' : Heap) (as' : List Addr) : Prop where
 pre : as <+: as'
 new : ∀ a ∈ as', a ∈ as \/ h.get? a = .none
 keep : ∀ a o, h.get? a = some o -> a ∉ as -> ¬ G a -> h'.get? a = some o
 live : ∀ a o, h.get? a = some o -> ∃ o', h'.get? a = some o'
theorem Ext.refl (G : Addr -> Prop) (h : Heap) (as : List Addr) : Ext G h as h as := ⟨List.prefix_refl _, fun _ x => .inl x, fun _ _ x _ _ => x, fun _ o x => ⟨o, x⟩⟩
theorem Ext.trans {G : Addr -> Prop} {h₁ h₂ h₃ : Heap} {as₁ as₂ as₃ : List Addr} (x : Ext G h₁ as₁ h₂ as₂) (y : Ext G h₂ as₂ h₃ as₃) : Ext G h₁ as₁ h₃ as₃ where
 pre := x.pre.trans y.pre
 new := fun a ha => by
  rcases y.new a ha with h | h
  ·exact x.new a h
  ·cases e : h₁.get? a with
   | none => exact .inr rfl
   | some o => obtain ⟨o', e'⟩ := x.live a o e; rw [h] at e'; cases e'
 keep := fun a o e ha hG => y.keep a o (x.keep a o e ha hG) (fun h => by
  rcases x.new a h with h | h
  ·exact ha h
  ·rw [e] at h; cases h) hG
 live := fun a o e => let ⟨o', e'⟩ := x.live a o e; y.live a o' e'
theorem qmq {as as' : List Addr} (h : as <+: as') {i : Nat} {a : Addr} (e : as[i]? = some a) : as'[i]? = some a := by
 obtain ⟨t, rfl⟩ := h
 rw [List.getElem?_append_left]
 ·exact e
 ·exact (List.getElem?_eq_some_iff.mp e).1
mutual
theorem Rep.mono {h h' : Heap} {as as' : List Addr} {F F' : Addr -> Prop} (hp : as <+: as') (hk : ∀ a o, h.get? a = some o -> a ∉ as -> ¬ F a -> h'.get? a = some o /\ a ∉ as' /\ ¬ F' a) :
  ∀ {v x}, Rep B h as F v x -> Rep B h' as' F' v x
 | _, _, .none => .none
 | _, _, .bool b => .bool b
 | _, _, .int i t => .int i t
 | _, _, .str l t hl => .str l t hl
 | _, _, .tup ⟨o, ho, r⟩ ha hF hr => let k := hk _ _ ho ha hF; .tup ⟨o, k.1, r⟩ k.2.1 k.2.2 (Reps.mono hp hk hr)
 | _, _, .lst ⟨o, n, ho, r⟩ ha hF hr => let k := hk _ _ ho ha hF; .lst ⟨o, n, k.1, r⟩ k.2.1 k.2.2 (Reps.mono hp hk hr)
 | _, _, .rng ho ha hF => let k := hk _ _ ho ha hF; .rng k.1 k.2.1 k.2.2
 | _, _, .ref e => .ref (qmq hp e)
 | _, _, .hd e ho ha hF hd ht hda hdF => let k := hk _ _ ho ha hF; let l := hk _ _ hd hda hdF; .hd (qmq hp e) k.1 k.2.1 k.2.2 l.1 ht l.2.1 l.2.2
 | _, _, .nod ho hs ha hF => let k := hk _ _ ho ha hF; .nod k.1 hs k.2.1 k.2.2
 | _, _, .noi ho ha hF hd hs hda hdF => let k := hk _ _ ho ha hF; let l := hk _ _ hd hda hdF; .noi k.1 k.2.1 k.2.2 l.1 hs l.2.1 l.2.2
 | _, _, .g e => .g e
 | _, _, .fn e => .fn e
 | _, _, .bi id => .bi id
 | _, _, .ty n hn => .ty n hn
 | _, _, .cls => .cls
theorem Reps.mono {h h' : Heap} {as as' : List Addr} {F F' : Addr -> Prop} (hp : as <+: as') (hk : ∀ a o, h.get? a = some o -> a ∉ as -> ¬ F a -> h'.get? a = some o /\ a ∉ as' /\ ¬ F' a) :
  ∀ {vs xs}, Reps B h as F vs xs -> Reps B h' as' F' vs xs
 | _, _, .nil => .nil
 | _, _, .cons a b => .cons (Rep.mono hp hk a) (Reps.mono hp hk b)
end
theorem Ext.rep {G F : Addr -> Prop} {h h' : Heap} {as as' : List Addr} (x : Ext G h as h' as') (hG : ∀ a, G a -> F a) {v : V} {y : Value} (r : Rep B h as F v y) : Rep B h' as' F v y :=
 r.mono (F' := F) x.pre fun a o e ha hF => ⟨x.keep a o e ha fun g => hF (hG a g), (fun hm => (x.new a hm).elim ha fun q => by rw [e] at q; cases q), hF⟩
inductive ObjRep (h : Heap) (as : List Addr) (F : Addr -> Prop) (a : Addr) : O -> Prop
 | list {vs xs} : PlainL h a xs.toArray -> Reps B h as F vs xs -> vs.length <= cap -> ObjRep h as F a (.list vs)
 | dict {es n} {ds : List DictEntry} : h.get? a = some { cls := .type "dict", data := .dict ds.toArray n } -> Reps B h as F (es.map (·.1)) (ds.map (·.key)) -> Reps B h as F (es.map (·.2)) (ds.map (·.val)) ->
   (∀ d ∈ ds, ∃ x t, d.key = .str x t) -> ObjRep h as F a (.dict es)
structure Inv (B : Base) (h : Heap) (as : List Addr) (F : Addr -> Prop) (st : St) : Prop where
 len : as.length = st.length
 nodup : as.Nodup
 at_ : ∀ (i : Nat) (a : Addr) (o : O), as[i]? = some a -> st[i]? = some o -> ObjRep (B := B) h as F a o
 apart : ∀ a ∈ as, ¬ F a
 liveF : ∀ a, F a -> ∃ o, h.get? a = some o
 base : ∀ a o, B.objs.lookup a = some o -> h.get? a = some o /\ a ∉ as /\ ¬ F a
end Ev
end
section
namespace Ev
variable {B : Base} {prog : Program} {w : World} {A : Around} {F : Addr -> Prop}
abbrev no : Addr -> Prop := fun _ => False
noncomputable def Sim {α β : Type} (B : Base) (prog : Program) (w : World) (A : Around) (F G : Addr -> Prop) (R : Heap -> List Addr -> α -> β -> Prop) (t : Sem β) (m : EvM α) (s : Shared) (as : List Addr) (st : St) : Prop :=
 ∀ v st', m st = some (v, st') -> ∀ (Q : β -> Shared -> Prop) (E : Value -> Shared -> Prop),
  (∀ x h' as' tk, R h' as' v x -> Inv B h' as' F st' -> Ext G s.heap as h' as' -> s.toks <= tk -> Q x { s with heap := h', toks := tk }) -> wpAny (model prog w) A t Q E s
theorem q00 {α β : Type} {m : EvM α} {g : α -> EvM β} {st st' : St} {v : β} (h : (m >>= g) st = some (v, st')) : ∃ a st₁, m st = some (a, st₁) /\ g a st₁ = some (v, st') := by
 have h' : (m st).bind (fun p => g p.1 p.2) = some (v, st') := h
 cases hm : m st with
 | none => rw [hm] at h'; cases h'
 | some p => rw [hm] at h'; exact ⟨p.1, p.2, rfl, h'⟩
theorem Sim.bind {α β γ δ : Type} {G : Addr -> Prop} {R : Heap -> List Addr -> α -> β -> Prop} {R' : Heap -> List Addr -> γ -> δ -> Prop} {t : Sem β} {f : β -> Sem δ} {m : EvM α} {g : α -> EvM γ} {s : Shared} {as : List Addr} {st : St}
  (h : Sim B prog w A F G R t m s as st)
  (k : ∀ v x h' as' tk st', m st = some (v, st') -> R h' as' v x -> Inv B h' as' F st' -> Ext G s.heap as h' as' -> s.toks <= tk -> Sim B prog w A F G R' (f x) (g v) { s with heap := h', toks := tk } as' st') :
  Sim B prog w A F G R' (t >>= f) (m >>= g) s as st := by
 intro v st' hv Q E hQ
 obtain ⟨a, st₁, hm, hg⟩ := q00 hv
 refine wpAny_bind (h a st₁ hm _ _ fun x h' as' tk r i e ht => ?_)
 refine k a x h' as' tk st₁ hm r i e ht v st' hg _ _ fun y h'' as'' tk' r' i' e' ht' => ?_
 exact hQ y h'' as'' tk' r' i' (e.trans e') (Nat.le_trans ht ht')
theorem Sim.pure {α β : Type} {G : Addr -> Prop} {R : Heap -> List Addr -> α -> β -> Prop} {x : β} {v : α} {s : Shared} {as : List Addr} {st : St} (i : Inv B s.heap as F st) (r : R s.heap as v x) :
  Sim B prog w A F G R (Pure.pure x) (Pure.pure v) s as st := by
 intro v' st' hv Q E hQ
 cases hv
 exact wpAny_pure (hQ x s.heap as s.toks r i (Ext.refl _ _ _) (Nat.le_refl _))
theorem Sim.bad {α β : Type} {G : Addr -> Prop} {R : Heap -> List Addr -> α -> β -> Prop} {t : Sem β} {s : Shared} {as : List Addr} {st : St} : Sim B prog w A F G R t (Ev.bad : EvM α) s as st := by
 intro v st' hv; cases hv
end Ev
end
section
namespace Ev
structure FrRep (B : Base) (h : Heap) (as : List Addr) (F : Addr -> Prop) (env : Env) (ρ : Fr) : Prop where
 kind : env.scope.kind = .function
 gl : env.globals = B.gA
 bl : env.builtins = B.bA
 loc : ∃ m, h.Ns env.locals m /\ ∀ x v, ρ.sc.lookup x = some .local -> ρ.vars.lookup x = some v -> ∃ y, m x = some y /\ Rep B h as F v y
 kindL : ∀ x, ρ.sc.lookup x = some .local -> env.kindOf x = some .local
 kindN : ∀ x, env.kindOf x = some .local -> ρ.sc.lookup x = some .local
 kindC : ∀ x, ρ.sc.lookup x = some .cell -> env.kindOf x = some .cell
 kindG : ∀ x, ρ.sc.lookup x = some .globalImplicit -> env.kindOf x = some .globalImplicit
 cell : ∀ x, ρ.sc.lookup x = some .cell -> ∃ c yo, env.cells.lookup x = some c /\ h.IsCell c yo /\ F c /\ c ≠ env.locals /\ ∀ v, ρ.vars.lookup x = some v -> ∃ y, yo = some y /\ Rep B h as F v y
 apart : ∀ x x' c, ρ.sc.lookup x = some .cell -> ρ.sc.lookup x' = some .cell -> env.cells.lookup x = some c -> env.cells.lookup x' = some c -> x = x'
 free : ∀ x, ρ.sc.lookup x = some .free -> (env.kindOf x = some .cell \/ env.kindOf x = some .free) /\ (x == ("__classdict__" : Str)) = false /\ ∃ c yo, env.cells.lookup x = some c /\ h.IsCell c yo /\ F c /\ c ≠ env.locals /\
  (∀ x', ρ.sc.lookup x' = some .cell -> env.cells.lookup x' ≠ some c) /\ ∀ v, ρ.out x = some v -> ∃ y, yo = some y /\ Rep B h as F v y
 ownF : F env.locals
noncomputable def Own (env : Env) (sc : List (Str × NameKind)) (a : Addr) : Prop := a = env.locals \/ ∃ x, sc.lookup x = some .cell /\ env.cells.lookup x = some a
theorem FrRep.own {B : Base} {h as F env ρ} (f : FrRep B h as F env ρ) : ∀ a, Own env ρ.sc a -> F a := by
 rintro a (rfl | ⟨x, hx, hc⟩)
 ·exact f.ownF
 ·obtain ⟨c, _, hc', _, hF, _⟩ := f.cell x hx
  rw [hc] at hc'; cases hc'; exact hF
theorem FrRep.ext {B : Base} {h h' : Heap} {as as' : List Addr} {F : Addr -> Prop} {env : Env} {ρ : Fr} (f : FrRep B h as F env ρ) (hF : ∀ a ∈ as, ¬ F a) (x : Ext no h as h' as') : FrRep B h' as' F env ρ where
 kind := f.kind
 gl := f.gl
 bl := f.bl
 loc := by
  obtain ⟨m, ⟨o, es, ep, ho, r⟩, hm⟩ := f.loc
  refine ⟨m, ⟨o, es, ep, x.keep _ _ ho (fun h => hF _ h f.ownF) id, r⟩, fun y v h1 h2 => ?_⟩
  obtain ⟨z, hz, hr⟩ := hm y v h1 h2
  exact ⟨z, hz, x.rep (fun _ h => h.elim) hr⟩
 kindL := f.kindL
 kindN := f.kindN
 kindC := f.kindC
 kindG := f.kindG
 cell := fun y hy => by
  obtain ⟨c, yo, hc, ⟨o, ho, hd⟩, hFc, hl, hv⟩ := f.cell y hy
  refine ⟨c, yo, hc, ⟨o, x.keep _ _ ho (fun h => hF _ h hFc) id, hd⟩, hFc, hl, fun v hv' => ?_⟩
  obtain ⟨z, hz, hr⟩ := hv v hv'
  exact ⟨z, hz, x.rep (fun _ h => h.elim) hr⟩
 apart := f.apart
 free := fun y hy => by
  obtain ⟨hk, hn, c, yo, hc, ⟨o, ho, hd⟩, hFc, hl, ha, hv⟩ := f.free y hy
  refine ⟨hk, hn, c, yo, hc, ⟨o, x.keep _ _ ho (fun h => hF _ h hFc) id, hd⟩, hFc, hl, ha, fun v hv' => ?_⟩
  obtain ⟨z, hz, hr⟩ := hv v hv'
  exact ⟨z, hz, x.rep (fun _ h => h.elim) hr⟩
 ownF := f.ownF
structure GlobOk (B : Base) (prog : Program) (w : World) (Γ : Ctx) : Prop where
 glob : ∀ x v, Γ.glob x = some v -> ∀ (A : Around) (s : Shared) (env : Env) (Q : Value -> Shared -> Prop) (E : Value -> Shared -> Prop), env.scope.kind = .function -> env.kindOf x = some .globalImplicit ->
  env.globals = B.gA -> env.builtins = B.bA -> B.objs.In s.heap -> (∀ y, (∀ h as F, Rep B h as F v y) -> Q y s) -> wpAny (model prog w) A (loadName env x) Q E s
variable {B : Base} {prog : Program} {w : World} {A : Around} {F : Addr -> Prop}
abbrev RV (B : Base) (F : Addr -> Prop) : Heap -> List Addr -> V -> Value -> Prop := fun h as v y => Rep B h as F v y
theorem q0k {α : Type} {o : Option α} {st st' : St} {v : α} (h : gt o st = some (v, st')) : o = some v /\ st' = st := by
 cases o with
 | none => cases h
 | some a => cases h; exact ⟨rfl, rfl⟩
theorem qaa {Γ : Ctx} {env : Env} {ρ : Fr} {s : Shared} {as : List Addr} {st : St} {x : Str} (g : GlobOk B prog w Γ) (f : FrRep B s.heap as F env ρ) (i : Inv B s.heap as F st) :
  Sim B prog w A F no (RV B F) (loadName env x) (gt (ρ.get Γ x)) s as st := by
 intro v st' hv Q E hQ
 obtain ⟨hg, rfl⟩ := q0k hv
 have fin : ∀ y, Rep B s.heap as F v y -> Q y s := fun y r => hQ y s.heap as s.toks r i (Ext.refl _ _ _) (Nat.le_refl _)
 unfold Fr.get at hg
 split at hg
 ·rename_i hx
  obtain ⟨m, hn, hm⟩ := f.loc
  obtain ⟨y, hy, hr⟩ := hm x v hx hg
  exact wpAny_loadName_local f.kind (f.kindL x hx) hn hy (fin y hr)
 ·rename_i hx
  obtain ⟨c, yo, hc, hi, _, _, hm⟩ := f.cell x hx
  obtain ⟨y, rfl, hr⟩ := hm v hg
  exact wpAny_loadName_cell f.kind (f.kindC x hx) hc hi (fin y hr)
 ·rename_i hx
  obtain ⟨hk, hn, c, yo, hc, hi, _, _, _, hm⟩ := f.free x hx
  obtain ⟨y, rfl, hr⟩ := hm v hg
  rcases hk with hk | hk
  ·exact wpAny_loadName_cell f.kind hk hc hi (fin y hr)
  ·exact wpAny_loadName_free f.kind hk hc hi (fin y hr) hn
 ·rename_i hx
  exact g.glob x v hg A s env Q E f.kind (f.kindG x hx) f.gl f.bl (fun a o e => (i.base a o e).1) fun y hy => fin y (hy _ _ _)
 ·cases hg
theorem qnh {Γ : Ctx} {env : Env} {ρ : Fr} {s : Shared} {as : List Addr} {st : St} {x : Str} {pos : Pos} (g : GlobOk B prog w Γ) (f : FrRep B s.heap as F env ρ) (i : Inv B s.heap as F st) :
  Sim B prog w A F no (RV B F) (eval (.Name x pos) env) (q01 Γ (.Name x pos) ρ) s as st := by
 intro v st' hv Q E hQ
 rw [q01] at hv
 by_cases hx : x = ("__debug__" : Str)
 ·subst hx
  rw [if_pos rfl] at hv
  cases hv
  show wpAny _ _ (do standAt pos; (do rule "name.__debug__"; pure (Value.bool true))) _ _ _
  exact wpAny_bind (wpAny_standAt (wpAny_bind (wpAny_rule (wpAny_pure (hQ _ s.heap as s.toks (.bool true) i (Ext.refl _ _ _) (Nat.le_refl _))))))
 ·rw [if_neg hx] at hv
  exact wpAny_Name (qaa g f i v st' hv Q E hQ) (by simpa using hx)
end Ev
end
section
namespace Ev
variable {B : Base} {prog : Program} {w : World} {A : Around} {F : Addr -> Prop}
theorem qgv (a b : List Nat) : S a ++ S b = S (a ++ b) := by
 show (⟨a.toArray ++ b.toArray⟩ : Str) = ⟨(a ++ b).toArray⟩
 simp
theorem q12 (a : List Nat) : (S a).length = a.length := by simp [S, Str.length]
theorem q18 {n : Nat} (h : n <= cap) : n <= sizeLine := by unfold cap at h; rw [sizeLine_eq]; omega
theorem qid {op : Operator} {a b v : V} {x y : Value} {s : Shared} {as : List Addr} (ra : Rep B s.heap as F a x) (rb : Rep B s.heap as F b y) (hv : binS op a b = some v)
  {Q : Value -> Shared -> Prop} {E : Value -> Shared -> Prop} (hQ : ∀ z tk, s.toks <= tk -> (∀ h as F, Rep B h as F v z) -> Q z { s with toks := tk }) : wpAny (model prog w) A (binaryOp op x y) Q E s := by
 have hi : ∀ i tk, s.toks <= tk -> v = .int i -> Q (.int i s.toks) { s with toks := tk } := fun i tk h e => hQ _ _ h fun _ _ _ => e ▸ .int i _
 unfold binS at hv
 split at hv <;> first | (cases hv; done) | (cases ra; cases rb)
 ·cases hv; exact PyProof.Rows.add_int (hi _ _ (Nat.le_succ _) rfl)
 ·cases hv; exact PyProof.Rows.sub_int (hi _ _ (Nat.le_succ _) rfl)
 ·split at hv
  ·rename_i hs
   cases hv
   refine PyProof.Rows.mul_int (hi _ _ (Nat.le_succ _) rfl) ?_
   rcases hs with h | h
   ·exact IntMulOk.of_left (intBits_le_64 (by omega) (by omega))
   ·exact IntMulOk.of_right (intBits_le_64 (by omega) (by omega))
  ·cases hv
 ·split at hv
  ·rename_i hs
   cases hv
   exact PyProof.Rows.floordiv_int hs.1 (hi _ _ (Nat.le_succ _) rfl) (Or.inl (PyProof.noPylong_small hs.2))
  ·cases hv
 ·split at hv
  ·cases hv
  ·rename_i hs
   cases hv; exact PyProof.Rows.mod_int' hs (hi _ _ (Nat.le_succ _) rfl)
 ·split at hv
  ·rename_i hs
   cases hv; exact PyProof.Rows.pow_int_small hs.1 hs.2.1 hs.2.2 (hi _ _ (Nat.le_succ _) rfl)
  ·cases hv
 ·split at hv
  ·rename_i hs
   cases hv; exact PyProof.Rows.lshift_int_small hs.1 hs.2.1 hs.2.2 (hi _ _ (Nat.le_succ _) rfl)
  ·cases hv
 ·split at hv
  ·rename_i hs
   cases hv; exact PyProof.Rows.rshift_int hs (hi _ _ (Nat.le_succ _) rfl)
  ·cases hv
 ·cases hv; exact PyProof.Rows.and_int (hi _ _ (Nat.le_succ _) rfl)
 ·cases hv; exact PyProof.Rows.or_int (hi _ _ (Nat.le_succ _) rfl)
 ·unfold strV at hv
  split at hv
  ·rename_i l l' t hl t' hl' hs
   cases hv
   refine wpAny_with_toks (n := s.toks) (Nat.le_refl _) (PyProof.Rows.add_str (fun t' tk htk => ?_) (by rw [q12, q12, <- List.length_append]; exact q18 hs))
   exact hQ _ _ htk fun _ _ _ => by rw [qgv]; exact .str _ _ fun c hc => (List.mem_append.mp hc).elim (hl c) (hl' c)
  ·cases hv
end Ev
end
section
namespace Ev
variable {B : Base} {prog : Program} {w : World} {A : Around} {F : Addr -> Prop}
theorem S_ok {l : List Nat} (h : ∀ c ∈ l, c < 0x110000) : PyData.strOk (S l) = true := by
 unfold PyData.strOk S
 simpa using h
noncomputable def qvb (h : Heap) (n : Nat) (y : Value) (d : PyData) : Prop := ∃ bs, Reads h y d bs /\ d.canLay0 = true /\ d.depth <= n
noncomputable def qqk (h : Heap) (n : Nat) (ys : List Value) (ds : List PyData) : Prop := ∃ bs, ReadsAll h ys ds bs /\ PyData.canLayAll0 ds = true /\ PyData.depthAll ds <= n
theorem qjf {h : Heap} {as : List Addr} {st : St} {n : Nat} (ih : ∀ v y d, Rep B h as F v y -> dat st n v = some d -> qvb h n y d) :
  ∀ {vs ys ds}, Reps B h as F vs ys -> vs.mapM (dat st n) = some ds -> qqk h n ys ds
 | _, _, ds, .nil, hd => by
  cases hd
  exact ⟨[], .nil, rfl, Nat.zero_le _⟩
 | _, _, ds, .cons (v := v) (vs := vs) r rs, hd => by
  rw [List.mapM_cons] at hd
  cases h1 : dat st n v with
  | none => rw [h1] at hd; cases hd
  | some d =>
   cases h2 : vs.mapM (dat st n) with
   | none => rw [h1, h2] at hd; cases hd
   | some es =>
    rw [h1, h2] at hd
    cases hd
    obtain ⟨b1, r1, c1, d1⟩ := ih _ _ _ r h1
    obtain ⟨b2, r2, c2, d2⟩ := qjf ih rs h2
    refine ⟨_, .cons r1 r2, ?_, ?_⟩
    ·simp only [PyData.canLayAll0, c1, c2, Bool.and_self]
    ·simp only [PyData.depthAll]; omega
theorem q9u {h : Heap} {as : List Addr} {st : St} (i : Inv B h as F st) : ∀ (n : Nat) (v : V) (y : Value) (d : PyData), Rep B h as F v y -> dat st n v = some d -> qvb h n y d := by
 intro n
 induction n with
 | zero =>
  intro v y d r hd
  cases r <;> simp only [dat] at hd <;> cases hd
  ·exact ⟨_, .none, rfl, Nat.le_refl _⟩
  ·exact ⟨_, .bool _, rfl, Nat.le_refl _⟩
  ·exact ⟨_, .int _ _, rfl, Nat.le_refl _⟩
  ·rename_i hl; exact ⟨_, .str _ _, S_ok hl, Nat.le_refl _⟩
 | succ n ih =>
  intro v y d r hd
  have seq : ∀ {vs xs es}, Reps B h as F vs xs -> vs.mapM (dat st n) = some es -> qqk h n xs es := fun rs he => qjf ih rs he
  cases r with
  | none => simp only [dat] at hd; cases hd; exact ⟨_, .none, rfl, Nat.zero_le _⟩
  | bool => simp only [dat] at hd; cases hd; exact ⟨_, .bool _, rfl, Nat.zero_le _⟩
  | int => simp only [dat] at hd; cases hd; exact ⟨_, .int _ _, rfl, Nat.zero_le _⟩
  | str l t hl => simp only [dat] at hd; cases hd; exact ⟨_, .str _ _, S_ok hl, Nat.zero_le _⟩
  | tup ht ha hF rs =>
   rename_i vs xs a
   simp only [dat] at hd
   cases he : vs.mapM (dat st n) with
   | none => rw [he] at hd; cases hd
   | some es =>
    rw [he] at hd; cases hd
    obtain ⟨bs, r1, c1, d1⟩ := seq rs he
    obtain ⟨o, ho, hc, k, hk⟩ := ht
    exact ⟨_, .tuple ho hc hk (by simpa using r1), c1, by simp only [PyData.depth]; omega⟩
  | lst ht ha hF rs =>
   rename_i vs xs a
   simp only [dat] at hd
   cases he : vs.mapM (dat st n) with
   | none => rw [he] at hd; cases hd
   | some es =>
    rw [he] at hd; cases hd
    obtain ⟨bs, r1, c1, d1⟩ := seq rs he
    obtain ⟨o, ho, hc, k, hk⟩ := ht.isList
    exact ⟨_, .list ho hc hk (by simpa using r1), c1, by simp only [PyData.depth]; omega⟩
  | ref e =>
   rename_i j a
   simp only [dat] at hd
   cases ho : st[j]? with
   | none => rw [ho] at hd; cases hd
   | some o =>
    rw [ho] at hd
    have q := i.at_ j a o e ho
    cases q with
    | dict => cases hd
    | list hp rs hcap =>
     rename_i vs xs
     simp only at hd
     cases he : vs.mapM (dat st n) with
     | none => rw [he] at hd; cases hd
     | some es =>
      rw [he] at hd; cases hd
      obtain ⟨bs, r1, c1, d1⟩ := seq rs he
      obtain ⟨o, ho, hc, k, hk⟩ := hp.isList
      exact ⟨_, .list ho hc hk (by simpa using r1), c1, by simp only [PyData.depth]; omega⟩
  | rng => simp only [dat] at hd; cases hd
  | hd => simp only [dat] at hd; cases hd
  | nod => simp only [dat] at hd; cases hd
  | noi => simp only [dat] at hd; cases hd
  | g => simp only [dat] at hd; cases hd
  | fn => simp only [dat] at hd; cases hd
  | bi => simp only [dat] at hd; cases hd
  | ty => simp only [dat] at hd; cases hd
  | cls => simp only [dat] at hd; cases hd
end Ev
namespace Ev
variable {B : Base} {prog : Program} {w : World} {A : Around} {F : Addr -> Prop} {s : Shared} {as : List Addr} {st : St}
theorem qgb {a b : V} {t : Bool} (h : eqV st a b = some t) : ∃ x y, dat st 8 a = some x /\ dat st 8 b = some y /\ t = PyData.eqv x y := by
 unfold eqV at h
 cases h1 : dat st 8 a with
 | none => rw [h1] at h; cases h
 | some x =>
  cases h2 : dat st 8 b with
  | none => rw [h1, h2] at h; cases h
  | some y => rw [h1, h2] at h; cases h; exact ⟨x, y, rfl, rfl, rfl⟩
theorem qvu {a b : V} {x y : Value} {t : Bool} (i : Inv B s.heap as F st) (hu : A.units + 20 < cLine) (ra : Rep B s.heap as F a x) (rb : Rep B s.heap as F b y) (h : eqV st a b = some t)
  {Q : Value -> Shared -> Prop} {E : Value -> Shared -> Prop} (hQ : Q (.bool t) s) : wpAny (model prog w) A (compareOp .Eq x y) Q E s := by
 obtain ⟨d, d', h1, h2, rfl⟩ := qgb h
 obtain ⟨_, r1, c1, e1⟩ := q9u i _ _ _ _ ra h1
 obtain ⟨_, r2, c2, e2⟩ := q9u i _ _ _ _ rb h2
 exact SeqAt.compareEq_reads r1 r2 c1 c2 (by omega) hQ
theorem qvg {a b : V} {x y : Value} {t : Bool} (i : Inv B s.heap as F st) (hu : A.units + 20 < cLine) (ra : Rep B s.heap as F a x) (rb : Rep B s.heap as F b y) (h : eqV st a b = some t)
  {Q : Value -> Shared -> Prop} {E : Value -> Shared -> Prop} (hQ : Q (.bool (!t)) s) : wpAny (model prog w) A (compareOp .NotEq x y) Q E s := by
 obtain ⟨d, d', h1, h2, rfl⟩ := qgb h
 obtain ⟨_, r1, c1, e1⟩ := q9u i _ _ _ _ ra h1
 obtain ⟨_, r2, c2, e2⟩ := q9u i _ _ _ _ rb h2
 exact SeqAt.compareNe_reads r1 r2 c1 c2 (by omega) hQ
theorem qq9 {a b : V} {x y : Value} {t : Bool} (i : Inv B s.heap as F st) (hu : A.units + 20 < cLine) (ra : Rep B s.heap as F a x) (rb : Rep B s.heap as F b y) (h : inV st a b = some t)
  {Q : Value -> Shared -> Prop} {E : Value -> Shared -> Prop} : (Q (.bool t) s -> wpAny (model prog w) A (compareOp .In x y) Q E s) /\ (Q (.bool (!t)) s -> wpAny (model prog w) A (compareOp .NotIn x y) Q E s) := by
 unfold inV at h
 cases h1 : dat st 8 a with
 | none => rw [h1] at h; cases h
 | some d =>
  cases h2 : dat st 8 b with
  | none => rw [h1, h2] at h; cases h
  | some d' =>
   rw [h1, h2] at h
   obtain ⟨_, r1, c1, e1⟩ := q9u i _ _ _ _ ra h1
   obtain ⟨_, r2, c2, e2⟩ := q9u i _ _ _ _ rb h2
   cases d' with
   | list ys =>
    cases h
    exact ⟨fun hQ => SeqAt.in_list_reads r2 r1 c2 c1 (by simp only [PyData.depth] at e2; omega) hQ, fun hQ => SeqAt.notIn_list_reads r2 r1 c2 c1 (by simp only [PyData.depth] at e2; omega) hQ⟩
   | tuple ys =>
    cases h
    exact ⟨fun hQ => SeqAt.in_tuple_reads r2 r1 c2 c1 (by simp only [PyData.depth] at e2; omega) hQ, fun hQ => SeqAt.notIn_tuple_reads r2 r1 c2 c1 (by simp only [PyData.depth] at e2; omega) hQ⟩
   | _ => cases h
end Ev
namespace Ev
variable {B : Base} {prog : Program} {w : World} {A : Around} {F : Addr -> Prop} {s : Shared} {as : List Addr} {st : St}
theorem ql6 {a b : V} {x y : Value} {t : Bool} (ra : Rep B s.heap as F a x) (rb : Rep B s.heap as F b y) (h : q3b a b = some t) : plainIs x y = true /\ (x == y) = t := by
 unfold q3b at h
 split at h <;> (try (split at h)) <;> first | (cases h; done) | (cases ra <;> cases rb <;> (try cases h) <;> first | exact ⟨rfl, rfl⟩ | (exact ⟨rfl, by simp⟩) | (exfalso; rename_i h0; exact h0 (Or.inr rfl)) | (exfalso; rename_i h0 _; exact h0 (Or.inr rfl)) | (exfalso; rename_i h0 _; exact h0 (Or.inl rfl)) | (exfalso; rename_i h0; exact h0 (Or.inl rfl)) | (exact ⟨rfl, by rw [Bool.eq_iff_iff]; simp⟩) | (exfalso; simp_all))
end Ev
end
section
namespace Ev
variable {B : Base} {prog : Program} {w : World} {A : Around} {F : Addr -> Prop} {s : Shared} {as : List Addr} {st : St}
noncomputable def q88 (B : Base) (prog : Program) (w : World) (gd : Str -> Option (List (V × V))) : Prop :=
 ∀ (A : Around) (F : Addr -> Prop) (s : Shared) (as : List Addr) (st : St) (a b : V) (x y : Value) (t : Bool), A.handled = none -> A.units + 20 < cLine -> Inv B s.heap as F st -> Rep B s.heap as F a x -> Rep B s.heap as F b y -> q9e gd st b a = some t ->
  ∀ (Q : Value -> Shared -> Prop) (E : Value -> Shared -> Prop), ((∀ tk, s.toks <= tk -> Q (.bool t) { s with toks := tk }) -> wpAny (model prog w) A (compareOp .In x y) Q E s) /\
   ((∀ tk, s.toks <= tk -> Q (.bool (!t)) { s with toks := tk }) -> wpAny (model prog w) A (compareOp .NotIn x y) Q E s)
theorem qpr {gd : Str -> Option (List (V × V))} (hk : q88 B prog w gd) (hh : A.handled = none) {op : CmpOp} {a b : V} {x y : Value} {t : Bool} (i : Inv B s.heap as F st) (hu : A.units + 20 < cLine)
  (ra : Rep B s.heap as F a x) (rb : Rep B s.heap as F b y) (h : cmpV gd st op a b = some t)
  {Q : Value -> Shared -> Prop} {E : Value -> Shared -> Prop} (hQ : ∀ tk, s.toks <= tk -> Q (.bool t) { s with toks := tk }) : wpAny (model prog w) A (compareOp op x y) Q E s := by
 have hq : Q (.bool t) s := hQ s.toks (Nat.le_refl _)
 unfold cmpV at h
 split at h
 ·exact qvu i hu ra rb h hq
 ·cases he : eqV st a b with
  | none => rw [he] at h; cases h
  | some u => rw [he] at h; cases h; exact qvg i hu ra rb he hq
 ·cases ra; cases rb; cases h; exact PyProof.Rows.lt_int hq
 ·cases ra; cases rb; cases h; exact P.le_int hq
 ·cases ra; cases rb; cases h; exact PyProof.Rows.gt_int hq
 ·cases ra; cases rb; cases h; exact P.ge_int hq
 ·obtain ⟨h1, h2⟩ := ql6 ra rb h
  exact wpAny_is_plain h1 (by rw [h2]; exact hq)
 ·cases he : q3b a b with
  | none => rw [he] at h; cases h
  | some u =>
   rw [he] at h; cases h
   obtain ⟨h1, h2⟩ := ql6 ra rb he
   exact wpAny_isNot_plain h1 (by rw [h2]; exact hq)
 ·cases ra; cases rb; cases h; exact P.in_str hq
 ·cases ra; cases rb; cases h; exact P.notIn_str hq
 ·split at h
  ·rename_i he
   cases h
   exact (hk A F s as st _ _ x y _ hh hu i ra rb he Q E).1 hQ
  ·exact (qq9 i hu ra rb h).1 hq
 ·split at h
  ·rename_i he
   cases h
   exact (hk A F s as st _ _ x y _ hh hu i ra rb he Q E).2 (by simpa using hQ)
  ·cases he : inV st a b with
   | none => rw [he] at h; cases h
   | some u => rw [he] at h; cases h; exact (qq9 i hu ra rb he).2 hq
 ·cases h
end Ev
end
section
namespace Ev
variable {B : Base} {prog : Program} {w : World} {A : Around} {F : Addr -> Prop} {s : Shared} {as : List Addr} {st : St}
theorem Reps.length {h : Heap} : ∀ {vs xs}, Reps B h as F vs xs -> vs.length = xs.length
 | _, _, .nil => rfl
 | _, _, .cons _ r => congrArg (· + 1) (Reps.length r)
theorem qnd {n : Nat} : ((n : Int) != 0) = decide (n ≠ 0) := by
 cases n with
 | zero => rfl
 | succ n => simp; omega
theorem q5d {xs : List Value} {n : Nat} (h : n = xs.length) : (!xs.toArray.isEmpty) = decide (n ≠ 0) := by
 subst h
 cases xs <;> simp
theorem qa2 {a : V} {x : Value} {t : Bool} (i : Inv B s.heap as F st) (ra : Rep B s.heap as F a x) (h : q26 st a = some t)
  {Q : Bool -> Shared -> Prop} {E : Value -> Shared -> Prop} (hQ : ∀ tk, s.toks <= tk -> Q t { s with toks := tk }) : wpAny (model prog w) A (truthy x) Q E s := by
 have hq : Q t s := hQ s.toks (Nat.le_refl _)
 have le : ∀ {n : Nat}, n <= cap -> (n : Int) < 2 ^ 63 := fun h => by unfold cap at h; omega
 cases ra <;> simp only [q26] at h
 ·cases h; exact PyProof.Rows.truthy_none hq
 ·cases h; exact wpAny_truthy_bool hq
 ·cases h; exact P.truthy_int hq
 ·unfold full at h
  split at h
  ·rename_i hc
   cases h
   refine P.truthy_str (by rw [q12]; have := le hc; omega) ?_
   rw [q12, qnd]
   exact hQ _ (by omega)
  ·cases h
 ·rename_i ht _ _ rs
  unfold full at h
  split at h
  ·rename_i hc
   cases h
   refine PyProof.Rows.truthy_tuple ht (by have := le hc; have := rs.length; simp; omega) ?_
   rw [q5d rs.length]
   exact hQ _ (by omega)
  ·cases h
 ·rename_i ht _ _ rs
  unfold full at h
  split at h
  ·rename_i hc
   cases h
   refine wpAny_truthy_list ht.isList (by have := le hc; have := rs.length; simp; omega) ?_
   rw [q5d rs.length]
   exact hQ _ (by omega)
  ·cases h
 ·cases h
 ·rename_i j l e
  split at h
  ·rename_i vs ho
   have q := i.at_ j l _ e ho
   cases q with
   | list hp rs hcap =>
    unfold full at h
    rw [if_pos hcap] at h
    cases h
    refine wpAny_truthy_list hp.isList (by have := le hcap; have := rs.length; simp; omega) ?_
    rw [q5d rs.length]
    exact hQ _ (by omega)
  ·cases h
 all_goals cases h
end Ev
end
section
namespace Ev
variable {B : Base} {prog : Program} {w : World} {A : Around} {F : Addr -> Prop} {s : Shared} {as : List Addr} {st : St}
theorem Reps.get {h : Heap} : ∀ {vs xs} {k : Nat} {v : V}, Reps B h as F vs xs -> vs[k]? = some v -> ∃ x, xs[k]? = some x /\ Rep B h as F v x
 | _, _, 0, v, .cons r _, e => by simp at e; subst e; exact ⟨_, rfl, r⟩
 | _, _, k + 1, v, .cons _ rs, e => by
  rw [List.getElem?_cons_succ] at e
  obtain ⟨x, hx, r⟩ := Reps.get rs e
  exact ⟨x, by rw [List.getElem?_cons_succ]; exact hx, r⟩
theorem qce {l : Addr} {vs : List V} {xs : List Value} {i : Int} {t : Tok} {k : Nat} {v : V} (hl : s.heap.IsList l xs.toArray) (rs : Reps B s.heap as F vs xs) (hi : idx vs.length i = some k) (hv : vs[k]? = some v)
  {Q : Value -> Shared -> Prop} {E : Value -> Shared -> Prop} (hQ : ∀ x, Rep B s.heap as F v x -> Q x s) : wpAny (model prog w) A (getItem (.ref l) (.int i t)) Q E s := by
 obtain ⟨x, hx, r⟩ := rs.get hv
 have hlen := rs.length
 unfold idx cap at hi
 split at hi
 ·split at hi
  ·split at hi
   ·cases hi
    exact wpAny_getItem_list hl (by omega) (by omega) (by simpa using hx) (hQ x r)
   ·cases hi
  ·split at hi
   ·cases hi
    refine wpAny_getItem_list_neg hl (by omega) (by simp; omega) (by omega) ?_ (hQ x r)
    simp only [List.size_toArray, List.getElem?_toArray]
    rw [<- hlen]; exact hx
   ·cases hi
 ·cases hi
theorem qls {n k : Nat} {i : Int} (h : idx n i = some k) : seqIndex? i n = some k /\ -(2 ^ 63 : Int) <= i /\ i < 2 ^ 63 := by
 unfold idx cap at h
 unfold seqIndex?
 split at h
 ·split at h
  ·split at h
   ·cases h
    refine ⟨?_, by omega, by omega⟩
    have e : (if i < 0 then i + (n : Int) else i) = i := if_neg (by omega)
    simp only [e]
    rw [if_pos (by simp; omega)]
   ·cases h
  ·split at h
   ·cases h
    refine ⟨?_, by omega, by omega⟩
    have e : (if i < 0 then i + (n : Int) else i) = i + n := if_pos (by omega)
    simp only [e]
    rw [if_pos (by simp; omega)]
   ·cases h
 ·cases h
theorem qih {l : Addr} {vs : List V} {xs : List Value} {i : Int} {t : Tok} {k : Nat} {v : V} (hl : s.heap.IsTuple l xs.toArray) (rs : Reps B s.heap as F vs xs) (hi : idx vs.length i = some k) (hv : vs[k]? = some v)
  {Q : Value -> Shared -> Prop} {E : Value -> Shared -> Prop} (hQ : ∀ x, Rep B s.heap as F v x -> Q x s) : wpAny (model prog w) A (getItem (.ref l) (.int i t)) Q E s := by
 obtain ⟨x, hx, r⟩ := rs.get hv
 obtain ⟨h1, h2, h3⟩ := qls hi
 exact PyProof.Rows.getItem_tuple hl h2 h3 (by simpa [rs.length] using h1) (by simpa using hx) (hQ x r)
theorem qom {l : List Nat} {i : Int} {t u : Tok} {k c : Nat} (hi : idx l.length i = some k) (hv : l[k]? = some c)
  {Q : Value -> Shared -> Prop} {E : Value -> Shared -> Prop} (hQ : Q (.str (S [c]) s.toks) { s with toks := s.toks + 1 }) : wpAny (model prog w) A (getItem (.str (S l) u) (.int i t)) Q E s := by
 obtain ⟨h1, h2, h3⟩ := qls hi
 refine PyProof.Rows.getItem_str (c := c) (by simp; omega) ?_ hQ
 rw [q12, h1]
 simpa [S] using hv
end Ev
end
section
namespace Ev
variable {B : Base} {prog : Program} {w : World} {A : Around} {F : Addr -> Prop} {s : Shared} {as : List Addr} {st : St}
theorem qfe {v : V} {x : Value} {n : Nat} {d : Int} {k : Nat} (r : Rep B s.heap as F v x) (h : q3m n d v = some k) : ∃ o : Option Int, IsPart x o /\ k = o.elim d.toNat (clipAt n) := by
 cases r <;> simp only [q3m] at h <;> cases h
 ·exact ⟨none, .none, rfl⟩
 ·rename_i i t
  refine ⟨some i, .int i t, ?_⟩
  have := clipAt_cast n i
  show _ = clipAt n i
  split <;> rename_i hi
  ·rw [if_pos hi] at this; omega
  ·rw [if_neg hi] at this; omega
theorem qix {α : Type} (l : List α) (x y : Nat) : (l.drop x).take (y - x) = (l.take y).drop x := by
 rw [List.drop_take]
end Ev
namespace Ev
variable {B : Base} {prog : Program} {w : World} {A : Around} {F : Addr -> Prop} {s : Shared} {as : List Addr} {st : St}
theorem Reps.drop {h : Heap} : ∀ {vs xs} (k : Nat), Reps B h as F vs xs -> Reps B h as F (vs.drop k) (xs.drop k)
 | _, _, 0, r => r
 | _, _, _ + 1, .nil => .nil
 | _, _, k + 1, .cons _ r => Reps.drop k r
theorem Reps.take {h : Heap} : ∀ {vs xs} (k : Nat), Reps B h as F vs xs -> Reps B h as F (vs.take k) (xs.take k)
 | _, _, 0, _ => .nil
 | _, _, _ + 1, .nil => .nil
 | _, _, k + 1, .cons a r => .cons a (Reps.take k r)
theorem qi2 {l sl : Addr} {vs us : List V} {xs : List Value} {a b : V} {va vb : Value} (hl : s.heap.IsList l xs.toArray) (rs : Reps B s.heap as F vs xs) (hs : s.heap.IsSliceOf sl va vb .none)
  (ra : Rep B s.heap as F a va) (rb : Rep B s.heap as F b vb) (hc : cut vs a b = some us)
  {Q : Value -> Shared -> Prop} {E : Value -> Shared -> Prop} (hQ : ∀ ys, Reps B s.heap as F us ys -> Q (.ref s.heap.objs.size) { s with heap := s.heap.push { cls := .type "list", data := .seq ys.toArray } }) :
  wpAny (model prog w) A (getItem (.ref l) (.ref sl)) Q E s := by
 unfold cut at hc
 split at hc
 ·cases hc
 rename_i hcap
 cases h1 : q3m vs.length 0 a with
 | none => rw [h1] at hc; cases hc
 | some x =>
  cases h2 : q3m vs.length vs.length b with
  | none => rw [h1, h2] at hc; cases hc
  | some y =>
   rw [h1, h2] at hc
   cases hc
   obtain ⟨o1, p1, e1⟩ := qfe ra h1
   obtain ⟨o2, p2, e2⟩ := qfe rb h2
   refine wpAny_getItem_list_slice hl hs p1 p2 .none (by simp) ?_ (by have := q18 (Nat.not_lt.mp hcap); have := rs.length; simp; omega)
   rw [slicePick_plain]
   have hn : xs.toArray.size = vs.length := by simp [rs.length]
   rw [hn]
   have e1' : o1.elim 0 (clipAt vs.length) = x := by cases o1 <;> simpa using e1.symm
   have e2' : o2.elim vs.length (clipAt vs.length) = y := by cases o2 <;> simpa using e2.symm
   rw [e1', e2']
   simp only [qix]
   exact hQ _ (Reps.drop x (Reps.take y rs))
end Ev
namespace Ev
variable {B : Base} {prog : Program} {w : World} {A : Around} {F : Addr -> Prop} {s : Shared} {as : List Addr} {st : St}
theorem Reps.append {h : Heap} : ∀ {vs xs us ys}, Reps B h as F vs xs -> Reps B h as F us ys -> Reps B h as F (vs ++ us) (xs ++ ys)
 | _, _, _, _, .nil, r => r
 | _, _, _, _, .cons a r, t => .cons a (Reps.append r t)
theorem Reps.reverse {h : Heap} : ∀ {vs xs}, Reps B h as F vs xs -> Reps B h as F vs.reverse xs.reverse
 | _, _, .nil => .nil
 | _, _, .cons a r => by
  rw [List.reverse_cons, List.reverse_cons]
  exact (Reps.reverse r).append (.cons a .nil)
theorem qo2 {l sl : Addr} {vs : List V} {xs : List Value} {t : Tok} (hl : s.heap.IsList l xs.toArray) (rs : Reps B s.heap as F vs xs) (hs : s.heap.IsSliceOf sl .none .none (.int (-1) t)) (hcap : vs.length <= cap)
  {Q : Value -> Shared -> Prop} {E : Value -> Shared -> Prop} (hQ : ∀ ys, Reps B s.heap as F vs.reverse ys -> Q (.ref s.heap.objs.size) { s with heap := s.heap.push { cls := .type "list", data := .seq ys.toArray } }) :
  wpAny (model prog w) A (getItem (.ref l) (.ref sl)) Q E s := by
 refine wpAny_getItem_list_slice hl hs .none .none (.int _ _) (by simp) ?_ (by have := q18 hcap; have := rs.length; simp; omega)
 rw [krv_pick]
 exact hQ _ rs.reverse
end Ev
end
section
namespace Ev
theorem qim (l : List Nat) (lo hi : Option Int) :
  ((Builtin.Str.strSliceIndices lo hi 1 l.length).filterMap ((S l).cps[·]?)) = (l.take (hi.elim l.length (clipAt l.length))).drop (lo.elim 0 (clipAt l.length)) := by
 have e : Builtin.Str.strSliceIndices lo hi 1 l.length = sliceRange ((lo.elim 0 (clipAt l.length) : Nat) : Int) ((hi.elim l.length (clipAt l.length) : Nat) : Int) 1 := by
  cases lo <;> cases hi <;> simp [Builtin.Str.strSliceIndices, clipAt_cast]
 rw [e, sliceRange_one, pick_run, <- qix]
 simp [S]
end Ev
namespace Ev
variable {B : Base} {prog : Program} {w : World} {A : Around} {F : Addr -> Prop} {s : Shared} {as : List Addr} {st : St}
theorem qfz {v : V} {x : Value} {n : Nat} {d : Int} {k : Nat} (r : Rep B s.heap as F v x) (h : q3m n d v = some k) : ∃ o : Option (Int × Tok), x = partValue o /\ k = (o.map (·.1)).elim d.toNat (clipAt n) := by
 obtain ⟨o, p, e⟩ := qfe r h
 cases p with
 | none => exact ⟨none, rfl, e⟩
 | int i t => exact ⟨some (i, t), rfl, e⟩
theorem qkp {sl : Addr} {l us : List Nat} {t : Tok} {a b : V} {va vb : Value} {o : Obj} (ho : s.heap.get? sl = some o) (hoc : o.cls = .type "slice") (hod : o.data = .fields #[va, vb, .none])
  (ra : Rep B s.heap as F a va) (rb : Rep B s.heap as F b vb) (hc : cut l a b = some us)
  {Q : Value -> Shared -> Prop} {E : Value -> Shared -> Prop} (hQ : ∀ t' tk, s.toks <= tk -> Q (.str (S us) t') { s with toks := tk }) :
  wpAny (model prog w) A (getItem (.str (S l) t) (.ref sl)) Q E s := by
 unfold cut at hc
 split at hc
 ·cases hc
 rename_i hcap
 cases h1 : q3m l.length 0 a with
 | none => rw [h1] at hc; cases hc
 | some x =>
  cases h2 : q3m l.length l.length b with
  | none => rw [h1, h2] at hc; cases hc
  | some y =>
   rw [h1, h2] at hc
   cases hc
   obtain ⟨o1, rfl, e1⟩ := qfz ra h1
   obtain ⟨o2, rfl, e2⟩ := qfz rb h2
   refine wpAny_getItem_str_slice (l := o1) (u := o2) (st := none) ⟨o, ho, hoc, hod⟩ rfl ?_
   have e1' : (o1.map (·.1)).elim 0 (clipAt l.length) = x := by cases o1 <;> simpa using e1.symm
   have e2' : (o2.map (·.1)).elim l.length (clipAt l.length) = y := by cases o2 <;> simpa using e2.symm
   have hp := qim l (o1.map (·.1)) (o2.map (·.1))
   rw [e1', e2'] at hp
   unfold sliceMade slicePicked
   rw [q12]
   have hlen : ∀ o1 o2 : Option Int, ((Builtin.Str.strSliceIndices o1 o2 1 l.length).filterMap ((S l).cps[·]?)).length = (Builtin.Str.strSliceIndices o1 o2 1 l.length).length := by
    intro o1 o2
    have e : Builtin.Str.strSliceIndices o1 o2 1 l.length = sliceRange ((o1.elim 0 (clipAt l.length) : Nat) : Int) ((o2.elim l.length (clipAt l.length) : Nat) : Int) 1 := by
     cases o1 <;> cases o2 <;> simp [Builtin.Str.strSliceIndices, clipAt_cast]
    have hb : o2.elim l.length (clipAt l.length) <= l.length := by
     cases o2 with
     | none => exact Nat.le_refl _
     | some i => have := clipAt_cast l.length i; show clipAt l.length i <= _; omega
    rw [e, sliceRange_one, pick_run]
    simp [S]
    omega
   simp only [show ((none : Option (Int × Tok)).map (·.1)).getD 1 = (1 : Int) from rfl]
   by_cases hq : (((1 : Int) == 1 && (Builtin.Str.strSliceIndices (o1.map (·.1)) (o2.map (·.1)) 1 l.length).length == l.length) = true)
   ·rw [if_pos hq]
    have hl : ((l.take y).drop x).length = l.length := by rw [<- hp, hlen]; simpa using hq
    have : (l.take y).drop x = l := by
     have hx : x = 0 \/ l = [] := by
      rw [List.length_drop, List.length_take] at hl
      rcases l with _ | ⟨c, r⟩
      ·exact Or.inr rfl
      ·left; simp at hl; omega
     rcases hx with rfl | rfl
     ·rw [List.drop_zero] at hl ⊢
      exact List.take_of_length_le (by rw [List.length_take] at hl; omega)
     ·simp
    rw [this] at hQ
    exact hQ t s.toks (Nat.le_refl _)
   ·rw [if_neg hq]
    show _ /\ _
    refine ⟨?_, ?_⟩
    ·show (List.toArray _).size <= _
     rw [hp]
     have := q18 (Nat.not_lt.mp hcap)
     simp; omega
    ·rw [hp]; exact hQ _ _ (Nat.le_succ _)
end Ev
end
section
namespace Ev
variable {B : Base} {prog : Program} {w : World} {A : Around} {F : Addr -> Prop} {s : Shared} {as : List Addr} {st : St}
theorem ObjRep.get {h : Heap} {a : Addr} {o : O} (r : ObjRep (B := B) h as F a o) : ∃ x, h.get? a = some x := by
 cases r with
 | list hp _ _ => obtain ⟨o, n, hn, _⟩ := hp; exact ⟨_, hn⟩
 | dict hd _ _ _ => exact ⟨_, hd⟩
theorem Inv.live {h : Heap} (i : Inv B h as F st) {a : Addr} (ha : a ∈ as) : ∃ x, h.get? a = some x := by
 obtain ⟨k, hk, e⟩ := List.getElem_of_mem ha
 have hk' : k < st.length := i.len ▸ hk
 exact (i.at_ k a st[k] (by rw [List.getElem?_eq_getElem hk, e]) (by rw [List.getElem?_eq_getElem hk'])).get
theorem q0a (h : Heap) : h.get? h.objs.size = none := by
 cases e : h.get? h.objs.size with
 | none => rfl
 | some o => exact absurd (Heap.lt_size e) (Nat.lt_irrefl _)
theorem Inv.fresh {h : Heap} (i : Inv B h as F st) {a : Addr} (ha : h.get? a = none) : a ∉ as /\ ¬ F a :=
 ⟨fun hm => (by obtain ⟨x, hx⟩ := i.live hm; rw [ha] at hx; cases hx), fun hF => (by obtain ⟨x, hx⟩ := i.liveF _ hF; rw [ha] at hx; cases hx)⟩
theorem ObjRep.mono {h h' : Heap} {as as' : List Addr} {F F' : Addr -> Prop} {a : Addr} {o : O} (hp : as <+: as') (hk : ∀ a o, h.get? a = some o -> a ∉ as -> ¬ F a -> h'.get? a = some o /\ a ∉ as' /\ ¬ F' a)
  (hs : ∀ x, h.get? a = some x -> h'.get? a = some x) (r : ObjRep (B := B) h as F a o) : ObjRep (B := B) h' as' F' a o := by
 cases r with
 | list hp' rs hc => obtain ⟨o, n, hn, r⟩ := hp'; exact .list ⟨o, n, hs _ hn, r⟩ (rs.mono hp hk) hc
 | dict hd r1 r2 r3 => exact .dict (hs _ hd) (r1.mono hp hk) (r2.mono hp hk) r3
theorem Inv.keeps {h h' : Heap} (i : Inv B h as F st) (hk : ∀ a o, h.get? a = some o -> h'.get? a = some o) : Inv B h' as F st where
 len := i.len
 nodup := i.nodup
 at_ := fun k a o e e' => (i.at_ k a o e e').mono (List.prefix_refl _) (fun a o h1 h2 h3 => ⟨hk a o h1, h2, h3⟩) (hk a)
 apart := i.apart
 liveF := fun a ha => let ⟨o, ho⟩ := i.liveF a ha; ⟨o, hk a o ho⟩
 base := fun a o e => let b := i.base a o e; ⟨hk _ _ b.1, b.2⟩
theorem Ext.keeps {G : Addr -> Prop} {h h' : Heap} (hk : ∀ a o, h.get? a = some o -> h'.get? a = some o) : Ext G h as h' as :=
 ⟨List.prefix_refl _, fun _ x => .inl x, fun a o e _ _ => hk a o e, fun a o e => ⟨o, hk a o e⟩⟩
theorem Ext.weak {G G' : Addr -> Prop} {h h' : Heap} {as' : List Addr} (x : Ext G h as h' as') (hG : ∀ a, G a -> G' a) : Ext G' h as h' as' :=
 ⟨x.pre, x.new, fun a o e ha hg => x.keep a o e ha fun g => hg (hG a g), x.live⟩
theorem q07 (h : Heap) (o : Obj) : ∀ a x, h.get? a = some x -> (h.push o).get? a = some x := fun _ _ e => Heap.get?_push_of_some _ e
theorem Inv.push {h : Heap} (i : Inv B h as F st) (o : Obj) : Inv B (h.push o) as F st := i.keeps (q07 h o)
theorem Ext.push {G : Addr -> Prop} (h : Heap) (o : Obj) : Ext G h as (h.push o) as := .keeps (q07 h o)
theorem Rep.keeps {h h' : Heap} (hk : ∀ a o, h.get? a = some o -> h'.get? a = some o) {v x} (r : Rep B h as F v x) : Rep B h' as F v x :=
 r.mono (List.prefix_refl _) fun a o h1 h2 h3 => ⟨hk a o h1, h2, h3⟩
theorem Reps.keeps {h h' : Heap} (hk : ∀ a o, h.get? a = some o -> h'.get? a = some o) {v x} (r : Reps B h as F v x) : Reps B h' as F v x :=
 r.mono (List.prefix_refl _) fun a o h1 h2 h3 => ⟨hk a o h1, h2, h3⟩
theorem q5s {h : Heap} (i : Inv B h as F st) {vs : List V} {xs : List Value} (rs : Reps B h as F vs xs) :
  Rep B (h.push { cls := .type "list", data := .seq xs.toArray }) as F (.lst vs) (.ref h.objs.size) :=
 let f := i.fresh (q0a h)
 .lst ⟨_, _, Heap.get?_push_size _ rfl, rfl, rfl, rfl⟩ f.1 f.2 (rs.keeps (q07 _ _))
theorem qde {h : Heap} (i : Inv B h as F st) {vs : List V} {xs : List Value} (rs : Reps B h as F vs xs) :
  Rep B (h.push { cls := .type "tuple", data := .seq xs.toArray }) as F (.tup vs) (.ref h.objs.size) :=
 let f := i.fresh (q0a h)
 .tup ⟨_, Heap.get?_push_size _ rfl, rfl, _, rfl⟩ f.1 f.2 (rs.keeps (q07 _ _))
theorem Ext.grow {G : Addr -> Prop} (h : Heap) (o : Obj) : Ext G h as (h.push o) (as ++ [h.objs.size]) :=
 ⟨⟨_, rfl⟩, fun a ha => (List.mem_append.mp ha).imp id fun e => by rw [List.mem_singleton.mp e]; exact q0a h, fun a x e _ _ => q07 h o a x e, fun a x e => ⟨x, q07 h o a x e⟩⟩
theorem q6w {h : Heap} (o : Obj) : ∀ a x, h.get? a = some x -> a ∉ as -> ¬ F a -> (h.push o).get? a = some x /\ a ∉ as ++ [h.objs.size] /\ ¬ F a := fun a x e ha hF =>
 ⟨q07 h o a x e, fun hm => (List.mem_append.mp hm).elim ha fun q => (by rw [List.mem_singleton.mp q, q0a] at e; cases e), hF⟩
theorem Inv.grow {h : Heap} (i : Inv B h as F st) {o : Obj} {v : O} (r : ObjRep (B := B) (h.push o) (as ++ [h.objs.size]) F h.objs.size v) : Inv B (h.push o) (as ++ [h.objs.size]) F (st ++ [v]) where
 len := by simp [i.len]
 nodup := List.nodup_append.mpr ⟨i.nodup, by simp, fun a ha b hb e => by
  rw [List.mem_singleton.mp hb] at e; exact (i.fresh (q0a h)).1 (e ▸ ha)⟩
 at_ := fun k a x e e' => by
  by_cases hk : k < as.length
  ·rw [List.getElem?_append_left hk] at e
   rw [List.getElem?_append_left (i.len ▸ hk)] at e'
   exact (i.at_ k a x e e').mono ⟨_, rfl⟩ (q6w o) (q07 h o a)
  ·have hk' : ¬ k < st.length := i.len ▸ hk
   rw [List.getElem?_append_right (by omega)] at e e'
   have h0 : k - as.length = 0 := by
    have := (List.getElem?_eq_some_iff.mp e).1
    simpa using this
   have h1 : k - st.length = 0 := by rw [<- i.len]; exact h0
   rw [h0] at e; rw [h1] at e'
   simp at e e'
   subst e; subst e'
   exact r
 apart := fun a ha hF => (List.mem_append.mp ha).elim (fun h => i.apart a h hF) fun h => (i.fresh (q0a _)).2 (by rw [<- List.mem_singleton.mp h]; exact hF)
 liveF := fun a ha => let ⟨x, hx⟩ := i.liveF a ha; ⟨x, q07 h o a x hx⟩
 base := fun a x e => let b := i.base a x e; q6w o a x b.1 b.2.1 b.2.2
theorem Inv.growList {h : Heap} (i : Inv B h as F st) {vs : List V} {xs : List Value} (rs : Reps B h as F vs xs) (hc : vs.length <= cap) :
  Inv B (h.push { cls := .type "list", data := .seq xs.toArray }) (as ++ [h.objs.size]) F (st ++ [.list vs]) :=
 i.grow (.list ⟨_, _, Heap.get?_push_size _ rfl, rfl, rfl, rfl⟩ (rs.mono ⟨_, rfl⟩ (q6w _)) hc)
theorem qdq : ∀ {l : List Addr} {i j : Nat} {a : Addr}, l.Nodup -> l[i]? = some a -> l[j]? = some a -> i = j
 | [], _, _, _, _, h, _ => by simp at h
 | x :: r, 0, 0, _, _, _, _ => rfl
 | x :: r, 0, j + 1, a, hn, h, h' => by
  simp at h h'
  exact absurd (h ▸ List.mem_of_getElem? h') (List.nodup_cons.mp hn).1
 | x :: r, i + 1, 0, a, hn, h, h' => by
  simp at h h'
  exact absurd (h' ▸ List.mem_of_getElem? h) (List.nodup_cons.mp hn).1
 | x :: r, i + 1, j + 1, a, hn, h, h' => by
  simp at h h'
  exact congrArg (· + 1) (qdq (List.nodup_cons.mp hn).2 h h')
theorem Inv.atS {h h' : Heap} {a₀ : Addr} {r : Nat} {o₀ : O} (i : Inv B h as F st) (hr : as[r]? = some a₀) (hk : ∀ a o, a ≠ a₀ -> h.get? a = some o -> h'.get? a = some o)
  (ho : ObjRep (B := B) h' as F a₀ o₀) : Inv B h' as F (st.set r o₀) where
 len := by simp [i.len]
 nodup := i.nodup
 at_ := fun k a o e e' => by
  by_cases q : k = r
  ·subst q
   rw [hr] at e; cases e
   rw [List.getElem?_set_self' ] at e'
   cases hst : st[k]? with
   | none => rw [hst] at e'; cases e'
   | some z => rw [hst] at e'; cases e'; exact ho
  ·rw [List.getElem?_set_ne (Ne.symm q)] at e'
   have hne : a ≠ a₀ := fun x => q (by
    subst x
    exact qdq i.nodup e hr)
   exact (i.at_ k a o e e').mono (List.prefix_refl _) (fun b x h1 h2 h3 => ⟨hk b x (fun z => h2 (z ▸ List.mem_of_getElem? hr)) h1, h2, h3⟩) (fun x hx => hk a x hne hx)
 apart := i.apart
 liveF := fun a ha => let ⟨o, ho⟩ := i.liveF a ha; ⟨o, hk a o (fun q => i.apart a₀ (List.mem_of_getElem? hr) (q ▸ ha)) ho⟩
 base := fun a o e => let b := i.base a o e; ⟨hk _ _ (fun q => b.2.1 (q ▸ List.mem_of_getElem? hr)) b.1, b.2⟩
theorem Ext.atS {G : Addr -> Prop} {h h' : Heap} {a₀ : Addr} {r : Nat} (hr : as[r]? = some a₀) (hk : ∀ a o, a ≠ a₀ -> h.get? a = some o -> h'.get? a = some o) (hl : ∃ o, h'.get? a₀ = some o) : Ext G h as h' as :=
 ⟨List.prefix_refl _, fun _ x => .inl x, fun a o e ha _ => hk a o (fun q => ha (q ▸ List.mem_of_getElem? hr)) e, fun a o e => by
  by_cases q : a = a₀
  ·exact q ▸ hl
  ·exact ⟨o, hk a o q e⟩⟩
theorem Reps.atS {h h' : Heap} {a₀ : Addr} {r : Nat} (hr : as[r]? = some a₀) (hk : ∀ a o, a ≠ a₀ -> h.get? a = some o -> h'.get? a = some o) {vs xs} (rs : Reps B h as F vs xs) : Reps B h' as F vs xs :=
 rs.mono (List.prefix_refl _) fun a o h1 h2 h3 => ⟨hk a o (fun z => h2 (z ▸ List.mem_of_getElem? hr)) h1, h2, h3⟩
theorem Rep.atS {h h' : Heap} {a₀ : Addr} {r : Nat} (hr : as[r]? = some a₀) (hk : ∀ a o, a ≠ a₀ -> h.get? a = some o -> h'.get? a = some o) {v x} (rs : Rep B h as F v x) : Rep B h' as F v x :=
 rs.mono (List.prefix_refl _) fun a o h1 h2 h3 => ⟨hk a o (fun z => h2 (z ▸ List.mem_of_getElem? hr)) h1, h2, h3⟩
end Ev
end
section
namespace Ev
structure Room (A : Around) (n : Nat) : Prop where
 hh : A.handled = none
 depth : A.depth + 3 * n < recursionLimit
 units : A.units + 10 * n + 40 < cLine
variable {B : Base} {prog : Program} {w : World} {A : Around} {F : Addr -> Prop} {s : Shared} {as : List Addr} {st : St} {Γ : Ctx} {env : Env} {ρ : Fr}
noncomputable def OkAt {α β : Type} (B : Base) (prog : Program) (w : World) (A : Around) (F : Addr -> Prop) (env : Env) (ρ : Fr) (R : Heap -> List Addr -> α -> β -> Prop) (t : Sem β) (m : EvM α) : Prop :=
 ∀ s as st, FrRep B s.heap as F env ρ -> Inv B s.heap as F st -> Sim B prog w A F no R t m s as st
abbrev OkV (B : Base) (prog : Program) (w : World) (A : Around) (F : Addr -> Prop) (env : Env) (ρ : Fr) (t : Sem Value) (m : EvM V) : Prop := OkAt B prog w A F env ρ (RV B F) t m
abbrev RB : Heap -> List Addr -> Bool -> Bool -> Prop := fun _ _ a b => a = b
theorem FrRep.on {h h' : Heap} {as as' : List Addr} (f : FrRep B h as F env ρ) (i : Inv B h as F st) (x : Ext no h as h' as') : FrRep B h' as' F env ρ := f.ext (fun a ha => i.apart a ha) x
theorem Ext.repv {h h' : Heap} {as as' : List Addr} (x : Ext no h as h' as') {v : V} {y : Value} (r : Rep B h as F v y) : Rep B h' as' F v y := x.rep (fun _ f => f.elim) r
theorem Ext.reps {h h' : Heap} {as as' : List Addr} (x : Ext no h as h' as') : ∀ {v : List V} {y : List Value}, Reps B h as F v y -> Reps B h' as' F v y
 | _, _, .nil => .nil
 | _, _, .cons r rs => .cons (x.repv r) (x.reps rs)
theorem q0s {α : Type} {f : St -> Option α} {st st' : St} {v : α} (h : rd f st = some (v, st')) : f st = some v /\ st' = st := by
 unfold rd at h
 cases hf : f st with
 | none => rw [hf] at h; cases h
 | some a => rw [hf] at h; cases h; exact ⟨rfl, rfl⟩
theorem q03 {α : Type} {a v : α} {st st' : St} (h : (pure a : EvM α) st = some (v, st')) : a = v /\ st' = st := by
 cases h; exact ⟨rfl, rfl⟩
theorem q02 {α : Type} {v : α} {st st' : St} (h : (bad : EvM α) st = some (v, st')) : False := by cases h
theorem q3n {h : Heap} (i : Inv B h as F st) {a : V} {x : Value} {vs : List V} (ra : Rep B h as F a x) (hv : q1v st a = some vs) : ∃ ad xs, x = .ref ad /\ h.IsList ad xs.toArray /\ Reps B h as F vs xs := by
 cases ra <;> simp only [q1v] at hv <;> first | (cases hv; done) | skip
 ·cases hv; rename_i xs ad hl _ _ rs; exact ⟨_, _, rfl, hl.isList, rs⟩
 ·rename_i j ad e
  split at hv
  ·rename_i ws ho
   cases hv
   have q := i.at_ j ad _ e ho
   cases q with
   | list hp rs _ => exact ⟨_, _, rfl, hp.isList, rs⟩
  ·cases hv
theorem qkq {vs : List V} {v : V} (h : lstV vs = some v) : v = .lst vs /\ vs.length <= cap := by
 unfold lstV at h; split at h
 ·rename_i hc; cases h; exact ⟨rfl, hc⟩
 ·cases h
theorem qoi {l b : Addr} {vs ws : List Value} {Q : Value -> Shared -> Prop} {E : Value -> Shared -> Prop} (hl : s.heap.IsList l vs.toArray) (hb : s.heap.IsList b ws.toArray)
  (h : Q (.ref s.heap.objs.size) { s with heap := s.heap.push { cls := .type "list", data := .seq (vs ++ ws).toArray } }) (hsz : vs.length + ws.length <= sizeLine) :
  wpAny (model prog w) A (binaryOp .Add (.ref l) (.ref b)) Q E s := by
 obtain ⟨⟨cls, dd, data, sl⟩, ho, hc, n, hd⟩ := id hl
 obtain ⟨⟨cls2, dd2, data2, sl2⟩, ho2, hc2, n2, hd2⟩ := id hb
 simp only at hc hd hc2 hd2
 subst hc hd hc2 hd2
 have e : vs.toArray ++ ws.toArray = (vs ++ ws).toArray := by simp
 refine concat_meets ⟨_, ho, rfl⟩ ⟨_, ho2, rfl⟩ noFill_list_add seq_list_add PySem.F.slot_list_add PySem.F.entry_list_add (PySem.F.args_list_add_2 _ _) (list_addW l b vs.toArray ws.toArray n n2 dd dd2 sl sl2 (by simpa using hsz)) ⟨ho, ho2, ?_⟩
 rw [e]
 exact h
theorem Reps.app {h : Heap} : ∀ {vs ws : List V} {xs ys : List Value}, Reps B h as F vs xs -> Reps B h as F ws ys -> Reps B h as F (vs ++ ws) (xs ++ ys)
 | _, _, _, _, .nil, r => r
 | _, _, _, _, .cons a r, q => .cons a (r.app q)
theorem qpj {op : Operator} {a b v : V} {x y : Value} (i : Inv B s.heap as F st) (ra : Rep B s.heap as F a x) (rb : Rep B s.heap as F b y) (hv : binV st op a b = some v)
  {Q : Value -> Shared -> Prop} {E : Value -> Shared -> Prop} (hQ : ∀ z h' tk, Rep B h' as F v z -> Inv B h' as F st -> Ext no s.heap as h' as -> s.toks <= tk -> Q z { s with heap := h', toks := tk }) : wpAny (model prog w) A (binaryOp op x y) Q E s := by
 unfold binV at hv
 split at hv
 ·rename_i v' hb
  cases hv
  exact qid ra rb hb fun z tk ht hr => hQ z s.heap tk (hr _ _ _) i (Ext.refl _ _ _) ht
 ·split at hv
  ·cases h1 : q1v st a with
   | none => rw [h1] at hv; cases hv
   | some vs =>
    cases h2 : q1v st b with
    | none => rw [h1, h2] at hv; cases hv
    | some ws =>
     rw [h1, h2] at hv
     have hv' : lstV (vs ++ ws) = some v := hv
     obtain ⟨rfl, hc⟩ := qkq hv'
     obtain ⟨l, xs, rfl, hl, rs⟩ := q3n i ra h1
     obtain ⟨l2, ys, rfl, hl2, rs2⟩ := q3n i rb h2
     refine qoi hl hl2 ?_ (by rw [<- rs.length, <- rs2.length, <- List.length_append]; exact q18 hc)
     exact hQ _ _ s.toks (q5s i (rs.app rs2)) (i.push _) (Ext.push _ _) (Nat.le_refl _)
  ·cases hv
theorem r5v {op : UnaryOp} {a v : V} {x : Value} (i : Inv B s.heap as F st) (ra : Rep B s.heap as F a x) (hv : unV st op a = some v)
  {Q : Value -> Shared -> Prop} {E : Value -> Shared -> Prop} (hQ : ∀ z tk, Rep B s.heap as F v z -> s.toks <= tk -> Q z { s with toks := tk }) : wpAny (model prog w) A (unaryOp op x) Q E s := by
 unfold unV at hv
 split at hv
 ·cases ra; cases hv; exact PyProof.Rows.neg_int (hQ _ _ (.int _ _) (Nat.le_succ _))
 ·cases ht : q26 st a with
  | none => rw [ht] at hv; cases hv
  | some t =>
   rw [ht] at hv; cases hv
   exact PyProof.Rows.not_of (qa2 i ra ht fun tk h => hQ _ tk (.bool _) h)
 ·cases hv
theorem qp6 {op : Operator} {a b v : V} {x y : Value} (ra : Rep B s.heap as F a x) (rb : Rep B s.heap as F b y) (hv : augV op a b = some v)
  {Q : Value -> Shared -> Prop} {E : Value -> Shared -> Prop} (hQ : ∀ z tk, s.toks <= tk -> (∀ h as F, Rep B h as F v z) -> Q z { s with toks := tk }) : wpAny (model prog w) A (inplaceOp op x y) Q E s := by
 have hi : ∀ i tk, s.toks <= tk -> v = .int i -> Q (.int i s.toks) { s with toks := tk } := fun i tk h e => hQ _ _ h fun _ _ _ => e ▸ .int i _
 unfold augV at hv
 split at hv <;> first | (cases hv; done) | (cases ra; cases rb)
 ·cases hv; exact PyProof.Rows.iadd_int (hi _ _ (Nat.le_succ _) rfl)
 ·unfold strV at hv
  split at hv
  ·rename_i l l' t hl t' hl' hs
   cases hv
   refine wpAny_with_toks (n := s.toks) (Nat.le_refl _) (PyProof.Rows.iadd_str (fun t' tk htk => ?_) (by rw [q12, q12, <- List.length_append]; exact q18 hs))
   exact hQ _ _ htk fun _ _ _ => by rw [qgv]; exact .str _ _ fun c hc => (List.mem_append.mp hc).elim (hl c) (hl' c)
  ·cases hv
 ·cases hv; exact PyProof.Rows.ior_int (hi _ _ (Nat.le_succ _) rfl)
 ·cases hv; exact PyProof.Rows.iand_int (hi _ _ (Nat.le_succ _) rfl)
theorem q3v (x : Str) : S x.cps.toList = x := by cases x; simp [S]
theorem qf3 {c : Const} {k : Nat} {pos : Pos} : OkV B prog w A F env ρ (eval (.Constant c k pos) env) (q01 Γ (.Constant c k pos) ρ) := by
 intro s as st f i v st' hv Q E hQ
 have fin : ∀ y tk, Rep B s.heap as F v y -> st' = st -> s.toks <= tk -> Q y { s with toks := tk } := fun y tk r e ht => hQ y s.heap as tk r (e ▸ i) (Ext.refl _ _ _) ht
 cases c <;> simp only [q01] at hv <;> first | exact (q02 hv).elim | skip
 ·obtain ⟨rfl, e⟩ := q03 hv; exact fun _ _ _ => fin _ _ .none e (Nat.le_refl _)
 ·obtain ⟨rfl, e⟩ := q03 hv; exact fun _ _ _ => fin _ _ (.bool _) e (Nat.le_refl _)
 ·obtain ⟨rfl, e⟩ := q03 hv; exact wpAny_Constant_int (fin _ _ (.int _ _) e (Nat.le_succ _))
 ·rename_i x
  split at hv
  ·rename_i hx
   obtain ⟨rfl, e⟩ := q03 hv
   refine Constant_str ?_
   have r : Rep B s.heap as F (.str x.cps.toList) (.str (S x.cps.toList) s.toks) := .str _ _ fun c hc => by
    simp only [Bool.and_eq_true] at hx
    have := Array.all_eq_true'.mp hx.1 c (by simpa using hc)
    simpa using this
   rw [q3v] at r
   exact fin _ _ r e (Nat.le_succ _)
  ·exact (q02 hv).elim
theorem qny {l r : Expr} {op : Operator} {pos : Pos} (hl : OkV B prog w A F env ρ (eval l env) (q01 Γ l ρ)) (hr : OkV B prog w A F env ρ (eval r env) (q01 Γ r ρ)) :
  OkV B prog w A F env ρ (eval (.BinOp l op r pos) env) (q01 Γ (.BinOp l op r pos) ρ) := by
 intro s as st f i v st' hv Q E hQ
 simp only [q01] at hv
 obtain ⟨a, st1, ha, hv⟩ := q00 hv
 obtain ⟨b, st2, hb, hv⟩ := q00 hv
 obtain ⟨hv, rfl⟩ := q0s hv
 refine wpAny_BinOp (hl s as st f i a st1 ha _ _ fun x h1 as1 tk1 ra i1 e1 ht1 => ?_)
 refine hr _ as1 st1 (f.on i e1) i1 b _ hb _ _ fun y h2 as2 tk2 rb i2 e2 ht2 => ?_
 exact qpj i2 (e2.repv ra) rb hv fun z h' tk rz i3 e3 ht3 => hQ z h' as2 tk rz i3 ((e1.trans e2).trans e3) (Nat.le_trans ht1 (Nat.le_trans ht2 ht3))
theorem qhm {x : Expr} {op : UnaryOp} {pos : Pos} (hx : OkV B prog w A F env ρ (eval x env) (q01 Γ x ρ)) : OkV B prog w A F env ρ (eval (.UnaryOp op x pos) env) (q01 Γ (.UnaryOp op x pos) ρ) := by
 intro s as st f i v st' hv Q E hQ
 simp only [q01] at hv
 obtain ⟨a, st1, ha, hv⟩ := q00 hv
 obtain ⟨hv, rfl⟩ := q0s hv
 refine wpAny_UnaryOp (hx s as st f i a _ ha _ _ fun x h1 as1 tk1 ra i1 e1 ht1 => ?_)
 exact r5v i1 ra hv fun z tk rz ht3 => hQ z h1 as1 tk rz i1 e1 (Nat.le_trans ht1 ht3)
abbrev OkB (B : Base) (prog : Program) (w : World) (A : Around) (F : Addr -> Prop) (env : Env) (ρ : Fr) (t : Sem Bool) (m : EvM Bool) : Prop := OkAt B prog w A F env ρ RB t m
theorem qnp {t b o : Expr} {pos : Pos} (ht : OkB B prog w A F env ρ (isTrue t env (eval t env)) (q0g Γ t ρ (q01 Γ t ρ)))
  (hb : OkV B prog w A F env ρ (eval b env) (q01 Γ b ρ)) (ho : OkV B prog w A F env ρ (eval o env) (q01 Γ o ρ)) : OkV B prog w A F env ρ (eval (.IfExp t b o pos) env) (q01 Γ (.IfExp t b o pos) ρ) := by
 intro s as st f i v st' hv Q E hQ
 simp only [q01] at hv
 obtain ⟨c, st1, hc, hv⟩ := q00 hv
 refine wpAny_IfExp (ht s as st f i c st1 hc _ _ fun x h1 as1 tk1 rx i1 e1 ht1 => ?_)
 have rx' : c = x := rx
 subst rx'
 split at hv
 ·rename_i hct
  rw [if_pos hct]
  exact hb _ as1 st1 (f.on i e1) i1 v st' hv _ _ fun y h2 as2 tk2 ry i2 e2 ht2 => hQ y h2 as2 tk2 ry i2 (e1.trans e2) (Nat.le_trans ht1 ht2)
 ·rename_i hct
  rw [if_neg hct]
  exact ho _ as1 st1 (f.on i e1) i1 v st' hv _ _ fun y h2 as2 tk2 ry i2 e2 ht2 => hQ y h2 as2 tk2 ry i2 (e1.trans e2) (Nat.le_trans ht1 ht2)
theorem qsp {x : Expr} {pos : Pos} {whole : Sem Value} {m : EvM V} (hx : OkB B prog w A F env ρ (isTrue x env (eval x env)) (q0g Γ x ρ (q01 Γ x ρ))) :
  OkB B prog w A F env ρ (isTrue (.UnaryOp .Not x pos) env whole) (q0g Γ (.UnaryOp .Not x pos) ρ m) := by
 intro s as st f i v st' hv Q E hQ
 simp only [q0g] at hv
 obtain ⟨c, st1, hc, hv⟩ := q00 hv
 obtain ⟨rfl, rfl⟩ := q03 hv
 refine wpAny_isTrue_Not (hx s as st f i c _ hc _ _ fun x h1 as1 tk1 rx i1 e1 ht1 => ?_)
 exact hQ _ h1 as1 tk1 (by have rx' : c = x := rx; rw [rx']) i1 e1 ht1
theorem qjl {t b o : Expr} {pos : Pos} {whole : Sem Value} {m : EvM V} (ht : OkB B prog w A F env ρ (isTrue t env (eval t env)) (q0g Γ t ρ (q01 Γ t ρ)))
  (hb : OkB B prog w A F env ρ (isTrue b env (eval b env)) (q0g Γ b ρ (q01 Γ b ρ))) (ho : OkB B prog w A F env ρ (isTrue o env (eval o env)) (q0g Γ o ρ (q01 Γ o ρ))) :
  OkB B prog w A F env ρ (isTrue (.IfExp t b o pos) env whole) (q0g Γ (.IfExp t b o pos) ρ m) := by
 intro s as st f i v st' hv Q E hQ
 simp only [q0g] at hv
 obtain ⟨c, st1, hc, hv⟩ := q00 hv
 unfold PySem.isTrue
 refine wpAny_bind (ht s as st f i c st1 hc _ _ fun x h1 as1 tk1 rx i1 e1 ht1 => ?_)
 have rx' : c = x := rx
 subst rx'
 split at hv
 ·rename_i hct
  rw [if_pos hct]
  exact hb _ as1 st1 (f.on i e1) i1 v st' hv _ _ fun y h2 as2 tk2 ry i2 e2 ht2 => hQ y h2 as2 tk2 ry i2 (e1.trans e2) (Nat.le_trans ht1 ht2)
 ·rename_i hct
  rw [if_neg hct]
  exact ho _ as1 st1 (f.on i e1) i1 v st' hv _ _ fun y h2 as2 tk2 ry i2 e2 ht2 => hQ y h2 as2 tk2 ry i2 (e1.trans e2) (Nat.le_trans ht1 ht2)
theorem ql2 {whole : Sem Value} {m : EvM V} {p : Pos} (hw : OkV B prog w A F env ρ whole m) :
  OkB B prog w A F env ρ (do let v <- whole; standAt p; holding [v] (truthy v)) (do let v <- m; rd fun st => q26 st v) := by
 intro s as st f i v st' hv Q E hQ
 obtain ⟨c, st1, hc, hv⟩ := q00 hv
 obtain ⟨hv, rfl⟩ := q0s hv
 refine wpAny_bind (hw s as st f i c _ hc _ _ fun x h1 as1 tk1 rx i1 e1 ht1 => ?_)
 refine wpAny_bind (wpAny_standAt (wpAny_holding ?_))
 exact qa2 i1 rx hv fun tk ht2 => hQ v h1 as1 tk rfl i1 e1 (Nat.le_trans ht1 ht2)
end Ev
end
section
namespace Ev
variable {B : Base} {prog : Program} {w : World} {A : Around} {F : Addr -> Prop} {s : Shared} {as : List Addr} {st : St} {Γ : Ctx} {env : Env} {ρ : Fr}
theorem qnw {op : CmpOp} (e : Expr) : behindInMarks op e = false \/ ∃ es k p, e = .Set es k p := by
 cases e <;> first | exact .inr ⟨_, _, _, rfl⟩ | exact .inl rfl
theorem qu5 {es : List Expr} {k : Nat} {p : Pos} : q01 Γ (.Set es k p) ρ = bad := by simp only [q01]
theorem qju {l : Expr} {ops : List CmpOp} {cs : List Expr} {a : V} {st st' : St} {t : Bool} (h : q2d Γ cs ops a ρ st = some (t, st')) :
  ∃ e op b st1, cs = [e] /\ ops = [op] /\ behindInMarks op e = false /\ q01 Γ e ρ st = some (b, st1) /\ cmpV Γ.gd st1 op a b = some t /\ st' = st1 := by
 cases cs with
 | nil => unfold q2d at h; exact (q02 h).elim
 | cons e es => cases es with
  | cons _ _ => unfold q2d at h; exact (q02 h).elim
  | nil => cases ops with
   | nil => unfold q2d at h; exact (q02 h).elim
   | cons op ops => cases ops with
    | cons _ _ => unfold q2d at h; exact (q02 h).elim
    | nil =>
     simp only [q2d] at h
     obtain ⟨b, st1, hb, h⟩ := q00 h
     obtain ⟨h, rfl⟩ := q0s h
     refine ⟨e, op, b, _, rfl, rfl, ?_, hb, h, rfl⟩
     rcases qnw (op := op) e with q | ⟨es, k, p, rfl⟩
     ·exact q
     ·rw [qu5] at hb; exact (q02 hb).elim
theorem qhr {n : Nat} (hk : q88 B prog w Γ.gd) (hA : Room A n) {l : Expr} {ops : List CmpOp} {cs : List Expr} {pos : Pos} (hl : OkV B prog w A F env ρ (eval l env) (q01 Γ l ρ))
  (hc : ∀ e ∈ cs, OkV B prog w A F env ρ (eval e env) (q01 Γ e ρ)) : OkV B prog w A F env ρ (eval (.Compare l ops cs pos) env) (q01 Γ (.Compare l ops cs pos) ρ) := by
 intro s as st f i v st' hv Q E hQ
 simp only [q01] at hv
 obtain ⟨a, st1, ha, hv⟩ := q00 hv
 obtain ⟨t, st2, ht, hv⟩ := q00 hv
 obtain ⟨rfl, rfl⟩ := q03 hv
 obtain ⟨e, op, b, st3, rfl, rfl, hm, hb, h, rfl⟩ := qju (l := l) ht
 refine wpAny_Compare1 (hl s as st f i a st1 ha _ _ fun x h1 as1 tk1 ra i1 e1 ht1 => ?_) hm
 refine hc e (by simp) _ as1 st1 (f.on i e1) i1 b _ hb _ _ fun y h2 as2 tk2 rb i2 e2 ht2 => ?_
 exact qpr hk hA.hh i2 (by have := hA.units; omega) (e2.repv ra) rb h fun tk ht3 => hQ _ h2 as2 tk (.bool _) i2 (e1.trans e2) (Nat.le_trans ht1 (Nat.le_trans ht2 ht3))
theorem qep {n : Nat} (hk : q88 B prog w Γ.gd) (hA : Room A n) {l : Expr} {ops : List CmpOp} {cs : List Expr} {pos : Pos} {whole : Sem Value} {m : EvM V} (hl : OkV B prog w A F env ρ (eval l env) (q01 Γ l ρ))
  (hc : ∀ e ∈ cs, OkV B prog w A F env ρ (eval e env) (q01 Γ e ρ)) : OkB B prog w A F env ρ (PySem.isTrue (.Compare l ops cs pos) env whole) (q0g Γ (.Compare l ops cs pos) ρ m) := by
 intro s as st f i v st' hv Q E hQ
 simp only [q0g] at hv
 obtain ⟨a, st1, ha, ht⟩ := q00 hv
 obtain ⟨e, op, b, st3, rfl, rfl, hm, hb, h, rfl⟩ := qju (l := l) ht
 refine wpAny_isTrue_Compare1 (hl s as st f i a st1 ha _ _ fun x h1 as1 tk1 ra i1 e1 ht1 => ?_) hm
 refine hc e (by simp) _ as1 st1 (f.on i e1) i1 b _ hb _ _ fun y h2 as2 tk2 rb i2 e2 ht2 => ?_
 exact qpr hk hA.hh i2 (by have := hA.units; omega) (e2.repv ra) rb h fun tk ht3 => wpAny_truthy_bool (hQ _ h2 as2 tk rfl i2 (e1.trans e2) (Nat.le_trans ht1 (Nat.le_trans ht2 ht3)))
theorem qiu {op : BoolOp} : ∀ (vs : List Expr), (∀ e ∈ vs, OkB B prog w A F env ρ (PySem.isTrue e env (eval e env)) (q0g Γ e ρ (q01 Γ e ρ))) -> OkB B prog w A F env ρ (allTrue op vs env) (q13 Γ vs op ρ)
 | [], _ => by
  intro s as st f i v st' hv Q E hQ
  simp only [q13] at hv
  obtain ⟨rfl, rfl⟩ := q03 hv
  unfold allTrue
  exact wpAny_pure (hQ _ s.heap as s.toks rfl i (Ext.refl _ _ _) (Nat.le_refl _))
 | e :: r, h => by
  intro s as st f i v st' hv Q E hQ
  simp only [q13] at hv
  obtain ⟨t, st1, ht, hv⟩ := q00 hv
  have rest : ∀ h1 as1 tk1, Inv B h1 as1 F st1 -> Ext no s.heap as h1 as1 -> s.toks <= tk1 -> q13 Γ r op ρ st1 = some (v, st') -> wpAny (model prog w) A (allTrue op r env) Q E { s with heap := h1, toks := tk1 } := fun h1 as1 tk1 i1 e1 ht1 hv =>
   qiu r (fun e he => h e (by simp [he])) _ as1 st1 (f.on i e1) i1 v st' hv _ _ fun y h2 as2 tk2 ry i2 e2 ht2 => hQ y h2 as2 tk2 ry i2 (e1.trans e2) (Nat.le_trans ht1 ht2)
  cases op with
  | And =>
   refine wpAny_allTrue_And_cons (h e (by simp) s as st f i t st1 ht _ _ fun x h1 as1 tk1 rx i1 e1 ht1 => ?_)
   have rx' : t = x := rx
   subst rx'
   cases t with
   | true => exact rest h1 as1 tk1 i1 e1 ht1 hv
   | false => obtain ⟨rfl, rfl⟩ := q03 hv; exact hQ _ h1 as1 tk1 rfl i1 e1 ht1
  | Or =>
   refine wpAny_allTrue_Or_cons (h e (by simp) s as st f i t st1 ht _ _ fun x h1 as1 tk1 rx i1 e1 ht1 => ?_)
   have rx' : t = x := rx
   subst rx'
   cases t with
   | false => exact rest h1 as1 tk1 i1 e1 ht1 hv
   | true => obtain ⟨rfl, rfl⟩ := q03 hv; exact hQ _ h1 as1 tk1 rfl i1 e1 ht1
theorem qha {op : BoolOp} {vs : List Expr} {pos : Pos} {whole : Sem Value} {m : EvM V} (h : ∀ e ∈ vs, OkB B prog w A F env ρ (PySem.isTrue e env (eval e env)) (q0g Γ e ρ (q01 Γ e ρ))) :
  OkB B prog w A F env ρ (PySem.isTrue (.BoolOp op vs pos) env whole) (q0g Γ (.BoolOp op vs pos) ρ m) := by
 intro s as st f i v st' hv Q E hQ
 simp only [q0g] at hv
 exact wpAny_isTrue_BoolOp (qiu vs h s as st f i v st' hv Q E hQ)
theorem qg3 {pos : Pos} {op : BoolOp} : ∀ (vs : List Expr), (∀ e ∈ vs, OkV B prog w A F env ρ (eval e env) (q01 Γ e ρ)) -> OkV B prog w A F env ρ (boolOp pos op (evalEach vs env)) (q1f Γ vs op ρ)
 | [], _ => by
  intro s as st f i v st' hv
  simp only [q1f] at hv
  exact (q02 hv).elim
 | [e], h => by
  intro s as st f i v st' hv Q E hQ
  simp only [q1f] at hv
  exact h e (by simp) s as st f i v st' hv Q E hQ
 | e :: e2 :: r, h => by
  intro s as st f i v st' hv Q E hQ
  simp only [q1f] at hv
  obtain ⟨a, st1, ha, hv⟩ := q00 hv
  obtain ⟨t, st2, ht, hv⟩ := q00 hv
  obtain ⟨ht, rfl⟩ := q0s ht
  show wpAny _ _ (do let v <- eval e env; standAt pos; let t <- holding [v] (truthy v); (match op, t with | .And, false | .Or, true => pure v | _, _ => boolOp pos op (evalEach (e2 :: r) env))) Q E s
  refine wpAny_bind (h e (by simp) s as st f i a _ ha _ _ fun x h1 as1 tk1 rx i1 e1 ht1 => ?_)
  refine wpAny_bind (wpAny_standAt (wpAny_bind (wpAny_holding (qa2 i1 rx ht fun tk ht2 => ?_))))
  have rest : q1f Γ (e2 :: r) op ρ st2 = some (v, st') -> wpAny (model prog w) A (boolOp pos op (evalEach (e2 :: r) env)) Q E { s with heap := h1, toks := tk } := fun hv =>
   qg3 (e2 :: r) (fun e he => h e (by simp [he])) _ as1 st2 (f.on i e1) i1 v st' hv _ _ fun y h3 as3 tk3 ry i3 e3 ht3 => hQ y h3 as3 tk3 ry i3 (e1.trans e3) (Nat.le_trans ht1 (Nat.le_trans ht2 ht3))
  have stop : (pure a : EvM V) st2 = some (v, st') -> wpAny (model prog w) A (pure x) Q E { s with heap := h1, toks := tk } := fun hv => by
   obtain ⟨rfl, rfl⟩ := q03 hv
   exact wpAny_pure (hQ x h1 as1 tk rx i1 e1 (Nat.le_trans ht1 ht2))
  cases op <;> cases t
  ·exact stop hv
  ·exact rest hv
  ·exact rest hv
  ·exact stop hv
theorem ql4 {op : BoolOp} {vs : List Expr} {pos : Pos} (h : ∀ e ∈ vs, OkV B prog w A F env ρ (eval e env) (q01 Γ e ρ)) :
  OkV B prog w A F env ρ (eval (.BoolOp op vs pos) env) (q01 Γ (.BoolOp op vs pos) ρ) := by
 intro s as st f i v st' hv Q E hQ
 simp only [q01] at hv
 exact qg3 vs h s as st f i v st' hv Q E hQ
end Ev
end
section
namespace Ev
variable {B : Base} {prog : Program} {w : World} {A : Around} {F : Addr -> Prop} {s : Shared} {as : List Addr} {st : St} {Γ : Ctx} {env : Env} {ρ : Fr}
theorem qll (e : Expr) (r : List Expr) (env : Env) : starEach (e :: r) env = (false, eval e env) :: starEach r env \/ ∃ x p, e = .Starred x p := by
 cases e <;> first | exact .inr ⟨_, _, rfl⟩ | exact .inl rfl
abbrev RVs (B : Base) (F : Addr -> Prop) : Heap -> List Addr -> List V -> List Value -> Prop := fun h as vs xs => Reps B h as F vs xs
theorem qm9 {pos : Pos} : ∀ (es : List Expr), (∀ e ∈ es, OkV B prog w A F env ρ (eval e env) (q01 Γ e ρ)) -> OkAt B prog w A F env ρ (RVs B F) (spliced (backTo pos (starEach es env))) (q0j Γ es ρ)
 | [], _ => by
  intro s as st f i v st' hv Q E hQ
  simp only [q0j] at hv
  obtain ⟨rfl, rfl⟩ := q03 hv
  exact spliced_nil (hQ _ s.heap as s.toks .nil i (Ext.refl _ _ _) (Nat.le_refl _))
 | e :: r, h => by
  intro s as st f i v st' hv Q E hQ
  simp only [q0j] at hv
  obtain ⟨a, st1, ha, hv⟩ := q00 hv
  obtain ⟨vs, st2, hvs, hv⟩ := q00 hv
  obtain ⟨rfl, rfl⟩ := q03 hv
  rcases qll e r env with q | ⟨x, p, rfl⟩
  ·rw [q]
   show wpAny _ _ (spliced ((false, eval e env) :: backTo pos (starEach r env))) Q E s
   refine spliced_cons (h e (by simp) s as st f i a st1 ha _ _ fun x h1 as1 tk1 rx i1 e1 ht1 => ?_)
   refine qm9 r (fun e he => h e (by simp [he])) _ as1 st1 (f.on i e1) i1 vs _ hvs _ _ fun xs h2 as2 tk2 rxs i2 e2 ht2 => ?_
   exact hQ _ h2 as2 tk2 (.cons (e2.repv rx) rxs) i2 (e1.trans e2) (Nat.le_trans ht1 ht2)
  ·simp only [q01] at ha; exact (q02 ha).elim
theorem qbx {p : Pos} {vs : List V} {xs : List Value} {v : V} {st' : St} (i : Inv B s.heap as F st) (rs : Reps B s.heap as F vs xs) (hv : q1q Γ p vs st = some (v, st'))
  {Q : Value -> Shared -> Prop} (hQ : ∀ x h' as', Rep B h' as' F v x -> Inv B h' as' F st' -> Ext no s.heap as h' as' -> Q x { s with heap := h' }) :
  xs.length <= sizeLine /\ Q (.ref s.heap.objs.size) { s with heap := s.heap.push { cls := .type "list", data := .seq xs.toArray } } := by
 unfold q1q at hv
 split at hv
 ·rename_i hc
  refine ⟨by rw [<- rs.length]; exact q18 hc, ?_⟩
  split at hv
  ·cases hv
   refine hQ _ _ (as ++ [s.heap.objs.size]) (.ref ?_) (i.growList rs hc) (Ext.grow _ _)
   rw [<- i.len]; simp
  ·obtain ⟨rfl, rfl⟩ := q03 hv
   exact hQ _ _ as (q5s i rs) (i.push _) (Ext.push _ _)
 ·exact (q02 hv).elim
theorem qr4 {es : List Expr} {pos : Pos} (h : ∀ e ∈ es, OkV B prog w A F env ρ (eval e env) (q01 Γ e ρ)) : OkV B prog w A F env ρ (eval (.List es pos) env) (q01 Γ (.List es pos) ρ) := by
 intro s as st f i v st' hv Q E hQ
 simp only [q01] at hv
 obtain ⟨vs, st1, h1, hv⟩ := q00 hv
 refine wpAny_List (qm9 es h s as st f i vs st1 h1 _ _ fun xs h1 as1 tk1 rxs i1 e1 ht1 => ?_)
 exact qbx (s := { s with heap := h1, toks := tk1 }) i1 rxs hv fun x h' as' rx i2 e2 => hQ x h' as' tk1 rx i2 (e1.trans e2) ht1
theorem qni {es : List Expr} {k : Nat} {pos : Pos} (h : ∀ e ∈ es, OkV B prog w A F env ρ (eval e env) (q01 Γ e ρ)) : OkV B prog w A F env ρ (eval (.Tuple es k pos) env) (q01 Γ (.Tuple es k pos) ρ) := by
 intro s as st f i v st' hv Q E hQ
 simp only [q01] at hv
 split at hv
 case isFalse => exact (q02 hv).elim
 rename_i hn
 obtain ⟨vs, st1, h1, hv⟩ := q00 hv
 have hl : ∀ (es : List Expr) (vs : List V) (st st' : St), q0j Γ es ρ st = some (vs, st') -> vs.length = es.length := by
  intro es
  induction es with
  | nil => intro vs st st' h; simp only [q0j] at h; obtain ⟨rfl, _⟩ := q03 h; rfl
  | cons e r ih =>
   intro vs st st' h
   simp only [q0j] at h
   obtain ⟨a, st1, ha, h⟩ := q00 h
   obtain ⟨b, st2, hb, h⟩ := q00 h
   obtain ⟨rfl, _⟩ := q03 h
   simp [ih b _ _ hb]
 obtain ⟨rfl, rfl⟩ := q03 hv
 refine wpAny_Tuple (qm9 es h s as st f i vs _ h1 _ _ fun xs h2 as1 tk1 rxs i1 e1 ht1 => ⟨?_, ?_⟩)
 ·rw [<- rxs.length, hl es vs _ _ h1]; exact q18 hn
 ·exact hQ _ _ as1 tk1 (qde i1 rxs) (i1.push _) (e1.trans (Ext.push _ _)) ht1
theorem qin {M : Model} {value slice : Expr} {pos : Pos} {E : Value -> Shared -> Prop} {Q : Value -> Shared -> Prop}
  (hs : ∀ o i, subscripted slice false o i = operate [o, i] (getItem o i) \/ subscripted slice false o i = operate [i, o] (getItem o i))
  (h : wpAny (model prog w) A (eval value env) (fun o s₁ => wpAny (model prog w) A (eval slice env) (fun i s₂ => SubscriptOn (model prog w) A o i Q E s₂) E s₁) E s) :
  wpAny (model prog w) A (eval (.Subscript value slice pos) env) Q E s := by
 rw [eval_Subscript]
 refine wpAny_bind (wpAny_mono h (fun o s₁ h₁ => wpAny_bind (wpAny_holding (wpAny_mono h₁ (fun i s₂ h₂ => wpAny_bind (wpAny_standAt ?_)) fun _ _ x => x)))
  fun _ _ x => x)
 obtain ⟨T, id, hl, hT, hg⟩ := h₂
 refine wpAny_bind ?_
 rw [getitemInPython_of_ne hT.not_modules]
 refine wpAny_bind (wpAny_specialOf hT hl ?_)
 have tail : ∀ vs, wpAny (model prog w) A (operate vs (getItem o i)) (fun r s₃ => wpAny (model prog w) A (letTemporaryGo value o r >>= fun _ => pure r) Q E s₃) E s₂ := fun vs =>
  wpAny_operate' (wpAny_mono hg (fun r s₃ h₃ => wpAny_bind (wpAny_letTemporaryGo (wpAny_pure h₃))) fun _ _ x => x)
 have fin : wpAny (model prog w) A (subscripted slice false o i) (fun r s₃ => wpAny (model prog w) A (letTemporaryGo value o r >>= fun _ => pure r) Q E s₃) E s₂ := by
  rcases hs o i with q | q <;> rw [q] <;> exact tail _
 first
  | exact wpAny_pure (wpAny_bind fin)
  | exact wpAny_bind (wpAny_pure (wpAny_bind fin))
  | exact wpAny_bind fin
theorem qjn {a b v : V} {x y : Value} (i : Inv B s.heap as F st) (ra : Rep B s.heap as F a x) (rb : Rep B s.heap as F b y) (hv : q1o st a b = some v)
  {Q : Value -> Shared -> Prop} {E : Value -> Shared -> Prop} (hQ : ∀ z tk, Rep B s.heap as F v z -> s.toks <= tk -> Q z { s with toks := tk }) : SubscriptOn (model prog w) A x y Q E s := by
 have fin : ∀ z, Rep B s.heap as F v z -> Q z s := fun z r => hQ z s.toks r (Nat.le_refl _)
 unfold q1o at hv
 split at hv
 ·rename_i l n
  cases rb
  cases ra
  rename_i t tk hl
  cases h1 : idx l.length n with
  | none => rw [h1] at hv; cases hv
  | some k =>
   cases h2 : l[k]? with
   | none => simp [h1, h2] at hv
   | some c =>
    simp [h1, h2] at hv
    subst hv
    exact ⟨"str", _, PySem.F.slot_str_getitem.lookup, rfl, qom h1 h2 (hQ _ _ (.str _ _ fun d hd => by
     rw [List.mem_singleton.mp hd]; exact hl c (List.mem_of_getElem? h2)) (Nat.le_succ _))⟩
 ·rename_i vs n
  cases rb
  cases ra
  rename_i t xs ad hl _ _ rs
  cases h1 : idx vs.length n with
  | none => rw [h1] at hv; cases hv
  | some k =>
   rw [h1] at hv
   exact ⟨"tuple", _, PySem.F.slot_tuple_getitem.lookup, hl.typeIs, qih hl rs h1 hv fin⟩
 ·rename_i vs n
  cases rb
  cases ra
  rename_i t xs ad hl _ _ rs
  cases h1 : idx vs.length n with
  | none => rw [h1] at hv; cases hv
  | some k =>
   rw [h1] at hv
   exact ⟨"list", _, slot_list_getitem.lookup, hl.isList.typeIs, qce hl.isList rs h1 hv fin⟩
 ·cases ra
  rename_i r ad e
  split at hv
  ·rename_i vs n ho
   cases rb
   rename_i t
   have q := i.at_ r ad _ e ho
   cases q with
   | list hp rs _ =>
    cases h1 : idx vs.length n with
    | none => rw [h1] at hv; cases hv
    | some k =>
     rw [h1] at hv
     exact ⟨"list", _, slot_list_getitem.lookup, hp.isList.typeIs, qce hp.isList rs h1 hv fin⟩
  ·cases hv
 ·cases hv
theorem qtq {o j : Expr} {pos : Pos} (hj : ∀ l u t p, j ≠ .Slice l u t p) (ho : OkV B prog w A F env ρ (eval o env) (q01 Γ o ρ)) (hi : OkV B prog w A F env ρ (eval j env) (q01 Γ j ρ)) :
  OkV B prog w A F env ρ (eval (.Subscript o j pos) env) (do let ov <- q01 Γ o ρ; let iv <- q01 Γ j ρ; rd fun st => q1o st ov iv) := by
 intro s as st f i v st' hv Q E hQ
 obtain ⟨a, st1, ha, hv⟩ := q00 hv
 obtain ⟨b, st2, hb, hv⟩ := q00 hv
 obtain ⟨hv, rfl⟩ := q0s hv
 refine qin (M := model prog w) (fun o i => .inl ?_) (ho s as st f i a st1 ha _ _ fun x h1 as1 tk1 ra i1 e1 ht1 => ?_)
 ·cases j <;> first | exact absurd rfl (hj _ _ _ _) | rfl
 refine hi _ as1 st1 (f.on i e1) i1 b _ hb _ _ fun y h2 as2 tk2 rb i2 e2 ht2 => ?_
 exact qjn i2 (e2.repv ra) rb hv fun z tk rz ht => hQ z h2 as2 tk rz i2 (e1.trans e2) (Nat.le_trans ht1 (Nat.le_trans ht2 ht))
theorem ok_O (e : Option Expr) (h : ∀ x, e = some x -> OkV B prog w A F env ρ (eval x env) (q01 Γ x ρ)) : OkV B prog w A F env ρ (valueOrNone (evalOpt e env)) (q38 Γ e ρ) := by
 cases e with
 | none =>
  intro s as st f i v st' hv Q E hQ
  simp only [q38] at hv
  obtain ⟨rfl, rfl⟩ := q03 hv
  exact wpAny_pure (hQ _ s.heap as s.toks .none i (Ext.refl _ _ _) (Nat.le_refl _))
 | some x =>
  intro s as st f i v st' hv Q E hQ
  simp only [q38] at hv
  exact h x rfl s as st f i v st' hv Q E hQ
end Ev
end
section
namespace Ev
variable {B : Base} {prog : Program} {w : World} {A : Around} {F : Addr -> Prop} {s : Shared} {as : List Addr} {st : St} {Γ : Ctx} {env : Env} {ρ : Fr}
theorem qou {p : Pos} {o a b c u v : V} {x xa xb xc : Value} {sl : Addr} {st' : St} (i : Inv B s.heap as F st) (ro : Rep B s.heap as F o x) (ra : Rep B s.heap as F a xa) (rb : Rep B s.heap as F b xb) (rc : Rep B s.heap as F c xc)
  (hs : s.heap.get? sl = some { cls := .type "slice", data := .fields #[xa, xb, xc] }) (hu : q60 st o a b c = some u)
  (hv : mkSl Γ p u st = some (v, st'))
  {Q : Value -> Shared -> Prop} {E : Value -> Shared -> Prop} (hQ : ∀ z h' as' tk, Rep B h' as' F v z -> Inv B h' as' F st' -> Ext no s.heap as h' as' -> s.toks <= tk -> Q z { s with heap := h', toks := tk }) :
  SubscriptOn (model prog w) A x (.ref sl) Q E s := by
 have lists : ∀ {vs : List V} {ys : List Value}, u = .lst vs -> Reps B s.heap as F vs ys -> Q (.ref s.heap.objs.size) { s with heap := s.heap.push { cls := .type "list", data := .seq ys.toArray } } := fun {vs ys} e rs => by
  subst e
  exact (qbx (Γ := Γ) i rs hv fun z h' as' rz i2 e2 => hQ z h' as' s.toks rz i2 e2 (Nat.le_refl _)).2
 unfold q60 at hu
 split at hu
 ·rename_i l
  cases ro
  cases rc
  rename_i t hl
  replace hu : (cut l a b).map V.str = some u := hu
  cases hc : cut l a b with
  | none => rw [hc] at hu; cases hu
  | some us =>
   rw [hc] at hu
   cases hu
   obtain ⟨rfl, rfl⟩ := q03 hv
   refine ⟨"str", _, PySem.F.slot_str_getitem.lookup, rfl, qkp hs rfl rfl ra rb hc fun t' tk htk => hQ _ s.heap as tk (.str _ _ fun d hd => hl d ?_) i (Ext.refl _ _ _) htk⟩
   unfold cut at hc
   split at hc
   ·cases hc
   ·cases h1 : q3m l.length 0 a with
    | none => rw [h1] at hc; cases hc
    | some k1 =>
     cases h2 : q3m l.length l.length b with
     | none => rw [h1, h2] at hc; cases hc
     | some k2 =>
      simp [h1, h2] at hc
      subst hc
      exact List.mem_of_mem_take (List.mem_of_mem_drop hd)
 ·cases rc
  cases h1 : q1v st o with
  | none => rw [h1] at hu; cases hu
  | some vs =>
   cases hc : cut vs a b with
   | none => simp [h1, hc] at hu
   | some us =>
    simp [h1, hc] at hu
    obtain ⟨ad, xs, rfl, hl, rs⟩ := q3n i ro h1
    exact ⟨"list", _, slot_list_getitem.lookup, hl.typeIs, qi2 hl rs ⟨_, hs, rfl, rfl⟩ ra rb hc fun ys rys => lists hu.symm rys⟩
 ·split at hu
  ·cases ra
   cases rb
   cases rc
   cases h1 : q1v st o with
   | none => rw [h1] at hu; cases hu
   | some vs =>
    simp [h1] at hu
    obtain ⟨ad, xs, rfl, hl, rs⟩ := q3n i ro h1
    have hcap : vs.length <= cap := by
     subst hu
     simp only [mkSl, q1q] at hv
     split at hv
     ·rename_i h; simpa using h
     ·exact (q02 hv).elim
    exact ⟨"list", _, slot_list_getitem.lookup, hl.typeIs, qo2 hl rs ⟨_, hs, rfl, rfl⟩ hcap fun ys rys => lists hu.symm rys⟩
  ·cases hu
 ·cases hu
theorem qn0 {o : Expr} {l u t : Option Expr} {sp pos : Pos} (ho : OkV B prog w A F env ρ (eval o env) (q01 Γ o ρ))
  (hl : OkV B prog w A F env ρ (valueOrNone (evalOpt l env)) (q38 Γ l ρ)) (hu : OkV B prog w A F env ρ (valueOrNone (evalOpt u env)) (q38 Γ u ρ)) (ht : OkV B prog w A F env ρ (valueOrNone (evalOpt t env)) (q38 Γ t ρ)) :
  OkV B prog w A F env ρ (eval (.Subscript o (.Slice l u t sp) pos) env) (q01 Γ (.Subscript o (.Slice l u t sp) pos) ρ) := by
 intro s as st f i v st' hv Q E hQ
 simp only [q01] at hv
 obtain ⟨ov, st1, h1, hv⟩ := q00 hv
 obtain ⟨a, st2, h2, hv⟩ := q00 hv
 obtain ⟨b, st3, h3, hv⟩ := q00 hv
 obtain ⟨c, st4, h4, hv4⟩ := q00 hv
 obtain ⟨r, st5, h5, hv5⟩ := q00 hv4
 obtain ⟨h5, rfl⟩ := q0s h5
 refine qin (M := model prog w) (fun o i => ?_) (ho s as st f i ov st1 h1 _ _ fun x g1 as1 tk1 ro i1 e1 ht1 => ?_)
 ·cases t
  ·exact .inr rfl
  ·exact .inl rfl
 refine wpAny_Slice ?_
 refine hl _ as1 st1 (f.on i e1) i1 a st2 h2 _ _ fun xa g2 as2 tk2 ra i2 e2 ht2 => ?_
 refine hu _ as2 st2 ((f.on i e1).on i1 e2) i2 b st3 h3 _ _ fun xb g3 as3 tk3 rb i3 e3 ht3 => ?_
 refine ht _ as3 st3 (((f.on i e1).on i1 e2).on i2 e3) i3 c _ h4 _ _ fun xc g4 as4 tk4 rc i4 e4 ht4 => ?_
 have k := q07 g4 { cls := .type "slice", data := .fields #[xa, xb, xc] }
 refine qou (Γ := Γ) (p := pos) (i4.push _) ((e4.repv (e3.repv (e2.repv ro))).keeps k) ((e4.repv (e3.repv ra)).keeps k) ((e4.repv rb).keeps k) (rc.keeps k) (Heap.get?_push_size _ rfl) h5 hv5 fun z h' as' tk rz i5 e5 ht5 => ?_
 exact hQ z h' as' tk rz i5 (((((e1.trans e2).trans e3).trans e4).trans (Ext.push _ _)).trans e5) (Nat.le_trans ht1 (Nat.le_trans ht2 (Nat.le_trans ht3 (Nat.le_trans ht4 ht5))))
end Ev
end
section
namespace Ev
variable {B : Base} {prog : Program} {w : World} {A : Around} {F : Addr -> Prop} {s : Shared} {as : List Addr} {st : St} {Γ : Ctx} {env : Env} {ρ : Fr}
theorem q14 (x z : Str) (v : V) : ∀ l : List (Str × V), (q0c x v l).lookup z = if z = x then some v else l.lookup z
 | [] => by
  unfold q0c
  by_cases h : z = x
  ·subst h; simp [List.lookup]
  ·have hb : (z == x) = false := by simpa using h
   simp [List.lookup, h, hb]
 | (y, u) :: r => by
  unfold q0c
  split
  ·rename_i hy
   subst hy
   by_cases h : z = y
   ·subst h; simp [List.lookup]
   ·have hb : (z == y) = false := by simpa using h
    simp [List.lookup, h, hb]
  ·rename_i hy
   have ih := q14 x z v r
   by_cases h : z = y
   ·subst h
    simp [List.lookup, hy]
   ·have hb : (z == y) = false := by simpa using h
    simp only [List.lookup, hb]
    exact ih
theorem Inv.atF {h h' : Heap} {a₀ : Addr} (i : Inv B h as F st) (hF : F a₀) (hk : ∀ a o, a ≠ a₀ -> h.get? a = some o -> h'.get? a = some o) (hl : ∃ o, h'.get? a₀ = some o) : Inv B h' as F st where
 len := i.len
 nodup := i.nodup
 at_ := fun k a o e e' => (i.at_ k a o e e').mono (List.prefix_refl _) (fun a o h1 h2 h3 => ⟨hk a o (fun e => h3 (e ▸ hF)) h1, h2, h3⟩)
  fun x hx => hk a x (fun q => i.apart a (List.mem_of_getElem? e) (q ▸ hF)) hx
 apart := i.apart
 liveF := fun a ha => by
  by_cases q : a = a₀
  ·exact q ▸ hl
  ·obtain ⟨o, ho⟩ := i.liveF a ha; exact ⟨o, hk a o q ho⟩
 base := fun a o e => let b := i.base a o e; ⟨hk _ _ (fun q => b.2.2 (q ▸ hF)) b.1, b.2⟩
theorem Ext.atF {h h' : Heap} {a₀ : Addr} (hk : ∀ a o, a ≠ a₀ -> h.get? a = some o -> h'.get? a = some o) (hl : ∃ o, h'.get? a₀ = some o) : Ext (· = a₀) h as h' as :=
 ⟨List.prefix_refl _, fun _ x => .inl x, fun a o e _ hg => hk a o hg e, fun a o e => by
  by_cases q : a = a₀
  ·exact q ▸ hl
  ·exact ⟨o, hk a o q e⟩⟩
theorem Rep.atF {h h' : Heap} {a₀ : Addr} (hF : F a₀) (hk : ∀ a o, a ≠ a₀ -> h.get? a = some o -> h'.get? a = some o) {v x} (r : Rep B h as F v x) : Rep B h' as F v x :=
 r.mono (List.prefix_refl _) fun a o h1 h2 h3 => ⟨hk a o (fun e => h3 (e ▸ hF)) h1, h2, h3⟩
theorem Fr.set_some {ρ ρ' : Fr} {x : Str} {v : V} (h : ρ.set x v = some ρ') : (ρ.sc.lookup x = some .local \/ ρ.sc.lookup x = some .cell) /\ ρ' = { ρ with vars := q0c x v ρ.vars } := by
 unfold Fr.set at h
 split at h
 ·rename_i q; cases h; exact ⟨.inl q, rfl⟩
 ·rename_i q; cases h; exact ⟨.inr q, rfl⟩
 ·cases h
theorem qbi {x : Str} {v : V} {y : Value} {ρ' : Fr} (f : FrRep B s.heap as F env ρ) (i : Inv B s.heap as F st) (r : Rep B s.heap as F v y) (hv : ρ.set x v = some ρ')
  {Q : Unit -> Shared -> Prop} {E : Value -> Shared -> Prop} (hQ : ∀ h' tk, FrRep B h' as F env ρ' -> Inv B h' as F st -> Ext (Own env ρ.sc) s.heap as h' as -> s.toks <= tk -> Q () { s with heap := h', toks := tk }) :
  wpAny (model prog w) A (storeName env x y) Q E s := by
 obtain ⟨hx, rfl⟩ := Fr.set_some hv
 have lk : ∀ z, (q0c x v ρ.vars).lookup z = if z = x then some v else ρ.vars.lookup z := fun z => q14 x z v _
 rcases hx with hx | hx
 ·obtain ⟨m, hn, hm⟩ := f.loc
  refine wpAny_storeName_local (f.kindL x hx) hn (fun h' hn' hs' => ?_) (by rw [f.kind]; rfl)
  have hk : ∀ a o, a ≠ env.locals -> s.heap.get? a = some o -> h'.get? a = some o := fun a o q e => (hs'.2 a q).trans e
  have hl : ∃ o, h'.get? env.locals = some o := by obtain ⟨o, _, _, ho, _⟩ := hn'; exact ⟨o, ho⟩
  have hr : ∀ {u z}, Rep B s.heap as F u z -> Rep B h' as F u z := fun r => r.atF f.ownF hk
  refine hQ h' _ ?_ (i.atF f.ownF hk hl) ((Ext.atF hk hl).weak fun a e => .inl e) (Nat.le_succ _)
  exact {
   kind := f.kind, gl := f.gl, bl := f.bl
   loc := ⟨_, hn', fun z u h1 h2 => by
    rw [show (Fr.mk ρ.sc (q0c x v ρ.vars) ρ.out).vars.lookup z = _ from lk z] at h2
    by_cases q : z = x
    ·rw [if_pos q] at h2; cases h2; exact ⟨y, by rw [if_pos q], hr r⟩
    ·rw [if_neg q] at h2
     obtain ⟨w', hw, hrw⟩ := hm z u h1 h2
     exact ⟨w', by rw [if_neg q]; exact hw, hr hrw⟩⟩
   kindL := f.kindL, kindN := f.kindN, kindC := f.kindC, kindG := f.kindG
   cell := fun z hz => by
    obtain ⟨c, yo, hc, ⟨o, ho, hd⟩, hFc, hcl, hval⟩ := f.cell z hz
    refine ⟨c, yo, hc, ⟨o, hk _ _ hcl ho, hd⟩, hFc, hcl, fun u h2 => ?_⟩
    rw [show (Fr.mk ρ.sc (q0c x v ρ.vars) ρ.out).vars.lookup z = _ from lk z] at h2
    by_cases q : z = x
    ·subst q; rw [show ρ.sc.lookup z = some .local from hx] at hz; cases hz
    ·rw [if_neg q] at h2
     obtain ⟨w', hw, hrw⟩ := hval u h2
     exact ⟨w', hw, hr hrw⟩
   apart := f.apart
   free := fun z hz => by
    obtain ⟨h1, h2, c, yo, hc, ⟨o, ho, hd⟩, hFc, hcl, hap, hval⟩ := f.free z hz
    refine ⟨h1, h2, c, yo, hc, ⟨o, hk _ _ hcl ho, hd⟩, hFc, hcl, hap, fun u hu => ?_⟩
    obtain ⟨w', hw, hrw⟩ := hval u hu
    exact ⟨w', hw, hr hrw⟩
   ownF := f.ownF }
 ·obtain ⟨c, yo, hc, hic, hFc, hcl, _⟩ := f.cell x hx
  refine wpAny_storeName_cell f.kind (f.kindC x hx) hc hic fun h' hi' hs' => ?_
  have hk : ∀ a o, a ≠ c -> s.heap.get? a = some o -> h'.get? a = some o := fun a o q e => (hs'.2 a q).trans e
  have hl : ∃ o, h'.get? c = some o := by obtain ⟨o, ho, _⟩ := hi'; exact ⟨o, ho⟩
  have hr : ∀ {u z}, Rep B s.heap as F u z -> Rep B h' as F u z := fun r => r.atF hFc hk
  refine hQ h' s.toks ?_ (i.atF hFc hk hl) ((Ext.atF hk hl).weak fun a e => .inr ⟨x, hx, e ▸ hc⟩) (Nat.le_refl _)
  exact {
   kind := f.kind, gl := f.gl, bl := f.bl
   loc := by
    obtain ⟨m, ⟨o, es, ep, ho, rest⟩, hm⟩ := f.loc
    refine ⟨m, ⟨o, es, ep, hk _ _ (Ne.symm hcl) ho, rest⟩, fun z u h1 h2 => ?_⟩
    rw [show (Fr.mk ρ.sc (q0c x v ρ.vars) ρ.out).vars.lookup z = _ from lk z] at h2
    by_cases q : z = x
    ·subst q; rw [show ρ.sc.lookup z = some .local from h1] at hx; cases hx
    ·rw [if_neg q] at h2
     obtain ⟨w', hw, hrw⟩ := hm z u h1 h2
     exact ⟨w', hw, hr hrw⟩
   kindL := f.kindL, kindN := f.kindN, kindC := f.kindC, kindG := f.kindG
   cell := fun z hz => by
    by_cases q : z = x
    ·subst q
     refine ⟨c, some y, hc, hi', hFc, hcl, fun u h2 => ?_⟩
     rw [show (Fr.mk ρ.sc (q0c z v ρ.vars) ρ.out).vars.lookup z = _ from lk z, if_pos rfl] at h2
     cases h2
     exact ⟨y, rfl, hr r⟩
    ·obtain ⟨c', yo', hc', ⟨o, ho, hd⟩, hFc', hcl', hval⟩ := f.cell z hz
     have hne : c' ≠ c := fun e => q (f.apart z x c hz hx (e ▸ hc') hc)
     refine ⟨c', yo', hc', ⟨o, hk _ _ hne ho, hd⟩, hFc', hcl', fun u h2 => ?_⟩
     rw [show (Fr.mk ρ.sc (q0c x v ρ.vars) ρ.out).vars.lookup z = _ from lk z, if_neg q] at h2
     obtain ⟨w', hw, hrw⟩ := hval u h2
     exact ⟨w', hw, hr hrw⟩
   apart := f.apart
   free := fun z hz => by
    obtain ⟨h1, h2, c', yo', hc', ⟨o, ho, hd⟩, hFc', hcl', hap, hval⟩ := f.free z hz
    have hne : c' ≠ c := fun e => hap x hx (e ▸ hc)
    refine ⟨h1, h2, c', yo', hc', ⟨o, hk _ _ hne ho, hd⟩, hFc', hcl', hap, fun u hu => ?_⟩
    obtain ⟨w', hw, hrw⟩ := hval u hu
    exact ⟨w', hw, hr hrw⟩
   ownF := f.ownF }
end Ev
end
section
namespace Ev
variable {B : Base} {prog : Program} {w : World} {A : Around} {F : Addr -> Prop} {s : Shared} {as : List Addr} {st : St} {Γ : Ctx} {env : Env} {ρ : Fr}
theorem q2m {nw : Bool} {st : St} {env : Env} : ∀ {es : List Expr} {vs : List V} {ρ ρ' : Fr}, q0b nw st es vs ρ = some ρ' -> assignEach es env = es.map (fun e => (false, assign e env)) /\ es.length = vs.length
 | [], [], _, _, _ => ⟨rfl, rfl⟩
 | [], _ :: _, _, _, h => by simp [q0b] at h
 | _ :: _, [], _, _, h => by simp [q0b] at h
 | e :: es, v :: vs, ρ, ρ', h => by
  simp only [q0b] at h
  cases h1 : q0e nw st e v ρ with
  | none => rw [h1] at h; cases h
  | some ρ1 =>
   rw [h1] at h
   have ih := q2m (env := env) (show q0b nw st es vs ρ1 = some ρ' from h)
   refine ⟨?_, by simp [ih.2]⟩
   have : assignEach (e :: es) env = (false, assign e env) :: assignEach es env := by
    cases e <;> first | rfl | (simp only [q0e] at h1; cases h1)
   rw [this, ih.1]; rfl
mutual
theorem q4w {nw : Bool} {st : St} : ∀ (t : Expr) {v : V} {ρ ρ' : Fr}, q0e nw st t v ρ = some ρ' -> ρ'.sc = ρ.sc
 | .Name x p, v, ρ, ρ', h => by
  simp only [q0e] at h
  split at h
  ·cases h
  ·obtain ⟨_, rfl⟩ := Fr.set_some h; rfl
 | .Tuple es k p, v, ρ, ρ', h => by
  cases v <;> simp only [q0e] at h <;> first | (cases h; done) | exact qd7 es h
 | .Constant .., v, ρ, ρ', h | .BinOp .., v, ρ, ρ', h | .UnaryOp .., v, ρ, ρ', h | .BoolOp .., v, ρ, ρ', h | .IfExp .., v, ρ, ρ', h | .Compare .., v, ρ, ρ', h | .Call .., v, ρ, ρ', h | .Attribute .., v, ρ, ρ', h
 | .Subscript .., v, ρ, ρ', h | .List .., v, ρ, ρ', h | .ListComp .., v, ρ, ρ', h | .Dict .., v, ρ, ρ', h | .DictComp .., v, ρ, ρ', h | .Set .., v, ρ, ρ', h | .SetComp .., v, ρ, ρ', h | .GeneratorExp .., v, ρ, ρ', h
 | .Lambda .., v, ρ, ρ', h | .NamedExpr .., v, ρ, ρ', h | .Await .., v, ρ, ρ', h | .Yield .., v, ρ, ρ', h | .YieldFrom .., v, ρ, ρ', h | .FormattedValue .., v, ρ, ρ', h | .JoinedStr .., v, ρ, ρ', h | .Starred .., v, ρ, ρ', h | .Slice .., v, ρ, ρ', h => by
  simp only [q0e] at h; cases h
theorem qd7 {nw : Bool} {st : St} : ∀ (es : List Expr) {vs : List V} {ρ ρ' : Fr}, q0b nw st es vs ρ = some ρ' -> ρ'.sc = ρ.sc
 | [], [], _, _, h => by simp only [q0b] at h; cases h; rfl
 | [], _ :: _, _, _, h => by simp [q0b] at h
 | _ :: _, [], _, _, h => by simp [q0b] at h
 | e :: es, v :: vs, ρ, ρ', h => by
  simp only [q0b] at h
  cases h1 : q0e nw st e v ρ with
  | none => rw [h1] at h; cases h
  | some ρ1 =>
   rw [h1] at h
   exact (qd7 es (show q0b nw st es vs ρ1 = some ρ' from h)).trans (q4w e h1)
end
theorem FrRep.keeps {h h' : Heap} (f : FrRep B h as F env ρ) (i : Inv B h as F st) (hk : ∀ a o, h.get? a = some o -> h'.get? a = some o) : FrRep B h' as F env ρ := f.on i (Ext.keeps hk)
mutual
theorem q6p (hh : A.handled = none) {nw : Bool} {st₀ : St} : ∀ (t : Expr) {v : V} {y : Value} {ρ ρ' : Fr} {s : Shared}, FrRep B s.heap as F env ρ -> Inv B s.heap as F st -> Rep B s.heap as F v y -> q0e nw st₀ t v ρ = some ρ' ->
  ∀ {Q : Unit -> Shared -> Prop} {E : Value -> Shared -> Prop}, (∀ h' tk, FrRep B h' as F env ρ' -> Inv B h' as F st -> Ext (Own env ρ.sc) s.heap as h' as -> s.toks <= tk -> Q () { s with heap := h', toks := tk }) ->
  wpAny (model prog w) A (assign t env y) Q E s
 | .Name x p, v, y, ρ, ρ', s, f, i, r, h, Q, E, hQ => by
  simp only [q0e] at h
  split at h
  ·cases h
  ·exact wpAny_assign_Name (qbi f i r h hQ)
 | .Tuple es k p, v, y, ρ, ρ', s, f, i, r, h, Q, E, hQ => by
  cases v <;> simp only [q0e] at h <;> first | (cases h; done) | skip
  cases r
  rename_i vs xs a ht _ _ rs
  obtain ⟨e1, e2⟩ := q2m (env := env) h
  refine wpAny_assign_Tuple hh ht ?_ ?_ fun h' he' => ?_
  ·rw [e1]; simp [e2, rs.length]
  ·rw [e1]; simp [List.findIdx?_eq_none_iff]
  ·have hk : ∀ a o, s.heap.get? a = some o -> h'.get? a = some o := fun a o q => he' a o (Nat.ne_of_lt (Heap.lt_size q)) q
   refine qdd hh es (f.keeps i hk) (i.keeps hk) (rs.keeps hk) h fun h2 tk f2 i2 e2 ht2 => ?_
   exact hQ h2 tk f2 i2 ((Ext.keeps hk).trans e2) ht2
 | .Constant .., v, y, ρ, ρ', s, f, i, r, h, Q, E, hQ | .BinOp .., v, y, ρ, ρ', s, f, i, r, h, Q, E, hQ | .UnaryOp .., v, y, ρ, ρ', s, f, i, r, h, Q, E, hQ | .BoolOp .., v, y, ρ, ρ', s, f, i, r, h, Q, E, hQ | .IfExp .., v, y, ρ, ρ', s, f, i, r, h, Q, E, hQ | .Compare .., v, y, ρ, ρ', s, f, i, r, h, Q, E, hQ | .Call .., v, y, ρ, ρ', s, f, i, r, h, Q, E, hQ | .Attribute .., v, y, ρ, ρ', s, f, i, r, h, Q, E, hQ
 | .Subscript .., v, y, ρ, ρ', s, f, i, r, h, Q, E, hQ | .List .., v, y, ρ, ρ', s, f, i, r, h, Q, E, hQ | .ListComp .., v, y, ρ, ρ', s, f, i, r, h, Q, E, hQ | .Dict .., v, y, ρ, ρ', s, f, i, r, h, Q, E, hQ | .DictComp .., v, y, ρ, ρ', s, f, i, r, h, Q, E, hQ | .Set .., v, y, ρ, ρ', s, f, i, r, h, Q, E, hQ | .SetComp .., v, y, ρ, ρ', s, f, i, r, h, Q, E, hQ | .GeneratorExp .., v, y, ρ, ρ', s, f, i, r, h, Q, E, hQ
 | .Lambda .., v, y, ρ, ρ', s, f, i, r, h, Q, E, hQ | .NamedExpr .., v, y, ρ, ρ', s, f, i, r, h, Q, E, hQ | .Await .., v, y, ρ, ρ', s, f, i, r, h, Q, E, hQ | .Yield .., v, y, ρ, ρ', s, f, i, r, h, Q, E, hQ | .YieldFrom .., v, y, ρ, ρ', s, f, i, r, h, Q, E, hQ | .FormattedValue .., v, y, ρ, ρ', s, f, i, r, h, Q, E, hQ | .JoinedStr .., v, y, ρ, ρ', s, f, i, r, h, Q, E, hQ | .Starred .., v, y, ρ, ρ', s, f, i, r, h, Q, E, hQ | .Slice .., v, y, ρ, ρ', s, f, i, r, h, Q, E, hQ => by
  simp only [q0e] at h; cases h
theorem qdd (hh : A.handled = none) {nw : Bool} {st₀ : St} : ∀ (es : List Expr) {vs : List V} {xs : List Value} {ρ ρ' : Fr} {s : Shared}, FrRep B s.heap as F env ρ -> Inv B s.heap as F st -> Reps B s.heap as F vs xs -> q0b nw st₀ es vs ρ = some ρ' ->
  ∀ {Q : Unit -> Shared -> Prop} {E : Value -> Shared -> Prop}, (∀ h' tk, FrRep B h' as F env ρ' -> Inv B h' as F st -> Ext (Own env ρ.sc) s.heap as h' as -> s.toks <= tk -> Q () { s with heap := h', toks := tk }) ->
  wpAny (model prog w) A (assignInOrder ((assignEach es env).map (·.2)) xs) Q E s
 | [], [], xs, ρ, ρ', s, f, i, rs, h, Q, E, hQ => by
  simp only [q0b] at h
  cases h
  cases rs
  exact wpAny_assignInOrder_none (hQ s.heap s.toks f i (Ext.refl _ _ _) (Nat.le_refl _))
 | [], _ :: _, _, _, _, s, f, i, rs, h, Q, E, hQ => by simp [q0b] at h
 | _ :: _, [], _, _, _, s, f, i, rs, h, Q, E, hQ => by simp [q0b] at h
 | e :: es, v :: vs, xs, ρ, ρ', s, f, i, rs, h, Q, E, hQ => by
  have q := (q2m (env := env) h).1
  simp only [q0b] at h
  cases h1 : q0e nw st₀ e v ρ with
  | none => rw [h1] at h; cases h
  | some ρ1 =>
   rw [h1] at h
   have h' : q0b nw st₀ es vs ρ1 = some ρ' := h
   have q' := (q2m (env := env) h').1
   rw [q]
   cases rs
   rename_i x xs r rs
   show wpAny _ _ (assignInOrder (assign e env :: (es.map (fun e => (false, assign e env))).map (·.2)) (x :: xs)) Q E s
   rw [<- q']
   have scq := q4w e h1
   refine wpAny_assignInOrder_more (q6p hh e f i r h1 fun h2 tk f2 i2 e2 ht2 => ?_)
   have e2F : ∀ a, Own env ρ.sc a -> F a := f.own
   refine qdd hh es (s := { s with heap := h2, toks := tk }) f2 i2 ?_ h' fun h3 tk3 f3 i3 e3 ht3 => ?_
   ·exact rs.mono e2.pre fun a o g1 g2 g3 => ⟨e2.keep a o g1 g2 fun q => g3 (e2F a q), g2, g3⟩
   ·exact hQ h3 tk3 f3 i3 (e2.trans (scq ▸ e3)) (Nat.le_trans ht2 ht3)
end
end Ev
end
section
namespace Ev
variable {B : Base} {prog : Program} {w : World} {A : Around} {F : Addr -> Prop} {s : Shared} {as : List Addr} {st : St} {Γ : Ctx} {env : Env} {ρ : Fr}
inductive RFl (B : Base) (h : Heap) (as : List Addr) (F : Addr -> Prop) : Fl -> Flow -> Prop
 | next : RFl B h as F .next .next
 | ret {v x} : Rep B h as F v x -> RFl B h as F (.ret v) (.ret x)
noncomputable def SimX (B : Base) (prog : Program) (w : World) (A : Around) (F : Addr -> Prop) (env : Env) (sc : List (Str × NameKind)) (t : Sem Flow) (m : EvM (Fl × Fr)) (s : Shared) (as : List Addr) (st : St) : Prop :=
 ∀ fl ρ' st', m st = some ((fl, ρ'), st') -> ∀ (Q : Flow -> Shared -> Prop) (E : Value -> Shared -> Prop),
  (∀ x h' as' tk, RFl B h' as' F fl x -> ρ'.sc = sc -> FrRep B h' as' F env ρ' -> Inv B h' as' F st' -> Ext (Own env sc) s.heap as h' as' -> s.toks <= tk -> Q x { s with heap := h', toks := tk }) -> wpAny (model prog w) A t Q E s
noncomputable def OkX (B : Base) (prog : Program) (w : World) (A : Around) (F : Addr -> Prop) (env : Env) (ρ : Fr) (t : Sem Flow) (m : EvM (Fl × Fr)) : Prop :=
 ∀ s as st, FrRep B s.heap as F env ρ -> Inv B s.heap as F st -> SimX B prog w A F env ρ.sc t m s as st
theorem Ext.own {h h' : Heap} {as' : List Addr} {sc : List (Str × NameKind)} (x : Ext no h as h' as') : Ext (Own env sc) h as h' as' := x.weak fun _ f => f.elim
theorem qbg : ∀ (xs : List Str) {vs : List V} {ys : List Value} {ρ ρ' : Fr} {s : Shared}, FrRep B s.heap as F env ρ -> Inv B s.heap as F st -> Reps B s.heap as F vs ys -> q1j xs vs ρ = some ρ' ->
  ∀ {Q : Unit -> Shared -> Prop} {E : Value -> Shared -> Prop}, (∀ h' tk, ρ'.sc = ρ.sc -> FrRep B h' as F env ρ' -> Inv B h' as F st -> Ext (Own env ρ.sc) s.heap as h' as -> s.toks <= tk -> Q () { s with heap := h', toks := tk }) ->
  wpAny (model prog w) A (assignInOrder (xs.map fun n => bindName env n) ys) Q E s
 | [], [], ys, ρ, ρ', s, f, i, rs, h, Q, E, hQ => by
  simp only [q1j] at h
  cases h
  cases rs
  exact wpAny_assignInOrder_none (hQ s.heap s.toks rfl f i (Ext.refl _ _ _) (Nat.le_refl _))
 | [], _ :: _, _, _, _, s, f, i, rs, h, Q, E, hQ => by simp [q1j] at h
 | _ :: _, [], _, _, _, s, f, i, rs, h, Q, E, hQ => by simp [q1j] at h
 | x :: xs, v :: vs, ys, ρ, ρ', s, f, i, rs, h, Q, E, hQ => by
  simp only [q1j] at h
  cases h1 : ρ.set x v with
  | none => rw [h1] at h; cases h
  | some ρ1 =>
   rw [h1] at h
   have h' : q1j xs vs ρ1 = some ρ' := h
   cases rs
   rename_i y ys r rs
   have scq : ρ1.sc = ρ.sc := by obtain ⟨_, rfl⟩ := Fr.set_some h1; rfl
   have e2F : ∀ a, Own env ρ.sc a -> F a := f.own
   refine wpAny_assignInOrder_more ?_
   show wpAny _ _ (bindName env x y) _ _ _
   refine wpAny_bindName (qbi f i r h1 fun h2 tk f2 i2 e2 ht2 => ?_)
   refine qbg xs (s := { s with heap := h2, toks := tk }) f2 i2 ?_ h' fun h3 tk3 sc3 f3 i3 e3 ht3 => ?_
   ·exact rs.mono e2.pre fun a o g1 g2 g3 => ⟨e2.keep a o g1 g2 fun q => g3 (e2F a q), g2, g3⟩
   ·exact hQ h3 tk3 (sc3.trans scq) f3 i3 (e2.trans (scq ▸ e3)) (Nat.le_trans ht2 ht3)
theorem q9w : ∀ {xs : List Str} {vs : List V} {ρ ρ' : Fr}, q1j xs vs ρ = some ρ' -> xs.length = vs.length
 | [], [], _, _, _ => rfl
 | [], _ :: _, _, _, h => by simp [q1j] at h
 | _ :: _, [], _, _, h => by simp [q1j] at h
 | x :: xs, v :: vs, ρ, ρ', h => by
  simp only [q1j] at h
  cases h1 : ρ.set x v with
  | none => rw [h1] at h; cases h
  | some ρ1 =>
   rw [h1] at h
   have h' : q1j xs vs ρ1 = some ρ' := h
   simp [q9w h']
theorem qlt {h : Heap} (f : FrRep B h as F env ρ) (x : Str) : (env.kindOf x == some .local) = (ρ.sc.lookup x == some .local) := by
 by_cases q : ρ.sc.lookup x = some .local
 ·rw [q, f.kindL x q]
 ·have q' : env.kindOf x ≠ some .local := fun e => q (f.kindN x e)
  have a1 : (env.kindOf x == some .local) = false := by simpa using q'
  have a2 : (ρ.sc.lookup x == some .local) = false := by simpa using q
  rw [a1, a2]
theorem qtw {h : Heap} (f : FrRep B h as F env ρ) {ts vs : List Expr} {k k' : Nat} {p p' : Pos} {r : Option (List Str)} (hp : qcy ts vs ρ.sc = some r) : swappedStores [.Tuple ts k p] (.Tuple vs k' p') env = pure r := by
 have hb : (env.blockKind != .function) = false := by unfold Env.blockKind; rw [f.kind]; rfl
 unfold swappedStores
 simp only [hb, Bool.or_false, qlt f]
 change (if (!(ts.length == 2 || ts.length == 3) || vs.length != ts.length) = true then pure none
  else if (vs.any qj7) = true then pure none
  else if ((q4u ts ρ.sc).length != ts.length || (q4u ts ρ.sc).eraseDups.length != (q4u ts ρ.sc).length) = true then pure none
  else if vs.all (foldedForSure 8) = true then pure none
  else if vs.all (constantsAlone 8) = true then (do unsupported "assign.tuple-of-constant-expressions:order-of-the-stores"; pure (some (q4u ts ρ.sc)))
  else pure (some (q4u ts ρ.sc)) : Sem (Option (List Str))) = pure r
 unfold qcy at hp
 split at hp
 ·rename_i q; rw [if_pos q]; cases hp; rfl
 rename_i q; rw [if_neg q]
 split at hp
 ·rename_i q; rw [if_pos q]; cases hp; rfl
 rename_i q; rw [if_neg q]
 split at hp
 ·rename_i q; rw [if_pos q]; cases hp; rfl
 rename_i q; rw [if_neg q]
 split at hp
 ·rename_i q; rw [if_pos q]; cases hp; rfl
 rename_i q; rw [if_neg q]
 split at hp
 ·cases hp
 rename_i q; rw [if_neg q]; cases hp; rfl
theorem qph (t : Expr) : (∃ ts k p, t = .Tuple ts k p) \/ ∀ ts k p, t ≠ .Tuple ts k p := by
 cases t <;> first | exact .inl ⟨_, _, _, rfl⟩ | exact .inr (fun _ _ _ h => by cases h)
noncomputable def qfm : Expr -> Bool
 | .ListComp .. | .SetComp .. | .DictComp .. => false
 | _ => true
theorem q58 {e : Expr} (h : qfm e = true) (t : Option Expr) (n : Nat) (env : Env) : swapsWith e t n env = pure false := by
 cases e <;> first | (cases h; done) | rfl
theorem qdf (hh : A.handled = none) {t e : Expr} {pos : Pos} (hn : swapsWith e (some t) pos.line env = pure false) (he : OkV B prog w A F env ρ (eval e env) (q01 Γ e ρ)) :
  OkX B prog w A F env ρ (exec (.Assign [t] e pos) env) (q0m Γ (.Assign [t] e pos) ρ) := by
 intro s as st f i fl ρ' st' hv Q E hQ
 simp only [q0m] at hv
 obtain ⟨a, st1, ha, hv⟩ := q00 hv
 obtain ⟨ρ1, st2, hb, hv2⟩ := q00 hv
 obtain ⟨hb, rfl⟩ := q0s hb
 obtain ⟨hv3, rfl⟩ := q03 hv2
 cases hv3
 rw [PyProof.Rows.exec_Assign]
 refine wpAny_bind (wpAny_standAt (wpAny_bind ?_))
 rw [show swapsWithSole [t] e pos.line env = pure false from hn]
 refine wpAny_pure ?_
 simp only [Bool.false_eq_true, if_false]
 refine wpAny_bind (he s as st f i a _ ha _ _ fun y h1 as1 tk1 ry i1 e1 ht1 => ?_)
 have f1 := f.on i e1
 have plain : ∀ st0, swappedStores [t] e env = pure none -> q0e false st0 t a ρ = some ρ' -> wpAny (model prog w) A (do let x <- swappedStores [t] e env; assignStores env y x (List.map (fun x => x.snd) (assignEach [t] env))) Q E { s with heap := h1, toks := tk1 } := by
  intro st0 hs hbt
  rw [hs]
  refine wpAny_bind (wpAny_pure ?_)
  have hte : assignEach [t] env = [(false, assign t env)] := by
   cases t <;> first | rfl | (simp only [q0e] at hbt; cases hbt)
  rw [hte]
  show wpAny _ _ (do assign t env y; pure Flow.next) Q E _
  refine wpAny_bind (q6p hh t f1 i1 ry hbt fun h2 tk2 f2 i2 e2 ht2 => wpAny_pure ?_)
  exact hQ .next h2 as1 tk2 .next (q4w t hbt) f2 i2 (e1.own.trans e2) (Nat.le_trans ht1 ht2)
 rcases qph t with ⟨ts, k, p, rfl⟩ | hne
 ·rcases qph e with ⟨es, k', p', rfl⟩ | hne
  ·simp only [q6c] at hb
   cases hpl : qcy ts es ρ.sc with
   | none => rw [hpl] at hb; cases hb
   | some r =>
    rw [hpl] at hb
    have hpo := qtw (k := k) (k' := k') (p := p) (p' := p') f1 hpl
    cases r with
    | none => exact plain _ hpo hb
    | some names =>
     simp only [bind, Option.bind] at hb
     split at hb
     ·cases ry
      rename_i vs xs ad hta _ _ rs
      rw [hpo]
      refine wpAny_bind (wpAny_pure ?_)
      show wpAny _ _ (do rule "assign.swapped-stores"; let items <- unpackItems (.ref ad) names.length none; assignInOrder (names.reverse.map fun n => bindName env n) items.reverse; pure Flow.next) Q E _
      have hlen : names.length = xs.toArray.size := by
       have := q9w hb
       simp at this
       simp [this, rs.length]
      rw [hlen]
      refine wpAny_bind (wpAny_rule (wpAny_bind (wpAny_unpackItems_tuple hh hta fun h' he' => ?_)))
      have hk : ∀ a o, h1.get? a = some o -> h'.get? a = some o := fun a o q => he' a o (Nat.ne_of_lt (Heap.lt_size q)) q
      refine wpAny_bind (qbg (s := { s with heap := h', toks := tk1 }) names.reverse (f1.keeps i1 hk) (i1.keeps hk) (rs.keeps hk).reverse hb fun h2 tk2 sc2 f2 i2 e2 ht2 => wpAny_pure ?_)
      exact hQ .next h2 as1 tk2 .next sc2 f2 i2 ((e1.own.trans (Ext.keeps hk)).trans e2) (Nat.le_trans ht1 ht2)
     ·cases hb
  ·refine plain st' ?_ (by cases e <;> first | exact hb | exact absurd rfl (hne _ _ _))
   cases e <;> first | rfl | exact absurd rfl (hne _ _ _)
 ·refine plain st' ?_ (by cases t <;> first | exact hb | exact absurd rfl (hne _ _ _))
  cases t <;> first | rfl | exact absurd rfl (hne _ _ _) | (simp only [q6c, q0e] at hb; cases hb)
end Ev
end
section
namespace Ev
variable {B : Base} {prog : Program} {w : World} {A : Around} {F : Addr -> Prop} {s : Shared} {as : List Addr} {st : St} {Γ : Ctx} {env : Env} {ρ : Fr}
theorem q8y {l : Addr} {items : Array Value} {k : Int} {t : Tok} {v : Value} {Q : Unit -> Shared -> Prop} {E : Value -> Shared -> Prop} (hl : PlainL s.heap l items)
  (h0 : 0 <= k) (hfit : k < 2 ^ 63) (hn : k < items.size)
  (hQ : ∀ h', PlainL h' l (items.setIfInBounds k.toNat v) -> Heap.SameBut l s.heap h' -> Q () { s with heap := h' }) :
  wpAny (model prog w) A (setItem (.ref l) (.int k t) v) Q E s := by
 obtain ⟨o, ne, ho, hc, hdn, hd⟩ := id hl
 have hl' := hl.isList
 unfold setItem
 try with_reducible refine wpAny_holding ?_
 first | refine wpAny_bind (wpAny_pure ?_) | skip
 refine wpAny_bind (wpAny_sequenceKey hl'.typeIs (by decide) ?_)
 refine wpAny_bind (wpAny_callSpecial?_slot (name := Str.ofString "__setitem__") hl'.typeIs slot_list_setitem
  (wpAny_call_entry slot_list_setitem hl'.typeIs entry_list_setitem ?_ (args_list_setitem _ _ _)))
 show wpAny _ _ (Builtin.List.listSubscript? (.int k t) >>= _) _ _ s
 refine wpAny_bind (wpAny_listSubscript_int (fitsIndex_of h0 hfit) ?_)
 clear hfit
 obtain ⟨j, rfl⟩ := Int.eq_ofNat_of_zero_le h0
 have hj : j < items.size := by omega
 have hx' : items[j]? = some items[j] := Array.getElem?_eq_getElem hj
 show wpAny _ _ ((seqItemAt l j >>= fun r => pure (r.map (j, ·))) >>= _) _ _ s
 refine wpAny_bind (wpAny_bind (wpAny_seqItemAt ho hd (wpAny_pure ?_)))
 rw [hx']
 show wpAny _ _ (setSeqItemAt l j v >>= _) _ _ s
 obtain ⟨n', hd'⟩ := Obj.data_mapSeq hd (·.setIfInBounds j v)
 have hfin : PlainL (s.heap.update l (Obj.mapSeq (·.setIfInBounds j v))) l (items.setIfInBounds j v) := by
  refine ⟨_, n', Heap.get?_update_self _ ho (Obj.isFreed_of_seq hd'), (Obj.cls_mapSeq ..).trans hc, ?_, hd'⟩
  obtain ⟨c, d, dt, sl⟩ := o
  subst hd
  exact hdn
 refine wpAny_bind (wpAny_setSeqItemAt ho hd ?_)
 first
  | exact wpAny_bind (wpAny_pure (wpAny_pure ⟨.none, rfl, wpAny_pure (hQ _ hfin (Heap.SameBut.update ..))⟩))
  | exact wpAny_pure ⟨.none, rfl, wpAny_pure (hQ _ hfin (Heap.SameBut.update ..))⟩
theorem Reps.set {h : Heap} : ∀ {vs : List V} {xs : List Value} (k : Nat) {v : V} {x : Value}, Reps B h as F vs xs -> Rep B h as F v x -> Reps B h as F (vs.set k v) (xs.set k x)
 | _, _, _, _, _, .nil, _ => .nil
 | _, _, 0, _, _, .cons _ rs, r => .cons r rs
 | _, _, k + 1, _, _, .cons a rs, r => .cons a (rs.set k r)
theorem qci {i : Nat} {o : O} {st st' : St} (h : setO i o st = some ((), st')) : i < st.length /\ st' = st.set i o := by
 unfold setO at h
 split at h
 ·rename_i q; cases h; exact ⟨q, rfl⟩
 ·cases h
theorem qdm {o j v : V} {x y z : Value} {st' : St} (i : Inv B s.heap as F st) (ro : Rep B s.heap as F o x) (rj : Rep B s.heap as F j y) (rv : Rep B s.heap as F v z) (hv : q1y o j v st = some ((), st'))
  {Q : Unit -> Shared -> Prop} {E : Value -> Shared -> Prop} (hQ : ∀ h', Inv B h' as F st' -> Ext no s.heap as h' as -> Q () { s with heap := h' }) : wpAny (model prog w) A (setItem x y z) Q E s := by
 unfold q1y at hv
 split at hv
 ·rename_i r
  obtain ⟨p, st1, h1, hv1⟩ := q00 hv
  obtain ⟨h1, rfl⟩ := q0s h1
  cases p with
  | dict => exact (q02 hv1).elim
  | list vs =>
   cases j with
   | int n =>
    obtain ⟨k, st2, h2, hv2⟩ := q00 hv1
    obtain ⟨h2, rfl⟩ := q0k h2
    obtain ⟨hr, rfl⟩ := qci hv2
    cases ro
    rename_i ad e
    cases rj
    have q := i.at_ r ad _ e h1
    cases q with
    | list hp rs hc =>
     rename_i xs
     split at h2
     ·rename_i h0
      unfold idx at h2
      rw [if_pos hc, if_pos h0] at h2
      split at h2
      ·rename_i hlt
       cases h2
       have hcap : vs.length <= 65536 := hc
       refine q8y hp h0 (by omega) (by simp; rw [<- rs.length]; exact hlt) fun h' hp' hs' => ?_
       have hk : ∀ a o, a ≠ ad -> s.heap.get? a = some o -> h'.get? a = some o := fun a o q e => (hs'.2 a q).trans e
       refine hQ h' (i.atS e hk (.list (xs := xs.set n.toNat z) ?_ ((rs.set _ rv).atS e hk) (by simpa using hc))) (Ext.atS e hk ?_)
       ·have : (xs.set n.toNat z).toArray = xs.toArray.setIfInBounds n.toNat z := by simp
        rw [this]; exact hp'
       ·obtain ⟨o, _, ho, _⟩ := hp'; exact ⟨o, ho⟩
      ·cases h2
     ·cases h2
   | _ => exact (q02 hv1).elim
 ·exact (q02 hv).elim
theorem qrt {e : Expr} {pos : Pos} (hc : qea e = true -> OkV B prog w A F env ρ (eval e env) (q01 Γ e ρ)) : OkX B prog w A F env ρ (exec (.Expr e pos) env) (q0m Γ (.Expr e pos) ρ) := by
 intro s as st f i fl ρ' st' hv Q E hQ
 simp only [q0m] at hv
 split at hv
 ·rename_i hcall
  obtain ⟨a, st1, ha, hv1⟩ := q00 hv
  obtain ⟨hv2, rfl⟩ := q03 hv1
  cases hv2
  refine wpAny_Expr_any (hc hcall s as st f i a _ ha _ _ fun y h1 as1 tk1 ry i1 e1 ht1 => ?_) ?_ ?_
  ·exact hQ .next h1 as1 tk1 .next rfl (f.on i e1) i1 e1.own ht1
  ·unfold interactive; rw [f.kind]; rfl
  ·exact q58 (by cases e <;> first | rfl | cases hcall) _ _ _
 ·exact (q02 hv).elim
theorem ql5 {e : Expr} {pos : Pos} (he : OkV B prog w A F env ρ (eval e env) (q01 Γ e ρ)) : OkX B prog w A F env ρ (exec (.Return (some e) pos) env) (q0m Γ (.Return (some e) pos) ρ) := by
 intro s as st f i fl ρ' st' hv Q E hQ
 simp only [q0m] at hv
 obtain ⟨a, st1, ha, hv1⟩ := q00 hv
 obtain ⟨hv2, rfl⟩ := q03 hv1
 cases hv2
 refine wpAny_Return_some (he s as st f i a _ ha _ _ fun y h1 as1 tk1 ry i1 e1 ht1 => ?_)
 exact hQ _ h1 as1 tk1 (.ret ry) rfl (f.on i e1) i1 e1.own ht1
theorem qij (g : GlobOk B prog w Γ) {x : Str} {np pos : Pos} {op : Operator} {e : Expr} (he : OkV B prog w A F env ρ (eval e env) (q01 Γ e ρ)) :
  OkX B prog w A F env ρ (exec (.AugAssign (.Name x np) op e pos) env) (q0m Γ (.AugAssign (.Name x np) op e pos) ρ) := by
 intro s as st f i fl ρ' st' hv Q E hQ
 simp only [q0m] at hv
 obtain ⟨a, st1, ha, hv1⟩ := q00 hv
 obtain ⟨b, st2, hb, hv2⟩ := q00 hv1
 obtain ⟨c, st3, hc, hv3⟩ := q00 hv2
 obtain ⟨ρ1, st4, hr, hv4⟩ := q00 hv3
 obtain ⟨hc', rfl⟩ := q0k hc
 obtain ⟨hr', rfl⟩ := q0k hr
 obtain ⟨hv5, rfl⟩ := q03 hv4
 cases hv5
 refine wpAny_AugAssign_Name (qaa g f i a st1 ha _ _ fun y h1 as1 tk1 ry i1 e1 ht1 => ?_)
 have f1 := f.on i e1
 refine he _ as1 st1 f1 i1 b _ hb _ _ fun z h2 as2 tk2 rz i2 e2 ht2 => ?_
 have f2 := f1.on i1 e2
 refine qp6 (e2.repv ry) rz hc' fun u tk3 ht3 ru => ?_
 refine qbi f2 i2 (ru _ _ _) hr' fun h3 tk4 f3 i3 e3 ht4 => ?_
 have sc : ρ'.sc = ρ.sc := by obtain ⟨_, rfl⟩ := Fr.set_some hr'; rfl
 exact hQ .next h3 as2 tk4 .next sc f3 i3 ((e1.trans e2).own.trans e3) (Nat.le_trans ht1 (Nat.le_trans ht2 (Nat.le_trans ht3 ht4)))
theorem qj1 {o j : Expr} {sp pos : Pos} {op : Operator} {e : Expr} (ho : OkV B prog w A F env ρ (eval o env) (q01 Γ o ρ)) (hj : OkV B prog w A F env ρ (eval j env) (q01 Γ j ρ)) (he : OkV B prog w A F env ρ (eval e env) (q01 Γ e ρ)) :
  OkX B prog w A F env ρ (exec (.AugAssign (.Subscript o j sp) op e pos) env) (q0m Γ (.AugAssign (.Subscript o j sp) op e pos) ρ) := by
 intro s as st f i fl ρ' st' hv Q E hQ
 have hns : (∀ l u t p, j ≠ .Slice l u t p) /\ (do
   let ov <- q01 Γ o ρ
   let iv <- q01 Γ j ρ
   let a <- rd fun st => q1o st ov iv
   let b <- q01 Γ e ρ
   let c <- gt (augV op a b)
   q1y ov iv c
   pure (Fl.next, ρ) : EvM (Fl × Fr)) st = some ((fl, ρ'), st') := by
  cases j <;> simp only [q0m] at hv <;> first | exact (q02 hv).elim | exact ⟨fun _ _ _ _ h => (nomatch h), hv⟩
 obtain ⟨hns, hv0⟩ := hns
 clear hv
 obtain ⟨ov, st1, h1, hv1⟩ := q00 hv0
 obtain ⟨iv, st2, h2, hv2⟩ := q00 hv1
 obtain ⟨a, st3, h3, hv3⟩ := q00 hv2
 obtain ⟨b, st4, h4, hv4⟩ := q00 hv3
 obtain ⟨c, st5, h5, hv5⟩ := q00 hv4
 obtain ⟨u, st6, h6, hv6⟩ := q00 hv5
 obtain ⟨h3', rfl⟩ := q0s h3
 obtain ⟨h5', rfl⟩ := q0k h5
 obtain ⟨hv7, rfl⟩ := q03 hv6
 cases hv7
 refine wpAny_AugAssign_SubscriptAny (ho s as st f i ov st1 h1 _ _ fun x g1 as1 tk1 ro i1 e1 ht1 => ?_) ?_
 ·have f1 := f.on i e1
  refine hj _ as1 st1 f1 i1 iv _ h2 _ _ fun y g2 as2 tk2 rj i2 e2 ht2 => ?_
  have f2 := f1.on i1 e2
  obtain ⟨T, id, _, _, hg⟩ := qjn (prog := prog) (w := w) (A := A) (s := { s with heap := g2, toks := tk2 }) (Q := fun old s₃ => wpAny (model prog w) A (eval e env) (fun v s₄ => wpAny (model prog w) A (inplaceOp op old v) (fun new s₅ => wpAny (model prog w) A (setItem x y new) (fun x => Q Flow.next) E s₅) E s₄) E s₃) (E := E) i2 (e2.repv ro) rj h3' fun z tk3 rz ht3 => by
   refine he _ as2 _ f2 i2 b _ h4 _ _ fun q g3 as3 tk4 rq i3 e3 ht4 => ?_
   have f3 := f2.on i2 e3
   refine qp6 (e3.repv rz) rq h5' fun u tk5 ht5 ru => ?_
   refine qdm (s := { s with heap := g3, toks := tk5 }) i3 ((e2.trans e3).repv ro) (e3.repv rj) (ru _ _ _) h6 fun h' i4 e4 => ?_
   exact hQ .next h' as3 tk5 .next rfl (f3.on i3 e4) i4 (((e1.trans e2).trans e3).trans e4).own (Nat.le_trans ht1 (Nat.le_trans ht2 (Nat.le_trans ht3 (Nat.le_trans ht4 ht5))))
  exact hg
 ·intro ov iv new
  cases j <;> first | rfl | exact absurd rfl (hns _ _ _ _)
theorem r4t {t : Expr} {body orelse : List Stmt} {pos : Pos} (ht : OkB B prog w A F env ρ (PySem.isTrue t env (eval t env)) (q0g Γ t ρ (q01 Γ t ρ)))
  (hb : OkX B prog w A F env ρ (execs body env) (q09 Γ body ρ)) (ho : OkX B prog w A F env ρ (execs orelse env) (q09 Γ orelse ρ)) : OkX B prog w A F env ρ (exec (.If t body orelse pos) env) (q0m Γ (.If t body orelse pos) ρ) := by
 intro s as st f i fl ρ' st' hv Q E hQ
 simp only [q0m] at hv
 obtain ⟨c, st1, hc, hv1⟩ := q00 hv
 refine wpAny_If (ht s as st f i c st1 hc _ _ fun x h1 as1 tk1 rx i1 e1 ht1 => ?_)
 have rx' : c = x := rx
 subst rx'
 split at hv1
 ·rename_i hct
  rw [if_pos hct]
  exact hb _ as1 st1 (f.on i e1) i1 fl ρ' st' hv1 _ _ fun y h2 as2 tk2 ry sc f2 i2 e2 ht2 => hQ y h2 as2 tk2 ry sc f2 i2 (e1.own.trans e2) (Nat.le_trans ht1 ht2)
 ·rename_i hct
  rw [if_neg hct]
  exact ho _ as1 st1 (f.on i e1) i1 fl ρ' st' hv1 _ _ fun y h2 as2 tk2 ry sc f2 i2 e2 ht2 => hQ y h2 as2 tk2 ry sc f2 i2 (e1.own.trans e2) (Nat.le_trans ht1 ht2)
theorem r1c : OkX B prog w A F env ρ (execs [] env) (q09 Γ [] ρ) := by
 intro s as st f i fl ρ' st' hv Q E hQ
 simp only [q09] at hv
 obtain ⟨hv, rfl⟩ := q03 hv
 cases hv
 exact wpAny_pure (hQ .next s.heap as s.toks .next rfl f i (Ext.refl _ _ _) (Nat.le_refl _))
theorem qqx {a : Stmt} {r : List Stmt} (ha : OkX B prog w A F env ρ (exec a env) (q0m Γ a ρ)) (hr : ∀ ρ', ρ'.sc = ρ.sc -> OkX B prog w A F env ρ' (execs r env) (q09 Γ r ρ')) : OkX B prog w A F env ρ (execs (a :: r) env) (q09 Γ (a :: r) ρ) := by
 intro s as st f i fl ρ' st' hv Q E hQ
 simp only [q09] at hv
 obtain ⟨⟨fl1, ρ1⟩, st1, h1, hv1⟩ := q00 hv
 show wpAny _ _ (do match <- exec a env with | .next => execs r env | f => pure f) Q E s
 refine wpAny_bind (ha s as st f i fl1 ρ1 st1 h1 _ _ fun x g1 as1 tk1 rx sc1 f1 i1 e1 ht1 => ?_)
 cases rx with
 | next =>
  refine hr ρ1 sc1 _ as1 st1 f1 i1 fl ρ' st' hv1 _ _ fun y h2 as2 tk2 ry sc f2 i2 e2 ht2 => ?_
  exact hQ y h2 as2 tk2 ry (sc.trans sc1) f2 i2 (e1.trans (sc1 ▸ e2)) (Nat.le_trans ht1 ht2)
 | ret r =>
  obtain ⟨hv2, rfl⟩ := q03 hv1
  cases hv2
  exact wpAny_pure (hQ _ g1 as1 tk1 (.ret r) sc1 f1 i1 e1 ht1)
end Ev
end
section
namespace Ev
variable {B : Base} {prog : Program} {w : World} {A : Around} {F : Addr -> Prop} {s : Shared} {as : List Addr} {st : St} {Γ : Ctx} {env : Env} {ρ : Fr}
noncomputable def qkb : List String := ["enumerate", "zip", "dict_itemiterator", "dict_reverseitemiterator", "odict_iterator", "itertools.zip_longest", "itertools.pairwise"]
theorem q8i {t : Expr} {I : Addr} {y : Value} {o : Obj} {n : String} {Q : Unit -> Shared -> Prop} {E : Value -> Shared -> Prop} (ho : s.heap.get? I = some o) (hc : o.cls = .type n) (hn : qkb.contains n = false) (hQ : Q () s) :
  wpAny (model prog w) A (letOwnedTupleGo t (.ref I) y) Q E s := by
 have key : wpAny (model prog w) A (do
   let (.ref r, .ref a) := (Value.ref I, y) | return
   let o <- load r
   match o.cls, o.data with
   | .type n, .fields vs =>
    if qkb.contains n && vs[0]? == some (rawInt a) then
     rule "for.unpacks-the-owned-tuple"
     updateField r 0 .none
   | _, _ => pure () : Sem Unit) Q E s := by
  cases y <;> first | exact wpAny_pure hQ | skip
  refine wpAny_bind (wpAny_load ho ?_)
  rw [hc]
  cases o.data <;> first | exact wpAny_pure hQ | skip
  simp only [hn, Bool.false_and, Bool.false_eq_true, if_false]
  exact wpAny_pure hQ
 unfold letOwnedTupleGo
 cases t <;> first | exact wpAny_pure hQ | exact key
structure Turns (B : Base) (prog : Program) (w : World) (t : Expr) (I : Addr) (L : List Addr) (vs : List V) (ws : List (Nat × O)) (P : Nat -> Heap -> List Addr -> (Addr -> Prop) -> Prop) : Prop where
 frame : ∀ i h as F h' as' F', P i h as F -> as <+: as' -> (∀ a o, h.get? a = some o -> a ∉ as -> ¬ F a -> h'.get? a = some o /\ a ∉ as' /\ ¬ F' a) -> (∀ a ∈ L, ∀ o, h.get? a = some o -> h'.get? a = some o) -> P i h' as' F'
 live : ∀ i h as F, P i h as F -> ∀ a ∈ L, ∃ o, h.get? a = some o
 item : ∀ i v (A : Around) (s : Shared) (as : List Addr) (F : Addr -> Prop) (st : St) (Q : Option Value -> Shared -> Prop) (E : Value -> Shared -> Prop), A.handled = none -> vs[i]? = some v -> P i s.heap as F -> Inv B s.heap as F st -> (∀ a ∈ L, F a) ->
  (∀ p ∈ ws, st[p.1]? = some p.2) ->
  (∀ y h' tk, (∀ b o, b ∉ L -> s.heap.get? b = some o -> h'.get? b = some o) -> (∀ a ∈ L, ∃ o, h'.get? a = some o) -> Rep B h' as F v y -> s.toks <= tk ->
   (∀ (Q' : Unit -> Shared -> Prop) (E' : Value -> Shared -> Prop), (∀ h'', (∀ b o, b ∉ L -> h'.get? b = some o -> h''.get? b = some o) -> P (i + 1) h'' as F -> Q' () { s with heap := h'', toks := tk }) ->
    wpAny (model prog w) A (letOwnedTupleGo t (.ref I) y) Q' E' { s with heap := h', toks := tk }) -> Q (some y) { s with heap := h', toks := tk }) ->
  wpAny (model prog w) A (pyNext (.ref I)) Q E s
 done : ∀ (A : Around) (s : Shared) (as : List Addr) (F : Addr -> Prop) (st : St) (Q : Option Value -> Shared -> Prop) (E : Value -> Shared -> Prop), A.handled = none -> P vs.length s.heap as F -> Inv B s.heap as F st -> (∀ p ∈ ws, st[p.1]? = some p.2) ->
  (∀ h' tk, (∀ b o, b ∉ L -> s.heap.get? b = some o -> h'.get? b = some o) -> s.toks <= tk -> Q none { s with heap := h', toks := tk }) -> wpAny (model prog w) A (pyNext (.ref I)) Q E s
 self : ∀ i (A : Around) (s : Shared) (as : List Addr) (F : Addr -> Prop) (Q : Value -> Shared -> Prop) (E : Value -> Shared -> Prop), A.handled = none -> P i s.heap as F -> Q (.ref I) s -> wpAny (model prog w) A (pyIter (.ref I)) Q E s
theorem Turns.ofWalks {t : Expr} {I : Addr} {fp : List Addr} {n : Nat} {Pi : Nat -> Value -> Prop} {St : Nat -> Heap -> Prop} {vs : List V} (W : ∀ A : Around, A.handled = none -> Walks prog w A I fp [I] n Pi St) (hn : n = vs.length)
  (hc : ∀ i h, St i h -> ∃ o T, h.get? I = some o /\ o.cls = .type T /\ qkb.contains T = false) :
  Turns B prog w t I [I] vs [] (fun i h as F => St i h /\ (∀ b ∈ fp, b = I \/ ((∃ o, h.get? b = some o) /\ b ∉ as /\ ¬ F b)) /\ ∀ i v y, vs[i]? = some v -> Pi i y -> Rep B h as F v y) where
 frame := fun i h as F h' as' F' ⟨p1, p2, p3⟩ hp hk hL => by
  refine ⟨(W {} rfl).frame i h h' p1 fun b hb o ho => ?_, fun b hb => ?_, fun i v y h1 h2 => (p3 i v y h1 h2).mono hp hk⟩
  ·rcases p2 b hb with rfl | ⟨_, q1, q2⟩
   ·exact hL b (by simp) o ho
   ·exact (hk b o ho q1 q2).1
  ·rcases p2 b hb with rfl | ⟨⟨o, ho⟩, q1, q2⟩
   ·exact .inl rfl
   ·exact .inr ⟨⟨o, (hk b o ho q1 q2).1⟩, (hk b o ho q1 q2).2⟩
 live := fun i h as F ⟨p1, _, _⟩ a ha => by
  rw [List.mem_singleton.mp ha]
  obtain ⟨o, _, ho, _⟩ := hc i h p1
  exact ⟨o, ho⟩
 item := fun i v A s as F st Q E hh hv ⟨p1, p2, p3⟩ inv hL _ hQ => by
  have hi : i < n := by rw [hn]; exact (List.getElem?_eq_some_iff.mp hv).1
  refine wpAny_with_toks (n := s.toks) (Nat.le_refl _) ((W A hh).item i s _ _ hi p1 fun y h' tk hy p1' hk htk => ?_)
  have hk' : ∀ b o, b ∉ [I] -> s.heap.get? b = some o -> h'.get? b = some o := hk
  obtain ⟨oI, T, hoI, hcI, hTI⟩ := hc _ h' p1'
  have mono : ∀ a o, s.heap.get? a = some o -> a ∉ as -> ¬ F a -> h'.get? a = some o /\ a ∉ as /\ ¬ F a := fun a o ho q1 q2 => ⟨hk' a o (fun q => q2 (hL a q)) ho, q1, q2⟩
  have p2' : ∀ b ∈ fp, b = I \/ ((∃ o, h'.get? b = some o) /\ b ∉ as /\ ¬ F b) := fun b hb => by
   rcases p2 b hb with rfl | ⟨⟨o, ho⟩, q1, q2⟩
   ·exact .inl rfl
   ·exact .inr ⟨⟨o, (mono b o ho q1 q2).1⟩, q1, q2⟩
  have p3' : ∀ i v y, vs[i]? = some v -> Pi i y -> Rep B h' as F v y := fun i v y h1 h2 => (p3 i v y h1 h2).mono (List.prefix_refl _) mono
  refine hQ y h' tk hk' (fun a ha => by rw [List.mem_singleton.mp ha]; exact ⟨_, hoI⟩) (p3' i v y hv hy) htk fun Q' E' hQ' => ?_
  exact q8i (s := { s with heap := h', toks := tk }) hoI hcI hTI (hQ' h' (fun _ _ _ e => e) ⟨p1', p2', p3'⟩)
 done := fun A s as F st Q E hh ⟨p1, _, _⟩ inv _ hQ => by
  refine wpAny_with_toks (n := s.toks) (Nat.le_refl _) ((W A hh).done s _ _ (hn ▸ p1) fun h' tk hk htk => ?_)
  exact hQ h' tk hk htk
 self := fun i A s as F Q E hh ⟨p1, _, _⟩ hQ => (W A hh).self i s Q E p1 hQ
end Ev
end
section
namespace Ev
variable {B : Base} {prog : Program} {w : World} {A : Around} {F : Addr -> Prop} {s : Shared} {as : List Addr} {st : St} {Γ : Ctx} {env : Env} {ρ : Fr}
noncomputable def Fu (F : Addr -> Prop) (L : List Addr) (a : Addr) : Prop := F a \/ a ∈ L
noncomputable def q93 (B : Base) (prog : Program) (w : World) (t : Expr) (xs : List V) (ws : List (Nat × O)) (F : Addr -> Prop) (as : List Addr) (h h' : Heap) (I : Addr) : Prop :=
 ∃ L P, Turns B prog w t I L xs ws P /\ P 0 h' as (Fu F L) /\ (∀ a o, h.get? a = some o -> h'.get? a = some o) /\ (∀ a ∈ L, h.get? a = none)
theorem q74 {h : Heap} {a : Addr} {o : Obj} (e : h.get? a = some o) : a ≠ h.objs.size := Nat.ne_of_lt (Heap.lt_size e)
theorem q7g {h : Heap} {a : Addr} {o : Obj} (e : h.get? a = some o) (hF : ¬ F a) : ¬ Fu F [h.objs.size] a := fun q => q.elim hF fun q => q74 e (List.mem_singleton.mp q)
theorem q2u {h h' : Heap} {L : List Addr} (hk : ∀ a o, h.get? a = some o -> h'.get? a = some o) (hL : ∀ a ∈ L, h.get? a = none) : ∀ a o, h.get? a = some o -> a ∉ as -> ¬ F a -> h'.get? a = some o /\ a ∉ as /\ ¬ Fu F L a :=
 fun a o e h1 h2 => ⟨hk a o e, h1, fun q => q.elim h2 fun q => by rw [hL a q] at e; cases e⟩
theorem qi7 {t : Expr} {vs : List V} {xs : List Value} {l : Addr} (hl : s.heap.IsList l xs.toArray) (ha : l ∉ as) (hF : ¬ F l) (rs : Reps B s.heap as F vs xs) :
  q93 B prog w t vs [] F as s.heap (s.heap.push { cls := .type "list_iterator", data := .fields #[.ref l, .int 0 0] }) s.heap.objs.size := by
 have hl' := hl
 obtain ⟨o, ho, _⟩ := hl'
 have hne : l ≠ s.heap.objs.size := q74 ho
 have hk := q07 s.heap { cls := .type "list_iterator", data := .fields #[.ref l, .int 0 0] }
 have hL : ∀ a ∈ [s.heap.objs.size], s.heap.get? a = none := fun a q => by rw [List.mem_singleton.mp q]; exact q0a _
 refine ⟨[s.heap.objs.size], _, Turns.ofWalks (fun A hh => Walks.list hh s.heap.objs.size l hne xs.toArray) (by simp [rs.length]) (fun i h p => ?_), ⟨⟨⟨_, Heap.get?_push_size _ rfl, rfl, rfl⟩, hl.push _⟩, fun b hb => ?_, fun i v y h1 h2 => ?_⟩, hk, hL⟩
 ·obtain ⟨o, ho, hc, _⟩ := p.1; exact ⟨o, _, ho, hc, by decide⟩
 ·rcases List.mem_cons.mp hb with rfl | hb
  ·exact .inl rfl
  ·rw [List.mem_singleton.mp hb]; exact .inr ⟨⟨o, hk _ _ ho⟩, ha, q7g ho hF⟩
 ·obtain ⟨x, hx, r⟩ := rs.get h1
  simp at h2
  rw [hx] at h2; cases h2
  exact r.mono (List.prefix_refl _) (q2u hk hL)
theorem qe4 {t : Expr} {vs : List V} {xs : List Value} {l : Addr} (hl : s.heap.IsTuple l xs.toArray) (ha : l ∉ as) (hF : ¬ F l) (rs : Reps B s.heap as F vs xs) :
  q93 B prog w t vs [] F as s.heap (s.heap.push { cls := .type "tuple_iterator", data := .fields #[.ref l, .int 0 0] }) s.heap.objs.size := by
 have hl' := hl
 obtain ⟨o, ho, _⟩ := hl'
 have hne : l ≠ s.heap.objs.size := q74 ho
 have hk := q07 s.heap { cls := .type "tuple_iterator", data := .fields #[.ref l, .int 0 0] }
 have hL : ∀ a ∈ [s.heap.objs.size], s.heap.get? a = none := fun a q => by rw [List.mem_singleton.mp q]; exact q0a _
 refine ⟨[s.heap.objs.size], _, Turns.ofWalks (fun A hh => Walks.tuple hh s.heap.objs.size l hne xs.toArray) (by simp [rs.length]) (fun i h p => ?_), ⟨⟨⟨_, Heap.get?_push_size _ rfl, rfl, rfl⟩, hl.push _⟩, fun b hb => ?_, fun i v y h1 h2 => ?_⟩, hk, hL⟩
 ·obtain ⟨o, ho, hc, _⟩ := p.1; exact ⟨o, _, ho, hc, by decide⟩
 ·rcases List.mem_cons.mp hb with rfl | hb
  ·exact .inl rfl
  ·rw [List.mem_singleton.mp hb]; exact .inr ⟨⟨o, hk _ _ ho⟩, ha, q7g ho hF⟩
 ·obtain ⟨x, hx, r⟩ := rs.get h1
  simp at h2
  rw [hx] at h2; cases h2
  exact r.mono (List.prefix_refl _) (q2u hk hL)
theorem qe0 {t : Expr} {a b : Int} {n : Nat} (hn : n = (b - a).toNat) :
  q93 B prog w t ((List.range n).map fun (i : Nat) => V.int (a + i)) [] F as s.heap (s.heap.push { cls := .type "range_iterator", data := .fields #[rawInt a, rawInt n, rawInt 1] }) s.heap.objs.size := by
 have hk := q07 s.heap { cls := .type "range_iterator", data := .fields #[rawInt a, rawInt n, rawInt 1] }
 have hL : ∀ a ∈ [s.heap.objs.size], s.heap.get? a = none := fun a q => by rw [List.mem_singleton.mp q]; exact q0a _
 refine ⟨[s.heap.objs.size], _, Turns.ofWalks (fun A hh => Walks.range hh s.heap.objs.size a 1 n) (by simp) (fun i h p => ⟨_, _, p, rfl, by decide⟩), ⟨?_, fun b hb => .inl (List.mem_singleton.mp hb), fun i v y h1 h2 => ?_⟩, hk, hL⟩
 ·show (s.heap.push _).get? _ = some _
  rw [Heap.get?_push_size _ rfl]
  simp
 ·obtain ⟨u, rfl⟩ := h2
  rw [List.getElem?_map] at h1
  obtain ⟨k, hk1, rfl⟩ := Option.map_eq_some_iff.mp h1
  have hk2 : k = i := by
   obtain ⟨h3, h4⟩ := List.getElem?_eq_some_iff.mp hk1
   rw [<- h4, List.getElem_range]
  subst hk2
  rw [Int.mul_one]
  exact .int _ _
theorem qbd {t : Expr} {l : List Nat} {k : Tok} {T : String} (hl : ∀ c ∈ l, c < 0x110000) (hT : T = "str_ascii_iterator" \/ T = "str_iterator") :
  q93 B prog w t (l.map fun c => V.str [c]) [] F as s.heap (s.heap.push { cls := .type T, data := .fields #[.str (S l) k, .int 0 0] }) s.heap.objs.size := by
 have hk := q07 s.heap { cls := .type T, data := .fields #[.str (S l) k, .int 0 0] }
 have hL : ∀ a ∈ [s.heap.objs.size], s.heap.get? a = none := fun a q => by rw [List.mem_singleton.mp q]; exact q0a _
 have rep : ∀ h as F i v y, (l.map fun c => V.str [c])[i]? = some v -> SignAt (S l) i y -> Rep B h as F v y := by
  intro h as F i v y h1 h2
  obtain ⟨c, u, h3, rfl⟩ := h2
  simp [S] at h3
  simp [h3] at h1
  subst h1
  exact .str _ _ fun d hd => by rw [List.mem_singleton.mp hd]; exact hl c (List.mem_of_getElem? h3)
 rcases hT with rfl | rfl
 ·exact ⟨[s.heap.objs.size], _, Turns.ofWalks (fun A hh => Walks.strAscii hh s.heap.objs.size (S l) k) (by simp [S]) (fun i h p => by obtain ⟨o, ho, hc, _⟩ := p; exact ⟨o, _, ho, hc, by decide⟩),
   ⟨⟨_, Heap.get?_push_size _ rfl, rfl, rfl⟩, fun b hb => .inl (List.mem_singleton.mp hb), fun i v y h1 h2 => rep _ _ _ i v y h1 h2⟩, hk, hL⟩
 ·exact ⟨[s.heap.objs.size], _, Turns.ofWalks (fun A hh => Walks.strWide hh s.heap.objs.size (S l) k) (by simp [S]) (fun i h p => by obtain ⟨o, ho, hc, _⟩ := p; exact ⟨o, _, ho, hc, by decide⟩),
   ⟨⟨_, Heap.get?_push_size _ rfl, rfl, rfl⟩, fun b hb => .inl (List.mem_singleton.mp hb), fun i v y h1 h2 => rep _ _ _ i v y h1 h2⟩, hk, hL⟩
theorem qj3 {t : Expr} {vs : List V} {r : Nat} {l : Addr} (hr : as[r]? = some l) (hlive : ∃ o, s.heap.get? l = some o) :
  q93 B prog w t vs [(r, .list vs)] F as s.heap (s.heap.push { cls := .type "list_iterator", data := .fields #[.ref l, .int 0 0] }) s.heap.objs.size := by
 obtain ⟨o, ho⟩ := hlive
 have hne : l ≠ s.heap.objs.size := q74 ho
 have hk := q07 s.heap { cls := .type "list_iterator", data := .fields #[.ref l, .int 0 0] }
 have hL : ∀ a ∈ [s.heap.objs.size], s.heap.get? a = none := fun a q => by rw [List.mem_singleton.mp q]; exact q0a _
 have at' : ∀ {s : Shared} {as : List Addr} {F : Addr -> Prop} {st : St}, as[r]? = some l -> Inv B s.heap as F st -> (∀ p ∈ [(r, O.list vs)], st[p.1]? = some p.2) -> ∃ xs, s.heap.IsList l xs.toArray /\ Reps B s.heap as F vs xs := by
  intro s as F st h1 inv hw
  have q := inv.at_ r l _ h1 (hw _ List.mem_cons_self)
  cases q with
  | list hp rs _ => exact ⟨_, hp.isList, rs⟩
 refine ⟨[s.heap.objs.size], fun i h as F => h.IsListIter s.heap.objs.size l i /\ as[r]? = some l, ⟨?_, ?_, ?_, ?_, ?_⟩, ⟨⟨_, Heap.get?_push_size _ rfl, rfl, rfl⟩, hr⟩, hk, hL⟩
 ·intro i h as F h' as' F' ⟨p1, p2⟩ hp hk hL
  exact ⟨p1.at fun o e => hL _ (by simp) o e, qmq hp p2⟩
 ·intro i h as F ⟨p1, _⟩ a ha
  rw [List.mem_singleton.mp ha]
  obtain ⟨o, ho, _⟩ := p1; exact ⟨o, ho⟩
 ·intro i v A s' as F st Q E hh hv ⟨p1, p2⟩ inv hLF hw hQ
  obtain ⟨xs, hl, rs⟩ := at' p2 inv hw
  obtain ⟨x, hx, rx⟩ := rs.get hv
  refine wpAny_pyNext_list_item p1 hl (x := x) (by simpa using hx) fun h' hit' hs' => ?_
  have hk' : ∀ b o, b ∉ [s.heap.objs.size] -> s'.heap.get? b = some o -> h'.get? b = some o := fun b o hb e => hs'.extBut b o (fun q => hb (by simp [q])) e
  have p1' := hit'
  obtain ⟨oI, hoI, hcI, _⟩ := p1'
  refine hQ x h' s'.toks hk' (fun a ha => by rw [List.mem_singleton.mp ha]; exact ⟨_, hoI⟩) (rx.mono (List.prefix_refl _) fun a o e h1 h2 => ⟨hk' a o (fun q => h2 (hLF a q)) e, h1, h2⟩) (Nat.le_refl _) fun Q' E' hQ' => ?_
  exact q8i (s := { s' with heap := h', toks := s'.toks }) hoI hcI (by decide) (hQ' h' (fun _ _ _ e => e) ⟨hit', p2⟩)
 ·intro A s' as F st Q E hh ⟨p1, p2⟩ inv hw hQ
  obtain ⟨xs, hl, rs⟩ := at' p2 inv hw
  refine wpAny_pyNext_list_end hh p1 hl (by simp [rs.length]) fun h' he' => ?_
  exact hQ h' s'.toks (fun b o hb e => he' b o (fun q => hb (by simp [q])) e) (Nat.le_refl _)
 ·intro i A s' as F Q E hh ⟨p1, _⟩ hQ
  exact wpAny_pyIter_listiter p1 hQ
end Ev
end
section
namespace Ev
variable {B : Base} {prog : Program} {w : World} {A : Around} {F : Addr -> Prop} {s : Shared} {as : List Addr} {st : St} {Γ : Ctx} {env : Env} {ρ : Fr}
theorem qii {t : Expr} (htup : qd0 t = true) {vs : List V} {xs : List Value} {l e it : Addr} {h h' : Heap} (hl : h.IsList l xs.toArray) (ha : l ∉ as) (hF : ¬ F l) (rs : Reps B h as F vs xs)
  (he : IsEnum h' e it 0 .none) (hi : h'.IsListIter it l 0) (hk : ∀ a o, h.get? a = some o -> h'.get? a = some o) (h1 : h.get? e = none) (h2 : h.get? it = none) (h3 : e ≠ it) :
  q93 B prog w t (vs.zipIdx.map fun x => V.tup [.int x.2, x.1]) [] F as h h' e := by
 have hl' := hl
 obtain ⟨o, ho, _⟩ := hl'
 have hle : l ≠ e := fun q => by rw [q, h1] at ho; cases ho
 have hlt : l ≠ it := fun q => by rw [q, h2] at ho; cases ho
 have hL : ∀ a ∈ [e, it], h.get? a = none := fun a q => by
  rcases List.mem_cons.mp q with rfl | q
  ·exact h1
  ·rw [List.mem_singleton.mp q]; exact h2
 have W : ∀ A : Around, A.handled = none -> _ := fun A hh => WalksT.enumerate (prog := prog) (w := w) hh e it l h3 hle hlt xs.toArray
 obtain ⟨es, ec, ep, rfl⟩ : ∃ es c p, t = .Tuple es c p := by
  cases t <;> first | exact ⟨_, _, _, rfl⟩ | cases htup
 refine ⟨[e, it], fun i h as F => ((∃ old, IsEnum h e it i old) /\ h.IsListIter it l i /\ h.IsList l xs.toArray) /\ l ∉ as /\ ¬ F l /\ Reps B h as F vs xs, ⟨?_, ?_, ?_, ?_, ?_⟩, ⟨⟨⟨_, he⟩, hi, hl.at fun o e => hk _ _ e⟩, ha, ?_, rs.mono (List.prefix_refl _) (q2u hk hL)⟩, hk, hL⟩
 ·intro i h as F h' as' F' ⟨p1, p2, p3, p4⟩ hp hk hL
  have lk : ∀ o, h.get? l = some o -> h'.get? l = some o := fun o ho => (hk l o ho p2 p3).1
  obtain ⟨o, ho, _⟩ := id p1.2.2
  refine ⟨(W {} rfl).frame i h h' p1 fun b hb o hb' => ?_, (hk l o ho p2 p3).2.1, (hk l o ho p2 p3).2.2, p4.mono hp hk⟩
  simp at hb
  rcases hb with rfl | rfl | rfl
  ·exact hL _ (by simp) o hb'
  ·exact hL _ (by simp) o hb'
  ·exact lk o hb'
 ·intro i h as F ⟨⟨⟨old, p1⟩, p2, _⟩, _⟩ a ha
  rcases List.mem_cons.mp ha with rfl | ha
  ·exact ⟨_, p1⟩
  ·rw [List.mem_singleton.mp ha]; obtain ⟨o, ho, _⟩ := p2; exact ⟨o, ho⟩
 ·intro i v A s as F st Q E hh hv ⟨p1, p2, p3, p4⟩ inv hLF hw hQ
  rw [List.getElem?_map] at hv
  obtain ⟨⟨x, k⟩, hk1, rfl⟩ := Option.map_eq_some_iff.mp hv
  rw [List.getElem?_zipIdx] at hk1
  obtain ⟨x', hx', hk2⟩ := Option.map_eq_some_iff.mp hk1
  simp at hk2
  obtain ⟨rfl, rfl⟩ := hk2
  obtain ⟨y, hy, ry⟩ := p4.get hx'
  have hi : i < xs.toArray.size := by simp; exact (List.getElem?_eq_some_iff.mp hy).1
  refine wpAny_with_toks (n := s.toks) (Nat.le_refl _) ((W A hh).item i s _ _ hi p1 fun T vals h' tk hP hT hTup hMid hk htk => ?_)
  obtain ⟨u, z, hz, rfl⟩ := hP
  simp at hz
  rw [hy] at hz; cases hz
  have hm : ∀ a o, s.heap.get? a = some o -> a ∉ as -> ¬ F a -> h'.get? a = some o /\ a ∉ as /\ ¬ F a := fun a o ho q1 q2 => ⟨hk a o (fun q => q2 (hLF a q)) ho, q1, q2⟩
  have hTn : s.heap.get? T = none := by
   cases q : s.heap.get? T with
   | none => rfl
   | some o => exact absurd (Heap.lt_size q) (Nat.not_lt.mpr hT)
  have hTf := inv.fresh hTn
  obtain ⟨⟨z2, m1⟩, m2, m3, m4, m5⟩ := id hMid
  refine hQ (.ref T) h' tk hk (fun a ha => ?_) ?_ htk fun Q' E' hQ' => ?_
  ·rcases List.mem_cons.mp ha with rfl | ha
   ·exact ⟨_, m1⟩
   ·rw [List.mem_singleton.mp ha]; obtain ⟨o, ho, _⟩ := m2; exact ⟨o, ho⟩
  ·refine .tup (xs := [.int i u, y]) hTup hTf.1 hTf.2 (.cons ?_ (.cons (ry.mono (List.prefix_refl _) hm) .nil))
   simp
   exact .int _ _
  ·refine (W A hh).go es ec ep i T { s with heap := h', toks := tk } Q' E' hMid fun h'' hSt hk2 => ?_
   refine hQ' h'' hk2 ⟨hSt, p2, p3, ?_⟩
   have hm2 : ∀ a o, s.heap.get? a = some o -> a ∉ as -> ¬ F a -> h''.get? a = some o /\ a ∉ as /\ ¬ F a := fun a o ho q1 q2 => ⟨hk2 a o (fun q => q2 (hLF a q)) (hm a o ho q1 q2).1, q1, q2⟩
   exact p4.mono (List.prefix_refl _) hm2
 ·intro A s as F st Q E hh ⟨p1, p2, p3, p4⟩ inv hw hQ
  have hsz : xs.toArray.size = (vs.zipIdx.map fun x => V.tup [.int x.2, x.1]).length := by simp [p4.length]
  refine wpAny_with_toks (n := s.toks) (Nat.le_refl _) ((W A hh).done s _ _ (by rw [hsz]; exact p1) fun h' tk hk htk => hQ h' tk hk htk)
 ·intro i A s as F Q E hh ⟨p1, _⟩ hQ
  exact (W A hh).self i s Q E p1 hQ
 ·rintro (q | q)
  ·exact hF q
  ·rcases List.mem_cons.mp q with rfl | q
   ·exact hle rfl
   ·exact hlt (List.mem_singleton.mp q)
namespace FF
theorem entry_dict_itemiterator_iter : entryFor table "dict_itemiterator.__iter__" = some Builtin.«dict_keyiterator.__iter__» :=
 entryFor_alias (id' := "dict_keyiterator.__iter__") (by kernel_rfl) rfl (by decide +kernel) (by kernel_rfl)
theorem args_dict_itemiterator_iter_1 (a : Value) : argsOk "dict_itemiterator.__iter__" ⟨[a], []⟩ := by unfold argsOk; kernel_rfl
end FF
theorem qm3 {t : Expr} {d : Addr} {n : Nat} (hd : s.heap.get? d = some { cls := .type "dict", data := .dict #[] n }) (ha : d ∉ as) (hF : ¬ F d) :
  q93 B prog w t [] [] F as s.heap (s.heap.push { cls := .type "dict_itemiterator", data := .fields #[.none, .bool false, .ref d, .int 0 0, .int 0 0, .int n 0, .none, .none] }) s.heap.objs.size := by
 have hne : d ≠ s.heap.objs.size := q74 hd
 have hk := q07 s.heap { cls := .type "dict_itemiterator", data := .fields #[.none, .bool false, .ref d, .int 0 0, .int 0 0, .int n 0, .none, .none] }
 have hL : ∀ a ∈ [s.heap.objs.size], s.heap.get? a = none := fun a q => by rw [List.mem_singleton.mp q]; exact q0a _
 refine ⟨[s.heap.objs.size], fun i h as F => i = 0 /\ IsItemIter h s.heap.objs.size d 0 0 n .none .none /\ h.get? d = some { cls := .type "dict", data := .dict #[] n } /\ d ∉ as /\ ¬ F d, ⟨?_, ?_, ?_, ?_, ?_⟩, ⟨rfl, Heap.get?_push_size _ rfl, hk _ _ hd, ha, q7g hd hF⟩, hk, hL⟩
 ·intro i h as F h' as' F' ⟨p0, p1, p2, p3, p4⟩ hp hk hL
  exact ⟨p0, hL _ (by simp) _ p1, hk _ _ p2 p3 p4⟩
 ·intro i h as F ⟨_, p1, _⟩ a ha
  rw [List.mem_singleton.mp ha]; exact ⟨_, p1⟩
 ·intro i v A s as F st Q E hh hv
  simp at hv
 ·intro A s as F st Q E hh ⟨_, p1, p2, _⟩ inv hw hQ
  have hm : s.heap.DictAt (strKind prog w) d [] n := ⟨_, #[], p2, ⟨rfl, rfl, rfl⟩, rfl, fun _ h => by simp at h, .nil, .nil⟩
  exact wpAny_pyNext_items_end (kvs := []) hh p1 hm rfl fun h' he' => hQ h' s.toks (fun b o hb e => he' b o (fun q => hb (by simp [q])) e) (Nat.le_refl _)
 ·intro i A s as F Q E hh ⟨_, p1, _⟩ hQ
  have hT : s.TypeIs (.ref _) "dict_itemiterator" := ⟨_, p1, rfl⟩
  refine wpAny_pyIter_slot hT PySem.F.slot_dict_itemiterator_iter (wpAny_call_entry PySem.F.slot_dict_itemiterator_iter hT FF.entry_dict_itemiterator_iter ?_ (FF.args_dict_itemiterator_iter_1 _))
  show wpAny _ _ (ret (.ref _)) _ _ s
  exact wpAny_pure ⟨_, rfl, "dict_itemiterator", _, hT, PySem.F.slot_dict_itemiterator_next.lookup, hQ⟩
theorem qry {a b : Int} {xs : List V} {ws : List (Nat × O)} (h : srcV st (.rng a b) = some (xs, ws)) : (-65536 <= a /\ a <= 65536 /\ -65536 <= b /\ b <= 65536) /\ xs = ((List.range (b - a).toNat).map fun (i : Nat) => V.int (a + i)) /\ ws = [] := by
 simp only [srcV, q5u] at h
 split at h
 ·rename_i hc; cases h; exact ⟨hc, rfl, rfl⟩
 ·cases h
theorem qqn {j : Nat} {xs : List V} {ws : List (Nat × O)} (h : srcV st (.ref j) = some (xs, ws)) : st[j]? = some (.list xs) /\ ws = [(j, .list xs)] := by
 simp only [srcV, q5u] at h
 cases ho : st[j]? with
 | none => rw [ho] at h; cases h
 | some o =>
  rw [ho] at h
  cases o with
  | dict => cases h
  | list vs => cases h; exact ⟨rfl, rfl⟩
theorem q7m {a b : Int} (h : -65536 <= a /\ a <= 65536 /\ -65536 <= b /\ b <= 65536) : Builtin.Range.rangeSize a b 1 = ((b - a).toNat : Int) /\ Builtin.Range.small a b 1 = true := by
 have hn : Builtin.Range.rangeSize a b 1 = ((b - a).toNat : Int) := by
  unfold Builtin.Range.rangeSize
  simp
  first | omega | (split <;> omega)
 refine ⟨hn, ?_⟩
 unfold Builtin.Range.small
 rw [hn]
 simp only [Builtin.Range.rangeFitsLong, Bool.and_eq_true, Bool.or_eq_true, decide_eq_true_eq]
 refine ⟨⟨⟨⟨?_, ?_⟩, ?_⟩, ?_⟩, .inr ?_⟩
 ·omega
 ·omega
 ·omega
 ·omega
 ·rw [if_pos (by omega)]
  simp only [Bool.and_eq_true, decide_eq_true_eq]
  omega
theorem qkj {t : Expr} {v : V} {x : Value} {xs : List V} {ws : List (Nat × O)} (i : Inv B s.heap as F st) (r : Rep B s.heap as F v x) (hs : srcV st v = some (xs, ws)) {Q : Value -> Shared -> Prop} {E : Value -> Shared -> Prop}
  (hQ : ∀ I h', q93 B prog w t xs ws F as s.heap h' I -> (∀ p ∈ ws, st[p.1]? = some p.2) -> Q (.ref I) { s with heap := h' }) : wpAny (model prog w) A (pyIter x) Q E s := by
 have hw : ∀ p ∈ ([] : List (Nat × O)), st[p.1]? = some p.2 := fun p hp => by cases hp
 cases r with
 | none => cases hs
 | bool => cases hs
 | int => cases hs
 | str l t hl =>
  cases hs
  cases ha : (S l).cps.all (· < 128)
  ·exact wpAny_pyIter_wide ha (hQ _ _ (qbd hl (.inr rfl)) hw)
  ·exact wpAny_pyIter_ascii ha (hQ _ _ (qbd hl (.inl rfl)) hw)
 | tup ht ha hF rs => cases hs; exact wpAny_pyIter_tuple ht (hQ _ _ (qe4 ht ha hF rs) hw)
 | lst ht ha hF rs => cases hs; exact wpAny_pyIter_list ht.isList (hQ _ _ (qi7 ht.isList ha hF rs) hw)
 | rng ho ha hF =>
  obtain ⟨hc, rfl, rfl⟩ := qry hs
  obtain ⟨hn, hsm⟩ := q7m hc
  refine wpAny_pyIter_range ho hsm ?_
  rw [hn]
  exact hQ _ _ (qe0 rfl) hw
 | ref e =>
  rename_i j a
  obtain ⟨ho, rfl⟩ := qqn hs
  have q := i.at_ j a _ e ho
  cases q with
  | list hp rs _ =>
   exact wpAny_pyIter_list hp.isList (hQ _ _ (qj3 e (hp.isList.imp fun o h => h.1)) (fun p hp => by rw [List.mem_singleton.mp hp]; exact ho))
 | hd => cases hs
 | nod => cases hs
 | noi hx _ _ hd hds ha hF =>
  cases hs
  have hm : s.heap.DictAt (strKind prog w) _ [] _ := ⟨_, #[], hd, ⟨rfl, rfl, rfl⟩, rfl, fun _ h => by simp at h, .nil, .nil⟩
  exact wpAny_pyIter_items (kvs := []) ⟨_, hx, rfl, rfl⟩ hm (hQ _ _ (qm3 hd ha hF) hw)
 | g => cases hs
 | fn => cases hs
 | bi => cases hs
 | ty => cases hs
 | cls => cases hs
end Ev
end
section
namespace Ev
variable {B : Base} {prog : Program} {w : World} {A : Around} {F : Addr -> Prop} {s : Shared} {as : List Addr} {st : St} {Γ : Ctx} {env : Env} {ρ : Fr}
theorem FrRep.mono {h h' : Heap} {as as' : List Addr} {F F' : Addr -> Prop} (f : FrRep B h as F env ρ) (hp : as <+: as') (hk : ∀ a o, h.get? a = some o -> a ∉ as -> ¬ F a -> h'.get? a = some o /\ a ∉ as' /\ ¬ F' a)
  (hF : ∀ a o, F a -> h.get? a = some o -> h'.get? a = some o /\ F' a) : FrRep B h' as' F' env ρ where
 kind := f.kind
 gl := f.gl
 bl := f.bl
 loc := by
  obtain ⟨m, ⟨o, es, ep, ho, r⟩, hm⟩ := f.loc
  refine ⟨m, ⟨o, es, ep, (hF _ _ f.ownF ho).1, r⟩, fun y v h1 h2 => ?_⟩
  obtain ⟨z, hz, hr⟩ := hm y v h1 h2
  exact ⟨z, hz, hr.mono hp hk⟩
 kindL := f.kindL
 kindN := f.kindN
 kindC := f.kindC
 kindG := f.kindG
 cell := fun y hy => by
  obtain ⟨c, yo, hc, ⟨o, ho, hd⟩, hFc, hl, hv⟩ := f.cell y hy
  refine ⟨c, yo, hc, ⟨o, (hF _ _ hFc ho).1, hd⟩, (hF _ _ hFc ho).2, hl, fun v hv' => ?_⟩
  obtain ⟨z, hz, hr⟩ := hv v hv'
  exact ⟨z, hz, hr.mono hp hk⟩
 apart := f.apart
 free := fun y hy => by
  obtain ⟨hk', hn, c, yo, hc, ⟨o, ho, hd⟩, hFc, hl, ha, hv⟩ := f.free y hy
  refine ⟨hk', hn, c, yo, hc, ⟨o, (hF _ _ hFc ho).1, hd⟩, (hF _ _ hFc ho).2, hl, ha, fun v hv' => ?_⟩
  obtain ⟨z, hz, hr⟩ := hv v hv'
  exact ⟨z, hz, hr.mono hp hk⟩
 ownF := by
  obtain ⟨m, ⟨o, es, ep, ho, r⟩, hm⟩ := f.loc
  exact (hF _ _ f.ownF ho).2
theorem FrRep.re {h h' h₀ : Heap} {as as₀ : List Addr} {L : List Addr} {F' : Addr -> Prop} {ρ₀ : Fr} (f : FrRep B h as (Fu F L) env ρ) (f₀ : FrRep B h₀ as₀ F env ρ₀) (hs : ρ.sc = ρ₀.sc) (hL : ∀ a ∈ L, ¬ F a)
  (hk : ∀ b o, b ∉ L -> h.get? b = some o -> h'.get? b = some o) (h1 : ∀ a, F a -> F' a) (h2 : ∀ a, F' a -> Fu F L a) : FrRep B h' as F' env ρ := by
 have hm : ∀ a o, h.get? a = some o -> a ∉ as -> ¬ Fu F L a -> h'.get? a = some o /\ a ∉ as /\ ¬ F' a := fun a o e q1 q2 => ⟨hk a o (fun q => q2 (.inr q)) e, q1, fun q => q2 (h2 a q)⟩
 have hF : ∀ {a o}, F a -> h.get? a = some o -> h'.get? a = some o := fun {a o} q e => hk a o (fun r => hL a r q) e
 exact {
  kind := f.kind, gl := f.gl, bl := f.bl
  loc := by
   obtain ⟨m, ⟨o, es, ep, ho, r⟩, hm'⟩ := f.loc
   refine ⟨m, ⟨o, es, ep, hF f₀.ownF ho, r⟩, fun y v h1 h2 => ?_⟩
   obtain ⟨z, hz, hr⟩ := hm' y v h1 h2
   exact ⟨z, hz, hr.mono (List.prefix_refl _) hm⟩
  kindL := f.kindL, kindN := f.kindN, kindC := f.kindC, kindG := f.kindG
  cell := fun y hy => by
   obtain ⟨c, yo, hc, ⟨o, ho, hd⟩, _, hl, hv⟩ := f.cell y hy
   obtain ⟨c', _, hc', _, hFc, _, _⟩ := f₀.cell y (hs ▸ hy)
   rw [hc] at hc'; cases hc'
   refine ⟨c, yo, hc, ⟨o, hF hFc ho, hd⟩, h1 _ hFc, hl, fun v hv' => ?_⟩
   obtain ⟨z, hz, hr⟩ := hv v hv'
   exact ⟨z, hz, hr.mono (List.prefix_refl _) hm⟩
  apart := f.apart
  free := fun y hy => by
   obtain ⟨hk', hn, c, yo, hc, ⟨o, ho, hd⟩, _, hl, ha, hv⟩ := f.free y hy
   obtain ⟨_, _, c', _, hc', _, hFc, _, _, _⟩ := f₀.free y (hs ▸ hy)
   rw [hc] at hc'; cases hc'
   refine ⟨hk', hn, c, yo, hc, ⟨o, hF hFc ho, hd⟩, h1 _ hFc, hl, ha, fun v hv' => ?_⟩
   obtain ⟨z, hz, hr⟩ := hv v hv'
   exact ⟨z, hz, hr.mono (List.prefix_refl _) hm⟩
  ownF := h1 _ f₀.ownF }
theorem FrRep.drop {h h' h₀ : Heap} {as as₀ : List Addr} {L : List Addr} {ρ₀ : Fr} (f : FrRep B h as (Fu F L) env ρ) (f₀ : FrRep B h₀ as₀ F env ρ₀) (hs : ρ.sc = ρ₀.sc) (hL : ∀ a ∈ L, ¬ F a)
  (hk : ∀ b o, b ∉ L -> h.get? b = some o -> h'.get? b = some o) : FrRep B h' as F env ρ := f.re f₀ hs hL hk (fun _ x => x) fun _ x => .inl x
theorem FrRep.onL {h h' h₀ : Heap} {as as₀ : List Addr} {L : List Addr} {ρ₀ : Fr} (f : FrRep B h as (Fu F L) env ρ) (f₀ : FrRep B h₀ as₀ F env ρ₀) (hs : ρ.sc = ρ₀.sc) (hL : ∀ a ∈ L, ¬ F a)
  (hk : ∀ b o, b ∉ L -> h.get? b = some o -> h'.get? b = some o) : FrRep B h' as (Fu F L) env ρ := f.re f₀ hs hL hk (fun _ x => .inl x) fun _ x => x
theorem FrRep.more {h h' : Heap} {L : List Addr} (f : FrRep B h as F env ρ) (hk : ∀ a o, h.get? a = some o -> h'.get? a = some o) (hL : ∀ a ∈ L, h.get? a = none) : FrRep B h' as (Fu F L) env ρ :=
 f.mono (List.prefix_refl _) (q2u hk hL) fun a o hF e => ⟨hk a o e, .inl hF⟩
theorem Inv.more {h h' : Heap} {L : List Addr} (i : Inv B h as F st) (hk : ∀ a o, h.get? a = some o -> h'.get? a = some o) (hL : ∀ a ∈ L, h.get? a = none) (hl : ∀ a ∈ L, ∃ o, h'.get? a = some o) : Inv B h' as (Fu F L) st where
 len := i.len
 nodup := i.nodup
 at_ := fun k a o e e' => (i.at_ k a o e e').mono (List.prefix_refl _) (q2u hk hL) (hk a)
 apart := fun a ha q => q.elim (i.apart a ha) fun q => by obtain ⟨o, ho⟩ := i.live ha; rw [hL a q] at ho; cases ho
 liveF := fun a ha => ha.elim (fun q => let ⟨o, ho⟩ := i.liveF a q; ⟨o, hk a o ho⟩) (hl a)
 base := fun a o e => let b := i.base a o e; q2u hk hL a o b.1 b.2.1 b.2.2
theorem Inv.onL {h h' : Heap} {L : List Addr} (i : Inv B h as (Fu F L) st) (hk : ∀ b o, b ∉ L -> h.get? b = some o -> h'.get? b = some o) (hl : ∀ a ∈ L, ∃ o, h'.get? a = some o) : Inv B h' as (Fu F L) st where
 len := i.len
 nodup := i.nodup
 at_ := fun k a o e e' => (i.at_ k a o e e').mono (List.prefix_refl _) (fun b x h1 h2 h3 => ⟨hk b x (fun q => h3 (.inr q)) h1, h2, h3⟩) fun x hx => hk a x (fun q => i.apart a (List.mem_of_getElem? e) (.inr q)) hx
 apart := i.apart
 liveF := fun a ha => by
  by_cases q : a ∈ L
  ·exact hl a q
  ·obtain ⟨o, ho⟩ := i.liveF a ha; exact ⟨o, hk a o q ho⟩
 base := fun a o e => let b := i.base a o e; ⟨hk _ _ (fun q => b.2.2 (.inr q)) b.1, b.2⟩
theorem Inv.drop {h h' : Heap} {L : List Addr} (i : Inv B h as (Fu F L) st) (hL : ∀ a ∈ L, ¬ F a) (hk : ∀ b o, b ∉ L -> h.get? b = some o -> h'.get? b = some o) : Inv B h' as F st where
 len := i.len
 nodup := i.nodup
 at_ := fun k a o e e' => (i.at_ k a o e e').mono (List.prefix_refl _) (fun b x h1 h2 h3 => ⟨hk b x (fun q => h3 (.inr q)) h1, h2, fun q => h3 (.inl q)⟩) fun x hx => hk a x (fun q => i.apart a (List.mem_of_getElem? e) (.inr q)) hx
 apart := fun a ha q => i.apart a ha (.inl q)
 liveF := fun a ha => let ⟨o, ho⟩ := i.liveF a (.inl ha); ⟨o, hk a o (fun q => hL a q ha) ho⟩
 base := fun a o e => let b := i.base a o e; ⟨hk _ _ (fun q => b.2.2 (.inr q)) b.1, b.2.1, fun q => b.2.2 (.inl q)⟩
theorem Rep.drop {h h' : Heap} {L : List Addr} (hk : ∀ b o, b ∉ L -> h.get? b = some o -> h'.get? b = some o) {v x} (r : Rep B h as (Fu F L) v x) : Rep B h' as F v x :=
 r.mono (List.prefix_refl _) fun a o h1 h2 h3 => ⟨hk a o (fun q => h3 (.inr q)) h1, h2, fun q => h3 (.inl q)⟩
theorem Ext.thenL {G : Addr -> Prop} {h₁ h h' : Heap} {as₁ as : List Addr} {L : List Addr} (x : Ext (fun a => G a \/ a ∈ L) h₁ as₁ h as) (hk : ∀ b o, b ∉ L -> h.get? b = some o -> h'.get? b = some o) (hL : ∀ a ∈ L, h₁.get? a = none) : Ext G h₁ as₁ h' as where
 pre := x.pre
 new := x.new
 keep := fun a o e ha hG => by
  have hn : a ∉ L := fun q => by rw [hL a q] at e; cases e
  exact hk a o hn (x.keep a o e ha fun q => q.elim hG hn)
 live := fun a o e => by
  have hn : a ∉ L := fun q => by rw [hL a q] at e; cases e
  obtain ⟨o', e'⟩ := x.live a o e
  exact ⟨o', hk a o' hn e'⟩
theorem Ext.onL {G : Addr -> Prop} {h h' : Heap} {L : List Addr} (hk : ∀ b o, b ∉ L -> h.get? b = some o -> h'.get? b = some o) (hl : ∀ a ∈ L, ∃ o, h'.get? a = some o) : Ext (fun a => G a \/ a ∈ L) h as h' as where
 pre := List.prefix_refl _
 new := fun a x => .inl x
 keep := fun a o e ha hG => hk a o (fun q => hG (.inr q)) e
 live := fun a o e => by
  by_cases q : a ∈ L
  ·exact hl a q
  ·exact ⟨o, hk a o q e⟩
mutual
theorem qa8 : ∀ {a b : V}, q55 a b = true -> a = b
 | .none, b, h => by cases b <;> first | rfl | simp [q55] at h
 | .bool x, b, h => by cases b <;> simp [q55] at h; subst h; rfl
 | .int x, b, h => by cases b <;> simp [q55] at h; subst h; rfl
 | .str x, b, h => by cases b <;> simp [q55] at h; subst h; rfl
 | .tup x, b, h => by cases b <;> simp [q55] at h; exact congrArg V.tup (q4p h)
 | .lst x, b, h => by cases b <;> simp [q55] at h; exact congrArg V.lst (q4p h)
 | .ref x, b, h => by cases b <;> simp [q55] at h; subst h; rfl
 | .hd x, b, h => by cases b <;> simp [q55] at h; subst h; rfl
 | .g x, b, h => by cases b <;> simp [q55] at h; subst h; rfl
 | .rng .., b, h | .nod, b, h | .noi, b, h | .bi .., b, h | .ty .., b, h | .fn .., b, h | .m .., b, h => by cases b <;> simp [q55] at h
theorem q4p : ∀ {a b : List V}, q1x a b = true -> a = b
 | [], b, h => by cases b <;> first | rfl | simp [q1x] at h
 | x :: r, b, h => by
  cases b <;> simp [q1x] at h
  rw [qa8 h.1, q4p h.2]
end
theorem qcr : ∀ {a b : List (V × V)}, q9d a b = true -> a = b
 | [], b, h => by cases b <;> first | rfl | simp [q9d] at h
 | x :: r, b, h => by
  cases b with
  | nil => simp [q9d] at h
  | cons y t =>
   simp [q9d] at h
   have e1 := qa8 h.1.1
   have e2 := qa8 h.1.2
   rw [qcr h.2, Prod.ext e1 e2]
theorem qmu {a b : O} (h : q4j a b = true) : a = b := by
 cases a <;> cases b <;> simp only [q4j] at h <;> first | (cases h; done) | exact congrArg _ (q4p h) | exact congrArg _ (qcr h)
theorem q7y : ∀ {ws : List (Nat × O)} {st st' : St}, same ws st = some ((), st') -> st' = st /\ ∀ p ∈ ws, st[p.1]? = some p.2
 | [], _, _, h => by cases h; exact ⟨rfl, fun p hp => by cases hp⟩
 | (i, o) :: r, st, st', h => by
  unfold same at h
  obtain ⟨p, st1, h1, h2⟩ := q00 h
  obtain ⟨h1', rfl⟩ := q0s h1
  split at h2
  ·rename_i hs
   obtain ⟨q1, q2⟩ := q7y h2
   refine ⟨q1, fun x hx => ?_⟩
   rcases List.mem_cons.mp hx with rfl | hx
   ·rw [qmu hs]; exact h1'
   ·exact q2 x hx
  ·exact (q02 h2).elim
end Ev
end
section
namespace Ev
variable {B : Base} {prog : Program} {w : World} {A : Around} {F : Addr -> Prop} {s : Shared} {as : List Addr} {st : St} {Γ : Ctx} {env : Env} {ρ : Fr}
noncomputable def q6u (B : Base) (prog : Program) (w : World) (A : Around) (F : Addr -> Prop) (Γ : Ctx) (t it : Expr) (env : Env) (ρ : Fr) : Prop :=
 ∀ s as st, FrRep B s.heap as F env ρ -> Inv B s.heap as F st -> ∀ xs ws st', q0f Γ t it (q01 Γ it ρ) ρ st = some ((xs, ws), st') ->
  ∀ (Q : Value -> Shared -> Prop) (E : Value -> Shared -> Prop), (∀ I h₁ h' as' tk, Ext no s.heap as h₁ as' -> Inv B h₁ as' F st' -> q93 B prog w t xs ws F as' h₁ h' I -> (∀ p ∈ ws, st'[p.1]? = some p.2) -> s.toks <= tk ->
   Q (.ref I) { s with heap := h', toks := tk }) -> wpAny (model prog w) A (eval it env) (fun x s₁ => wpAny (model prog w) A (pyIter x) Q E s₁) E s
theorem qfs {g : Fr -> EvM (Fl × Fr)} {n0 : Nat} (hh : A.handled = none) {t : Expr} {body : List Stmt} {I : Addr} {L : List Addr} {xs : List V} {ws : List (Nat × O)} {P : Nat -> Heap -> List Addr -> (Addr -> Prop) -> Prop} (T : Turns B prog w t I L xs ws P)
  {sc : List (Str × NameKind)} (hb : ∀ ρ, ρ.sc = sc -> ∀ s as st, n0 <= s.toks -> FrRep B s.heap as (Fu F L) env ρ -> Inv B s.heap as (Fu F L) st -> SimX B prog w A (Fu F L) env ρ.sc (execs body env) (g ρ) s as st)
  {h₁ : Heap} {as₁ : List Addr} (hL : ∀ a ∈ L, h₁.get? a = none) (hLF : ∀ a ∈ L, ¬ F a) {f₀ : Fr} {as₀ : List Addr} {h₀ : Heap} (F₀ : FrRep B h₀ as₀ F env f₀) (hf₀ : f₀.sc = sc)
  {fl : Fl} {ρ' : Fr} {st' : St} {s : Shared} {R : Result -> Shared -> Prop}
  (hR : ∀ x h' as' tk, RFl B h' as' F fl x -> ρ'.sc = sc -> FrRep B h' as' F env ρ' -> Inv B h' as' F st' -> Ext (Own env sc) h₁ as₁ h' as' -> s.toks <= tk -> R (.ok x) { s with heap := h', toks := tk })
  (hn0 : n0 <= s.toks) {ρ : Fr} (hsc : ρ.sc = sc) (hp : P 0 s.heap as (Fu F L)) (i : Inv B s.heap as (Fu F L) st) (f : FrRep B s.heap as (Fu F L) env ρ) (hw : ∀ p ∈ ws, st[p.1]? = some p.2)
  (e : Ext (fun a => Own env sc a \/ a ∈ L) h₁ as₁ s.heap as)
  (hv : q2r ws xs ρ (fun x ρ => do
   let ρ' <- rd fun st => q0e false st t x ρ
   g ρ') st = some ((fl, ρ'), st')) :
  codeAny (model prog w) A (.forLoop t (.ref I) body [] env) R s := by
 refine codeAny_forLoop_any (I := fun n s2 => ∃ k ρ1 as1 st1 h2 tk, s2 = { s with heap := h2, toks := tk } /\ s.toks <= tk /\ (xs.drop k).length = n /\ k <= xs.length /\ ρ1.sc = sc /\ P k h2 as1 (Fu F L) /\ Inv B h2 as1 (Fu F L) st1 /\ FrRep B h2 as1 (Fu F L) env ρ1 /\
  (∀ p ∈ ws, st1[p.1]? = some p.2) /\ Ext (fun a => Own env sc a \/ a ∈ L) h₁ as₁ h2 as1 /\ q2r ws (xs.drop k) ρ1 (fun x ρ => do
   let ρ' <- rd fun st => q0e false st t x ρ
   g ρ') st1 = some ((fl, ρ'), st')) ?_ xs.length ⟨0, ρ, as, st, s.heap, s.toks, rfl, Nat.le_refl _, by simp, Nat.zero_le _, hsc, hp, i, f, hw, e, hv⟩
 rintro n _ ⟨k, ρ1, as1, st1, h2, tk, rfl, htk, hn, hk, hsc1, p1, i1, f1, hw1, e1, hv1⟩
 by_cases hkl : k = xs.length
 ·subst hkl
  rw [List.drop_length] at hv1
  obtain ⟨hv2, rfl⟩ := q03 hv1
  cases hv2
  refine T.done A { s with heap := h2, toks := tk } as1 (Fu F L) st' _ _ hh p1 i1 hw1 fun h' tk' hk' ht' => ?_
  refine wpAny_pure ?_
  exact hR .next h' as1 tk' .next hsc1 (f1.drop F₀ (hsc1.trans hf₀.symm) hLF hk') (i1.drop hLF hk') (e1.thenL hk' hL) (Nat.le_trans htk ht')
 ·have hlt : k < xs.length := Nat.lt_of_le_of_ne hk hkl
  have hx : xs[k]? = some xs[k] := List.getElem?_eq_getElem hlt
  rw [List.drop_eq_getElem_cons hlt] at hv1
  unfold q2r at hv1
  obtain ⟨⟨fl2, ρ2⟩, st2, h3, hv2⟩ := q00 hv1
  obtain ⟨ρ3, st3, h4, h5⟩ := q00 h3
  obtain ⟨h4', rfl⟩ := q0s h4
  refine T.item k xs[k] A { s with heap := h2, toks := tk } as1 (Fu F L) _ _ _ hh hx p1 i1 (fun a ha => .inr ha) hw1 fun y h' tk' hk' hl' ry ht' go => ?_
  refine go _ _ fun h'' hk2 p2 => ?_
  have hl2 := T.live _ _ _ _ p2
  have hk3 : ∀ b o, b ∉ L -> h2.get? b = some o -> h''.get? b = some o := fun b o q e => hk2 b o q (hk' b o q e)
  have i2 : Inv B h'' as1 (Fu F L) _ := i1.onL hk3 hl2
  have kp : ∀ a o, h2.get? a = some o -> a ∉ as1 -> ¬ Fu F L a -> h''.get? a = some o /\ a ∉ as1 /\ ¬ Fu F L a := fun a o e q1 q2 => ⟨hk3 a o (fun q => q2 (.inr q)) e, q1, q2⟩
  have e2 : Ext (fun a => Own env sc a \/ a ∈ L) h₁ as₁ h'' as1 := e1.trans (Ext.onL hk3 hl2)
  have f2 : FrRep B h'' as1 (Fu F L) env ρ1 := f1.onL F₀ (hsc1.trans hf₀.symm) hLF hk3
  have ry2 : Rep B h'' as1 (Fu F L) xs[k] y := ry.mono (List.prefix_refl _) fun a o e q1 q2 => ⟨hk2 a o (fun q => q2 (.inr q)) e, q1, q2⟩
  refine q6p hh t (s := { s with heap := h'', toks := tk' }) f2 i2 ry2 h4' fun h3' tk3 f3 i3 e3 ht3 => ?_
  have sc3 : ρ3.sc = sc := (q4w t h4').trans hsc1
  refine hb ρ3 sc3 { s with heap := h3', toks := tk3 } as1 _ (Nat.le_trans hn0 (Nat.le_trans htk (Nat.le_trans ht' ht3))) f3 i3 fl2 ρ2 st2 h5 _ _ fun x h4'' as4 tk4 rx sc4 f4 i4 e4 ht4 => ?_
  have eAll : Ext (fun a => Own env sc a \/ a ∈ L) h₁ as₁ h4'' as4 := (e2.trans ((hsc1 ▸ e3).weak fun a q => .inl q)).trans ((sc3 ▸ e4).weak fun a q => .inl q)
  have htks : s.toks <= tk4 := Nat.le_trans htk (Nat.le_trans ht' (Nat.le_trans ht3 ht4))
  cases rx with
  | next =>
   obtain ⟨u, st5, h6, h7⟩ := q00 hv2
   obtain ⟨rfl, hw5⟩ := q7y h6
   have keep4 : ∀ a ∈ L, ∀ o, h''.get? a = some o -> h4''.get? a = some o := fun a ha o e => by
    have hno : ¬ Own env sc a := fun q => hLF a ha (F₀.own a (hf₀ ▸ q))
    have hna : a ∉ as1 := fun q => i2.apart a q (.inr ha)
    have q1 := e3.keep a o e hna (hsc1 ▸ hno)
    have q2 := e4.keep a o q1 hna (sc3 ▸ hno)
    exact q2
   have mono4 : ∀ a o, h''.get? a = some o -> a ∉ as1 -> ¬ Fu F L a -> h4''.get? a = some o /\ a ∉ as4 /\ ¬ Fu F L a := fun a o e q1 q2 => by
    have hno : ¬ Own env sc a := fun q => q2 (.inl (F₀.own a (hf₀ ▸ q)))
    have q3 := e3.keep a o e q1 (hsc1 ▸ hno)
    have q4 := e4.keep a o q3 q1 (sc3 ▸ hno)
    refine ⟨q4, fun hm => (e4.new a hm).elim q1 fun q => ?_, q2⟩
    have q' : h3'.get? a = none := q
    rw [q3] at q'; cases q'
   refine ⟨(xs.drop (k + 1)).length, ?_, k + 1, ρ2, as4, _, h4'', tk4, rfl, htks, rfl, hlt, sc4.trans sc3, T.frame _ _ _ _ _ _ _ p2 e4.pre mono4 keep4, i4, f4, hw5, eAll, h7⟩
   rw [<- hn]; simp; omega
  | ret r =>
   obtain ⟨hv3, rfl⟩ := q03 hv2
   cases hv3
   exact hR _ h4'' as4 tk4 (.ret (r.drop fun b o _ e => e)) (sc4.trans sc3) (f4.drop F₀ (sc4.trans (sc3.trans hf₀.symm)) hLF fun b o _ e => e) (i4.drop hLF fun b o _ e => e) (eAll.thenL (fun b o _ e => e) hL) htks
theorem qu8 (hh : A.handled = none) {t : Expr} {body : List Stmt} {I : Addr} {L : List Addr} {xs : List V} {ws : List (Nat × O)} {P : Nat -> Heap -> List Addr -> (Addr -> Prop) -> Prop} (T : Turns B prog w t I L xs ws P)
  {sc : List (Str × NameKind)} (hb : ∀ ρ, ρ.sc = sc -> OkX B prog w A (Fu F L) env ρ (execs body env) (q09 Γ body ρ))
  {h₁ : Heap} {as₁ : List Addr} (hL : ∀ a ∈ L, h₁.get? a = none) (hLF : ∀ a ∈ L, ¬ F a) {f₀ : Fr} {as₀ : List Addr} {h₀ : Heap} (F₀ : FrRep B h₀ as₀ F env f₀) (hf₀ : f₀.sc = sc)
  {fl : Fl} {ρ' : Fr} {st' : St} {s : Shared} {R : Result -> Shared -> Prop}
  (hR : ∀ x h' as' tk, RFl B h' as' F fl x -> ρ'.sc = sc -> FrRep B h' as' F env ρ' -> Inv B h' as' F st' -> Ext (Own env sc) h₁ as₁ h' as' -> s.toks <= tk -> R (.ok x) { s with heap := h', toks := tk })
  {ρ : Fr} (hsc : ρ.sc = sc) (hp : P 0 s.heap as (Fu F L)) (i : Inv B s.heap as (Fu F L) st) (f : FrRep B s.heap as (Fu F L) env ρ) (hw : ∀ p ∈ ws, st[p.1]? = some p.2)
  (e : Ext (fun a => Own env sc a \/ a ∈ L) h₁ as₁ s.heap as)
  (hv : q2r ws xs ρ (fun x ρ => do
   let ρ' <- rd fun st => q0e false st t x ρ
   q09 Γ body ρ') st = some ((fl, ρ'), st')) :
  codeAny (model prog w) A (.forLoop t (.ref I) body [] env) R s :=
 qfs (g := q09 Γ body) (n0 := 0) hh T (fun ρ hs s as st _ f i => hb ρ hs s as st f i) hL hLF F₀ hf₀ hR (Nat.zero_le _) hsc hp i f hw e hv
theorem r2i (hh : A.handled = none) {t it : Expr} {body : List Stmt} {pos : Pos} (hi : q6u B prog w A F Γ t it env ρ) (hb : ∀ L ρ', ρ'.sc = ρ.sc -> OkX B prog w A (Fu F L) env ρ' (execs body env) (q09 Γ body ρ')) :
  OkX B prog w A F env ρ (exec (.For t it body [] pos) env) (q0m Γ (.For t it body [] pos) ρ) := by
 intro s as st f i fl ρ' st' hv Q E hQ
 simp only [q0m] at hv
 split at hv
 ·rename_i hp
  obtain ⟨⟨xs, ws⟩, st1, h1, hv1⟩ := q00 hv
  refine wpAny_For (hi s as st f i xs ws st1 h1 _ _ fun I h₁ h' as' tk e1 i1 hbg hw ht => ?_) ?_
  ·obtain ⟨L, P, T, p0, hk, hL⟩ := hbg
   have f1 := f.on i e1
   have hLF : ∀ a ∈ L, ¬ F a := fun a ha => (i1.fresh (hL a ha)).2
   refine qu8 hh T (hb L) (h₁ := h₁) (as₁ := as') hL hLF f1 rfl (s := { s with heap := h', toks := tk }) (fun x h2 as2 tk2 rx sc f2 i2 e2 ht2 => ?_) rfl p0 (i1.more hk hL (T.live _ _ _ _ p0)) (f1.more hk hL) hw (Ext.keeps hk) hv1
   exact hQ x h2 as2 tk2 rx sc f2 i2 (e1.own.trans e2) (Nat.le_trans ht ht2)
  ·intro x
   cases it <;> first | rfl | cases hp
 ·exact (q02 hv).elim
end Ev
end
section
namespace Ev
variable {B : Base} {prog : Program} {w : World} {A : Around} {F : Addr -> Prop} {s : Shared} {as : List Addr} {st : St} {Γ : Ctx} {env : Env} {ρ : Fr} {R : Result -> Shared -> Prop}
noncomputable def qdb (prog : Program) (w : World) (A : Around) (elt : Expr) (gens : List Comprehension) (scope : Scope) (pos : Pos) (d : Nat) (acc : Value) (env : Env) (Q : Shared -> Prop) (E : Value -> Shared -> Prop) (s : Shared) : Prop :=
 match gens[d]? with
 | some g' => wpAny (model prog w) A (eval g'.iter env) (fun x s₁ => wpAny (model prog w) A (pyIter x) (fun it s₂ =>
   codeAny (model prog w) A (.compStart (.ListComp elt gens scope pos) d it acc env) (fun r s' => match r with | .ok _ => Q s' | .error e => cameBackBy (model prog w) A env E e s') s₂) E s₁) E s
 | none => wpAny (model prog w) A (eval elt env) (fun x s₁ => wpAny (model prog w) A (call (.builtin "list.append") [acc, x]) (fun _ s₂ => Q s₂) E s₁) E s
abbrev testsC (ifs : List Expr) (env : Env) : Sem Bool := forIn ifs true fun c r => if r = true then do let ok <- PySem.isTrue c env (eval c env); pure (ForInStep.yield ok) else pure (ForInStep.yield r)
theorem q46 {elt : Expr} {gens : List Comprehension} {scope : Scope} {pos : Pos} {d : Nat} {it acc : Value} {env : Env} {target iter : Expr} {ifs : List Expr} (hg : gens[d]? = some ⟨target, iter, ifs, 0⟩)
  (hd : ∀ g', gens[d + 1]? = some g' -> g'.is_async = 0 /\ q0d g'.iter = true)
  (I : Nat -> Shared -> Prop)
  (turn : ∀ n s, I n s -> wpAny (model prog w) A (pyNext it) (fun r s₁ => match r with
   | none => R (.ok .next) s₁
   | some v => wpAny (model prog w) A (letOwnedTupleGo target it v) (fun _ s₁' => wpAny (model prog w) A (assign target env v) (fun _ s₂ =>
     wpAny (model prog w) A (testsC ifs env) (fun ok s₃ =>
      if ok = true then qdb prog w A elt gens scope pos (d + 1) acc env (fun s₅ => ∃ m, m < n /\ I m s₅) (notedBy (model prog w) A env fun e s' => R (.error e) s') s₃
      else ∃ m, m < n /\ I m s₃) (notedBy (model prog w) A env fun e s' => R (.error e) s') s₂) (notedBy (model prog w) A env fun e s' => R (.error e) s') s₁') (notedBy (model prog w) A env fun e s' => R (.error e) s') s₁) (notedBy (model prog w) A env fun e s' => R (.error e) s') s)
  (n : Nat) (h : I n s) : codeAny (model prog w) A (.compLoop (.ListComp elt gens scope pos) d it acc env) R s := by
 refine codeAny_loop' rfl I (fun n s hI => ?_) n h
 show wpAny _ A ((compTurn (.ListComp elt gens scope pos) d it acc env).onRaise (fun x => do noteFrame x env; theTreesLotGoes x)) _ _ s
 refine wpAny_noted ?_
 unfold compTurn
 simp only [hg]
 refine wpAny_bind (wpAny_standAt ?_)
 rw [if_neg (by decide)]
 refine wpAny_bind (wpAny_mono (turn n s hI) (fun r s₁ h₁ => ?_) fun _ _ h' => h')
 cases r with
 | none => exact wpAny_pure h₁
 | some v =>
  refine wpAny_bind (wpAny_mono h₁ (fun _ s₁' h₁' => ?_) fun _ _ h' => h')
  refine wpAny_bind (wpAny_mono h₁' (fun _ s₂ h₂ => wpAny_bind (wpAny_mono h₂ (fun ok s₃ h₃ => ?_) fun _ _ h' => h')) fun _ _ h' => h')
  cases ok with
  | false => exact wpAny_pure (.inl ⟨rfl, h₃⟩)
  | true =>
   simp only [if_true] at h₃ ⊢
   unfold qdb at h₃
   cases hgd : gens[d + 1]? with
   | none =>
    rw [hgd] at h₃
    refine wpAny_bind (wpAny_bind (wpAny_mono h₃ (fun x s₄ h₄ => wpAny_bind (wpAny_mono h₄ (fun _ s₅ h₅ => ?_) fun _ _ h' => h')) fun _ _ h' => h'))
    exact wpAny_pure (wpAny_pure (.inl ⟨rfl, h₅⟩))
   | some g' =>
    rw [hgd] at h₃
    obtain ⟨t', it', ifs', as'⟩ := g'
    obtain ⟨rfl, hpl⟩ := hd _ hgd
    refine wpAny_bind (wpAny_mono h₃ (fun x s₄ h₄ => wpAny_bind (wpAny_standAt ?_)) fun _ _ h' => h')
    rw [if_neg (by simp)]
    have hf : foldedSetIterable it' env x = pure x := by cases it' <;> first | rfl | cases hpl
    refine wpAny_bind (wpAny_of_eq hf ?_)
    rw [if_neg (by simp)]
    refine wpAny_bind (wpAny_holding (wpAny_mono h₄ (fun it2 s₅ h₅ => ?_) fun _ _ h' => h'))
    refine wpAny_bind (wpAny_runOwn (codeAny_mono h₅ fun r s₆ h₆ => ?_))
    cases r with
    | ok f => exact wpAny_pure (.inl ⟨rfl, h₆⟩)
    | error e => exact h₆
theorem q1i {elt : Expr} {gens : List Comprehension} {scope : Scope} {pos : Pos} {d : Nat} {it acc : Value} {env : Env} {target iter : Expr} {ifs : List Expr} (hg : gens[d]? = some ⟨target, iter, ifs, 0⟩)
  (h0 : codeAny (model prog w) A (.compLoop (.ListComp elt gens scope pos) d it acc env) R s)
  (h : wpAny (model prog w) A (pyIter it) (fun it' s' => codeAny (model prog w) A (.compLoop (.ListComp elt gens scope pos) d it' acc env) R s')
   (notedBy (model prog w) A env fun x s' => R (.error x) s') s) :
  codeAny (model prog w) A (.compStart (.ListComp elt gens scope pos) d it acc env) R s := by
 refine codeAny_of_tree ?_
 show wpAny _ A ((compStart (.ListComp elt gens scope pos) d it acc env).onRaise (fun x => do noteFrame x env; standAt theWindowsPlace)) _ _ s
 refine wpAny_notedAt ?_
 unfold compStart
 have hc : (clausesOf (.ListComp elt gens scope pos))[d]? = some ⟨target, iter, ifs, 0⟩ := hg
 rw [hc]
 show wpAny _ _ (ask >>= _) _ _ s
 refine wpAny_bind (wpAny_askSetting (wpAny_ite ?_))
 split
 ·first
   | exact wpAny_bind (wpAny_pure (wpAny_pure (And.intro rfl h0)))
   | exact wpAny_pure (And.intro rfl h0)
 ·first
   | exact wpAny_bind (wpAny_rule (wpAny_bind (wpAny_standAt (wpAny_bind (wpAny_mono h (fun it' s' h' => wpAny_pure (And.intro rfl h')) fun _ _ x => x)))))
   | (refine wpAny_bind (wpAny_rule ?_); show wpAny _ _ (standAt iter.pos >>= _) _ _ s; exact wpAny_bind (wpAny_standAt (wpAny_bind (wpAny_mono h (fun it' s' h' => wpAny_pure (And.intro rfl h')) fun _ _ x => x))))
end Ev
end
section
namespace Ev
variable {B : Base} {prog : Program} {w : World} {A : Around} {F : Addr -> Prop} {s : Shared} {as : List Addr} {st : St} {Γ : Ctx} {env : Env} {ρ : Fr} {R : Result -> Shared -> Prop}
theorem q7d : ∀ (ifs : List Expr) {Q : Bool -> Shared -> Prop} {E : Value -> Shared -> Prop}, Q false s ->
  wpAny (model prog w) A (forIn ifs false fun c r => if r = true then do let ok <- PySem.isTrue c env (eval c env); pure (ForInStep.yield ok) else pure (ForInStep.yield r)) Q E s
 | [], _, _, h => wpAny_pure h
 | c :: r, _, _, h => by
  rw [List.forIn_cons]
  rw [if_neg (by decide)]
  exact wpAny_bind (wpAny_pure (q7d r h))
theorem qjb : ∀ (ifs : List Expr), (∀ e ∈ ifs, OkB B prog w A F env ρ (PySem.isTrue e env (eval e env)) (q0g Γ e ρ (q01 Γ e ρ))) -> OkB B prog w A F env ρ (testsC ifs env) (q0v Γ ifs ρ)
 | [], _ => by
  intro s as st f i v st' hv Q E hQ
  simp only [q0v] at hv
  obtain ⟨rfl, rfl⟩ := q03 hv
  exact wpAny_pure (hQ _ s.heap as s.toks rfl i (Ext.refl _ _ _) (Nat.le_refl _))
 | c :: r, h => by
  intro s as st f i v st' hv Q E hQ
  simp only [q0v] at hv
  obtain ⟨b, st1, hb, hv1⟩ := q00 hv
  show wpAny _ _ (forIn (c :: r) true _) Q E s
  rw [List.forIn_cons, if_pos rfl]
  refine wpAny_bind (wpAny_bind (h c (by simp) s as st f i b st1 hb _ _ fun x h1 as1 tk1 rx i1 e1 ht1 => wpAny_pure ?_))
  have rx' : b = x := rx
  subst rx'
  cases b with
  | true =>
   exact qjb r (fun e he => h e (by simp [he])) _ as1 st1 (f.on i e1) i1 v st' hv1 _ _ fun y h2 as2 tk2 ry i2 e2 ht2 => hQ y h2 as2 tk2 ry i2 (e1.trans e2) (Nat.le_trans ht1 ht2)
  | false =>
   obtain ⟨rfl, rfl⟩ := q03 hv1
   exact q7d r (hQ _ h1 as1 tk1 rfl i1 e1 ht1)
noncomputable def q3o (B : Base) (h : Heap) (as : List Addr) (F : Addr -> Prop) (D : Addr) (vs : List V) : Prop := ∃ xs, PlainL h D xs.toArray /\ Reps B h as F vs xs
noncomputable def GC (env : Env) (sc : List (Str × NameKind)) (D : Addr) (a : Addr) : Prop := Own env sc a \/ a = D
theorem q3o.ext {h h' : Heap} {as as' : List Addr} {D : Addr} {vs : List V} {G : Addr -> Prop} (x : q3o B h as F D vs) (e : Ext G h as h' as') (hG : ∀ a, G a -> F a) (hD : F D) (hDG : ¬ G D) (hDa : D ∉ as) : q3o B h' as' F D vs := by
 obtain ⟨xs, ⟨o, n, ho, r⟩, rs⟩ := x
 refine ⟨xs, ⟨o, n, e.keep D o ho hDa hDG, r⟩, rs.mono e.pre fun a o q1 q2 q3 => ⟨e.keep a o q1 q2 fun g => q3 (hG a g), fun hm => (e.new a hm).elim q2 fun z => (by rw [z] at q1; cases q1), q3⟩⟩
theorem FrRep.less {h : Heap} {ρ' : Fr} (f : FrRep B h as F env ρ') (hs : ρ'.sc = ρ.sc) (ho : ρ'.out = ρ.out) (hv : ∀ x v, ρ.vars.lookup x = some v -> ρ'.vars.lookup x = some v) : FrRep B h as F env ρ where
 kind := f.kind
 gl := f.gl
 bl := f.bl
 loc := by
  obtain ⟨m, hn, hm⟩ := f.loc
  exact ⟨m, hn, fun x v h1 h2 => hm x v (hs ▸ h1) (hv x v h2)⟩
 kindL := fun x hx => f.kindL x (hs ▸ hx)
 kindN := fun x hx => hs ▸ f.kindN x hx
 kindC := fun x hx => f.kindC x (hs ▸ hx)
 kindG := fun x hx => f.kindG x (hs ▸ hx)
 cell := fun x hx => by
  obtain ⟨c, yo, h1, h2, h3, h4, h5⟩ := f.cell x (hs ▸ hx)
  exact ⟨c, yo, h1, h2, h3, h4, fun v hv' => h5 v (hv x v hv')⟩
 apart := fun x x' c h1 h2 => f.apart x x' c (hs ▸ h1) (hs ▸ h2)
 free := fun x hx => by
  obtain ⟨h1, h2, c, yo, h3, h4, h5, h6, h7, h8⟩ := f.free x (hs ▸ hx)
  exact ⟨h1, h2, c, yo, h3, h4, h5, h6, fun x' hx' => h7 x' (hs ▸ hx'), fun v hv' => h8 v (ho ▸ hv')⟩
 ownF := f.ownF
mutual
theorem qcf {st : St} : ∀ (t : Expr) {v : V} {ρ ρ' : Fr}, q0e true st t v ρ = some ρ' -> ρ'.out = ρ.out /\ ∀ x u, ρ.vars.lookup x = some u -> ρ'.vars.lookup x = some u
 | .Name x p, v, ρ, ρ', h => by
  simp only [q0e] at h
  split at h
  ·cases h
  ·rename_i hn
   obtain ⟨_, rfl⟩ := Fr.set_some h
   refine ⟨rfl, fun z u hz => ?_⟩
   show (q0c x v ρ.vars).lookup z = some u
   rw [q14]
   by_cases q : z = x
   ·subst q; simp [hz] at hn
   ·rw [if_neg q]; exact hz
 | .Tuple es k p, v, ρ, ρ', h => by
  cases v <;> simp only [q0e] at h <;> first | (cases h; done) | exact q9n es h
 | .Constant .., v, ρ, ρ', h | .BinOp .., v, ρ, ρ', h | .UnaryOp .., v, ρ, ρ', h | .BoolOp .., v, ρ, ρ', h | .IfExp .., v, ρ, ρ', h | .Compare .., v, ρ, ρ', h | .Call .., v, ρ, ρ', h | .Attribute .., v, ρ, ρ', h
 | .Subscript .., v, ρ, ρ', h | .List .., v, ρ, ρ', h | .ListComp .., v, ρ, ρ', h | .Dict .., v, ρ, ρ', h | .DictComp .., v, ρ, ρ', h | .Set .., v, ρ, ρ', h | .SetComp .., v, ρ, ρ', h | .GeneratorExp .., v, ρ, ρ', h
 | .Lambda .., v, ρ, ρ', h | .NamedExpr .., v, ρ, ρ', h | .Await .., v, ρ, ρ', h | .Yield .., v, ρ, ρ', h | .YieldFrom .., v, ρ, ρ', h | .FormattedValue .., v, ρ, ρ', h | .JoinedStr .., v, ρ, ρ', h | .Starred .., v, ρ, ρ', h | .Slice .., v, ρ, ρ', h => by
  simp only [q0e] at h; cases h
theorem q9n {st : St} : ∀ (es : List Expr) {vs : List V} {ρ ρ' : Fr}, q0b true st es vs ρ = some ρ' -> ρ'.out = ρ.out /\ ∀ x u, ρ.vars.lookup x = some u -> ρ'.vars.lookup x = some u
 | [], [], _, _, h => by simp only [q0b] at h; cases h; exact ⟨rfl, fun _ _ x => x⟩
 | [], _ :: _, _, _, h => by simp [q0b] at h
 | _ :: _, [], _, _, h => by simp [q0b] at h
 | e :: es, v :: vs, ρ, ρ', h => by
  simp only [q0b] at h
  cases h1 : q0e true st e v ρ with
  | none => rw [h1] at h; cases h
  | some ρ1 =>
   rw [h1] at h
   obtain ⟨a1, a2⟩ := qcf e h1
   obtain ⟨b1, b2⟩ := q9n es (show q0b true st es vs ρ1 = some ρ' from h)
   exact ⟨b1.trans a1, fun x u q => b2 x u (a2 x u q)⟩
end
noncomputable def q54 (B : Base) (prog : Program) (w : World) (A : Around) (Γ : Ctx) (F : Addr -> Prop) (elt : Expr) (gens : List Comprehension) (scope : Scope) (pos : Pos) (d : Nat) (D : Addr) (env : Env) (gs : List Comprehension) (ρ : Fr) : Prop :=
 ∀ pre s as st out st', FrRep B s.heap as F env ρ -> Inv B s.heap as F st -> q3o B s.heap as F D pre -> q0t Γ gs (fun ρ' => do return [<- q01 Γ elt ρ']) ρ ρ st = some (out, st') -> (pre ++ out).length <= cap ->
  ∀ (Q : Shared -> Prop) (E : Value -> Shared -> Prop), (∀ h' as' tk, FrRep B h' as' F env ρ -> Inv B h' as' F st' -> q3o B h' as' F D (pre ++ out) -> Ext (GC env ρ.sc D) s.heap as h' as' -> s.toks <= tk -> Q { s with heap := h', toks := tk }) ->
  qdb prog w A elt gens scope pos d (.ref D) env Q E s
theorem qmj {elt : Expr} {gens : List Comprehension} {scope : Scope} {pos : Pos} {d : Nat} {D : Addr} (hD : F D) (hDo : ¬ Own env ρ.sc D) (hd : gens[d]? = none) (he : OkV B prog w A F env ρ (eval elt env) (q01 Γ elt ρ)) :
  q54 B prog w A Γ F elt gens scope pos d D env [] ρ := by
 intro pre s as st out st' f i acc hv hcap Q E hQ
 simp only [q0t] at hv
 obtain ⟨v, st1, h1, hv1⟩ := q00 hv
 obtain ⟨rfl, rfl⟩ := q03 hv1
 unfold qdb
 rw [hd]
 refine he s as st f i v _ h1 _ _ fun x g1 as1 tk1 rx i1 e1 ht1 => ?_
 have hDa : D ∉ as := fun q => i.apart D q hD
 have hDa1 : D ∉ as1 := fun q => i1.apart D q hD
 obtain ⟨xs, hpl, rs⟩ := acc.ext e1 (fun _ q => q.elim) hD id hDa
 refine list_append_plainL hpl (fun h' hp' hs' => ?_) ?_
 ·have hk : ∀ a o, a ≠ D -> g1.get? a = some o -> h'.get? a = some o := fun a o q e => (hs'.2 a q).trans e
  have hl : ∃ o, h'.get? D = some o := by obtain ⟨o, _, ho, _⟩ := hp'; exact ⟨o, ho⟩
  have f1 := f.on i e1
  refine hQ h' as1 tk1 ?_ (i1.atF hD hk hl) ⟨xs ++ [x], by simpa using hp', ?_⟩ ?_ ht1
  ·-- the frame's places are others than D
   exact {
    kind := f1.kind, gl := f1.gl, bl := f1.bl
    loc := by
     obtain ⟨m, ⟨o, es, ep, ho, r⟩, hm'⟩ := f1.loc
     refine ⟨m, ⟨o, es, ep, hk _ _ (fun q => hDo (.inl q.symm)) ho, r⟩, fun y v h1 h2 => ?_⟩
     obtain ⟨z, hz, hr⟩ := hm' y v h1 h2
     exact ⟨z, hz, hr.atF hD hk⟩
    kindL := f1.kindL, kindN := f1.kindN, kindC := f1.kindC, kindG := f1.kindG
    cell := fun y hy => by
     obtain ⟨c, yo, hc, ⟨o, ho, hd⟩, hFc, hl, hv⟩ := f1.cell y hy
     refine ⟨c, yo, hc, ⟨o, hk _ _ (fun q => hDo (.inr ⟨y, hy, q ▸ hc⟩)) ho, hd⟩, hFc, hl, fun v hv' => ?_⟩
     obtain ⟨z, hz, hr⟩ := hv v hv'
     exact ⟨z, hz, hr.atF hD hk⟩
    apart := f1.apart
    free := fun y hy => by
     obtain ⟨hk', hn, c, yo, hc, ⟨o, ho, hd⟩, hFc, hl, ha, hv⟩ := f1.free y hy
     refine ⟨hk', hn, c, yo, hc, ⟨o, hk _ _ (fun q => ?_) ho, hd⟩, hFc, hl, ha, fun v hv' => ?_⟩
     ·subst q
      obtain ⟨o', _, ho', _, _, hd'⟩ := hpl
      rw [ho'] at ho; cases ho
      rw [hd'] at hd; cases hd
     ·obtain ⟨z, hz, hr⟩ := hv v hv'
      exact ⟨z, hz, hr.atF hD hk⟩
    ownF := f1.ownF }
  ·exact (rs.mono (List.prefix_refl _) fun a o h1 h2 h3 => ⟨hk a o (fun e => h3 (e ▸ hD)) h1, h2, h3⟩).app (.cons (rx.atF hD hk) .nil)
  ·exact (e1.weak fun _ q => q.elim).trans ((Ext.atF hk hl).weak fun a q => .inr q)
 ·have := rs.length
  simp
  rw [<- this]
  have hc : pre.length + 1 <= cap := by simpa using hcap
  have := q18 (n := pre.length) (by omega)
  exact this
end Ev
end
section
namespace Ev
variable {B : Base} {prog : Program} {w : World} {A : Around} {F : Addr -> Prop} {s : Shared} {as : List Addr} {st : St} {Γ : Ctx} {env : Env} {ρ : Fr} {R : Result -> Shared -> Prop}
abbrev turnC (Γ : Ctx) (t : Expr) (ifs : List Expr) (gs : List Comprehension) (leaf : Fr -> EvM (List V)) (ρi : Fr) (x : V) : EvM (List V) := do
 let ρ' <- rd fun st => q0e true st t x ρi
 if <- q0v Γ ifs ρ' then q0t Γ gs leaf ρ' ρ' else pure []
theorem qfw (hh : A.handled = none) {elt : Expr} {gens : List Comprehension} {scope : Scope} {pos : Pos} {d : Nat} {D : Addr} {t it : Expr} {ifs : List Expr} {gs : List Comprehension}
  (hg : gens[d]? = some ⟨t, it, ifs, 0⟩) (hall : ∀ g ∈ gens, g.is_async = 0 /\ q0d g.iter = true)
  {I : Addr} {L : List Addr} {xs : List V} {ws : List (Nat × O)} {P : Nat -> Heap -> List Addr -> (Addr -> Prop) -> Prop} (T : Turns B prog w t I L xs ws P)
  {h₁ : Heap} {as₁ : List Addr} (hL : ∀ a ∈ L, h₁.get? a = none) (hLF : ∀ a ∈ L, ¬ F a) (hD : F D) {ρ : Fr} {as₀ : List Addr} {h₀ : Heap} (F₀ : FrRep B h₀ as₀ F env ρ)
  (hifs : ∀ ρ', ρ'.sc = ρ.sc -> OkB B prog w A (Fu F L) env ρ' (testsC ifs env) (q0v Γ ifs ρ'))
  (hbody : ∀ ρ', ρ'.sc = ρ.sc -> q54 B prog w A Γ (Fu F L) elt gens scope pos (d + 1) D env gs ρ')
  {pre out : List V} {st' : St} {s : Shared} {R : Result -> Shared -> Prop}
  (hR : ∀ h' as' tk, FrRep B h' as' F env ρ -> Inv B h' as' F st' -> q3o B h' as' F D (pre ++ out) -> Ext (GC env ρ.sc D) h₁ as₁ h' as' -> s.toks <= tk -> R (.ok .next) { s with heap := h', toks := tk })
  (hp : P 0 s.heap as (Fu F L)) (i : Inv B s.heap as (Fu F L) st) (f : FrRep B s.heap as (Fu F L) env ρ) (hacc : q3o B s.heap as (Fu F L) D pre) (hw : ∀ p ∈ ws, st[p.1]? = some p.2) (hcap : (pre ++ out).length <= cap)
  (e : Ext (fun a => GC env ρ.sc D a \/ a ∈ L) h₁ as₁ s.heap as)
  (hv : mapE ws xs (turnC Γ t ifs gs (fun ρ' => do return [<- q01 Γ elt ρ']) ρ) st = some (out, st')) :
  codeAny (model prog w) A (.compLoop (.ListComp elt gens scope pos) d (.ref I) (.ref D) env) R s := by
 refine q46 hg (fun g' hg' => hall g' (List.mem_of_getElem? hg')) (I := fun n s2 => ∃ k out1 out2 as1 st1 h2 tk, s2 = { s with heap := h2, toks := tk } /\ s.toks <= tk /\ (xs.drop k).length = n /\ k <= xs.length /\ out = out1 ++ out2 /\ P k h2 as1 (Fu F L) /\ Inv B h2 as1 (Fu F L) st1 /\ FrRep B h2 as1 (Fu F L) env ρ /\
  q3o B h2 as1 (Fu F L) D (pre ++ out1) /\ (∀ p ∈ ws, st1[p.1]? = some p.2) /\ Ext (fun a => GC env ρ.sc D a \/ a ∈ L) h₁ as₁ h2 as1 /\ mapE ws (xs.drop k) (turnC Γ t ifs gs (fun ρ' => do return [<- q01 Γ elt ρ']) ρ) st1 = some (out2, st')) ?_ xs.length
  ⟨0, [], out, as, st, s.heap, s.toks, rfl, Nat.le_refl _, by simp, Nat.zero_le _, rfl, hp, i, f, by simpa using hacc, hw, e, hv⟩
 rintro n _ ⟨k, out1, out2, as1, st1, h2, tk, rfl, htk, hn, hk, rfl, p1, i1, f1, acc1, hw1, e1, hv1⟩
 have hDL : D ∉ L := fun q => hLF D q hD
 have GF : ∀ a, GC env ρ.sc D a -> F a := fun a q => q.elim (fun q => F₀.own a q) fun q => q ▸ hD
 by_cases hkl : k = xs.length
 ·subst hkl
  rw [List.drop_length] at hv1
  obtain ⟨rfl, rfl⟩ := q03 hv1
  refine T.done A { s with heap := h2, toks := tk } as1 (Fu F L) _ _ _ hh p1 i1 hw1 fun h' tk' hk' ht' => ?_
  refine hR h' as1 tk' (f1.drop F₀ rfl hLF hk') (i1.drop hLF hk') ?_ (e1.thenL hk' hL) (Nat.le_trans htk ht')
  obtain ⟨ys, ⟨o, m, ho, r⟩, rs⟩ := acc1
  refine ⟨ys, ⟨o, m, hk' D o hDL ho, r⟩, ?_⟩
  have : pre ++ (out1 ++ []) = pre ++ out1 := by simp
  rw [this]
  exact rs.mono (List.prefix_refl _) fun a o q1 q2 q3 => ⟨hk' a o (fun q => q3 (.inr q)) q1, q2, fun q => q3 (.inl q)⟩
 ·have hlt : k < xs.length := Nat.lt_of_le_of_ne hk hkl
  have hx : xs[k]? = some xs[k] := List.getElem?_eq_getElem hlt
  rw [List.drop_eq_getElem_cons hlt] at hv1
  unfold mapE at hv1
  obtain ⟨o1, st2, h3, hv2⟩ := q00 hv1
  obtain ⟨u, st5, h6, hv3⟩ := q00 hv2
  obtain ⟨o2, st6, h7, hv4⟩ := q00 hv3
  obtain ⟨rfl, rfl⟩ := q03 hv4
  obtain ⟨rfl, hw5⟩ := q7y h6
  obtain ⟨ρ3, st3, h4, h5⟩ := q00 h3
  obtain ⟨h4', rfl⟩ := q0s h4
  obtain ⟨b, st4, hb, h5'⟩ := q00 h5
  refine T.item k xs[k] A { s with heap := h2, toks := tk } as1 (Fu F L) _ _ _ hh hx p1 i1 (fun a ha => .inr ha) hw1 fun y h' tk' hk' hl' ry ht' go => ?_
  refine go _ _ fun h'' hk2 p2 => ?_
  have hl2 := T.live _ _ _ _ p2
  have hk3 : ∀ b o, b ∉ L -> h2.get? b = some o -> h''.get? b = some o := fun b o q e => hk2 b o q (hk' b o q e)
  have i2 : Inv B h'' as1 (Fu F L) _ := i1.onL hk3 hl2
  have e2 : Ext (fun a => GC env ρ.sc D a \/ a ∈ L) h₁ as₁ h'' as1 := e1.trans (Ext.onL hk3 hl2)
  have f2 : FrRep B h'' as1 (Fu F L) env ρ := f1.onL F₀ rfl hLF hk3
  have acc2 : q3o B h'' as1 (Fu F L) D (pre ++ out1) := by
   obtain ⟨ys, ⟨o, m, ho, r⟩, rs⟩ := acc1
   exact ⟨ys, ⟨o, m, hk3 D o hDL ho, r⟩, rs.mono (List.prefix_refl _) fun a o q1 q2 q3 => ⟨hk3 a o (fun q => q3 (.inr q)) q1, q2, q3⟩⟩
  have ry2 : Rep B h'' as1 (Fu F L) xs[k] y := ry.mono (List.prefix_refl _) fun a o e q1 q2 => ⟨hk2 a o (fun q => q2 (.inr q)) e, q1, q2⟩
  have hDo : ¬ Own env ρ.sc D := by
   intro q
   obtain ⟨ys, ⟨o, m, ho, hc, _, hd⟩, _⟩ := acc2
   rcases q with q | ⟨x, hx, hc2⟩
   ·obtain ⟨mm, ⟨o', es, ep, ho', hdd, _⟩, _⟩ := f2.loc
    rw [<- q, ho] at ho'
    cases ho'
    rw [hd] at hdd
    simp at hdd
   ·obtain ⟨c, yo, hc3, ⟨o', ho', hd'⟩, _⟩ := f2.cell x hx
    rw [hc2] at hc3; cases hc3
    rw [ho] at ho'; cases ho'
    rw [hd] at hd'; cases hd'
  refine q6p hh t (s := { s with heap := h'', toks := tk' }) f2 i2 ry2 h4' fun h3' tk3 f3 i3 e3 ht3 => ?_
  have sc3 : ρ3.sc = ρ.sc := q4w t h4'
  obtain ⟨new1, new2⟩ := qcf t h4'
  have acc3 : q3o B h3' as1 (Fu F L) D (pre ++ out1) := acc2.ext e3 (fun a q => .inl (F₀.own a q)) (.inl hD) hDo (fun q => i2.apart D q (.inl hD))
  refine hifs ρ3 sc3 { s with heap := h3', toks := tk3 } as1 _ f3 i3 b st4 hb _ _ fun x h4'' as4 tk4 rx i4 e4 ht4 => ?_
  have rx' : b = x := rx
  subst rx'
  have f4 := f3.on i3 e4
  have acc4 : q3o B h4'' as4 (Fu F L) D (pre ++ out1) := acc3.ext e4 (fun a q => q.elim) (.inl hD) id (fun q => i3.apart D q (.inl hD))
  have e5 : Ext (GC env ρ.sc D) h'' as1 h4'' as4 := (e3.weak fun a q => .inl q).trans (e4.weak fun a q => q.elim)
  have fin : ∀ h6 as6 tk6 st6, Ext (GC env ρ.sc D) h'' as1 h6 as6 -> Inv B h6 as6 (Fu F L) st6 -> FrRep B h6 as6 (Fu F L) env ρ3 -> q3o B h6 as6 (Fu F L) D (pre ++ (out1 ++ o1)) -> tk4 <= tk6 -> (∀ p ∈ ws, st6[p.1]? = some p.2) ->
    mapE ws (xs.drop (k + 1)) (turnC Γ t ifs gs (fun ρ' => do return [<- q01 Γ elt ρ']) ρ) st6 = some (o2, st') ->
    ∃ m, m < n /\ ∃ k out1' out2' as1 st1 h2 tk, ({ s with heap := h6, toks := tk6 } : Shared) = { s with heap := h2, toks := tk } /\ s.toks <= tk /\ (xs.drop k).length = m /\ k <= xs.length /\ out1 ++ (o1 ++ o2) = out1' ++ out2' /\ P k h2 as1 (Fu F L) /\ Inv B h2 as1 (Fu F L) st1 /\ FrRep B h2 as1 (Fu F L) env ρ /\
  q3o B h2 as1 (Fu F L) D (pre ++ out1') /\ (∀ p ∈ ws, st1[p.1]? = some p.2) /\ Ext (fun a => GC env ρ.sc D a \/ a ∈ L) h₁ as₁ h2 as1 /\ mapE ws (xs.drop k) (turnC Γ t ifs gs (fun ρ' => do return [<- q01 Γ elt ρ']) ρ) st1 = some (out2', st') := by
   intro h6 as6 tk6 st6 e6 i6 f6 acc6 ht6 hw6 hv6
   have keep6 : ∀ a ∈ L, ∀ o, h''.get? a = some o -> h6.get? a = some o := fun a ha o e =>
    e6.keep a o e (fun q => i2.apart a q (.inr ha)) fun q => hLF a ha (GF a q)
   have mono6 : ∀ a o, h''.get? a = some o -> a ∉ as1 -> ¬ Fu F L a -> h6.get? a = some o /\ a ∉ as6 /\ ¬ Fu F L a := fun a o e q1 q2 =>
    ⟨e6.keep a o e q1 fun q => q2 (.inl (GF a q)), fun hm => (e6.new a hm).elim q1 fun q => (by rw [q] at e; cases e), q2⟩
   refine ⟨(xs.drop (k + 1)).length, ?_, k + 1, out1 ++ o1, o2, as6, st6, h6, tk6, rfl, ?_, rfl, hlt, by simp, T.frame _ _ _ _ _ _ _ p2 e6.pre mono6 keep6, i6, f6.less sc3.symm.symm new1 new2, acc6, hw6, e2.trans (e6.weak fun a q => .inl q), hv6⟩
   ·rw [<- hn]; simp; omega
   ·exact Nat.le_trans htk (Nat.le_trans ht' (Nat.le_trans ht3 (Nat.le_trans ht4 ht6)))
  cases b with
  | false =>
   rw [if_neg (by decide)]
   obtain ⟨rfl, rfl⟩ := q03 h5'
   exact fin h4'' as4 tk4 _ e5 i4 f4 (by simpa using acc4) (Nat.le_refl _) hw5 h7
  | true =>
   rw [if_pos rfl]
   refine hbody ρ3 sc3 (pre ++ out1) { s with heap := h4'', toks := tk4 } as4 st4 o1 _ f4 i4 acc4 h5' ?_ _ _ fun h6 as6 tk6 f6 i6 acc6 e6 ht6 => ?_
   ·have : (pre ++ (out1 ++ (o1 ++ o2))).length <= cap := hcap
    simp at this ⊢
    omega
   ·exact fin h6 as6 tk6 _ (e5.trans (sc3 ▸ e6)) i6 f6 (by simpa using acc6) ht6 hw5 h7
end Ev
end
section
namespace Ev
variable {B : Base} {prog : Program} {w : World} {A : Around} {F : Addr -> Prop} {s : Shared} {as : List Addr} {st : St} {Γ : Ctx} {env : Env} {ρ : Fr} {R : Result -> Shared -> Prop}
theorem qj0 (hh : A.handled = none) {elt : Expr} {gens : List Comprehension} {scope : Scope} {pos : Pos} {d : Nat} {D : Addr} {t it : Expr} {ifs : List Expr} {gs : List Comprehension}
  (hg : gens[d]? = some ⟨t, it, ifs, 0⟩) (hall : ∀ g ∈ gens, g.is_async = 0 /\ q0d g.iter = true) (hD : F D) (hDo : ¬ Own env ρ.sc D)
  (hit : q6u B prog w A F Γ t it env ρ)
  (hifs : ∀ L ρ', ρ'.sc = ρ.sc -> OkB B prog w A (Fu F L) env ρ' (testsC ifs env) (q0v Γ ifs ρ'))
  (hbody : ∀ L ρ', ρ'.sc = ρ.sc -> q54 B prog w A Γ (Fu F L) elt gens scope pos (d + 1) D env gs ρ') :
  q54 B prog w A Γ F elt gens scope pos d D env (⟨t, it, ifs, 0⟩ :: gs) ρ := by
 intro pre s as st out st' f i acc hv hcap Q E hQ
 unfold q0t at hv
 split at hv
 ·obtain ⟨⟨xs, ws⟩, st1, h1, hv1⟩ := q00 hv
  unfold qdb
  rw [hg]
  refine hit s as st f i xs ws st1 h1 _ _ fun I h₁ h' as' tk e1 i1 hbg hw ht => ?_
  obtain ⟨L, P, T, p0, hk, hL⟩ := hbg
  have f1 := f.on i e1
  have hLF : ∀ a ∈ L, ¬ F a := fun a ha => (i1.fresh (hL a ha)).2
  have acc1 : q3o B h₁ as' F D pre := acc.ext e1 (fun _ q => q.elim) hD id (fun q => i.apart D q hD)
  have acc2 : q3o B h' as' (Fu F L) D pre := by
   obtain ⟨ys, ⟨o, m, ho, r⟩, rs⟩ := acc1
   exact ⟨ys, ⟨o, m, hk _ _ ho, r⟩, rs.mono (List.prefix_refl _) (q2u hk hL)⟩
  have loop : codeAny (model prog w) A (.compLoop (.ListComp elt gens scope pos) d (.ref I) (.ref D) env) (fun r s' => match r with | .ok _ => Q s' | .error e => cameBackBy (model prog w) A env E e s') { s with heap := h', toks := tk } := by
   refine qfw hh hg hall T (h₁ := h₁) (as₁ := as') hL hLF hD f1 (hifs L) (hbody L) (s := { s with heap := h', toks := tk }) (fun h2 as2 tk2 f2 i2 acc3 e2 ht2 => ?_) p0 (i1.more hk hL (T.live _ _ _ _ p0)) (f1.more hk hL) acc2 hw hcap (Ext.keeps hk) hv1
   exact hQ h2 as2 tk2 f2 i2 acc3 ((e1.weak fun _ q => q.elim).trans e2) (Nat.le_trans ht ht2)
  exact q1i hg loop (T.self 0 A { s with heap := h', toks := tk } as' (Fu F L) _ _ hh p0 loop)
 ·exact (q02 hv).elim
noncomputable def q36 (cells : List (Str × Addr)) : List (Str × NameKind) -> List (Str × Addr) -> List (Str × Addr)
 | [], acc => acc
 | (name, kind) :: r, acc => if kind == .free then q36 cells r ((name, (cells.lookup name).getD 0) :: acc) else q36 cells r acc
theorem qi3 {scope : Scope} (h : ∀ x ∈ scope.names, x.2 = .free -> (env.cells.lookup x.1).isSome = true) : closureFor scope env = pure (q36 env.cells scope.names []) := by
 have go : ∀ (f : Str × NameKind -> List (Str × Addr) -> Sem (ForInStep (List (Str × Addr)))) (hf : ∀ n k cs, f (n, k) cs = if (k == NameKind.free) = true then (do let a <- cellOf env n; pure (ForInStep.yield ((n, a) :: cs))) else pure (ForInStep.yield cs))
   (names : List (Str × NameKind)) (acc : List (Str × Addr)), (∀ x ∈ names, x.2 = .free -> (env.cells.lookup x.1).isSome = true) ->
   (forIn names acc f : Sem (List (Str × Addr))) = pure (q36 env.cells names acc) := by
  intro f hf names
  induction names with
  | nil => intro acc _; rfl
  | cons x r ih =>
   intro acc hx
   obtain ⟨n, k⟩ := x
   rw [List.forIn_cons, hf]
   unfold q36
   cases hk : k == NameKind.free with
   | false =>
    simp only [Bool.false_eq_true, if_false]
    exact ih acc fun y hy => hx y (List.mem_cons_of_mem _ hy)
   | true =>
    simp only [if_true]
    have hs := hx (n, k) List.mem_cons_self (by simpa using hk)
    obtain ⟨c, hc⟩ := Option.isSome_iff_exists.mp hs
    have e : cellOf env n = pure c := by
     unfold cellOf
     rw [show env.cells.lookup n = some c from hc]
    rw [e, show env.cells.lookup n = some c from hc]
    exact ih ((n, c) :: acc) fun y hy => hx y (List.mem_cons_of_mem _ hy)
 unfold closureFor
 exact (congrArg (fun m : Sem (List (Str × Addr)) => m >>= fun cs => pure cs) (go _ (fun _ _ _ => rfl) scope.names [] h)).trans rfl
theorem q1k {n : Str} {k : NameKind} {r : List (Str × NameKind)} (h : q0h ((n, k) :: r) = true) : r.lookup n = none /\ q0h r = true := by
 simp only [q0h, Bool.and_eq_true] at h
 exact ⟨by simpa using h.1, h.2⟩
theorem q05 {α : Type} {x n : Str} {v : α} {r : List (Str × α)} (h : x ≠ n) : List.lookup x ((n, v) :: r) = r.lookup x := by
 have : (x == n) = false := by simpa using h
 simp [List.lookup, this]
theorem q04 {α : Type} {n : Str} {v : α} {r : List (Str × α)} : List.lookup n ((n, v) :: r) = some v := by simp [List.lookup]
theorem q3s {cells : List (Str × Addr)} : ∀ {names : List (Str × NameKind)} {acc : List (Str × Addr)} {x : Str}, q0h names = true -> names.lookup x ≠ some .free -> (q36 cells names acc).lookup x = acc.lookup x
 | [], _, _, _, _ => rfl
 | (n, k) :: r, acc, x, ho, hx => by
  obtain ⟨h1, h2⟩ := q1k ho
  unfold q36
  by_cases q : x = n
  ·subst q
   rw [q04] at hx
   have hk : (k == NameKind.free) = false := by simpa using fun e => hx (congrArg some e)
   rw [hk]
   simp only [Bool.false_eq_true, if_false]
   exact q3s h2 (by rw [h1]; simp)
  ·rw [q05 q] at hx
   split
   ·rw [q3s h2 hx, q05 q]
   ·exact q3s h2 hx
theorem q84 {cells : List (Str × Addr)} : ∀ {names : List (Str × NameKind)} {acc : List (Str × Addr)} {x : Str}, q0h names = true -> names.lookup x = some .free -> (q36 cells names acc).lookup x = some ((cells.lookup x).getD 0)
 | [], _, _, _, hx => by simp at hx
 | (n, k) :: r, acc, x, ho, hx => by
  obtain ⟨h1, h2⟩ := q1k ho
  unfold q36
  by_cases q : x = n
  ·subst q
   rw [q04] at hx
   cases hx
   simp only [beq_self_eq_true, if_true]
   rw [q3s h2 (by rw [h1]; simp), q04]
  ·rw [q05 q] at hx
   split <;> exact q84 h2 hx
theorem q0i : ∀ {names : List (Str × NameKind)} {m : Nat} {acc : List (Str × Addr)} {x : Str}, q0h names = true -> names.lookup x ≠ some .cell -> (cellsFrom m names acc).lookup x = acc.lookup x
 | [], _, _, _, _, _ => rfl
 | (n, k) :: r, m, acc, x, ho, hx => by
  obtain ⟨h1, h2⟩ := q1k ho
  unfold cellsFrom
  by_cases q : x = n
  ·subst q
   rw [q04] at hx
   have hk : (k == NameKind.cell) = false := by simpa using fun e => hx (congrArg some e)
   rw [hk]
   simp only [Bool.false_eq_true, if_false]
   exact q0i h2 (by rw [h1]; simp)
  ·rw [q05 q] at hx
   split
   ·rw [q0i h2 hx, q05 q]
   ·exact q0i h2 hx
theorem q11 : ∀ {names : List (Str × NameKind)} {h : Heap} {acc : List (Str × Addr)} {x : Str}, q0h names = true -> names.lookup x = some .cell ->
  ∃ c, (cellsFrom h.objs.size names acc).lookup x = some c /\ h.objs.size <= c /\ (pushCells h names).IsCell c none
 | [], _, _, _, _, hx => by simp at hx
 | (n, k) :: r, h, acc, x, ho, hx => by
  obtain ⟨h1, h2⟩ := q1k ho
  unfold cellsFrom pushCells
  by_cases q : x = n
  ·subst q
   rw [q04] at hx
   cases hx
   simp only [beq_self_eq_true, if_true]
   refine ⟨h.objs.size, ?_, Nat.le_refl _, ?_⟩
   ·rw [q0i h2 (by rw [h1]; simp), q04]
   ·exact ⟨_, pushCells_keeps r _ _ _ (Heap.get?_push_size h rfl), rfl⟩
  ·rw [q05 q] at hx
   split
   ·obtain ⟨c, e1, e2, e3⟩ := q11 (h := h.push { cls := .type "cell", data := .cell none }) (acc := (n, h.objs.size) :: acc) h2 hx
    rw [Heap.size_push] at e1 e2
    exact ⟨c, e1, by omega, e3⟩
   ·exact q11 h2 hx
theorem q1s : ∀ {names : List (Str × NameKind)} {m : Nat} {acc : List (Str × Addr)} {x y : Str} {c : Addr}, q0h names = true -> names.lookup x = some .cell -> names.lookup y = some .cell ->
  (cellsFrom m names acc).lookup x = some c -> (cellsFrom m names acc).lookup y = some c -> x = y
 | [], _, _, _, _, _, _, hx, _, _, _ => by simp at hx
 | (n, k) :: r, m, acc, x, y, c, ho, hx, hy, cx, cy => by
  obtain ⟨h1, h2⟩ := q1k ho
  have low : ∀ {names : List (Str × NameKind)} {m : Nat} {acc : List (Str × Addr)} {z : Str} {c : Addr}, q0h names = true -> names.lookup z = some .cell -> (cellsFrom m names acc).lookup z = some c -> m <= c := by
   intro names
   induction names with
   | nil => intro m acc z c _ hz; simp at hz
   | cons p r ih =>
    intro m acc z c ho hz hc
    obtain ⟨n, k⟩ := p
    obtain ⟨g1, g2⟩ := q1k ho
    unfold cellsFrom at hc
    by_cases q : z = n
    ·subst q
     rw [q04] at hz
     cases hz
     simp only [beq_self_eq_true, if_true] at hc
     rw [q0i g2 (by rw [g1]; simp), q04] at hc
     cases hc; exact Nat.le_refl _
    ·rw [q05 q] at hz
     split at hc
     ·have := ih g2 hz hc; omega
     ·exact ih g2 hz hc
  unfold cellsFrom at cx cy
  by_cases qx : x = n <;> by_cases qy : y = n
  ·rw [qx, qy]
  ·subst qx
   rw [q04] at hx
   cases hx
   simp only [beq_self_eq_true, if_true] at cx cy
   rw [q0i h2 (by rw [h1]; simp), q04] at cx
   cases cx
   rw [q05 qy] at hy
   have := low h2 hy cy
   omega
  ·subst qy
   rw [q04] at hy
   cases hy
   simp only [beq_self_eq_true, if_true] at cx cy
   rw [q0i h2 (by rw [h1]; simp), q04] at cy
   cases cy
   rw [q05 qx] at hx
   have := low h2 hx cx
   omega
  ·rw [q05 qx] at hx
   rw [q05 qy] at hy
   split at cx
   ·rename_i hk
    rw [if_pos hk] at cy
    exact q1s h2 hx hy cx cy
   ·rename_i hk
    rw [if_neg hk] at cy
    exact q1s h2 hx hy cx cy
theorem q0w : ∀ {names : List (Str × NameKind)} {m : Nat} {acc : List (Str × Addr)} {z : Str} {c : Addr}, q0h names = true -> names.lookup z = some .cell -> (cellsFrom m names acc).lookup z = some c -> m <= c
 | [], _, _, _, _, _, hz, _ => by simp at hz
 | (n, k) :: r, m, acc, z, c, ho, hz, hc => by
  obtain ⟨g1, g2⟩ := q1k ho
  unfold cellsFrom at hc
  by_cases q : z = n
  ·subst q
   rw [q04] at hz
   cases hz
   simp only [beq_self_eq_true, if_true] at hc
   rw [q0i g2 (by rw [g1]; simp), q04] at hc
   cases hc; exact Nat.le_refl _
  ·rw [q05 q] at hz
   split at hc
   ·have := q0w g2 hz hc; omega
   ·exact q0w g2 hz hc
end Ev
end
section
namespace Ev
variable {B : Base} {prog : Program} {w : World} {A : Around} {F : Addr -> Prop} {s : Shared} {as : List Addr} {st : St} {Γ : Ctx} {env : Env} {ρ : Fr} {R : Result -> Shared -> Prop}
theorem qfi {M : Model} {scope : Scope} {g : Addr} {cl : List (Str × Addr)} {qual : Str} {Q : Env -> Shared -> Prop} {E : Value -> Shared -> Prop}
  (hQ : Q (newEnv scope s.heap.objs.size g (cellsFrom (s.heap.objs.size + 1) scope.names cl) qual none .none (some env) builtinsNs) { s with heap := pushCells (s.heap.push { cls := .type "dict", data := .dict #[] }) scope.names }) :
  wpAny M A (newFunctionEnv scope g cl [] qual none .none (some env)) Q E s := by
 simp only [newFunctionEnv, Option.isSome_some, if_true]
 refine wpAny_bind (wpAny_alloc ?_)
 refine wpAny_bind (wpAny_layCells _ (fun name kind cells => by cases hkc : kind == NameKind.cell <;> simp) _ _ _ _ ?_)
 rw [show ({ s with heap := s.heap.push { cls := .type "dict", data := .dict #[] } } : Shared).heap.objs.size = s.heap.objs.size + 1 from Heap.size_push ..]
 refine wpAny_bind ?_
 rw [List.forIn_nil]
 exact wpAny_pure (wpAny_pure hQ)
theorem q1c : ∀ {names : List (Str × NameKind)} {n : Str} {k : NameKind}, q0h names = true -> (n, k) ∈ names -> names.lookup n = some k
 | (m, j) :: r, n, k, ho, hm => by
  obtain ⟨h1, h2⟩ := q1k ho
  rcases List.mem_cons.mp hm with e | hm2
  ·cases e; exact q04
  ·have hne : n ≠ m := fun q => by
    subst q
    have := q1c h2 hm2
    rw [h1] at this; cases this
   rw [q05 hne]
   exact q1c h2 hm2
theorem q8j (scope : Scope) (env : Env) (x : Str) : (relabel scope env).names.lookup x = (scope.names.lookup x).map fun k => if (k == .free && env.scope.kind == .function && env.kindOf x == some .cell) then .cell else k := by
 unfold relabel
 have : ∀ names : List (Str × NameKind), (names.map fun (n, k) => if (k == NameKind.free && env.scope.kind == .function && env.kindOf n == some .cell) = true then (n, NameKind.cell) else (n, k)).lookup x =
   (names.lookup x).map fun k => if (k == .free && env.scope.kind == .function && env.kindOf x == some .cell) then .cell else k := by
  intro names
  induction names with
  | nil => rfl
  | cons p r ih =>
   obtain ⟨n, k⟩ := p
   by_cases q : x = n
   ·subst q
    rw [q04]
    simp only [List.map_cons, Option.map_some]
    split
    ·rw [q04]
    ·rw [q04]
   ·rw [q05 q, <- ih]
    simp only [List.map_cons]
    split
    ·rw [q05 q]
    ·rw [q05 q]
 exact this scope.names
noncomputable def q31 (D : Addr) (scope : Scope) (cl : List (Str × Addr)) : List Addr :=
 D :: (D + 1) :: scope.names.filterMap fun p => if p.2 == .cell then (cellsFrom (D + 2) scope.names cl).lookup p.1 else none
noncomputable def q5i (h : Heap) (scope : Scope) : Heap := pushCells ((h.push { cls := .type "list", data := .seq ([] : List Value).toArray }).push { cls := .type "dict", data := .dict #[] }) scope.names
noncomputable def qib (D : Addr) (scope : Scope) (cl : List (Str × Addr)) (env : Env) : Env := { newEnv scope (D + 1) env.globals (cellsFrom (D + 2) scope.names cl) env.qual none .none (some env) builtinsNs with scope := relabel scope env }
theorem q5y {sc : Scope} (h : q72 ρ sc = true) : sc.kind = .function /\ q0h sc.names = true /\ ∀ x ∈ sc.names, (x.2 = .free /\ x.1 ≠ ("__classdict__" : Str) /\ (ρ.sc.lookup x.1 = some .cell \/ ρ.sc.lookup x.1 = some .free)) \/ x.2 = .local \/ x.2 = .cell \/ x.2 = .globalImplicit := by
 unfold q72 at h
 simp only [Bool.and_eq_true] at h
 obtain ⟨⟨h1, h2⟩, h3⟩ := h
 refine ⟨by simpa using h1, h2, fun x hx => ?_⟩
 have h4 := List.all_eq_true.mp h3 x hx
 obtain ⟨n, k⟩ := x
 cases k with
 | free =>
  simp only [Bool.and_eq_true] at h4
  refine .inl ⟨rfl, by simpa using h4.1, ?_⟩
  have h5 := h4.2
  split at h5
  ·rename_i q; exact .inl q
  ·rename_i q; exact .inr q
  ·cases h5
 | «local» => exact .inr (.inl rfl)
 | cell => exact .inr (.inr (.inl rfl))
 | globalImplicit => exact .inr (.inr (.inr rfl))
 | globalExplicit => cases h4
theorem qgc (f : FrRep B s.heap as F env ρ) {x : Str} (h : ρ.sc.lookup x = some .cell \/ ρ.sc.lookup x = some .free) :
  ∃ c yo, env.cells.lookup x = some c /\ s.heap.IsCell c yo /\ F c /\ ∀ v, ρ.seen Γ x = some v -> ∃ y, yo = some y /\ Rep B s.heap as F v y := by
 rcases h with h | h
 ·obtain ⟨c, yo, h1, h2, h3, _, h5⟩ := f.cell x h
  refine ⟨c, yo, h1, h2, h3, fun v hv => h5 v ?_⟩
  unfold Fr.seen at hv
  rw [h] at hv; exact hv
 ·obtain ⟨_, _, c, yo, h1, h2, h3, _, _, h5⟩ := f.free x h
  refine ⟨c, yo, h1, h2, h3, fun v hv => h5 v ?_⟩
  unfold Fr.seen at hv
  rw [h] at hv; exact hv
theorem qag {sc : Scope} (f : FrRep B s.heap as F env ρ) (i : Inv B s.heap as F st) (hc : q72 ρ sc = true) :
  let D := s.heap.objs.size
  let cl := q36 env.cells sc.names []
  closureFor sc env = pure cl /\ (∀ a o, s.heap.get? a = some o -> (q5i s.heap sc).get? a = some o) /\ (∀ a ∈ q31 D sc cl, s.heap.get? a = none) /\ (∀ a ∈ q31 D sc cl, D <= a) /\ (∀ a ∈ q31 D sc cl, ∃ o, (q5i s.heap sc).get? a = some o) /\
  PlainL (q5i s.heap sc) D #[] /\ FrRep B (q5i s.heap sc) as (Fu F (q31 D sc cl)) (qib D sc cl env) (ρ.inner Γ sc) := by
 obtain ⟨hkind, honce, hn⟩ := q5y hc
 intro D cl
 have sz1 : (s.heap.push { cls := .type "list", data := .seq ([] : List Value).toArray }).objs.size = D + 1 := Heap.size_push ..
 have sz2 : ((s.heap.push { cls := .type "list", data := .seq ([] : List Value).toArray }).push { cls := .type "dict", data := .dict #[] }).objs.size = D + 2 := by rw [Heap.size_push, sz1]
 have keep : ∀ a o, s.heap.get? a = some o -> (q5i s.heap sc).get? a = some o := fun a o e => pushCells_keeps _ _ _ _ (q07 _ _ _ _ (q07 _ _ _ _ e))
 have fr : ∀ x, sc.names.lookup x = some .free -> x ≠ ("__classdict__" : Str) /\ (ρ.sc.lookup x = some .cell \/ ρ.sc.lookup x = some .free) := fun x hx => by
  rcases hn (x, .free) (mem_of_lookup hx) with h | h | h | h
  ·exact h.2
  ·cases h
  ·cases h
  ·cases h
 have cell : ∀ x, sc.names.lookup x = some .cell -> ∃ c, (cellsFrom (D + 2) sc.names cl).lookup x = some c /\ D + 2 <= c /\ (q5i s.heap sc).IsCell c none := fun x hx => by
  have := q11 (h := (s.heap.push { cls := .type "list", data := .seq ([] : List Value).toArray }).push { cls := .type "dict", data := .dict #[] }) (acc := cl) honce hx
  rw [sz2] at this
  exact this
 have cl_free : ∀ x, sc.names.lookup x = some .free -> ∃ c yo, (cellsFrom (D + 2) sc.names cl).lookup x = some c /\ env.cells.lookup x = some c /\ s.heap.IsCell c yo /\ F c /\ ∀ v, ρ.seen Γ x = some v -> ∃ y, yo = some y /\ Rep B s.heap as F v y := fun x hx => by
  obtain ⟨c, yo, h1, h2, h3, h4⟩ := qgc (Γ := Γ) f (fr x hx).2
  refine ⟨c, yo, ?_, h1, h2, h3, h4⟩
  rw [q0i honce (by rw [hx]; simp), q84 honce hx, h1]
  rfl
 have memL : ∀ a ∈ q31 D sc cl, D <= a /\ ∃ o, (q5i s.heap sc).get? a = some o := fun a ha => by
  rcases List.mem_cons.mp ha with rfl | ha
  ·exact ⟨Nat.le_refl _, _, pushCells_keeps _ _ _ _ (q07 _ _ _ _ (Heap.get?_push_size (o := { cls := .type "list", data := .seq ([] : List Value).toArray }) _ rfl))⟩
  ·rcases List.mem_cons.mp ha with rfl | ha
   ·refine ⟨Nat.le_succ _, ⟨{ cls := .type "dict", data := .dict #[] }, pushCells_keeps _ _ (D + 1) _ ?_⟩⟩
    rw [<- sz1]; exact Heap.get?_push_size _ rfl
   ·obtain ⟨p, hp, hq⟩ := List.mem_filterMap.mp ha
    split at hq
    ·rename_i hk
     have hk' : p.2 = .cell := by simpa using hk
     obtain ⟨n, k⟩ := p
     cases hk'
     obtain ⟨c, h1, h2, ⟨o, ho, _⟩⟩ := cell n (q1c honce hp)
     rw [h1] at hq; cases hq
     exact ⟨by omega, o, ho⟩
    ·cases hq
 have none : ∀ a, D <= a -> s.heap.get? a = none := fun a ha => by
  cases q : s.heap.get? a with
  | none => rfl
  | some o => exact absurd (Heap.lt_size q) (Nat.not_lt.mpr ha)
 refine ⟨qi3 fun x hx hk => ?_, keep, fun a ha => none a (memL a ha).1, fun a ha => (memL a ha).1, fun a ha => (memL a ha).2, ?_, ?_⟩
 ·obtain ⟨n, k⟩ := x
  cases hk
  obtain ⟨c, yo, h1, _⟩ := qgc (Γ := Γ) f (fr n (q1c honce hx)).2
  show (env.cells.lookup n).isSome = true
  rw [h1]; rfl
 ·exact ⟨_, _, pushCells_keeps _ _ _ _ (q07 _ _ _ _ (Heap.get?_push_size _ rfl)), rfl, rfl, rfl⟩
 ·have hL : ∀ a ∈ q31 D sc cl, s.heap.get? a = Option.none := fun a ha => none a (memL a ha).1
  have hkind' : ∀ x, (qib D sc cl env).kindOf x = (sc.names.lookup x).map fun k => if (k == .free && env.scope.kind == .function && env.kindOf x == some .cell) then .cell else k := fun x => q8j sc env x
  exact {
   kind := hkind
   gl := f.gl
   bl := f.bl
   loc := ⟨fun _ => Option.none, (Heap.Ns.new (s.heap.push { cls := .type "list", data := .seq ([] : List Value).toArray }) (.type "dict")).keeps (pushCells_keeps _ _) |> fun h => by rw [sz1] at h; exact h, fun x v _ h => by cases h⟩
   kindL := fun x hx => by rw [hkind', show sc.names.lookup x = some .local from hx]; rfl
   kindN := fun x hx => by
    rw [hkind'] at hx
    show sc.names.lookup x = some .local
    cases q : sc.names.lookup x with
    | none => rw [q] at hx; cases hx
    | some k =>
     rw [q] at hx
     simp only [Option.map_some, Option.some.injEq] at hx
     split at hx
     ·cases hx
     ·rw [hx]
   kindC := fun x hx => by rw [hkind', show sc.names.lookup x = some .cell from hx]; rfl
   kindG := fun x hx => by rw [hkind', show sc.names.lookup x = some .globalImplicit from hx]; rfl
   cell := fun x hx => by
    obtain ⟨c, h1, h2, h3⟩ := cell x hx
    refine ⟨c, Option.none, h1, h3, .inr ?_, fun q => Nat.ne_of_gt (Nat.lt_of_lt_of_le (Nat.lt_succ_self (D + 1)) h2) q, fun v h => by cases h⟩
    refine List.mem_cons_of_mem _ (List.mem_cons_of_mem _ (List.mem_filterMap.mpr ⟨(x, .cell), mem_of_lookup hx, ?_⟩))
    simpa using h1
   apart := fun x x' c hx hx' h1 h2 => q1s honce hx hx' h1 h2
   free := fun x hx => by
    obtain ⟨c, yo, h1, h2, ⟨o, ho, hd⟩, hFc, hv⟩ := cl_free x hx
    have hlt : c < D := Heap.lt_size ho
    refine ⟨?_, by simpa using (fr x hx).1, c, yo, h1, ⟨o, keep _ _ ho, hd⟩, .inl hFc, fun q => Nat.ne_of_lt (Nat.lt_succ_of_lt hlt) q, fun x' hx' q => ?_, fun v hv' => ?_⟩
    ·rw [hkind', show sc.names.lookup x = some .free from hx]
     simp only [Option.map_some]
     split
     ·exact .inl rfl
     ·exact .inr rfl
    ·have hlow : D + 2 <= c := q0w honce hx' q
     exact absurd hlt (Nat.not_lt.mpr (Nat.le_trans (Nat.le_add_right D 2) hlow))
    ·obtain ⟨y, hy, hr⟩ := hv v hv'
     exact ⟨y, hy, hr.mono (List.prefix_refl _) (q2u keep hL)⟩
   ownF := .inr (by show D + 1 ∈ q31 D sc cl; simp [q31]) }
end Ev
end
section
namespace Ev
variable {B : Base} {prog : Program} {w : World} {A : Around} {F : Addr -> Prop} {s : Shared} {as : List Addr} {st : St} {Γ : Ctx} {env : Env} {ρ : Fr} {R : Result -> Shared -> Prop}
theorem qiq (F : Addr -> Prop) (L M : List Addr) : Fu (Fu F L) M = Fu (Fu F M) L := by
 funext a
 unfold Fu
 exact propext ⟨fun h => h.elim (fun h => h.elim (fun x => .inl (.inl x)) .inr) fun x => .inl (.inr x), fun h => h.elim (fun h => h.elim (fun x => .inl (.inl x)) .inr) fun x => .inl (.inr x)⟩
theorem Inv.sub {h : Heap} {F F' : Addr -> Prop} (i : Inv B h as F st) (hF : ∀ a, F' a -> F a) : Inv B h as F' st where
 len := i.len
 nodup := i.nodup
 at_ := fun k a o e e' => (i.at_ k a o e e').mono (List.prefix_refl _) (fun b x h1 h2 h3 => ⟨h1, h2, fun q => h3 (hF b q)⟩) fun x hx => hx
 apart := fun a ha q => i.apart a ha (hF a q)
 liveF := fun a ha => i.liveF a (hF a ha)
 base := fun a o e => let b := i.base a o e; ⟨b.1, b.2.1, fun q => b.2.2 (hF a q)⟩
theorem Inv.adopt {h : Heap} {F F' : Addr -> Prop} {D : Addr} {vs : List V} (i : Inv B h as F st) (hF : ∀ a, F' a -> F a) (hD : F D) (hD' : ¬ F' D) (acc : q3o B h as F D vs) (hc : vs.length <= cap) : Inv B h (as ++ [D]) F' (st ++ [.list vs]) := by
 have hDa : D ∉ as := fun q => i.apart D q hD
 have mono : ∀ a o, h.get? a = some o -> a ∉ as -> ¬ F a -> h.get? a = some o /\ a ∉ as ++ [D] /\ ¬ F' a := fun a o e h1 h2 => ⟨e, fun q => (List.mem_append.mp q).elim h1 fun q => h2 (by rw [List.mem_singleton.mp q]; exact hD), fun q => h2 (hF a q)⟩
 exact {
  len := by simp [i.len]
  nodup := List.nodup_append.mpr ⟨i.nodup, by simp, fun a ha b hb e => by rw [List.mem_singleton.mp hb] at e; exact hDa (e ▸ ha)⟩
  at_ := fun k a x e e' => by
   by_cases hk : k < as.length
   ·rw [List.getElem?_append_left hk] at e
    rw [List.getElem?_append_left (i.len ▸ hk)] at e'
    exact (i.at_ k a x e e').mono ⟨_, rfl⟩ mono fun _ q => q
   ·have hk' : ¬ k < st.length := i.len ▸ hk
    rw [List.getElem?_append_right (by omega)] at e e'
    have h0 : k - as.length = 0 := by
     have := (List.getElem?_eq_some_iff.mp e).1
     simpa using this
    have h1 : k - st.length = 0 := by rw [<- i.len]; exact h0
    rw [h0] at e; rw [h1] at e'
    simp at e e'
    subst e; subst e'
    obtain ⟨xs, hp, rs⟩ := acc
    exact .list hp (rs.mono ⟨_, rfl⟩ mono) hc
  apart := fun a ha q => (List.mem_append.mp ha).elim (fun h => i.apart a h (hF a q)) fun h => hD' (by rw [<- List.mem_singleton.mp h]; exact q)
  liveF := fun a ha => i.liveF a (hF a ha)
  base := fun a o e => let b := i.base a o e; mono a o b.1 b.2.1 b.2.2 }
theorem Ext.dropG {G : Addr -> Prop} {h h' : Heap} {as' : List Addr} (x : Ext G h as h' as') (hG : ∀ a, G a -> h.get? a = none) : Ext no h as h' as' where
 pre := x.pre
 new := x.new
 keep := fun a o e ha _ => x.keep a o e ha fun g => by rw [hG a g] at e; cases e
 live := x.live
theorem qcm (hh : A.handled = none) {elt : Expr} {scope : Scope} {pos ppos : Pos} {t it : Expr} {ifs : List Expr} {gs : List Comprehension} (hc : q72 ρ scope = true)
  (hall : ∀ g ∈ (⟨t, it, ifs, 0⟩ :: gs : List Comprehension), g.is_async = 0 /\ q0d g.iter = true)
  (hit : q6u B prog w A F Γ t it env ρ)
  (hifs : ∀ F' env' ρ', OkB B prog w A F' env' ρ' (testsC ifs env') (q0v Γ ifs ρ'))
  (hbody : ∀ F' env' ρ' D, ρ'.sc = scope.names -> F' D -> ¬ Own env' scope.names D -> q54 B prog w A Γ F' elt (⟨t, it, ifs, 0⟩ :: gs) scope pos 1 D env' gs ρ')
  {s : Shared} {as : List Addr} {st : St} (f : FrRep B s.heap as F env ρ) (i : Inv B s.heap as F st) {xs : List V} {v : V} {st1 st' : St}
  (hv : q0t Γ (⟨t, it, ifs, 0⟩ :: gs) (fun ρ' => do return [<- q01 Γ elt ρ']) ρ (ρ.inner Γ scope) st = some (xs, st1)) (hm : q1q Γ pos xs st1 = some (v, st'))
  {use : Option (Value -> Sem Unit)} {Q : Value -> Shared -> Prop} {E : Value -> Shared -> Prop}
  (hpost : ∀ D C h'' as'' tk m, Rep B h'' as'' (Fu F [C]) v (.ref D) -> Inv B h'' as'' (Fu F [C]) st' -> Ext no s.heap as h'' as'' -> s.heap.get? C = none -> ¬ F C -> h''.Ns C m -> s.toks <= tk ->
   compPost (model prog w) A E use Q (.ref D) C (.ok .next) { s with heap := h'', toks := tk }) :
  wpAny (model prog w) A (comprehension (.ListComp elt (⟨t, it, ifs, 0⟩ :: gs) scope pos) scope env ppos (newList []) false (eval it env) use) Q E s := by
 obtain ⟨hkind, honce, hn⟩ := q5y hc
 have hcap : xs.length <= cap := by
  unfold q1q at hm
  split at hm
  ·assumption
  ·exact (q02 hm).elim
 unfold q0t at hv
 split at hv
 case isFalse => exact (q02 hv).elim
 obtain ⟨⟨ys, ws⟩, st2, h1, hv1⟩ := q00 hv
 have hclos := (qag (Γ := Γ) f i hc).1
 have hpl : q0d it = true := (hall _ List.mem_cons_self).2
 refine wpAny_comprehension_free (e := .ListComp elt (⟨t, it, ifs, 0⟩ :: gs) scope pos) rfl (fun x => by cases it <;> first | rfl | cases hpl) hclos hkind (fun x hx hl => by
  obtain ⟨n, k⟩ := x
  cases hl
  exact q1c honce hx) ?_
 refine hit s as st f i ys ws st2 h1 _ _ fun I h₁ h' as' tk e1 i1 hbg hw ht => ?_
 obtain ⟨L, P, T, p0, hk, hL⟩ := hbg
 have f1 := f.on i e1
 have i2 : Inv B h' as' F st2 := i1.keeps hk
 have f2 : FrRep B h' as' F env ρ := f1.on i1 (Ext.keeps hk)
 have lvL := T.live _ _ _ _ p0
 have i3 : Inv B h' as' (Fu F L) st2 := i1.more hk hL lvL
 have f3 : FrRep B h' as' (Fu F L) env ρ := f1.more hk hL
 obtain ⟨_, keep, hL0, hge, lv0, hplain, F0⟩ := qag (s := { s with heap := h', toks := tk }) (Γ := Γ) f2 i2 hc
 obtain ⟨_, _, _, _, _, _, F1⟩ := qag (s := { s with heap := h', toks := tk }) (Γ := Γ) f3 i3 hc
 refine wpAny_newList ?_
 refine qfi ?_
 simp only [Heap.size_push] at *
 generalize hcl : q36 env.cells scope.names [] = cl at *
 generalize hDD : h'.objs.size = D at *
 have mD : D ∈ q31 D scope cl := List.mem_cons_self
 have mC : D + 1 ∈ q31 D scope cl := List.mem_cons_of_mem _ List.mem_cons_self
 have i4 : Inv B (q5i h' scope) as' (Fu (Fu F (q31 D scope cl)) L) st2 := by
  rw [<- qiq]
  exact i3.more keep hL0 lv0
 have f4 : FrRep B (q5i h' scope) as' (Fu (Fu F (q31 D scope cl)) L) (qib D scope cl env) (ρ.inner Γ scope) := by
  rw [<- qiq]; exact F1
 have hLF : ∀ a ∈ L, ¬ Fu F (q31 D scope cl) a := fun a ha q => by
  rcases q with q | q
  ·exact (i1.fresh (hL a ha)).2 q
  ·obtain ⟨o, ho⟩ := lvL a ha
   rw [hL0 a q] at ho; cases ho
 have p4 : P 0 (q5i h' scope) as' (Fu (Fu F (q31 D scope cl)) L) := by
  refine T.frame _ _ _ _ _ _ _ p0 (List.prefix_refl _) (fun a o e q1 q2 => ⟨keep a o e, q1, fun q => ?_⟩) fun a ha o e => keep a o e
  rcases q with (q | q) | q
  ·exact q2 (.inl q)
  ·rw [hL0 a q] at e; cases e
  ·exact q2 (.inr q)
 have hFD : ¬ F D := (i2.fresh (hL0 D mD)).2
 have hFC : ¬ F (D + 1) := (i2.fresh (hL0 _ mC)).2
 have hOwn : ∀ a, Own (qib D scope cl env) scope.names a -> a ∈ q31 D scope cl := fun a q => by
  rcases q with q | ⟨x, hx, hcx⟩
  ·rw [q]; exact mC
  ·refine List.mem_cons_of_mem _ (List.mem_cons_of_mem _ (List.mem_filterMap.mpr ⟨(x, .cell), mem_of_lookup hx, ?_⟩))
   have hcx' : (cellsFrom (D + 2) scope.names cl).lookup x = some a := hcx
   simpa using hcx'
 have hDo : ¬ Own (qib D scope cl env) scope.names D := fun q => by
  rcases q with q | ⟨x, hx, hcx⟩
  ·exact Nat.ne_of_lt (Nat.lt_succ_self D) q
  ·have hlow : D + 2 <= D := q0w honce hx hcx
   omega
 have loop : codeAny (model prog w) A (.compLoop (.ListComp elt (⟨t, it, ifs, 0⟩ :: gs) scope pos) 0 (.ref I) (.ref D) (qib D scope cl env)) (compPost (model prog w) A E use Q (.ref D) (D + 1)) { s with heap := q5i h' scope, toks := tk } := by
  refine qfw hh (d := 0) rfl hall T (h₁ := h₁) (as₁ := as') hL hLF (.inr mD) F0 (fun ρ' hs => hifs _ _ ρ') (fun ρ' hs => hbody _ _ ρ' D hs (.inl (.inr mD)) hDo) (pre := []) (s := { s with heap := q5i h' scope, toks := tk }) (fun h6 as6 tk6 f6 i6 acc6 e6 ht6 => ?_) p4 i4 f4 ⟨[], hplain, .nil⟩ hw (by simpa using hcap) (Ext.keeps fun a o e => keep a o (hk a o e)) hv1
  obtain ⟨m, hns, _⟩ := f6.loc
  have acc6' : q3o B h6 as6 (Fu F (q31 D scope cl)) D xs := by simpa using acc6
  have none₁ : ∀ a ∈ q31 D scope cl, h₁.get? a = none := fun a ha => by
   cases q : h₁.get? a with
   | none => rfl
   | some o =>
    have h5 := hk a o q
    have h6 : h'.get? a = none := hL0 a ha
    rw [h6] at h5; cases h5
  have e7 : Ext no h₁ as' h6 as6 := e6.dropG fun a q => none₁ a (q.elim (hOwn a) fun q => q ▸ mD)
  have hsub : ∀ a, Fu F [D + 1] a -> Fu F (q31 D scope cl) a := fun a q => q.elim .inl fun q => .inr (by rw [List.mem_singleton.mp q]; exact mC)
  have hD1 : ¬ Fu F [D + 1] D := fun q => q.elim hFD fun q => Nat.ne_of_lt (Nat.lt_succ_self D) (List.mem_singleton.mp q)
  have hC0 : s.heap.get? (D + 1) = none := by
   cases q : s.heap.get? (D + 1) with
   | none => rfl
   | some o =>
    obtain ⟨o', ho'⟩ := e1.live _ _ q
    rw [none₁ _ mC] at ho'; cases ho'
  have hD0 : h₁.get? D = none := none₁ D mD
  unfold q1q at hm
  rw [if_pos hcap] at hm
  split at hm
  ·cases hm
   refine hpost D (D + 1) h6 (as6 ++ [D]) tk6 m (.ref ?_) (i6.adopt hsub (.inr mD) hD1 acc6' hcap) ?_ hC0 hFC hns (Nat.le_trans ht ht6)
   ·rw [<- i6.len]; simp
   ·refine e1.trans ⟨e7.pre.trans ⟨_, rfl⟩, fun a ha => ?_, e7.keep, e7.live⟩
    rcases List.mem_append.mp ha with q | q
    ·exact e7.new a q
    ·rw [List.mem_singleton.mp q]; exact .inr hD0
  ·obtain ⟨rfl, rfl⟩ := q03 hm
   obtain ⟨zs, hp, rs⟩ := acc6'
   refine hpost D (D + 1) h6 as6 tk6 m (.lst hp (fun q => i6.apart D q (.inr mD)) hD1 (rs.mono (List.prefix_refl _) fun a o q1 q2 q3 => ⟨q1, q2, fun q => q3 (hsub a q)⟩)) (i6.sub hsub) (e1.trans e7) hC0 hFC hns (Nat.le_trans ht ht6)
 refine q1i (d := 0) rfl loop (T.self 0 A { s with heap := q5i h' scope, toks := tk } as' _ _ _ hh p4 loop)
end Ev
end
section
namespace Ev
variable {B : Base} {prog : Program} {w : World} {A : Around} {F : Addr -> Prop} {s : Shared} {as : List Addr} {st : St} {Γ : Ctx} {env : Env} {ρ : Fr} {R : Result -> Shared -> Prop}
theorem qzu {C : Addr} {h h' : Heap} (hs : Heap.SameBut C h h') : ∀ b o, b ∉ [C] -> h.get? b = some o -> h'.get? b = some o := fun b o hb e => (hs.2 b (fun q => hb (by simp [q]))).trans e
theorem q82 (hh : A.handled = none) {elt : Expr} {scope : Scope} {pos : Pos} {t it : Expr} {ifs : List Expr} {as₀ : Int} {gs : List Comprehension}
  (hit : q6u B prog w A F Γ t it env ρ)
  (hifs : ∀ F' env' ρ', OkB B prog w A F' env' ρ' (testsC ifs env') (q0v Γ ifs ρ'))
  (hbody : (∀ g ∈ (⟨t, it, ifs, 0⟩ :: gs : List Comprehension), g.is_async = 0 /\ q0d g.iter = true) -> ∀ F' env' ρ' D, ρ'.sc = scope.names -> F' D -> ¬ Own env' scope.names D -> q54 B prog w A Γ F' elt (⟨t, it, ifs, 0⟩ :: gs) scope pos 1 D env' gs ρ') :
  OkV B prog w A F env ρ (eval (.ListComp elt (⟨t, it, ifs, as₀⟩ :: gs) scope pos) env) (q01 Γ (.ListComp elt (⟨t, it, ifs, as₀⟩ :: gs) scope pos) ρ) := by
 intro s as st f i v st' hv Q E hQ
 simp only [q01] at hv
 split at hv
 case isFalse => exact (q02 hv).elim
 rename_i hc
 simp only [Bool.and_eq_true] at hc
 have hall : ∀ g ∈ (⟨t, it, ifs, as₀⟩ :: gs : List Comprehension), g.is_async = 0 /\ q0d g.iter = true := fun g hg => by
  have := List.all_eq_true.mp hc.1.2 g hg
  simp only [q52, Bool.and_eq_true] at this
  exact ⟨by simpa using this.1, this.2⟩
 have h0 : as₀ = 0 := (hall _ List.mem_cons_self).1
 subst h0
 obtain ⟨xs, st1, h1, hv1⟩ := q00 hv
 rw [eval_ListComp]
 show wpAny _ _ (comprehension _ scope env it.pos (newList []) false (eval it env) none) Q E s
 refine qcm hh hc.1.1 hall hit hifs (hbody hall) f i h1 hv1 fun D C h'' as'' tk m rv iv e hC hFC hns ht => ?_
 refine ⟨m, hns, fun h' hs' => ?_⟩
 have hk := qzu hs'
 have hCF : ∀ a ∈ [C], ¬ F a := fun a ha => by rw [List.mem_singleton.mp ha]; exact hFC
 refine hQ _ h' as'' tk (rv.drop hk) (iv.drop hCF hk) ?_ ht
 exact (e.weak (G' := fun a => no a \/ a ∈ [C]) fun _ q => q.elim).thenL hk fun a ha => by rw [List.mem_singleton.mp ha]; exact hC
theorem qi0 {elt : Expr} {gens : List Comprehension} {scope : Scope} {pos : Pos} {t : Expr} {n : Nat} : (swapsWith (.ListComp elt gens scope pos) (some t) n env = pure false) \/ (swapsWith (.ListComp elt gens scope pos) (some t) n env = pure true /\ ∃ x p, t = .Name x p) := by
 cases t with
 | Name x p =>
  have e : swapsWith (.ListComp elt gens scope pos) (some (.Name x p)) n env = pure (env.blockKind == .function && env.kindOf x == some .local && p.line == (Expr.ListComp elt gens scope pos).pos.line && !(scope.names.any fun (n, k) => n == x && (k == .local || k == .cell))) := rfl
  rw [e]
  cases (env.blockKind == .function && env.kindOf x == some .local && p.line == (Expr.ListComp elt gens scope pos).pos.line && !(scope.names.any fun (n, k) => n == x && (k == .local || k == .cell)))
  ·exact .inl rfl
  ·exact .inr ⟨rfl, _, _, rfl⟩
 | _ => exact .inl rfl
theorem qad (hh : A.handled = none) {te : Expr} {apos : Pos} {elt : Expr} {scope : Scope} {pos : Pos} {t it : Expr} {ifs : List Expr} {as₀ : Int} {gs : List Comprehension}
  (hit : q6u B prog w A F Γ t it env ρ)
  (hifs : ∀ F' env' ρ', OkB B prog w A F' env' ρ' (testsC ifs env') (q0v Γ ifs ρ'))
  (hbody : (∀ g ∈ (⟨t, it, ifs, 0⟩ :: gs : List Comprehension), g.is_async = 0 /\ q0d g.iter = true) -> ∀ F' env' ρ' D, ρ'.sc = scope.names -> F' D -> ¬ Own env' scope.names D -> q54 B prog w A Γ F' elt (⟨t, it, ifs, 0⟩ :: gs) scope pos 1 D env' gs ρ') :
  OkX B prog w A F env ρ (exec (.Assign [te] (.ListComp elt (⟨t, it, ifs, as₀⟩ :: gs) scope pos) apos) env) (q0m Γ (.Assign [te] (.ListComp elt (⟨t, it, ifs, as₀⟩ :: gs) scope pos) apos) ρ) := by
 rcases qi0 (env := env) (elt := elt) (gens := ⟨t, it, ifs, as₀⟩ :: gs) (scope := scope) (pos := pos) (t := te) (n := apos.line) with hs | ⟨hs, x, p, rfl⟩
 ·exact qdf hh hs (q82 hh hit hifs hbody)
 intro s as st f i fl ρ' st' hv Q E hQ
 simp only [q0m] at hv
 obtain ⟨v, st1, hv0, hv1⟩ := q00 hv
 obtain ⟨ρ1, st2, hb, hv2⟩ := q00 hv1
 obtain ⟨hb', rfl⟩ := q0s hb
 obtain ⟨hv3, rfl⟩ := q03 hv2
 cases hv3
 simp only [q01] at hv0
 split at hv0
 case isFalse => exact (q02 hv0).elim
 rename_i hc
 simp only [Bool.and_eq_true] at hc
 have hall : ∀ g ∈ (⟨t, it, ifs, as₀⟩ :: gs : List Comprehension), g.is_async = 0 /\ q0d g.iter = true := fun g hg => by
  have := List.all_eq_true.mp hc.1.2 g hg
  simp only [q52, Bool.and_eq_true] at this
  exact ⟨by simpa using this.1, this.2⟩
 have h0 : as₀ = 0 := (hall _ List.mem_cons_self).1
 subst h0
 obtain ⟨xs, st3, h1, hv4⟩ := q00 hv0
 rw [exec_Assign_Name_used _ _ _ _ hs]
 refine wpAny_bind (wpAny_standAt (wpAny_bind ?_))
 show wpAny _ A (do let _ <- comprehension _ scope env it.pos (newList []) false (eval it env) (some (assign (.Name x p) env))) _ _ s
 refine wpAny_bind (wpAny_mono (qcm (Q := fun _ s' => Q .next s') (E := E) hh hc.1.1 hall hit hifs (hbody hall) f i h1 hv4 fun D C h'' as'' tk m rv iv e hC hFC hns ht => ?_) (fun _ s' hq => wpAny_pure (wpAny_pure hq)) fun _ _ e => e)
 have hCF : ∀ a ∈ [C], ¬ F a := fun a ha => by rw [List.mem_singleton.mp ha]; exact hFC
 have monoC : ∀ a o, s.heap.get? a = some o -> a ∉ as -> ¬ F a -> h''.get? a = some o /\ a ∉ as'' /\ ¬ Fu F [C] a := fun a o q1 q2 q3 =>
  ⟨e.keep a o q1 q2 id, fun hm => (e.new a hm).elim q2 fun q => (by rw [q] at q1; cases q1), fun q => q.elim q3 fun q => by rw [List.mem_singleton.mp q, hC] at q1; cases q1⟩
 have fC : FrRep B h'' as'' (Fu F [C]) env ρ := f.mono e.pre monoC fun a o hF q => ⟨e.keep a o q (fun hm => i.apart a hm hF) id, .inl hF⟩
 simp only [q6c, q0e, Bool.false_and, Bool.false_eq_true, if_false] at hb'
 show wpAny _ A (assign (.Name x p) env (.ref D)) _ _ _
 refine wpAny_assign_Name (qbi (s := { s with heap := h'', toks := tk }) fC iv rv hb' fun h3 tk3 f3 i3 e3 ht3 => ?_)
 obtain ⟨o, es, ep, ho, hr⟩ := hns
 have hCa : C ∉ as'' := fun q => iv.apart C q (.inr (by simp))
 have hCo : ¬ Own env ρ.sc C := fun q => hFC (f.own C q)
 refine ⟨m, ⟨o, es, ep, e3.keep C o ho hCa hCo, hr⟩, fun h4 hs4 => ?_⟩
 have hk := qzu hs4
 have sc : ρ'.sc = ρ.sc := by obtain ⟨_, rfl⟩ := Fr.set_some hb'; rfl
 refine hQ .next h4 as'' tk3 .next sc (f3.drop f sc hCF hk) (i3.drop hCF hk) ?_ (Nat.le_trans ht ht3)
 have e4 : Ext (fun a => Own env ρ.sc a \/ a ∈ [C]) s.heap as h3 as'' := (e.weak fun _ q => q.elim).trans (e3.weak fun a q => .inl q)
 exact e4.thenL hk fun a ha => by rw [List.mem_singleton.mp ha]; exact hC
end Ev
end
section
namespace Ev
variable {B : Base} {prog : Program} {w : World} {A : Around} {F : Addr -> Prop} {s : Shared} {as : List Addr} {st : St} {Γ : Ctx} {env : Env} {ρ : Fr}
noncomputable def BRep (B : Base) (h : Heap) (as : List Addr) (F : Addr -> Prop) (b : List (Str × V)) (xs : List (Str × Value)) : Prop := xs.map (·.1) = b.map (·.1) /\ Reps B h as F (b.map (·.2)) (xs.map (·.2))
theorem BRep.get {h : Heap} : ∀ {b : List (Str × V)} {xs : List (Str × Value)} {x : Str} {v : V}, BRep B h as F b xs -> b.lookup x = some v -> ∃ y, xs.lookup x = some y /\ Rep B h as F v y
 | [], _, _, _, _, h => by simp at h
 | (n, u) :: r, [], _, _, ⟨h, _⟩, _ => by simp at h
 | (n, u) :: r, (m, z) :: t, x, v, ⟨h1, h2⟩, hl => by
  simp only [List.map_cons, List.cons.injEq] at h1
  obtain ⟨rfl, h1⟩ := h1
  cases h2
  rename_i r1 r2
  by_cases q : x = m
  ·subst q
   rw [q04] at hl
   cases hl
   exact ⟨z, q04, r1⟩
  ·rw [q05 q] at hl
   rw [q05 q]
   exact BRep.get ⟨h1, r2⟩ hl
structure FnOk (B : Base) (prog : Program) (w : World) (a : Addr) (d : FnD) (o : Obj) (fd : FuncData) : Prop where
 look : B.objs.lookup a = some o
 data : o.data = .func fd
 body : fd.body = .stmts d.body
 scope : fd.scope = d.sc
 globals : fd.globals = B.gA
 builtins : fd.builtins = B.bA
 closure : fd.closure = []
 code : ∀ h, B.objs.In h -> h.CodeRec fd.code fd.qualname
 bind : ∀ (A : Around) (F : Addr -> Prop) (s : Shared) (as : List Addr) (st : St) vs xs ks kxs b, Inv B s.heap as F st -> Reps B s.heap as F vs xs -> BRep B s.heap as F ks kxs -> q4s d vs ks = some b ->
  ∀ (Q : List (Str × Value) -> Shared -> Prop) (E : Value -> Shared -> Prop), (∀ binds h', BRep B h' as F (q22 d b) binds -> (∀ a o, s.heap.get? a = some o -> h'.get? a = some o) -> Q binds { s with heap := h' }) ->
  wpAny (model prog w) A (bindArgs fd ⟨xs, kxs⟩) Q E s
theorem q7b : ∀ {l : List Str}, qmy l = true -> l.Nodup
 | [], _ => .nil
 | x :: r, h => by
  simp only [qmy, Bool.and_eq_true] at h
  exact List.nodup_cons.mpr ⟨by simpa using h.1, q7b h.2⟩
theorem qd3 {k : Str -> Option NameKind} : ∀ {b : List (Str × Value)} {m : Str -> Option Value} {x : Str}, x ∉ b.map (·.1) -> bindL k b m x = m x
 | [], _, _, _ => rfl
 | (n, v) :: r, m, x, h => by
  simp only [List.map_cons, List.mem_cons, not_or] at h
  unfold bindL
  rw [qd3 h.2]
  split
  ·exact if_neg h.1
  ·rfl
theorem q4o {k : Str -> Option NameKind} : ∀ {b : List (Str × Value)} {m : Str -> Option Value} {x : Str} {y : Value}, (b.map (·.1)).Nodup -> b.lookup x = some y -> k x = some .local -> bindL k b m x = some y
 | [], _, _, _, _, h, _ => by simp at h
 | (n, v) :: r, m, x, y, hn, h, hk => by
  simp only [List.map_cons, List.nodup_cons] at hn
  unfold bindL
  by_cases q : x = n
  ·subst q
   rw [q04] at h
   cases h
   rw [qd3 hn.1, if_pos hk, if_pos rfl]
  ·rw [q05 q] at h
   exact q4o hn.2 h hk
theorem qdp {k : Str -> Option NameKind} : ∀ {b : List (Str × Value)} {m : Str -> Option Value} {x : Str}, x ∉ b.map (·.1) -> bindC k b m x = m x
 | [], _, _, _ => rfl
 | (n, v) :: r, m, x, h => by
  simp only [List.map_cons, List.mem_cons, not_or] at h
  unfold bindC
  rw [qdp h.2]
  split
  ·rfl
  ·exact if_neg h.1
theorem qcb {k : Str -> Option NameKind} : ∀ {b : List (Str × Value)} {m : Str -> Option Value} {x : Str} {y : Value}, (b.map (·.1)).Nodup -> b.lookup x = some y -> k x ≠ some .local -> bindC k b m x = some y
 | [], _, _, _, _, h, _ => by simp at h
 | (n, v) :: r, m, x, y, hn, h, hk => by
  simp only [List.map_cons, List.nodup_cons] at hn
  unfold bindC
  by_cases q : x = n
  ·subst q
   rw [q04] at h
   cases h
   rw [qdp hn.1, if_neg hk, if_pos rfl]
  ·rw [q05 q] at h
   exact qcb hn.2 h hk
theorem qdu {d : FnD} {vs : List V} {ks b : List (Str × V)} (h : q4s d vs ks = some b) : b.map (·.1) = d.params ++ d.kwonly := by
 unfold q4s at h
 simp only at h
 split at h
 ·rename_i hc
  cases h
  rw [List.map_append, hc.2.2, List.map_fst_zip]
  omega
 ·cases h
structure FnSc (d : FnD) : Prop where
 kind : d.sc.kind = .function
 gen : d.sc.isGenerator = false
 co : d.sc.isCoroutine = false
 once : q0h d.sc.names = true
 names : ∀ x ∈ d.sc.names, x.2 = .local \/ x.2 = .cell \/ x.2 = .globalImplicit
 pnames : ∀ x ∈ d.params ++ d.kwonly ++ d.kwarg.toList, d.sc.names.lookup x = some .local \/ d.sc.names.lookup x = some .cell
 ponce : (d.params ++ d.kwonly ++ d.kwarg.toList).Nodup
theorem qhu {d : FnD} (h : okFn d = true) : FnSc d := by
 unfold okFn at h
 simp only [Bool.and_eq_true] at h
 obtain ⟨⟨⟨⟨⟨⟨h0, h1⟩, h2⟩, h3⟩, h4⟩, h5⟩, h6⟩ := h
 refine ⟨by simpa using h1, by simpa using h2, by simpa using h3, h4, fun x hx => ?_, fun x hx => ?_, q7b h0⟩
 ·have := List.all_eq_true.mp h5 x hx
  simp only [Bool.or_eq_true, beq_iff_eq] at this
  rcases this with (q | q) | q
  ·exact .inl q
  ·exact .inr (.inl q)
  ·exact .inr (.inr q)
 ·have := List.all_eq_true.mp h6 x hx
  split at this
  ·rename_i q; exact .inl q
  ·rename_i q; exact .inr q
  ·cases this
noncomputable def fnL (L : Addr) (sc : Scope) : List Addr := L :: sc.names.filterMap fun p => if p.2 == .cell then (cellsFrom (L + 1) sc.names []).lookup p.1 else none
noncomputable def runG (g : Fr -> EvM (Fl × Fr)) (d : FnD) (vs : List V) (ks : List (Str × V)) : EvM V := do
 let b <- gt (if okFn d then q4s d vs ks else .none)
 match <- g ⟨d.sc.names, q22 d b, fun _ => .none⟩ with
 | (.ret v, _) => pure v
 | (.next, _) => pure .none
theorem qpk {n : Nat} {g : Fr -> EvM (Fl × Fr)} {a : Addr} {d : FnD} {o : Obj} {fd : FuncData} (K : FnOk B prog w a d o fd) (hlim : ∀ h, B.objs.In h -> h.NoLimit) (hA : Room A (n + 1))
  (hbody : ∀ A' F' env' ρ', Room A' n -> OkX B prog w A' F' env' ρ' (execs d.body env') (g ρ'))
  {vs : List V} {xs : List Value} {ks : List (Str × V)} {kxs : List (Str × Value)} (i : Inv B s.heap as F st) (rs : Reps B s.heap as F vs xs) (rk : BRep B s.heap as F ks kxs) :
  Sim B prog w A F no (RV B F) (call (.ref a) xs kxs) (runG g d vs ks) s as st := by
 intro v st' hv Q E hQ
 unfold runG at hv
 obtain ⟨b, st0, hb, hv1⟩ := q00 hv
 obtain ⟨hb', rfl⟩ := q0k hb
 split at hb'
 case isFalse => cases hb'
 rename_i hok
 have P := qhu hok
 have look := K.look
 refine wpAny_with_toks (n := s.toks) (Nat.le_refl _) (wpAny_call (codeAny_call_function (by have := hA.depth; omega) ((i.base _ _ look).1) K.data (by rw [K.scope]; exact P.co) (by rw [K.scope]; exact P.gen) K.body (K.code _ fun a o e => (i.base a o e).1) ?_))
 refine K.bind _ F s as _ vs xs ks kxs b i rs rk hb' _ _ fun binds h1 rb hk1 => ?_
 generalize hbb : q22 d b = b' at rb hv1
 have hbn : b'.map (·.1) = d.params ++ d.kwonly ++ d.kwarg.toList := by
  have := qdu hb'
  rw [<- hbb]
  unfold q22
  cases d.kwarg <;> simp [this]
 have hbinds : binds.map (·.1) = d.params ++ d.kwonly ++ d.kwarg.toList := rb.1.trans hbn
 have i1 : Inv B h1 as F st0 := i.keeps hk1
 have hkind : ∀ x ∈ binds, fd.scope.names.lookup x.1 = some .local \/ (fd.scope.names.lookup x.1 = some .cell /\ ((cellsFrom (h1.objs.size + 1) fd.scope.names []).lookup x.1).isSome = true) := fun x hx => by
  rw [K.scope]
  have hm : x.1 ∈ d.params ++ d.kwonly ++ d.kwarg.toList := by rw [<- hbinds]; exact List.mem_map.mpr ⟨x, hx, rfl⟩
  rcases P.pnames _ hm with q | q
  ·exact .inl q
  ·refine .inr ⟨q, ?_⟩
   obtain ⟨c, hc, _⟩ := q11 (h := h1.push { cls := .type "frame", data := .dict #[] }) (acc := []) P.once q
   rw [Heap.size_push] at hc
   rw [hc]; rfl
 rw [K.closure]
 refine wpAny_newFunctionEnv_cells (by rw [K.scope]; exact P.kind) hkind fun env he s2 hin => ?_
 have eL : env.locals = h1.objs.size := by rw [he]; rfl
 have eC : env.cells = cellsFrom (h1.objs.size + 1) d.sc.names [] := by rw [he, K.scope]; rfl
 have eS : env.scope = d.sc := by rw [he]; exact K.scope
 obtain ⟨h2, tk2, rfl⟩ := hin.toInCall.same
 have hk2 : ∀ a o, h1.get? a = some o -> h2.get? a = some o := hin.toInCall.keep
 have base2 : B.objs.In h2 := fun a o e => hk2 a o (i1.base a o e).1
 refine ⟨hlim _ base2, codeAny_func ?_⟩
 have hge : ∀ a ∈ fnL h1.objs.size d.sc, h1.objs.size <= a /\ ∃ o, h2.get? a = some o := fun a ha => by
  rcases List.mem_cons.mp ha with rfl | ha
  ·obtain ⟨o, _, _, ho, _⟩ := hin.toInCall.ns
   rw [eL] at ho
   exact ⟨Nat.le_refl _, o, ho⟩
  ·obtain ⟨p, hp, hq⟩ := List.mem_filterMap.mp ha
   split at hq
   ·rename_i hk
    have hk' : p.2 = .cell := by simpa using hk
    obtain ⟨m, k⟩ := p
    cases hk'
    have hlk := q1c P.once hp
    have hlow := q0w P.once hlk hq
    obtain ⟨o, ho, _⟩ := hin.cell m a (by rw [eC]; exact hq)
    exact ⟨by omega, o, ho⟩
   ·cases hq
 have hL : ∀ a ∈ fnL h1.objs.size d.sc, h1.get? a = none := fun a ha => by
  cases q : h1.get? a with
  | none => rfl
  | some o => exact absurd (Heap.lt_size q) (Nat.not_lt.mpr (hge a ha).1)
 have hLF : ∀ a ∈ fnL h1.objs.size d.sc, ¬ F a := fun a ha => (i1.fresh (hL a ha)).2
 have i2 : Inv B h2 as (Fu F (fnL h1.objs.size d.sc)) st0 := i1.more hk2 hL fun a ha => (hge a ha).2
 have kindOf : ∀ x, env.kindOf x = d.sc.names.lookup x := fun x => by unfold Env.kindOf; rw [eS]
 have nod : (binds.map (·.1)).Nodup := hbinds ▸ P.ponce
 have rep2 : ∀ {u y}, Rep B h1 as F u y -> Rep B h2 as (Fu F (fnL h1.objs.size d.sc)) u y := fun r => r.mono (List.prefix_refl _) (q2u hk2 hL)
 have f2 : FrRep B h2 as (Fu F (fnL h1.objs.size d.sc)) env ⟨d.sc.names, b', fun _ => .none⟩ := {
  kind := by rw [eS]; exact P.kind
  gl := by rw [he]; exact K.globals
  bl := by rw [he]; exact K.builtins
  loc := ⟨_, hin.toInCall.ns, fun x u hx hu => by
   obtain ⟨y, hy, ry⟩ := rb.get hu
   exact ⟨y, q4o nod hy (by rw [kindOf]; exact hx), rep2 ry⟩⟩
  kindL := fun x hx => by rw [kindOf]; exact hx
  kindN := fun x hx => by rw [kindOf] at hx; exact hx
  kindC := fun x hx => by rw [kindOf]; exact hx
  kindG := fun x hx => by rw [kindOf]; exact hx
  cell := fun x hx => by
   have hx' : d.sc.names.lookup x = some .cell := hx
   obtain ⟨c, hc, _⟩ := q11 (h := h1.push { cls := .type "frame", data := .dict #[] }) (acc := []) P.once hx'
   rw [Heap.size_push] at hc
   have hc2 : env.cells.lookup x = some c := by rw [eC]; exact hc
   have hlow := q0w P.once hx' hc
   refine ⟨c, _, hc2, hin.cell x c hc2, .inr ?_, fun q => ?_, fun u hu => ?_⟩
   ·refine List.mem_cons_of_mem _ (List.mem_filterMap.mpr ⟨(x, .cell), mem_of_lookup hx', ?_⟩)
    simpa using hc
   ·rw [q, eL] at hlow; omega
   ·obtain ⟨y, hy, ry⟩ := rb.get hu
    exact ⟨y, qcb nod hy (by rw [kindOf, hx']; simp), rep2 ry⟩
  apart := fun x x' c hx hx' h3 h4 => by
   rw [eC] at h3 h4
   exact q1s P.once hx hx' h3 h4
  free := fun x hx => by
   have hx' : d.sc.names.lookup x = some .free := hx
   rcases P.names (x, .free) (mem_of_lookup hx') with q | q | q <;> cases q
  ownF := .inr (by rw [eL]; exact List.mem_cons_self) }
 obtain ⟨⟨fl, ρ'⟩, st1, h5, hv2⟩ := q00 hv1
 have hA' : Room (A.deeper env) n := ⟨hA.hh, by have := hA.depth; show A.depth + 1 + 3 * n < _; omega, by have := hA.units; show A.units + 3 + 10 * n + 40 < _; omega⟩
 have own : ∀ a, Own env d.sc.names a -> h1.get? a = none := fun a q => by
  rcases q with q | ⟨x, hx, hc⟩
  ·rw [q, eL]; exact q0a _
  ·rw [eC] at hc
   have := q0w P.once hx hc
   cases z : h1.get? a with
   | none => rfl
   | some o => exact absurd (Heap.lt_size z) (Nat.not_lt.mpr (by omega))
 refine hbody _ _ env _ hA' { s with heap := h2, toks := tk2 } as _ f2 i2 fl ρ' st1 h5 _ _ fun x h6 as6 tk6 rx sc6 f6 i6 e6 ht6 => ?_
 have eAll : Ext no s.heap as h6 as6 := by
  have e7 : Ext (fun a => no a \/ a ∈ fnL h1.objs.size d.sc) h1 as h6 as6 := ((Ext.keeps hk2).trans e6).dropG own |>.weak fun _ q => q.elim
  exact (Ext.keeps hk1).trans (e7.thenL (fun _ _ _ e => e) hL)
 cases rx with
 | next =>
  obtain ⟨rfl, rfl⟩ := q03 hv2
  intro htk
  exact hQ .none h6 as6 tk6 .none (i6.drop hLF fun _ _ _ e => e) eAll htk
 | ret r =>
  obtain ⟨rfl, rfl⟩ := q03 hv2
  intro htk
  exact hQ _ h6 as6 tk6 (r.drop fun _ _ _ e => e) (i6.drop hLF fun _ _ _ e => e) eAll htk
theorem qyz {n : Nat} {a : Addr} {d : FnD} {o : Obj} {fd : FuncData} (K : FnOk B prog w a d o fd) (hlim : ∀ h, B.objs.In h -> h.NoLimit) (hA : Room A (n + 1))
  (hbody : ∀ A' F' env' ρ', Room A' n -> OkX B prog w A' F' env' ρ' (execs d.body env') (q09 Γ d.body ρ'))
  {vs : List V} {xs : List Value} {ks : List (Str × V)} {kxs : List (Str × Value)} (i : Inv B s.heap as F st) (rs : Reps B s.heap as F vs xs) (rk : BRep B s.heap as F ks kxs) :
  Sim B prog w A F no (RV B F) (call (.ref a) xs kxs) (qbk Γ d vs ks) s as st := qpk (g := q09 Γ d.body) K hlim hA hbody i rs rk
end Ev
end
section
namespace Ev
variable {B : Base} {prog : Program} {w : World} {A : Around} {F : Addr -> Prop} {s : Shared} {as : List Addr} {st : St} {Γ : Ctx} {env : Env} {ρ : Fr}
noncomputable def q0l (o : V) (x : Str) : Option String := match o with
 | .str _ => if x = "lower" then some "str.lower" else if x = "upper" then some "str.upper" else if x = "join" then some "str.join" else if x = "replace" then some "str.replace" else if x = "index" then some "str.index" else .none
 | .lst _ => if x = "index" then some "list.index" else .none
 | .ref _ => if x = "append" then some "list.append" else .none
 | .nod => if x = "items" then some "dict.items" else .none
 | .g _ => if x = "get" then some "dict.get" else if x = "search" then some "re.Pattern.search" else .none
 | _ => .none
inductive Callee (B : Base) (h : Heap) (as : List Addr) (F : Addr -> Prop) : V -> Value -> List Value -> Prop
 | bi (id) : Callee B h as F (.bi id) (.builtin id) []
 | ty (n) : n ≠ "Headers" -> Callee B h as F (.ty n) (.type n) []
 | cls : Callee B h as F (.ty "Headers") (.ref B.cls) []
 | fn {x a} : B.addr x = some a -> Callee B h as F (.fn x) (.ref a) []
 | mb {o ov x id} : Rep B h as F o ov -> q0l o x = some id -> Callee B h as F (.m o x) (.builtin id) [ov]
 | mf {i ov x a} : Rep B h as F (.hd i) ov -> B.meth x = some a -> Callee B h as F (.m (.hd i) x) (.ref a) [ov]
theorem Callee.ext {h h' : Heap} {as' : List Addr} {f : V} {fv : Value} {first : List Value} (c : Callee B h as F f fv first) (e : Ext no h as h' as') : Callee B h' as' F f fv first := by
 cases c with
 | bi => exact .bi _
 | ty n hn => exact .ty n hn
 | cls => exact .cls
 | fn h => exact .fn h
 | mb r h => exact .mb (e.repv r) h
 | mf r h => exact .mf (e.repv r) h
structure CtxOk (B : Base) (prog : Program) (w : World) (Γ : Ctx) (n : Nat) : Prop where
 glob : GlobOk B prog w Γ
 keys : q88 B prog w Γ.gd
 keep : ∀ a, (∃ x, B.addr x = some a) \/ (∃ x, B.meth x = some a) \/ a = B.cls -> keepIn B.objs (.ref a) = true
 call : ∀ (A : Around) (F : Addr -> Prop) (s : Shared) (as : List Addr) (st : St) f fv first vs xs ks kxs, Room A n -> Inv B s.heap as F st -> Callee B s.heap as F f fv first -> Reps B s.heap as F vs xs -> BRep B s.heap as F ks kxs ->
  Sim B prog w A F no (RV B F) (call fv (first ++ xs) kxs) (Γ.call f vs ks) s as st
 meth : ∀ (A : Around) (F : Addr -> Prop) (s : Shared) (as : List Addr) (st : St) o ov x f, Inv B s.heap as F st -> Rep B s.heap as F o ov -> Γ.meth st o x = some f -> ∀ (pl : Sem Bool) (Q : Value × List Value -> Shared -> Prop) (E : Value -> Shared -> Prop),
  (∀ fv first, Callee B s.heap as F f fv first -> Q (fv, first) s) -> wpAny (model prog w) A (getMethod ov x pl) Q E s
 attr : ∀ (A : Around) (F : Addr -> Prop) (s : Shared) (as : List Addr) (st : St) o ov x v, Inv B s.heap as F st -> Rep B s.heap as F o ov -> Γ.attr o x = some v -> ∀ (Q : Value -> Shared -> Prop) (E : Value -> Shared -> Prop),
  (∀ y tk, Rep B s.heap as F v y -> s.toks <= tk -> Q y { s with toks := tk }) -> wpAny (model prog w) A (getAttr ov x true) Q E s
theorem q6n {pos : Pos} : ∀ {es : List Expr} {vs : List V} {st st' : St}, q0j Γ es ρ st = some (vs, st') -> backTo pos (starEach es env) = es.map fun e => (false, eval e env)
 | [], _, _, _, _ => rfl
 | e :: r, vs, st, st', h => by
  simp only [q0j] at h
  obtain ⟨a, st1, ha, h1⟩ := q00 h
  obtain ⟨b, st2, hb, _⟩ := q00 h1
  rcases qll e r env with q | ⟨x, p, rfl⟩
  ·rw [q]
   show (false, eval e env) :: backTo pos (starEach r env) = _
   rw [q6n hb]; rfl
  ·simp only [q01] at ha; exact (q02 ha).elim
theorem q9y : ∀ {kws : List Keyword} {ks : List (Str × V)} {st st' : St}, q0y Γ kws ρ st = some (ks, st') -> (∀ k ∈ kws, ∃ n e p, k = ⟨some n, e, p⟩)
 | [], _, _, _, _, k, hk => by cases hk
 | ⟨.none, _, _⟩ :: r, ks, st, st', h, k, hk => by simp only [q0y] at h; exact (q02 h).elim
 | ⟨.some n, e, p⟩ :: r, ks, st, st', h, k, hk => by
  simp only [q0y] at h
  obtain ⟨a, st1, ha, h1⟩ := q00 h
  obtain ⟨b, st2, hb, _⟩ := q00 h1
  rcases List.mem_cons.mp hk with rfl | hk
  ·exact ⟨n, e, p, rfl⟩
  ·exact q9y hb k hk
theorem qfd (k : Keyword) (r : List Keyword) (env : Env) : keywordEach (k :: r) env = (k.arg, eval k.value env) :: keywordEach r env := by cases k; rfl
theorem r08 {pos : Pos} : ∀ (kws : List Keyword), (∀ k ∈ kws, OkV B prog w A F env ρ (eval k.value env) (q01 Γ k.value ρ)) -> ∀ (s : Shared) (as : List Addr) (st : St), FrRep B s.heap as F env ρ -> Inv B s.heap as F st -> ∀ ks st', q0y Γ kws ρ st = some (ks, st') ->
  ∀ (Q : List Value -> Shared -> Prop) (E : Value -> Shared -> Prop), (∀ xs h' as' tk, BRep B h' as' F ks (((backToKw pos (keywordEach kws env)).filterMap (·.1)).zip xs) -> Inv B h' as' F st' -> Ext no s.heap as h' as' -> s.toks <= tk -> Q xs { s with heap := h', toks := tk }) ->
  wpAny (model prog w) A (evalAll ((backToKw pos (keywordEach kws env)).map (·.2))) Q E s
 | [], _, s, as, st, f, i, ks, st', hv, Q, E, hQ => by
  simp only [q0y] at hv
  obtain ⟨rfl, rfl⟩ := q03 hv
  exact wpAny_evalAll_nil (hQ [] s.heap as s.toks ⟨rfl, .nil⟩ i (Ext.refl _ _ _) (Nat.le_refl _))
 | ⟨.none, _, _⟩ :: r, _, s, as, st, f, i, ks, st', hv, Q, E, hQ => by simp only [q0y] at hv; exact (q02 hv).elim
 | ⟨.some n, e, p⟩ :: r, h, s, as, st, f, i, ks, st', hv, Q, E, hQ => by
  simp only [q0y] at hv
  obtain ⟨a, st1, ha, hv1⟩ := q00 hv
  obtain ⟨b, st2, hb, hv2⟩ := q00 hv1
  obtain ⟨rfl, rfl⟩ := q03 hv2
  show wpAny _ _ (evalAll ((do let v <- eval e env; standAt pos; pure v) :: (backToKw pos (keywordEach r env)).map (·.2))) Q E s
  refine wpAny_evalAll_cons (wpAny_bind (h _ List.mem_cons_self s as st f i a st1 ha _ _ fun x h1 as1 tk1 rx i1 e1 ht1 => ?_))
  refine wpAny_bind (wpAny_standAt (wpAny_pure ?_))
  refine r08 r (fun k hk => h k (List.mem_cons_of_mem _ hk)) _ as1 st1 (f.on i e1) i1 b _ hb _ _ fun xs h2 as2 tk2 rb i2 e2 ht2 => ?_
  refine hQ (x :: xs) h2 as2 tk2 ?_ i2 (e1.trans e2) (Nat.le_trans ht1 ht2)
  show BRep B h2 as2 F ((n, a) :: b) ((n, x) :: ((backToKw pos (keywordEach r env)).filterMap (·.1)).zip xs)
  exact ⟨by simp [rb.1], .cons (e2.repv rx) rb.2⟩
theorem q1h {M : Model} {E : Value -> Shared -> Prop} {f : Value} {es : List Expr} {keywords : List (Option Str × Sem Value)} {Q : Args -> Shared -> Prop} (hall : keywords.all (·.1.isSome) = true)
  (h : wpAny M A (spliced (es.map fun e => (false, eval e env))) (fun vs s₁ => wpAny M A (evalAll (keywords.map (·.2))) (fun ks s₂ => Q ⟨vs, (keywords.filterMap (·.1)).zip ks⟩ s₂) E s₁) E s) :
  wpAny M A (evalArgs f true (es.map fun e => (false, eval e env)) keywords) Q E s := by
 cases es with
 | nil =>
  refine evalArgs_kw_nil hall ?_
  exact fun Γ p hΓ => (h Γ p hΓ) Γ p hΓ
 | cons e r => exact evalArgs_kw hall h
theorem Callee.keeper {M : Model} {n : Nat} (C : CtxOk B prog w Γ n) {h : Heap} {f : V} {fv : Value} {first : List Value} (c : Callee B h as F f fv first) :
  ∀ h', B.objs.In h' -> ∃ k, (k = Keeper.frame \/ k = Keeper.machine \/ k = Keeper.boundFrame) /\ Looks M h' (keeperOf fv) k := by
 intro h' X
 cases c with
 | bi => exact ⟨.machine, .inr (.inl rfl), .now⟩
 | ty => exact ⟨.machine, .inr (.inl rfl), .now⟩
 | mb => exact ⟨.machine, .inr (.inl rfl), .now⟩
 | cls => exact keeps_K (C.keep _ (.inr (.inr rfl))) h' X
 | fn e => exact keeps_K (C.keep _ (.inl ⟨_, e⟩)) h' X
 | mf _ e => exact keeps_K (C.keep _ (.inr (.inl ⟨_, e⟩))) h' X
theorem q8c {n : Nat} (C : CtxOk B prog w Γ n) (hA : Room A n) {pos : Pos} {args : List Expr} {kws : List Keyword} (ha : ∀ e ∈ args, OkV B prog w A F env ρ (eval e env) (q01 Γ e ρ)) (hk : ∀ k ∈ kws, OkV B prog w A F env ρ (eval k.value env) (q01 Γ k.value ρ))
  {s : Shared} {as : List Addr} {st : St} (f₀ : FrRep B s.heap as F env ρ) (i : Inv B s.heap as F st) {f : V} {fv : Value} {first : List Value} (c : Callee B s.heap as F f fv first) :
  Sim B prog w A F no (RV B F) (callWith pos fv first (backTo pos (starEach args env)) (backToKw pos (keywordEach kws env))) (do let vs <- q0j Γ args ρ; let ks <- q0y Γ kws ρ; Γ.call f vs ks) s as st := by
 intro v st' hv Q E hQ
 obtain ⟨vs, st1, h1, hv1⟩ := q00 hv
 obtain ⟨ks, st2, h2, hv2⟩ := q00 hv1
 have ht := q6n (env := env) (pos := pos) h1
 have hks := q9y h2
 have hall : (backToKw pos (keywordEach kws env)).all (·.1.isSome) = true := by
  clear h2 hk hv hv1
  induction kws with
  | nil => rfl
  | cons k r ih =>
   obtain ⟨n, e, p, rfl⟩ := hks k List.mem_cons_self
   rw [qfd]
   show (true && (backToKw pos (keywordEach r env)).all (·.1.isSome)) = true
   rw [ih fun k hk => hks k (List.mem_cons_of_mem _ hk)]; rfl
 have es := qm9 (pos := pos) args ha s as st f₀ i vs st1 h1
 rw [ht] at es ⊢
 refine callWith_of (P := B.objs.In) ?_ (c.keeper C) (q1h hall (es _ _ fun xs g1 as1 tk1 rs i1 e1 ht1 => ?_))
 ·have h3 : (args.map fun e => (false, eval e env)).any (·.1) = false := by simp
  have h4 : (backToKw pos (keywordEach kws env)).any (·.1.isNone) = false := by
   simp only [List.any_eq_false]
   intro x hx
   have := List.all_eq_true.mp hall x hx
   cases q : x.1 with
   | none => rw [q] at this; cases this
   | some _ => simp
  rw [h3, h4]; rfl
 ·refine r08 kws hk _ as1 st1 (f₀.on i e1) i1 ks st2 h2 _ _ fun kxs g2 as2 tk2 rk i2 e2 ht2 => ⟨fun a o q => (i2.base a o q).1, ?_⟩
  refine C.call A F _ as2 st2 f fv first vs xs ks _ hA i2 ((c.ext e1).ext e2) (e2.reps rs) rk v st' hv2 Q E fun y g3 as3 tk3 ry i3 e3 ht3 => ?_
  exact hQ y g3 as3 tk3 ry i3 ((e1.trans e2).trans e3) (Nat.le_trans ht1 (Nat.le_trans ht2 ht3))
theorem q3x {o : Expr} (h : q2l o = true) (name : Str) (env : Env) (whole : Sem Value) : attributeBase o name env whole = whole := by
 cases o <;> first | rfl | skip
 rename_i f args kws pos
 cases f <;> first | rfl | skip
 cases args <;> first | rfl | skip
 cases kws <;> first | rfl | cases h
theorem qao {o : Expr} {env : Env} {apos pos : Pos} (h : (apos.endLine == pos.line) = true) : methodCallPos true o env apos pos = pure pos := by unfold methodCallPos; simp [h]
theorem q5h (o : Expr) (name : Str) (apos : Pos) (args : List Expr) (kws : List Keyword) (pos : Pos) (env : Env) : eval (.Call (.Attribute o name apos) args kws pos) env = (do
  let ov <- attributeBase o name env (eval o env)
  standAt apos.atName
  methodCall o name apos pos env ov (args.length + kws.length) (backTo pos (starEach args env)) (backToKw pos (keywordEach kws env))) := rfl
theorem qhq {ov : V} {o : Expr} {args : List Expr} {kws : List Keyword} {st st' : St} {v : V} (h : qn1 ov o args kws st = some (v, st')) :
  ∃ s c k1 p1 op r bp a k2 p2 b k3 p3, ov = .str s /\ o = .BinOp (.Constant (.str c) k1 p1) op r bp /\ args = [.Constant (.str a) k2 p2, .Constant (.str b) k3 p3] /\ kws = [] /\ a ≠ b /\ s.length <= 65536 /\ b.length <= 14 /\ txtV (Txt.replace (S s) a b).cps.toList = some v /\ st' = st := by
 unfold qn1 at h
 split at h
 ·split at h
  ·rename_i hc
   obtain ⟨h', rfl⟩ := q0k h
   exact ⟨_, _, _, _, _, _, _, _, _, _, _, _, _, rfl, rfl, rfl, rfl, hc.1, hc.2.1, hc.2.2, h', rfl⟩
  ·exact (q02 h).elim
 ·exact (q02 h).elim
theorem q3e {l : List Nat} {v : V} (h : txtV l = some v) : v = .str l /\ (∀ c ∈ l, c < 0x110000) /\ l.length <= cap := by
 unfold txtV strV at h
 split at h
 ·rename_i h1
  split at h
  ·rename_i h2
   cases h
   exact ⟨rfl, fun c hc => by simpa using List.all_eq_true.mp h1 c hc, h2⟩
  ·cases h
 ·cases h
theorem qrh {o : Expr} {apos pos : Pos} {args : List Expr} {kws : List Keyword} (hbin : ∀ l op r p, o = .BinOp l op r p -> OkV B prog w A F env ρ (eval r env) (q01 Γ r ρ))
  {s : Shared} {as : List Addr} {st : St} (f : FrRep B s.heap as F env ρ) (i : Inv B s.heap as F st) {ov v : V} {st1 st' : St} (h1 : q01 Γ o ρ st = some (ov, st1)) (hv : qn1 ov o args kws st1 = some (v, st')) (hl : (apos.endLine == pos.line) = true)
  {Q : Value -> Shared -> Prop} {E : Value -> Shared -> Prop} (hQ : ∀ x h' as' tk, RV B F h' as' v x -> Inv B h' as' F st' -> Ext no s.heap as h' as' -> s.toks <= tk -> Q x { s with heap := h', toks := tk }) :
  wpAny (model prog w) A (do
   let ov <- eval o env
   standAt apos.atName
   methodCall o "replace" apos pos env ov (args.length + kws.length) (backTo pos (starEach args env)) (backToKw pos (keywordEach kws env))) Q E s := by
 obtain ⟨z, c, k1, p1, op, r, bp, a, k2, p2, b, k3, p3, rfl, rfl, rfl, rfl, hab, hz, hb, ht, rfl⟩ := qhq hv
 obtain ⟨rfl, hcode, hcap⟩ := q3e ht
 simp only [q01] at h1
 obtain ⟨va, st2, ha, h2⟩ := q00 h1
 obtain ⟨vb, st3, hb2, h3⟩ := q00 h2
 obtain ⟨h3', rfl⟩ := q0s h3
 split at ha
 case isFalse => exact (q02 ha).elim
 rename_i hx
 obtain ⟨rfl, rfl⟩ := q03 ha
 refine wpAny_bind (wpAny_BinOp (Constant_str ?_))
 have rc : Rep B s.heap as F (.str c.cps.toList) (.str (S c.cps.toList) s.toks) := .str _ _ fun d hd => by
  simp only [Bool.and_eq_true] at hx
  have := Array.all_eq_true'.mp hx.1 d (by simpa using hd)
  simpa using this
 rw [q3v] at rc
 refine hbin _ _ _ _ rfl { s with heap := s.heap, toks := s.toks + 1 } as _ f i vb _ hb2 _ _ fun y g2 as2 tk2 rb i2 e2 ht2 => ?_
 refine qpj (s := { s with heap := g2, toks := tk2 }) i2 (e2.repv rc) rb h3' fun x g3 tk3 rx i3 e3 ht3 => ?_
 cases rx
 rename_i t3 hl3
 refine wpAny_bind (wpAny_standAt ?_)
 unfold methodCall
 refine wpAny_bind (wpAny_holding ?_)
 show wpAny _ _ (getMethod (.str (S z) t3) "replace" _) _ _ _
 refine PySem.GM.replace ?_
 refine wpAny_bind (wpAny_of_eq (qao hl) ?_)
 refine callWith_of (P := fun _ => True) rfl (fun h' X => ⟨.machine, .inr (.inl rfl), .now⟩) ?_
 refine q1h (es := [.Constant (.str a) k2 p2, .Constant (.str b) k3 p3]) (keywords := []) rfl ?_
 refine spliced_cons (Constant_str (spliced_cons (Constant_str (spliced_nil ?_))))
 refine wpAny_evalAll_nil ⟨trivial, ?_⟩
 have h4 : 1 <= tk3 := Nat.le_trans (Nat.le_trans (Nat.le_add_left 1 s.toks) ht2) ht3
 show wpAny _ _ (call (.builtin "str.replace") [.str (S z) t3, .str a tk3, .str b (tk3 + 1)]) _ _ _
 refine wpAny_with_toks (n := tk3) (Nat.le_succ_of_le (Nat.le_succ _)) (PySem.SC.replace (Nat.ne_of_gt h4) (Nat.succ_ne_zero _) (Nat.ne_of_lt (Nat.lt_succ_self _)) (by simpa using hab) ?_ fun t' k htk => ?_)
 ·rw [q12]
  have h5 : (z.length + 1) * b.length <= (z.length + 1) * 14 := Nat.mul_le_mul_left _ hb
  omega
 ·have rr : Rep B g3 as2 F (.str (Txt.replace (S z) a b).cps.toList) (.str (S (Txt.replace (S z) a b).cps.toList) t') := .str _ _ hcode
  rw [q3v] at rr
  exact hQ _ g3 as2 k rr i3 (e2.trans e3) (Nat.le_trans (Nat.le_trans (Nat.le_trans (Nat.le_succ _) ht2) ht3) htk)
theorem qe7 {n : Nat} (C : CtxOk B prog w Γ n) (hA : Room A n) {o : Expr} {name : Str} {apos pos : Pos} {args : List Expr} {kws : List Keyword} (ho : OkV B prog w A F env ρ (eval o env) (q01 Γ o ρ))
  (hbin : ∀ l op r p, o = .BinOp l op r p -> OkV B prog w A F env ρ (eval r env) (q01 Γ r ρ))
  (ha : ∀ e ∈ args, OkV B prog w A F env ρ (eval e env) (q01 Γ e ρ)) (hk : ∀ k ∈ kws, OkV B prog w A F env ρ (eval k.value env) (q01 Γ k.value ρ)) :
  OkV B prog w A F env ρ (eval (.Call (.Attribute o name apos) args kws pos) env) (q01 Γ (.Call (.Attribute o name apos) args kws pos) ρ) := by
 intro s as st f i v st' hv Q E hQ
 simp only [q01] at hv
 obtain ⟨ov, st1, h1, hv1⟩ := q00 hv
 split at hv1
 case isFalse => exact (q02 hv1).elim
 rename_i hc
 simp only [Bool.and_eq_true] at hc
 split at hv1
 ·rename_i hname
  subst hname
  rw [q5h, q3x hc.1.1]
  exact qrh hbin f i h1 hv1 hc.1.2 hQ
 obtain ⟨g, st2, h2, hv2⟩ := q00 hv1
 obtain ⟨h2', rfl⟩ := q0s h2
 obtain ⟨vs, st3, h3, hv3⟩ := q00 hv2
 obtain ⟨ks, st4, h4, hv4⟩ := q00 hv3
 have ht := q6n (env := env) (pos := pos) h3
 have hks := q9y h4
 have hform : methodCallForm (args.length + kws.length) (backTo pos (starEach args env)) (backToKw pos (keywordEach kws env)) = true := by
  unfold methodCallForm
  have e1 : (backTo pos (starEach args env)).all (fun x => !x.1) = true := by rw [ht]; simp
  have e2 : (backToKw pos (keywordEach kws env)).all (fun x => x.1.isSome) = true := by
   clear h4 hk hv hv1 hv2 hv3 hv4 hc
   induction kws with
   | nil => rfl
   | cons k r ih =>
    obtain ⟨n, e, p, rfl⟩ := hks k List.mem_cons_self
    rw [qfd]
    show (true && (backToKw pos (keywordEach r env)).all (fun x => x.1.isSome)) = true
    rw [ih fun k hk => hks k (List.mem_cons_of_mem _ hk)]; rfl
  have e3 : (backToKw pos (keywordEach kws env)).isEmpty = kws.isEmpty := by
   cases kws with
   | nil => rfl
   | cons k r => rw [qfd]; rfl
  rw [e1, e2, e3]
  have e4 := hc.2
  unfold qfa at e4
  have e5 : (kws.length == 0) = kws.isEmpty := by cases kws <;> rfl
  rw [e5] at e4
  simpa using e4
 rw [q5h, q3x hc.1.1]
 refine wpAny_bind (ho s as st f i ov _ h1 _ _ fun x g1 as1 tk1 ro i1 e1 ht1 => ?_)
 refine wpAny_bind (wpAny_standAt ?_)
 unfold methodCall
 rw [hform]
 refine wpAny_bind (wpAny_holding ?_)
 show wpAny _ _ (getMethod x name _) _ _ _
 refine C.meth A F { s with heap := g1, toks := tk1 } as1 _ ov x name g i1 ro h2' _ _ _ fun fv first c => ?_
 refine wpAny_bind (wpAny_of_eq (qao hc.1.2) ?_)
 refine q8c C hA ha hk (f.on i e1) i1 c v st' hv2 Q E fun y g3 as3 tk3 ry i3 e3 ht3 => ?_
 exact hQ y g3 as3 tk3 ry i3 (e1.trans e3) (Nat.le_trans ht1 ht3)
theorem qss {n : Nat} (C : CtxOk B prog w Γ n) {o : Expr} {name : Str} {pos : Pos} (ho : OkV B prog w A F env ρ (eval o env) (q01 Γ o ρ)) :
  OkV B prog w A F env ρ (eval (.Attribute o name pos) env) (q01 Γ (.Attribute o name pos) ρ) := by
 intro s as st f i v st' hv Q E hQ
 simp only [q01] at hv
 obtain ⟨ov, st1, h1, hv1⟩ := q00 hv
 split at hv1
 case isFalse => exact (q02 hv1).elim
 rename_i hc
 obtain ⟨hv2, rfl⟩ := q0k hv1
 show wpAny _ _ (do let x <- attributeBase o name env (eval o env); standAt pos.atName; let r <- holding [x] (getAttr x name true); letTemporaryGo o x r; pure r) Q E s
 rw [q3x hc]
 refine wpAny_bind (ho s as st f i ov _ h1 _ _ fun x g1 as1 tk1 ro i1 e1 ht1 => ?_)
 refine wpAny_bind (wpAny_standAt (wpAny_bind (wpAny_holding ?_)))
 refine C.attr A F { s with heap := g1, toks := tk1 } as1 _ ov x name v i1 ro hv2 _ _ fun y tk ry ht2 => ?_
 exact wpAny_bind (wpAny_letTemporaryGo (wpAny_pure (hQ y g1 as1 tk ry i1 e1 (Nat.le_trans ht1 ht2))))
noncomputable def qae : Expr -> Bool
 | .Attribute .. => false
 | _ => true
theorem q5e {f : Expr} (h : qae f = true) (args : List Expr) (kws : List Keyword) (pos : Pos) (env : Env) : eval (.Call f args kws pos) env = (do
  callWith pos (<- eval f env) [] (backTo pos (starEach args env)) (backToKw pos (keywordEach kws env))) := by
 cases f <;> first | rfl | cases h
theorem qdv {f : Expr} (h : qae f = true) (args : List Expr) (kws : List Keyword) (pos : Pos) : q01 Γ (.Call f args kws pos) ρ = (do
  let fv <- q01 Γ f ρ
  let vs <- q0j Γ args ρ
  let ks <- q0y Γ kws ρ
  Γ.call fv vs ks) := by
 cases f <;> first | rfl | cases h | (rw [q01]; intro _ _ _ q; cases q)
theorem qov {n : Nat} (C : CtxOk B prog w Γ n) (hA : Room A n) (hcall : ∀ f vs ks st r, Γ.call f vs ks st = some r -> (match f with | .bi _ | .ty _ | .fn _ | .m .. => true | _ => false) = true)
  {f : Expr} {pos : Pos} {args : List Expr} {kws : List Keyword} (hf : qae f = true) (ho : OkV B prog w A F env ρ (eval f env) (q01 Γ f ρ))
  (ha : ∀ e ∈ args, OkV B prog w A F env ρ (eval e env) (q01 Γ e ρ)) (hk : ∀ k ∈ kws, OkV B prog w A F env ρ (eval k.value env) (q01 Γ k.value ρ)) :
  OkV B prog w A F env ρ (eval (.Call f args kws pos) env) (q01 Γ (.Call f args kws pos) ρ) := by
 intro s as st fr i v st' hv Q E hQ
 rw [qdv hf] at hv
 rw [q5e hf]
 obtain ⟨g, st1, h1, hv1⟩ := q00 hv
 refine wpAny_bind (ho s as st fr i g _ h1 _ _ fun x g1 as1 tk1 ro i1 e1 ht1 => ?_)
 have hv1' := hv1
 obtain ⟨vs, st3, h3, hv3⟩ := q00 hv1
 obtain ⟨ks, st4, h4, hv4⟩ := q00 hv3
 have hm := hcall _ _ _ _ _ hv4
 have c : Callee B g1 as1 F g x [] := by
  cases ro <;> first | cases hm | skip
  ·exact .fn ‹_›
  ·exact .bi _
  ·exact .ty _ ‹_›
  ·exact .cls
 refine q8c C hA ha hk (fr.on i e1) i1 c v st' hv1' Q E fun y g3 as3 tk3 ry i3 e3 ht3 => ?_
 exact hQ y g3 as3 tk3 ry i3 (e1.trans e3) (Nat.le_trans ht1 ht3)
end Ev
end
section
namespace Ev
variable {B : Base} {prog : Program} {w : World} {A : Around} {F : Addr -> Prop} {s : Shared} {as : List Addr} {st : St} {Γ : Ctx} {env : Env} {ρ : Fr}
theorem qq2 {h : Heap} {n : String} {y : Value} (r : Rep B h as F (.ty n) y) (hn : n ≠ "Headers") : y = .type n := by
 generalize hv : V.ty n = v at r
 cases r <;> first | (cases hv; done) | skip
 ·cases hv; rfl
 ·injection hv with h; exact absurd h hn
theorem qhe {t it : Expr} (he : OkV B prog w A F env ρ (eval it env) (q01 Γ it ρ)) {s : Shared} {as : List Addr} {st : St} (f : FrRep B s.heap as F env ρ) (i : Inv B s.heap as F st) {xs : List V} {ws : List (Nat × O)} {st' : St}
  (hv : (do let v <- q01 Γ it ρ; rd fun st => srcV st v : EvM (List V × List (Nat × O))) st = some ((xs, ws), st'))
  {Q : Value -> Shared -> Prop} {E : Value -> Shared -> Prop} (hQ : ∀ I h₁ h' as' tk, Ext no s.heap as h₁ as' -> Inv B h₁ as' F st' -> q93 B prog w t xs ws F as' h₁ h' I -> (∀ p ∈ ws, st'[p.1]? = some p.2) -> s.toks <= tk -> Q (.ref I) { s with heap := h', toks := tk }) :
  wpAny (model prog w) A (eval it env) (fun x s₁ => wpAny (model prog w) A (pyIter x) Q E s₁) E s := by
 obtain ⟨v, st1, h1, hv1⟩ := q00 hv
 obtain ⟨hv2, rfl⟩ := q0s hv1
 refine he s as st f i v _ h1 _ _ fun x g1 as1 tk1 rx i1 e1 ht1 => ?_
 exact qkj (t := t) (s := { s with heap := g1, toks := tk1 }) i1 rx hv2 fun I h' hb hw => hQ I g1 h' as1 tk1 e1 i1 hb hw ht1
theorem qex {n : Nat} (C : CtxOk B prog w Γ n) (hA : Room A n) {t it : Expr} (he : OkV B prog w A F env ρ (eval it env) (q01 Γ it ρ))
  (hargs : ∀ f p args pos, it = .Call (.Name f p) args [] pos -> ∀ e ∈ args, OkV B prog w A F env ρ (eval e env) (q01 Γ e ρ)) : q6u B prog w A F Γ t it env ρ := by
 intro s as st f i xs ws st' hv Q E hQ
 have gen : (do let v <- q01 Γ it ρ; rd fun st => srcV st v : EvM (List V × List (Nat × O))) st = some ((xs, ws), st') ->
   wpAny (model prog w) A (eval it env) (fun x s₁ => wpAny (model prog w) A (pyIter x) Q E s₁) E s := fun h => qhe (t := t) he f i h hQ
 have hname : (∃ g p args pos, it = .Call (.Name g p) args [] pos) \/ q0f Γ t it (q01 Γ it ρ) ρ = (do let v <- q01 Γ it ρ; rd fun st => srcV st v) := by
  cases it <;> first | (refine .inr ?_; rw [q0f]; intro _ _ _ _ q; cases q; done) | skip
  rename_i g args kws pos
  cases g <;> first | (refine .inr ?_; rw [q0f]; intro _ _ _ _ q; cases q; done) | skip
  cases kws with
  | nil => exact .inl ⟨_, _, _, _, rfl⟩
  | cons k r => exact .inr (by rw [q0f]; intro _ _ _ _ q; cases q)
 rcases hname with ⟨g, p, args, pos, rfl⟩ | e
 ·rw [q0f] at hv
  have other : ∀ r, ρ.get Γ g = r -> (¬ ∃ nm, r = some (.ty nm)) -> (match r with
    | some (.ty nm) => if nm = "enumerate" /\ g ≠ ("__debug__" : Str) then (do
      let vs <- q0j Γ args ρ
      match vs with
      | [.lst xs] => if qd0 t then pure (xs.zipIdx.map fun x => V.tup [.int x.2, x.1], []) else bad
      | _ => bad) else (do let v <- q01 Γ (.Call (.Name g p) args [] pos) ρ; rd fun st => srcV st v)
    | _ => (do let v <- q01 Γ (.Call (.Name g p) args [] pos) ρ; rd fun st => srcV st v) : EvM (List V × List (Nat × O))) st = some ((xs, ws), st') ->
    (do let v <- q01 Γ (.Call (.Name g p) args [] pos) ρ; rd fun st => srcV st v : EvM (List V × List (Nat × O))) st = some ((xs, ws), st') := by
   intro r _ hn h
   split at h
   ·rename_i nm heq; exact absurd ⟨nm, rfl⟩ hn
   ·exact h
  by_cases hn : ∃ nm, ρ.get Γ g = some (.ty nm)
  ·obtain ⟨nm, hg⟩ := hn
   rw [hg] at hv
   simp only at hv
   split at hv
   ·rename_i hc
    obtain ⟨rfl, hdb⟩ := hc
    obtain ⟨vs, st1, h1, hv1⟩ := q00 hv
    split at hv1
    ·rename_i ys
     split at hv1
     ·rename_i htup
      obtain ⟨hv2, rfl⟩ := q03 hv1
      cases hv2
      rw [q5e (by rfl)]
      have hnm : (gt (ρ.get Γ g) : EvM V) st = some (.ty "enumerate", st) := by rw [hg]; rfl
      refine wpAny_bind (wpAny_Name (qaa C.glob f i _ _ hnm _ _ fun y g1 as1 tk1 ry i1 e1 ht1 => ?_) (by simpa using hdb))
      have hy : y = .type "enumerate" := qq2 ry (by decide)
      subst hy
      have ht := q6n (env := env) (pos := pos) h1
      have es := qm9 (pos := pos) args (hargs g p args pos rfl) { s with heap := g1, toks := tk1 } as1 _ (f.on i e1) i1 _ _ h1
      rw [ht] at es ⊢
      refine callWith_of (P := B.objs.In) ?_ (fun h' X => ⟨.machine, .inr (.inl rfl), .now⟩) (q1h (keywords := []) rfl (es _ _ fun zs g2 as2 tk2 rs i2 e2 ht2 => ?_))
      ·have h3 : (args.map fun e => (false, eval e env)).any (·.1) = false := by simp
       rw [h3]; rfl
      ·refine wpAny_evalAll_nil ⟨fun a o q => (i2.base a o q).1, ?_⟩
       cases rs
       rename_i z zs r1 r2
       cases r2
       cases r1
       rename_i l hl ha hF rs
       replace hl := hl.isList
       have mid : wpAny (model prog w) A (pyIter (.ref (g2.objs.size + 1))) Q E { s with heap := g2, toks := tk2 } -> True := fun _ => trivial
       show wpAny _ _ (call (.type "enumerate") [.ref l]) _ _ _
       refine call_enumerate_list (s := { s with heap := g2, toks := tk2 }) hl fun h' hen hit hsz hk => ?_
       have h0 : g2.get? (g2.objs.size + 1) = none := by
        cases q : g2.get? (g2.objs.size + 1) with
        | none => rfl
        | some o => exact absurd (Heap.lt_size q) (Nat.not_lt.mpr (Nat.le_succ _))
       have hb := qii (B := B) (prog := prog) (w := w) (t := t) htup (F := F) (as := as2) hl ha hF rs hen hit hk h0 (q0a g2) (Nat.succ_ne_self _)
       obtain ⟨L, P, T, p0, k1, k2⟩ := id hb
       refine T.self 0 A { s with heap := h', toks := tk2 } as2 (Fu F L) _ _ hA.hh p0 ?_
       exact hQ _ g2 h' as2 tk2 (e1.trans e2) i2 hb (fun p hp => by cases hp) (Nat.le_trans ht1 ht2)
     ·exact (q02 hv1).elim
    ·exact (q02 hv1).elim
   ·exact gen hv
  ·exact gen (other _ rfl hn hv)
 ·rw [e] at hv; exact gen hv
end Ev
end
section
namespace Ev
variable {B : Base} {prog : Program} {w : World} {Γ : Ctx} {n : Nat}
noncomputable def EOk (B : Base) (prog : Program) (w : World) (Γ : Ctx) (n : Nat) (e : Expr) : Prop := ∀ A F env ρ, Room A n -> OkV B prog w A F env ρ (eval e env) (q01 Γ e ρ)
noncomputable def TOk (B : Base) (prog : Program) (w : World) (Γ : Ctx) (n : Nat) (e : Expr) : Prop := ∀ A F env ρ, Room A n -> OkB B prog w A F env ρ (PySem.isTrue e env (eval e env)) (q0g Γ e ρ (q01 Γ e ρ))
noncomputable def q3h (Γ : Ctx) : Prop := ∀ f vs ks st r, Γ.call f vs ks st = some r -> (match f with | .bi _ | .ty _ | .fn _ | .m .. => true | _ => false) = true
theorem qmd (C : CtxOk B prog w Γ n) {A : Around} (hA : Room A n) {elt : Expr} {gens : List Comprehension} {scope : Scope} {pos : Pos} (he : EOk B prog w Γ n elt) (hall : ∀ g ∈ gens, g.is_async = 0 /\ q0d g.iter = true) :
  ∀ (gs : List Comprehension) (d : Nat), gens.drop d = gs -> (∀ g ∈ gs, EOk B prog w Γ n g.iter /\ (∀ f p args pos, g.iter = .Call (.Name f p) args [] pos -> ∀ e ∈ args, EOk B prog w Γ n e) /\ ∀ e ∈ g.ifs, TOk B prog w Γ n e) ->
   ∀ F env ρ D, F D -> ¬ Own env ρ.sc D -> q54 B prog w A Γ F elt gens scope pos d D env gs ρ
 | [], d, hd, _, F, env, ρ, D, hD, hDo => qmj hD hDo (by
   have : gens.length <= d := by simpa using hd
   exact List.getElem?_eq_none this) (he A F env ρ hA)
 | g :: gs, d, hd, hg, F, env, ρ, D, hD, hDo => by
  obtain ⟨t, it, ifs, as₀⟩ := g
  have hget : gens[d]? = some ⟨t, it, ifs, as₀⟩ := by
   have := List.getElem?_drop (xs := gens) (i := d) (j := 0)
   rw [hd] at this
   simpa using this.symm
  have h0 : as₀ = 0 := (hall _ (List.mem_of_getElem? hget)).1
  subst h0
  obtain ⟨h1, h2, h3⟩ := hg _ List.mem_cons_self
  have hd' : gens.drop (d + 1) = gs := by
   have : gens.drop (d + 1) = (gens.drop d).drop 1 := by rw [List.drop_drop]
   rw [this, hd]; rfl
  refine qj0 hA.hh hget hall hD hDo (qex C hA (h1 A F env ρ hA) fun f p args pos e x hx => h2 f p args pos e x hx A F env ρ hA) (fun L ρ' _ => qjb ifs fun e he => h3 e he A _ env ρ' hA) fun L ρ' hs => ?_
  exact qmd C hA he hall gs (d + 1) hd' (fun g hg' => hg g (List.mem_cons_of_mem _ hg')) (Fu F L) env ρ' D (.inl hD) (hs ▸ hDo)
theorem q9s (C : CtxOk B prog w Γ n) {A : Around} (hA : Room A n) {elt : Expr} {scope : Scope} {pos : Pos} {t it : Expr} {ifs : List Expr} {as₀ : Int} {gs : List Comprehension} (he : EOk B prog w Γ n elt)
  (hg : ∀ g ∈ (⟨t, it, ifs, as₀⟩ :: gs : List Comprehension), EOk B prog w Γ n g.iter /\ (∀ f p args pos, g.iter = .Call (.Name f p) args [] pos -> ∀ e ∈ args, EOk B prog w Γ n e) /\ ∀ e ∈ g.ifs, TOk B prog w Γ n e) :
  (∀ F env ρ, q6u B prog w A F Γ t it env ρ) /\ (∀ F' env' ρ', OkB B prog w A F' env' ρ' (testsC ifs env') (q0v Γ ifs ρ')) /\
  ((∀ g ∈ (⟨t, it, ifs, 0⟩ :: gs : List Comprehension), g.is_async = 0 /\ q0d g.iter = true) -> ∀ F' env' ρ' D, ρ'.sc = scope.names -> F' D -> ¬ Own env' scope.names D -> q54 B prog w A Γ F' elt (⟨t, it, ifs, 0⟩ :: gs) scope pos 1 D env' gs ρ') := by
 obtain ⟨h1, h2, h3⟩ := hg _ List.mem_cons_self
 refine ⟨fun F env ρ => qex C hA (h1 A F env ρ hA) fun f p args pos e x hx => h2 f p args pos e x hx A F env ρ hA, fun F' env' ρ' => qjb ifs fun e he => h3 e he A F' env' ρ' hA, fun hall F' env' ρ' D hs hD hDo => ?_⟩
 exact qmd C hA he hall gs 1 rfl (fun g hg' => hg g (List.mem_cons_of_mem _ hg')) F' env' ρ' D hD (hs ▸ hDo)
theorem qqh {A : Around} {F : Addr -> Prop} {env : Env} {ρ : Fr} {α β : Type} {R : Heap -> List Addr -> α -> β -> Prop} {t : Sem β} {m : EvM α} (h : m = bad) : OkAt B prog w A F env ρ R t m := by
 intro s as st f i v st' hv
 rw [h] at hv; exact (q02 hv).elim
theorem qis (he : EOk B prog w Γ n e) (h1 : ∀ env, PySem.isTrue e env (eval e env) = (do let v <- eval e env; standAt e.pos; holding [v] (truthy v))) (h2 : ∀ ρ, q0g Γ e ρ (q01 Γ e ρ) = (do let v <- q01 Γ e ρ; rd fun st => q26 st v)) : TOk B prog w Γ n e := by
 intro A F env ρ hA
 rw [h1, h2]
 exact ql2 (he A F env ρ hA)
theorem q6r {α : Type} [SizeOf α] {l : List α} {a : α} (h : a ∈ l) : sizeOf a < sizeOf l := List.sizeOf_lt_of_mem h
set_option maxHeartbeats 1000000 in
theorem q79 (C : CtxOk B prog w Γ n) (hc : q3h Γ) : ∀ (m : Nat) (e : Expr), sizeOf e < m -> EOk B prog w Γ n e /\ TOk B prog w Γ n e
 | 0, e, h => by omega
 | m + 1, e, h => by
  have ih := q79 C hc m
  have ihs : ∀ es : List Expr, sizeOf es <= m -> ∀ e ∈ es, EOk B prog w Γ n e /\ TOk B prog w Γ n e := fun es hs e he => ih e (Nat.lt_of_lt_of_le (q6r he) hs)
  have ihk : ∀ ks : List Keyword, sizeOf ks <= m -> ∀ k ∈ ks, EOk B prog w Γ n k.value := fun ks hs k hk => (ih k.value (by
   have h1 := q6r hk
   have h2 : sizeOf k.value < sizeOf k := by cases k; simp; omega
   omega)).1
  have plain : ∀ e : Expr, (∀ op x p, e ≠ .UnaryOp op x p) -> (∀ op vs p, e ≠ .BoolOp op vs p) -> (∀ t b o p, e ≠ .IfExp t b o p) -> (∀ l ops cs p, e ≠ .Compare l ops cs p) -> EOk B prog w Γ n e -> EOk B prog w Γ n e /\ TOk B prog w Γ n e := by
   intro e h1 h2 h3 h4 he
   refine ⟨he, qis he (fun env => ?_) fun ρ => ?_⟩
   ·cases e <;> first | rfl | exact absurd rfl (h1 _ _ _) | exact absurd rfl (h2 _ _ _) | exact absurd rfl (h3 _ _ _ _) | exact absurd rfl (h4 _ _ _ _)
   ·cases e <;> first | exact absurd rfl (h1 _ _ _) | exact absurd rfl (h2 _ _ _) | exact absurd rfl (h3 _ _ _ _) | exact absurd rfl (h4 _ _ _ _) | rfl | (rw [q0g] <;> (intros; rename_i q; cases q))
  cases e with
  | Constant c k pos => exact plain _ (by simp) (by simp) (by simp) (by simp) fun A F env ρ hA => qf3
  | Name x pos => exact plain _ (by simp) (by simp) (by simp) (by simp) fun A F env ρ hA s as st f i => qnh C.glob f i
  | BinOp l op r pos =>
   simp at h
   exact plain _ (by simp) (by simp) (by simp) (by simp) fun A F env ρ hA => qny ((ih l (by omega)).1 A F env ρ hA) ((ih r (by omega)).1 A F env ρ hA)
  | UnaryOp op x pos =>
   simp at h
   have hx := ih x (by omega)
   have he : EOk B prog w Γ n (.UnaryOp op x pos) := fun A F env ρ hA => qhm (hx.1 A F env ρ hA)
   refine ⟨he, ?_⟩
   cases op with
   | Not => exact fun A F env ρ hA => qsp (hx.2 A F env ρ hA)
   | _ => exact qis he (fun env => rfl) fun ρ => by rw [q0g] <;> (intros; rename_i q; cases q)
  | BoolOp op vs pos =>
   simp at h
   exact ⟨fun A F env ρ hA => ql4 fun e he => (ihs vs (by omega) e he).1 A F env ρ hA, fun A F env ρ hA => qha fun e he => (ihs vs (by omega) e he).2 A F env ρ hA⟩
  | IfExp t b o pos =>
   simp at h
   have ht := ih t (by omega)
   have hb := ih b (by omega)
   have ho := ih o (by omega)
   exact ⟨fun A F env ρ hA => qnp (ht.2 A F env ρ hA) (hb.1 A F env ρ hA) (ho.1 A F env ρ hA), fun A F env ρ hA => qjl (ht.2 A F env ρ hA) (hb.2 A F env ρ hA) (ho.2 A F env ρ hA)⟩
  | Compare l ops cs pos =>
   simp at h
   have hl := ih l (by omega)
   exact ⟨fun A F env ρ hA => qhr C.keys hA (hl.1 A F env ρ hA) fun e he => (ihs cs (by omega) e he).1 A F env ρ hA, fun A F env ρ hA => qep C.keys hA (hl.1 A F env ρ hA) fun e he => (ihs cs (by omega) e he).1 A F env ρ hA⟩
  | Call g args kws pos =>
   simp at h
   refine plain _ (by simp) (by simp) (by simp) (by simp) fun A F env ρ hA => ?_
   have ha : ∀ e ∈ args, OkV B prog w A F env ρ (eval e env) (q01 Γ e ρ) := fun e he => (ihs args (by omega) e he).1 A F env ρ hA
   have hk : ∀ k ∈ kws, OkV B prog w A F env ρ (eval k.value env) (q01 Γ k.value ρ) := fun k hk => ihk kws (by omega) k hk A F env ρ hA
   cases hn : qae g with
   | true => exact qov C hA hc hn ((ih g (by omega)).1 A F env ρ hA) ha hk
   | false =>
    cases g <;> first | (cases hn; done) | skip
    rename_i o name apos
    simp at h
    exact qe7 C hA ((ih o (by omega)).1 A F env ρ hA) (fun l op r p q => by
     subst q
     simp at h
     exact (ih r (by omega)).1 A F env ρ hA) ha hk
  | Attribute o name pos =>
   simp at h
   exact plain _ (by simp) (by simp) (by simp) (by simp) fun A F env ρ hA => qss C ((ih o (by omega)).1 A F env ρ hA)
  | Subscript o j pos =>
   simp at h
   refine plain _ (by simp) (by simp) (by simp) (by simp) fun A F env ρ hA => ?_
   have ho := (ih o (by omega)).1 A F env ρ hA
   by_cases hs : ∃ l u t p, j = .Slice l u t p
   ·obtain ⟨l, u, t, p, rfl⟩ := hs
    simp at h
    have opt : ∀ x : Option Expr, sizeOf x < m -> OkV B prog w A F env ρ (valueOrNone (evalOpt x env)) (q38 Γ x ρ) := fun x hx => ok_O x fun y hy => by
     subst hy
     simp at hx
     exact (ih y (by omega)).1 A F env ρ hA
    exact qn0 ho (opt l (by omega)) (opt u (by omega)) (opt t (by omega))
   ·have hs' : ∀ l u t p, j ≠ .Slice l u t p := fun l u t p e => hs ⟨l, u, t, p, e⟩
    have e : q01 Γ (.Subscript o j pos) ρ = (do let ov <- q01 Γ o ρ; let iv <- q01 Γ j ρ; rd fun st => q1o st ov iv) := by
     cases j <;> first | rfl | exact absurd rfl (hs' _ _ _ _)
    rw [e]
    exact qtq hs' ho ((ih j (by omega)).1 A F env ρ hA)
  | List es pos =>
   simp at h
   exact plain _ (by simp) (by simp) (by simp) (by simp) fun A F env ρ hA => qr4 fun e he => (ihs es (by omega) e he).1 A F env ρ hA
  | Tuple es k pos =>
   simp at h
   exact plain _ (by simp) (by simp) (by simp) (by simp) fun A F env ρ hA => qni fun e he => (ihs es (by omega) e he).1 A F env ρ hA
  | ListComp elt gens scope pos =>
   simp at h
   refine plain _ (by simp) (by simp) (by simp) (by simp) fun A F env ρ hA => ?_
   have he := (ih elt (by omega)).1
   have hg : ∀ g ∈ gens, EOk B prog w Γ n g.iter /\ (∀ f p args pos, g.iter = .Call (.Name f p) args [] pos -> ∀ e ∈ args, EOk B prog w Γ n e) /\ ∀ e ∈ g.ifs, TOk B prog w Γ n e := fun g hg => by
    have h1 := q6r hg
    obtain ⟨t, it, ifs, as₀⟩ := g
    simp at h1
    refine ⟨(ih it (by omega)).1, fun f p args pos q e he => ?_, fun e he => (ihs ifs (by omega) e he).2⟩
    have q' : it = .Call (.Name f p) args [] pos := q
    subst q'
    simp at h1
    exact (ihs args (by omega) e he).1
   cases gens with
   | nil =>
    refine qqh ?_
    simp only [q01, List.isEmpty_nil, Bool.not_true, Bool.and_false, Bool.false_eq_true, if_false]
   | cons g gs =>
    obtain ⟨t, it, ifs, as₀⟩ := g
    obtain ⟨h1, h2, h3⟩ := q9s (scope := scope) (pos := pos) C hA he hg
    exact q82 hA.hh (h1 F env ρ) h2 h3
  | _ => exact plain _ (by simp) (by simp) (by simp) (by simp) fun A F env ρ hA => qqh (by simp only [q01])
end Ev
end
section
namespace Ev
variable {B : Base} {prog : Program} {w : World} {Γ : Ctx} {n : Nat}
noncomputable def XOk (B : Base) (prog : Program) (w : World) (Γ : Ctx) (n : Nat) (s : Stmt) : Prop := ∀ A F env ρ, Room A n -> OkX B prog w A F env ρ (exec s env) (q0m Γ s ρ)
noncomputable def LOk (B : Base) (prog : Program) (w : World) (Γ : Ctx) (n : Nat) (l : List Stmt) : Prop := ∀ A F env ρ, Room A n -> OkX B prog w A F env ρ (execs l env) (q09 Γ l ρ)
theorem badX {A : Around} {F : Addr -> Prop} {env : Env} {ρ : Fr} {t : Sem Flow} {m : EvM (Fl × Fr)} (h : m = bad) : OkX B prog w A F env ρ t m := by
 intro s as st f i fl ρ' st' hv
 rw [h] at hv; exact (q02 hv).elim
theorem qel : ∀ (l : List Stmt), (∀ s ∈ l, XOk B prog w Γ n s) -> LOk B prog w Γ n l
 | [], _ => fun A F env ρ hA => r1c
 | a :: r, h => fun A F env ρ hA => qqx (h a List.mem_cons_self A F env ρ hA) fun ρ' _ => qel r (fun s hs => h s (List.mem_cons_of_mem _ hs)) A F env ρ' hA
theorem qev (C : CtxOk B prog w Γ n) (hc : q3h Γ) : ∀ (m : Nat) (s : Stmt), sizeOf s < m -> XOk B prog w Γ n s
 | 0, s, h => by omega
 | m + 1, s, h => by
  have ih := qev C hc m
  have ihl : ∀ l : List Stmt, sizeOf l <= m -> LOk B prog w Γ n l := fun l hs => qel l fun s hs' => ih s (Nat.lt_of_lt_of_le (q6r hs') hs)
  have ex : ∀ e : Expr, EOk B prog w Γ n e := fun e => (q79 C hc _ e (Nat.lt_succ_self _)).1
  have tx : ∀ e : Expr, TOk B prog w Γ n e := fun e => (q79 C hc _ e (Nat.lt_succ_self _)).2
  cases s with
  | Expr e pos => exact fun A F env ρ hA => qrt fun _ => ex e A F env ρ hA
  | Return v pos =>
   cases v with
   | none => exact fun A F env ρ hA => badX (by simp only [q0m])
   | some e => exact fun A F env ρ hA => ql5 (ex e A F env ρ hA)
  | Assign ts e pos =>
   cases ts with
   | nil => exact fun A F env ρ hA => badX (by simp only [q0m])
   | cons t r =>
    cases r with
    | cons _ _ => exact fun A F env ρ hA => badX (by simp only [q0m])
    | nil =>
     intro A F env ρ hA
     by_cases hn : qfm e = true
     ·exact qdf hA.hh (q58 hn _ _ _) (ex e A F env ρ hA)
     ·cases e <;> first | exact absurd rfl hn | skip
      ·rename_i elt gens scope p
       cases gens with
       | nil =>
        refine badX ?_
        simp only [q0m, q01, List.isEmpty_nil, Bool.not_true, Bool.and_false, Bool.false_eq_true, if_false]
        rfl
       | cons g gs =>
        obtain ⟨t', it, ifs, as₀⟩ := g
        obtain ⟨h1, h2, h3⟩ := q9s (elt := elt) (t := t') (it := it) (ifs := ifs) (as₀ := as₀) (gs := gs) (scope := scope) (pos := p) C hA (ex elt) fun g _ => ⟨ex g.iter, fun _ _ _ _ _ e _ => ex e, fun e _ => tx e⟩
        exact qad hA.hh (h1 F env ρ) h2 h3
      ·exact badX (by simp only [q0m, q01]; rfl)
      ·exact badX (by simp only [q0m, q01]; rfl)
  | AugAssign t op e pos =>
   intro A F env ρ hA
   cases t with
   | Subscript o j p => exact qj1 (ex _ A F env ρ hA) (ex _ A F env ρ hA) (ex e A F env ρ hA)
   | Name x p => exact qij C.glob (ex e A F env ρ hA)
   | _ => exact badX (by simp only [q0m])
  | If t body orelse pos =>
   simp at h
   exact fun A F env ρ hA => r4t (tx t A F env ρ hA) (ihl body (by omega) A F env ρ hA) (ihl orelse (by omega) A F env ρ hA)
  | For t it body orelse pos =>
   simp at h
   cases orelse with
   | cons _ _ => exact fun A F env ρ hA => badX (by simp only [q0m])
   | nil => exact fun A F env ρ hA => r2i hA.hh (qex C hA (ex it A F env ρ hA) fun _ _ _ _ _ e _ => ex e A F env ρ hA) fun L ρ' _ => ihl body (by omega) A (Fu F L) env ρ' hA
  | _ => exact fun A F env ρ hA => badX (by simp only [q0m])
theorem qru (C : CtxOk B prog w Γ n) (hc : q3h Γ) (l : List Stmt) : LOk B prog w Γ n l := qel l fun s _ => qev C hc _ s (Nat.lt_succ_self _)
end Ev
end
section
namespace Ev
variable {B : Base} {prog : Program} {w : World} {A : Around} {F : Addr -> Prop} {s : Shared} {as : List Addr} {st : St} {Γ : Ctx}
theorem q2j {h : Heap} {v : V} {xs : List Value} (r : Reps B h as F [v] xs) : ∃ x, xs = [x] /\ Rep B h as F v x := by cases r; rename_i a b; cases b; exact ⟨_, rfl, a⟩
theorem qh5 {h : Heap} {v u : V} {xs : List Value} (r : Reps B h as F [v, u] xs) : ∃ x y, xs = [x, y] /\ Rep B h as F v x /\ Rep B h as F u y := by
 cases r; rename_i a b; obtain ⟨y, rfl, hy⟩ := q2j b; exact ⟨_, _, rfl, a, hy⟩
theorem q1m {h : Heap} {l : List Nat} {x : Value} (r : Rep B h as F (.str l) x) : ∃ t, x = .str (S l) t /\ ∀ c ∈ l, c < 0x110000 := by cases r; exact ⟨_, rfl, ‹_›⟩
theorem q3k {h : Heap} {i : Int} {x : Value} (r : Rep B h as F (.int i) x) : ∃ t, x = .int i t := by cases r; exact ⟨_, rfl⟩
theorem q89 {h : Heap} : ∀ {vs : List V} {xs : List Value} {ns : List Int}, Reps B h as F vs xs -> q4q vs = some ns -> ∃ arr : List (Int × Tok), xs = arr.map (fun p => .int p.1 p.2) /\ ns = arr.map (·.1)
 | [], _, _, .nil, h => by cases h; exact ⟨[], rfl, rfl⟩
 | v :: vs, _, ns, .cons r rs, h => by
  cases v <;> simp only [q4q] at h <;> first | (cases h; done) | skip
  rename_i i
  cases hn : q4q vs with
  | none => rw [hn] at h; cases h
  | some ms =>
   rw [hn] at h; cases h
   obtain ⟨arr, rfl, rfl⟩ := q89 rs hn
   obtain ⟨t, rfl⟩ := q3k r
   exact ⟨(i, t) :: arr, rfl, rfl⟩
theorem q7x {h : Heap} : ∀ {vs : List V} {xs : List Value} {ns : List (List Nat)}, Reps B h as F vs xs -> q28 vs = some ns -> ∃ arr : List (Str × Tok), xs = strValues arr /\ ns.map S = arr.map (·.1)
 | [], _, _, .nil, h => by cases h; exact ⟨[], rfl, rfl⟩
 | v :: vs, _, ns, .cons r rs, h => by
  cases v <;> simp only [q28] at h <;> first | (cases h; done) | skip
  rename_i l
  cases hn : q28 vs with
  | none => rw [hn] at h; cases h
  | some ms =>
   rw [hn] at h; cases h
   obtain ⟨arr, rfl, e⟩ := q7x rs hn
   obtain ⟨t, rfl, _⟩ := q1m r
   exact ⟨(S l, t) :: arr, rfl, by simp [e]⟩
theorem q65 : ∀ (r : List Int) (a : Int), (r.foldl (fun a b => if a < b then b else a) a ∈ a :: r) /\ ∀ x ∈ a :: r, x <= r.foldl (fun a b => if a < b then b else a) a
 | [], a => ⟨by simp, fun x hx => by simp at hx; subst hx; exact Int.le_refl _⟩
 | b :: r, a => by
  obtain ⟨h1, h2⟩ := q65 r (if a < b then b else a)
  simp only [List.foldl_cons]
  refine ⟨?_, fun x hx => ?_⟩
  ·rcases List.mem_cons.mp h1 with q | q
   ·rw [q]; split <;> simp
   ·exact List.mem_cons_of_mem _ (List.mem_cons_of_mem _ q)
  ·have h3 := h2 _ List.mem_cons_self
   rcases List.mem_cons.mp hx with rfl | hx
   ·refine Int.le_trans ?_ h3; split <;> omega
   ·rcases List.mem_cons.mp hx with rfl | hx
    ·refine Int.le_trans ?_ h3; split <;> omega
    ·exact h2 _ (List.mem_cons_of_mem _ hx)
abbrev SimV (B : Base) (prog : Program) (w : World) (A : Around) (F : Addr -> Prop) (t : Sem Value) (m : EvM V) (s : Shared) (as : List Addr) (st : St) : Prop := Sim B prog w A F no (RV B F) t m s as st
theorem q2o {v v' : V} {st st' : St} (i : Inv B s.heap as F st) (hv : (pure v : EvM V) st = some (v', st')) {Q : Value -> Shared -> Prop}
  (hQ : ∀ x h' as' tk, RV B F h' as' v' x -> Inv B h' as' F st' -> Ext no s.heap as h' as' -> s.toks <= tk -> Q x { s with heap := h', toks := tk }) :
  ∀ x tk, Rep B s.heap as F v x -> s.toks <= tk -> Q x { s with heap := s.heap, toks := tk } := by
 obtain ⟨rfl, rfl⟩ := q03 hv
 exact fun x tk r ht => hQ x s.heap as tk r i (Ext.refl _ _ _) ht
theorem q4r {v v' : V} {st st' : St} (i : Inv B s.heap as F st) (hv : (pure v : EvM V) st = some (v', st')) {Q : Value -> Shared -> Prop}
  (hQ : ∀ x h' as' tk, RV B F h' as' v' x -> Inv B h' as' F st' -> Ext no s.heap as h' as' -> s.toks <= tk -> Q x { s with heap := h', toks := tk }) :
  ∀ x h' tk, Rep B h' as F v x -> (∀ a o, s.heap.get? a = some o -> h'.get? a = some o) -> s.toks <= tk -> Q x { s with heap := h', toks := tk } := by
 obtain ⟨rfl, rfl⟩ := q03 hv
 exact fun x h' tk r hk ht => hQ x h' as tk r (i.keeps hk) (Ext.keeps hk) ht
theorem qie {n : Nat} (hA : Room A n) {id : String} {vs : List V} {xs : List Value} (i : Inv B s.heap as F st) (rs : Reps B s.heap as F vs xs) : SimV B prog w A F (call (.builtin id) xs []) (builtin id vs) s as st := by
 intro v st' hv Q E hQ
 unfold builtin at hv
 split at hv
 ·rename_i k
  obtain ⟨x, rfl, r⟩ := q2j rs
  obtain ⟨t, rfl⟩ := q3k r
  split at hv
  ·rename_i hc
   refine chr_of_range hc.1 (by omega) ?_
   exact q2o i hv hQ _ _ (.str [k.toNat] _ fun c hc' => by rw [List.mem_singleton.mp hc']; omega) (Nat.le_succ _)
  ·exact (q02 hv).elim
 ·rename_i c
  obtain ⟨x, rfl, r⟩ := q2j rs
  obtain ⟨t, rfl, _⟩ := q1m r
  exact P.ord_of_char (q2o i hv hQ _ _ (.int _ _) (Nat.le_succ _))
 ·rename_i l
  obtain ⟨x, rfl, r⟩ := q2j rs
  obtain ⟨t, rfl, _⟩ := q1m r
  split at hv
  ·rename_i hc
   have hc' : l.length <= 65536 := hc
   refine P.len_str (by rw [q12]; omega) ?_
   rw [q12]
   exact q2o i hv hQ _ _ (.int _ _) (Nat.le_succ_of_le (Nat.le_succ _))
  ·exact (q02 hv).elim
 ·rename_i us
  obtain ⟨x, rfl, r⟩ := q2j rs
  split at hv
  ·rename_i hc
   have hc' : us.length <= 65536 := hc
   cases r
   rename_i ys a hl _ _ rr
   replace hl := hl.isList
   have hlen := rr.length
   refine call_len_list hl (by simp; omega) ?_
   have e : (ys.toArray.size : Int) = us.length := by simp [hlen]
   rw [e]
   exact q2o i hv hQ _ _ (.int _ _) (Nat.le_succ_of_le (Nat.le_succ _))
  ·exact (q02 hv).elim
 ·rename_i a b
  obtain ⟨x, y, rfl, r1, r2⟩ := qh5 rs
  obtain ⟨t, rfl⟩ := q3k r1
  obtain ⟨u, rfl⟩ := q3k r2
  refine wpAny_with_toks (n := s.toks) (Nat.le_refl _) (min_two_ints hA.hh fun h' tk hk htk => ?_)
  refine q4r i hv hQ _ h' tk ?_ hk htk
  split <;> exact .int _ _
 ·rename_i a b
  obtain ⟨x, y, rfl, r1, r2⟩ := qh5 rs
  obtain ⟨t, rfl⟩ := q3k r1
  obtain ⟨u, rfl⟩ := q3k r2
  refine wpAny_with_toks (n := s.toks) (Nat.le_refl _) (max_two_ints hA.hh fun h' tk hk htk => ?_)
  refine q4r i hv hQ _ h' tk ?_ hk htk
  by_cases q : a < b
  ·rw [if_pos q, if_pos q]; exact .int _ _
  ·rw [if_neg q, if_neg q]; exact .int _ _
 ·rename_i us
  obtain ⟨x, rfl, r⟩ := q2j rs
  obtain ⟨ns, st1, h1, hv1⟩ := q00 hv
  obtain ⟨h1', rfl⟩ := q0k h1
  cases r
  rename_i ys ad hl _ _ rr
  replace hl := hl.isList
  obtain ⟨arr, rfl, rfl⟩ := q89 rr h1'
  cases arr with
  | nil => exact (q02 hv1).elim
  | cons p r =>
   have hit : ((p :: r).map (fun p => Value.int p.1 p.2)).toArray = intItems (p :: r).toArray := by simp [intItems]
   rw [hit] at hl
   refine wpAny_with_toks (n := s.toks) (Nat.le_refl _) (max_intList hA.hh hl (by simp) fun v' h' tk hx hk htk => ?_)
   obtain ⟨t, rfl⟩ := intItems_at hx
   obtain ⟨g1, g2⟩ := argBest_gt (numAt (p :: r).toArray) ((p :: r).toArray.size - 1)
   obtain ⟨m1, m2⟩ := q65 (r.map (·.1)) p.1
   have hsz : (p :: r).toArray.size = r.length + 1 := by simp
   have memM : numAt (p :: r).toArray (argBest (fun i j => decide (numAt (p :: r).toArray i > numAt (p :: r).toArray j)) ((p :: r).toArray.size - 1)) ∈ p.1 :: r.map (·.1) := by
    rw [numAt_eq]; exact getD_mem (l := p.1 :: r.map (·.1)) (by simp only [List.length_cons, List.length_map]; omega)
   have top : ∀ a ∈ p.1 :: r.map (·.1), a <= numAt (p :: r).toArray (argBest (fun i j => decide (numAt (p :: r).toArray i > numAt (p :: r).toArray j)) ((p :: r).toArray.size - 1)) := fun a ha => by
    obtain ⟨j, hj, e⟩ := mem_getD ha
    have := g2 j (by simp at hj ⊢; omega)
    rw [numAt_eq] at this
    simp only [List.map_cons] at this
    rw [e] at this
    exact this
   have e := Int.le_antisymm (top _ m1) (m2 _ memM)
   refine q4r i hv1 hQ _ h' tk ?_ hk htk
   simp only [List.map_cons] at *
   rw [<- e]; exact .int _ _
 ·rename_i us
  obtain ⟨x, rfl, r⟩ := q2j rs
  obtain ⟨ns, st1, h1, hv1⟩ := q00 hv
  obtain ⟨h1', rfl⟩ := q0k h1
  split at hv1
  ·rename_i hc
   cases r
   rename_i ys ad hl _ _ rr
   replace hl := hl.isList
   obtain ⟨arr, rfl, rfl⟩ := q89 rr h1'
   have hit : (arr.map (fun p => Value.int p.1 p.2)).toArray = intItems arr.toArray := by simp [intItems]
   rw [hit] at hl
   have bound : ∀ j, j < arr.length -> -1000000 <= (arr.map (·.1)).getD j 0 /\ (arr.map (·.1)).getD j 0 <= 1000000 := fun j hj => by
    have := List.all_eq_true.mp hc.2 _ (getD_mem (l := arr.map (·.1)) (by simpa using hj))
    simpa using this
   have psum : ∀ j, j <= arr.length -> -(1000000 * (j : Int)) <= preSum (numAt arr.toArray) j /\ preSum (numAt arr.toArray) j <= 1000000 * (j : Int) := by
    intro j
    induction j with
    | zero => intro _; simp [preSum]
    | succ j ih =>
     intro hj
     obtain ⟨a1, a2⟩ := ih (by omega)
     obtain ⟨b1, b2⟩ := bound j (by omega)
     simp only [preSum]
     rw [numAt_eq]
     simp only [List.toList_toArray] at *
     push_cast
     omega
   have hlen : arr.length <= 65536 := by have := hc.1; simpa [cap] using this
   refine wpAny_with_toks (n := s.toks) (Nat.le_refl _) (sum_intList hA.hh hl (fun j hj => ?_) fun h' tk t' hk htk => ?_)
   ·simp at hj
    obtain ⟨b1, b2⟩ := bound j hj
    obtain ⟨c1, c2⟩ := psum (j + 1) hj
    refine ⟨?_, ?_⟩
    ·rw [numAt_eq]; simp only [List.toList_toArray]; unfold InLong; omega
    ·unfold InLong; push_cast at c1 c2; omega
   ·refine q4r i hv1 hQ _ h' tk ?_ hk htk
    rw [preSum_eq]
    have : ((arr.toArray.toList.map (·.1)).take arr.toArray.size) = arr.map (·.1) := by rw [List.take_of_length_le (by simp)]
    rw [this]
    exact .int _ _
  ·exact (q02 hv1).elim
 ·exact (q02 hv).elim
theorem q9h {h : Heap} {f : Nat -> V} {P : Nat -> Value -> Prop} : ∀ (n k : Nat) (xs : List Value), xs.length = n -> (∀ j v, xs[j]? = some v -> P (k + j) v) -> (∀ j v, P j v -> Rep B h as F (f j) v) -> Reps B h as F ((List.range' k n).map f) xs
 | 0, k, xs, hl, _, _ => by
  have : xs = [] := List.eq_nil_of_length_eq_zero hl
  subst this; exact .nil
 | n + 1, k, [], hl, _, _ => by simp at hl
 | n + 1, k, x :: xs, hl, hp, hf => by
  rw [List.range'_succ, List.map_cons]
  refine .cons (hf k x (by simpa using hp 0 x rfl)) (q9h n (k + 1) xs (by simpa using hl) (fun j v hj => ?_) hf)
  have := hp (j + 1) v (by simpa using hj)
  rwa [show k + 1 + j = k + (j + 1) by omega]
theorem qks {n : Nat} (hA : Room A n) {nm : String} {vs : List V} {xs : List Value} (hn : nm ≠ "Headers") (i : Inv B s.heap as F st) (rs : Reps B s.heap as F vs xs) : SimV B prog w A F (call (.type nm) xs []) (ctor Γ nm vs) s as st := by
 intro v st' hv Q E hQ
 unfold ctor at hv
 split at hv
 ·rename_i k
  obtain ⟨x, rfl, r⟩ := q2j rs
  obtain ⟨t, rfl⟩ := q3k r
  split at hv
  ·rename_i hc
   obtain ⟨hv1, rfl⟩ := q0k hv
   obtain ⟨rfl, h1, _⟩ := q3e hv1
   refine PySem.P.str_of_int ?_ ?_
   ·have h2 : k.natAbs < 2 ^ 20 := by omega
    rcases Nat.eq_zero_or_pos k.natAbs with h0 | h0
    ·rw [h0]; decide
    ·have := (Nat.log2_lt (by omega)).mpr h2
     omega
   ·have r2 : Rep B s.heap as F (.str (chs (toString k))) (.str (S (chs (toString k))) s.toks) := .str _ _ h1
    have e : S (chs (toString k)) = Str.ofString (toString k) := q3v _
    rw [e] at r2
    exact hQ _ s.heap as _ r2 i (Ext.refl _ _ _) (Nat.le_succ _)
  ·exact (q02 hv).elim
 ·rename_i k
  obtain ⟨x, rfl, r⟩ := q2j rs
  obtain ⟨t, rfl⟩ := q3k r
  obtain ⟨rfl, rfl⟩ := q03 hv
  refine call_range_1 ?_
  have f := i.fresh (q0a s.heap)
  exact hQ _ _ as _ (.rng (Heap.get?_push_size _ rfl) f.1 f.2) (i.push _) (Ext.push _ _) (Nat.le_succ_of_le (Nat.le_succ _))
 ·rename_i a b
  obtain ⟨x, rfl, r⟩ := q2j rs
  obtain ⟨ys, st1, h1, hv1⟩ := q00 hv
  obtain ⟨h1', rfl⟩ := q0s h1
  obtain ⟨rfl, rfl⟩ := q03 hv1
  simp only [q5u] at h1'
  split at h1'
  ·rename_i hc
   cases h1'
   cases r
   rename_i r0 t u w0 ha hF hr
   obtain ⟨hz, hsm⟩ := q7m hc
   refine wpAny_with_toks (n := s.toks) (Nat.le_refl _) (call_list_range hA.hh hr hsm hz (by omega) fun h' tk acc c hk ho hit htk => ?_)
   have f := i.fresh (q0a s.heap)
   refine hQ _ h' as tk (.lst (xs := acc.toList) ⟨_, c, ho, rfl, rfl, rfl⟩ f.1 f.2 ?_) (i.keeps hk) (Ext.keeps hk) htk
   have hl : acc.toList.length = (b - a).toNat := by simpa using hit.1
   have := q9h (B := B) (h := h') (as := as) (F := F) (f := fun (j : Nat) => V.int (a + j)) (P := fun j v => ∃ t, v = Value.int (a + j * 1) t) (b - a).toNat 0 acc.toList hl (fun j v hj => by
    obtain ⟨t, e⟩ := hit.2 j v (by simpa using hj)
    exact ⟨t, by rw [Nat.zero_add]; exact e⟩) fun j v ⟨t, e⟩ => by rw [e, Int.mul_one]; exact .int _ _
   rw [List.range_eq_range']
   exact this
  ·cases h1'
 ·exact absurd rfl hn
 ·exact (q02 hv).elim
theorem qki {j : Nat} {vs : List V} {v : V} {st st' : St} (h : setL j vs st = some (v, st')) : vs.length <= cap /\ v = .none /\ j < st.length /\ st' = st.set j (.list vs) := by
 unfold setL at h
 by_cases hc : vs.length <= cap
 ·rw [if_pos hc] at h
  obtain ⟨u, st1, h1, h2⟩ := q00 h
  obtain ⟨h3, rfl⟩ := qci h1
  obtain ⟨rfl, rfl⟩ := q03 h2
  exact ⟨hc, rfl, h3, rfl⟩
 ·rw [if_neg hc] at h
  obtain ⟨u, st1, h1, h2⟩ := q00 h
  exact (q02 h1).elim
theorem q6j {x : Str} (h : x.cps.toList.length <= cap) : Builtin.Str.tooLong x.length = false := by
 unfold Builtin.Str.tooLong
 have := q18 h
 have e : x.length = x.cps.toList.length := by simp [Str.length]
 rw [e]
 simpa using this
theorem qu3 {a b : List Nat} (h : S a = S b) : a = b := by
 have := congrArg (fun x : Str => x.cps.toList) h
 simpa [S] using this
theorem qln : ∀ arr : List (Str × Tok), StrsAre (strValues arr) (arr.map (·.1))
 | [] => .nil
 | (x, t) :: r => .cons x t (qln r)
theorem qql {k : List Nat} : ∀ {ns : List (List Nat)} {j : Nat}, j < ns.idxOf k -> ∀ (h2 : j < ns.length), (ns[j] == k) = false
 | n :: r, 0, h, _ => by
  by_cases e : n = k
  ·subst e; simp at h
  ·simpa using e
 | n :: r, j + 1, h, h2 => by
  by_cases e : n = k
  ·subst e; simp at h
  ·have hb : (n == k) = false := by simpa using e
   have h' : j < r.idxOf k := by
    rw [List.idxOf_cons, hb] at h
    exact Nat.lt_of_succ_lt_succ h
   exact qql h' (Nat.lt_of_succ_lt_succ h2)
noncomputable def qp7 (o : V) : Bool := match o with
 | .str _ | .lst _ | .ref _ | .nod => true
 | _ => false
theorem qrc {n : Nat} (hA : Room A n) {gd : Str -> Option (List (V × V))} {o : V} {ov : Value} {x : Str} {id : String} (hp : qp7 o = true) (hid : q0l o x = some id) {vs : List V} {xs : List Value} (i : Inv B s.heap as F st) (ro : Rep B s.heap as F o ov) (rs : Reps B s.heap as F vs xs) :
  SimV B prog w A F (call (.builtin id) (ov :: xs) []) (qb9 gd o x vs) s as st := by
 intro v st' hv Q E hQ
 have str : ∀ (y : Str) (l : List Nat) (tk : Nat), y.cps.toList = l -> (∀ c ∈ l, c < 0x110000) -> ∀ t, Rep B s.heap as F (.str l) (.str y t) := fun y l tk e hl t => by
  subst e
  have : Rep B s.heap as F (.str y.cps.toList) (.str (S y.cps.toList) t) := .str _ _ hl
  rwa [q3v] at this
 unfold qb9 at hv
 split at hv
 ·rename_i hx
  subst hx
  split at hv
  ·rename_i j u
   obtain ⟨y, rfl, r⟩ := q2j rs
   cases ro
   rename_i a e
   have hid' : id = "list.append" := by simp (decide := true) [q0l] at hid; exact hid.symm
   subst hid'
   obtain ⟨p, st1, h1, hv1⟩ := q00 hv
   obtain ⟨h1', rfl⟩ := q0s h1
   cases p with
   | dict => exact (q02 hv1).elim
   | list ws =>
    obtain ⟨hc, rfl, hj, rfl⟩ := qki hv1
    have q := i.at_ j a _ e h1'
    cases q with
    | list hp rs' hcap =>
     rename_i zs
     refine list_append_plainL hp (fun h' hp' hs' => ?_) ?_
     ·have hk : ∀ a' o, a' ≠ a -> s.heap.get? a' = some o -> h'.get? a' = some o := fun a' o q e => (hs'.2 a' q).trans e
      refine hQ _ h' as s.toks .none (i.atS e hk (.list (xs := zs ++ [y]) (by simpa using hp') ((rs'.atS e hk).app (.cons (r.atS e hk) .nil)) hc)) (Ext.atS e hk ?_) (Nat.le_refl _)
      obtain ⟨o, _, ho, _⟩ := hp'; exact ⟨o, ho⟩
     ·have := rs'.length
      simp; rw [<- this]; exact q18 hcap
  ·exact (q02 hv).elim
 split at hv
 ·rename_i hx
  subst hx
  split at hv
  ·cases rs
   cases ro
   rename_i a k ho hs ha hF
   have hid' : id = "dict.items" := by simp (decide := true) [q0l] at hid; exact hid.symm
   subst hid'
   obtain ⟨rfl, rfl⟩ := q03 hv
   have hm : s.heap.DictAt (strKind prog w) a [] k := ⟨_, #[], ho, ⟨rfl, rfl, rfl⟩, rfl, fun _ h => by simp at h, .nil, .nil⟩
   refine call_meetsIn PySem.F.slot_dict_items hm.dictOf.typeIs PySem.F.entry_dict_items (PySem.F.args_dict_items_1 _) (meets_dict_items (strKind prog w) a hs) ⟨⟨[], hm.dictOf⟩, ?_⟩
   have f := i.fresh (q0a s.heap)
   have kp := q07 s.heap { cls := .type "dict_items", data := .fields #[.ref a] }
   exact hQ _ _ as _ (.noi (Heap.get?_push_size _ rfl) f.1 f.2 (kp _ _ ho) hs ha hF) (i.push _) (Ext.push _ _) (Nat.le_refl _)
  ·exact (q02 hv).elim
 split at hv
 ·rename_i hx
  subst hx
  split at hv
  ·rename_i l l2
   obtain ⟨y, rfl, r⟩ := q2j rs
   obtain ⟨t, rfl, _⟩ := q1m ro
   obtain ⟨u, rfl, _⟩ := q1m r
   have hid' : id = "str.index" := by simp (decide := true) [q0l] at hid; exact hid.symm
   subst hid'
   obtain ⟨k, st1, h1, hv1⟩ := q00 hv
   obtain ⟨h1', rfl⟩ := q0k h1
   unfold qx8 at h1'
   cases ho : Builtin.Str.occurrences (S l) (S l2) 0 (S l).length 1 with
   | nil => rw [ho] at h1'; cases h1'
   | cons a r =>
    rw [ho] at h1'; cases h1'
    exact PySem.SC.index ho (q2o i hv1 hQ _ _ (.int _ _) (Nat.le_succ _))
  ·rename_i us l2
   obtain ⟨y, rfl, r⟩ := q2j rs
   obtain ⟨u, rfl, _⟩ := q1m r
   cases ro
   rename_i zs a hl _ _ rr
   replace hl := hl.isList
   have hid' : id = "list.index" := by simp (decide := true) [q0l] at hid; exact hid.symm
   subst hid'
   obtain ⟨ns, st1, h1, hv1⟩ := q00 hv
   obtain ⟨h1', rfl⟩ := q0k h1
   split at hv1
   ·rename_i hc
    obtain ⟨arr, rfl, e⟩ := q7x rr h1'
    obtain ⟨⟨cls, dd, data, sl⟩, ho, hcl, n', hd⟩ := id hl
    simp only at hcl hd
    subst hcl hd
    have hlen : ns.length = arr.length := by have := congrArg List.length e; simpa using this
    have hus : us.length = arr.length := by have := rr.length; simpa [strValues] using this
    have hj : ns.idxOf l2 < ns.length := List.idxOf_lt_length_iff.mpr hc.2
    have hcap : us.length <= 65536 := hc.1
    have at_ : ∀ j (h1 : j < (strValues arr).toArray.size) (h2 : j < ns.length), isStrOf (S l2) ((strValues arr).toArray[j]) = (ns[j] == l2) := fun j h1 h2 => by
     have h3 : j < arr.length := by omega
     have e2 : S ns[j] = arr[j].1 := by
      have h4 : (ns.map S)[j]? = (arr.map (·.1))[j]? := by rw [e]
      rw [List.getElem?_map, List.getElem?_map, List.getElem?_eq_getElem h2, List.getElem?_eq_getElem h3] at h4
      exact Option.some.inj h4
     have e3 : (strValues arr).toArray[j] = .str arr[j].1 arr[j].2 := by simp [strValues]
     rw [e3]
     show (arr[j].1 == S l2) = _
     rw [<- e2]
     by_cases q : ns[j] = l2
     ·rw [q]; simp
     ·have : S ns[j] ≠ S l2 := fun z => q (qu3 z)
      rw [beq_eq_false_iff_ne.mpr this, beq_eq_false_iff_ne.mpr q]
    refine call_meets PySem.F.slot_list_index ⟨_, ho, rfl⟩ PySem.F.entry_list_index (PySem.F.args_list_index_2 _ _)
     (PySem.SeqAt.list_indexAt a (strValues arr).toArray n' dd sl (.str (S l2) u) (isStrOf (S l2)) (ns.idxOf l2) (by simp [strValues]; omega) (by omega) ?_ ?_) ⟨ho, fun y hy => (eq_isStrOf (S l2) u (qln arr) y (by simpa using hy)).at _ _, q2o i hv1 hQ _ _ (.int _ _) (Nat.le_succ _)⟩
    ·rw [at_ _ _ hj]; simpa using List.getElem_idxOf hj
    ·intro m hm hlt
     rw [at_ m hm (by omega)]
     exact qql hlt _
   ·exact (q02 hv1).elim
  ·exact (q02 hv).elim
 split at hv
 ·rename_i hx
  subst hx
  split at hv
  ·cases rs
   obtain ⟨t, rfl, _⟩ := q1m ro
   have hid' : id = "str.lower" := by simp (decide := true) [q0l] at hid; exact hid.symm
   subst hid'
   obtain ⟨hv1, rfl⟩ := q0k hv
   obtain ⟨rfl, h1, h2⟩ := q3e hv1
   exact PySem.SC.lower (q6j h2) (hQ _ s.heap as _ (str _ _ 0 rfl h1 _) i (Ext.refl _ _ _) (Nat.le_succ _))
  ·exact (q02 hv).elim
 split at hv
 ·rename_i hx
  subst hx
  split at hv
  ·cases rs
   obtain ⟨t, rfl, _⟩ := q1m ro
   have hid' : id = "str.upper" := by simp (decide := true) [q0l] at hid; exact hid.symm
   subst hid'
   obtain ⟨hv1, rfl⟩ := q0k hv
   obtain ⟨rfl, h1, h2⟩ := q3e hv1
   exact PySem.SC.upper (q6j h2) (hQ _ s.heap as _ (str _ _ 0 rfl h1 _) i (Ext.refl _ _ _) (Nat.le_succ _))
  ·exact (q02 hv).elim
 split at hv
 ·rename_i hx
  subst hx
  split at hv
  ·rename_i l u
   obtain ⟨y, rfl, r⟩ := q2j rs
   obtain ⟨t, rfl, _⟩ := q1m ro
   have hid' : id = "str.join" := by simp (decide := true) [q0l] at hid; exact hid.symm
   subst hid'
   obtain ⟨ns, st1, h1, hv1⟩ := q00 hv
   obtain ⟨h1', rfl⟩ := q0s h1
   cases hl : q1v st1 u with
   | none => rw [hl] at h1'; cases h1'
   | some ws =>
    rw [hl] at h1'
    obtain ⟨a, zs, rfl, hla, rr⟩ := q3n i r hl
    obtain ⟨arr, rfl, e⟩ := q7x rr h1'
    obtain ⟨hv2, rfl⟩ := q0k hv1
    unfold qhh at hv2
    split at hv2
    ·rename_i hj
     obtain ⟨rfl, h2, _⟩ := q3e hv2
     refine wpAny_with_toks (n := s.toks) (Nat.le_refl _) (PySem.SC.join hla e.symm hj fun t' k htk => ?_)
     exact hQ _ s.heap as _ (str _ _ 0 rfl h2 _) i (Ext.refl _ _ _) htk
    ·cases hv2
  ·exact (q02 hv).elim
 split at hv
 ·split at hv <;> first | cases hp | exact (q02 hv).elim
 split at hv
 ·split at hv <;> first | cases hp | exact (q02 hv).elim
 exact (q02 hv).elim
end Ev
end
section
namespace Ev
variable {B : Base} {prog : Program} {w : World} {P : Prg}
structure BaseOk (B : Base) (prog : Program) (w : World) (P : Prg) : Prop where
 glob : ∀ x v, P.glob x = some v -> ∀ (A : Around) (s : Shared) (env : Env) (Q : Value -> Shared -> Prop) (E : Value -> Shared -> Prop), env.scope.kind = .function -> env.kindOf x = some .globalImplicit ->
  env.globals = B.gA -> env.builtins = B.bA -> B.objs.In s.heap -> (∀ y, (∀ h as F, Rep B h as F v y) -> Q y s) -> wpAny (model prog w) A (loadName env x) Q E s
 keys : q88 B prog w P.gd
 keep : ∀ a, (∃ x, B.addr x = some a) \/ (∃ x, B.meth x = some a) \/ a = B.cls -> keepIn B.objs (.ref a) = true
 nolimit : ∀ h, B.objs.In h -> h.NoLimit
 fns : ∀ x d a, P.prim x = .none -> P.fns.lookup x = some d -> B.addr x = some a -> ∃ o fd, FnOk B prog w a d o fd
 prims : ∀ x p a, P.prim x = some p -> B.addr x = some a -> ∀ (A : Around) (F : Addr -> Prop) (s : Shared) (as : List Addr) (st : St) vs xs, Room A 1 -> Inv B s.heap as F st -> Reps B s.heap as F vs xs -> Sim B prog w A F no (RV B F) (call (.ref a) xs []) (p vs) s as st
 mths : ∀ x d a, P.mths.lookup x = some d -> B.meth x = some a -> ∃ o fd, FnOk B prog w a d o fd
 getG : ∀ (A : Around) (F : Addr -> Prop) (s : Shared) (as : List Addr) (st : St) y ov x id, Inv B s.heap as F st -> Rep B s.heap as F (.g y) ov -> qhn st (.g y) x = some (.m (.g y) x) -> q0l (.g y) x = some id -> ∀ (pl : Sem Bool) (Q : Value × List Value -> Shared -> Prop) (E : Value -> Shared -> Prop),
  Q (.builtin id, [ov]) s -> wpAny (model prog w) A (getMethod ov x pl) Q E s
 callG : ∀ (A : Around) (F : Addr -> Prop) (s : Shared) (as : List Addr) (st : St) y ov x id vs xs, Room A 0 -> Inv B s.heap as F st -> Rep B s.heap as F (.g y) ov -> q0l (.g y) x = some id -> Reps B s.heap as F vs xs -> Sim B prog w A F no (RV B F) (call (.builtin id) (ov :: xs) []) (qb9 P.gd (.g y) x vs) s as st
 getH : ∀ (A : Around) (F : Addr -> Prop) (s : Shared) (as : List Addr) (st : St) i ov x, Inv B s.heap as F st -> Rep B s.heap as F (.hd i) ov -> q4f.contains x = true -> ∃ a, B.meth x = some a /\ ∀ (pl : Sem Bool) (Q : Value × List Value -> Shared -> Prop) (E : Value -> Shared -> Prop),
  Q (.ref a, [ov]) s -> wpAny (model prog w) A (getMethod ov x pl) Q E s
 attr : ∀ (A : Around) (F : Addr -> Prop) (s : Shared) (as : List Addr) (st : St) i ov, Inv B s.heap as F st -> Rep B s.heap as F (.hd i) ov -> ∀ (Q : Value -> Shared -> Prop) (E : Value -> Shared -> Prop),
  (∀ y tk, Rep B s.heap as F (.ref i) y -> s.toks <= tk -> Q y { s with toks := tk }) -> wpAny (model prog w) A (getAttr ov "_headers" true) Q E s
 new : ∀ (Γ : Ctx) (A : Around) (F : Addr -> Prop) (s : Shared) (as : List Addr) (st : St) vs xs, Room A 1 -> Inv B s.heap as F st -> Reps B s.heap as F vs xs -> Sim B prog w A F no (RV B F) (call (.ref B.cls) xs []) (ctor Γ "Headers" vs) s as st
theorem qk3 (P : Prg) : ∀ n, q3h (ctxN P n)
 | 0 => fun f vs ks st r h => by cases h
 | n + 1 => fun f vs ks st r h => by
  have h' : q43 P (ctxN P n) f vs ks st = some r := h
  cases f <;> first | rfl | (simp only [q43] at h'; cases h')
theorem q10 {h : Heap} {as : List Addr} {F : Addr -> Prop} {xs : List (Str × Value)} (r : BRep B h as F [] xs) : xs = [] := by
 have := r.1
 simpa using this
theorem q7l {A : Around} {n m : Nat} (h : Room A n) (hm : m <= n) : Room A m := ⟨h.hh, by have := h.depth; omega, by have := h.units; omega⟩
theorem qo6 {A : Around} {F : Addr -> Prop} {s : Shared} {as : List Addr} {st : St} {l : List Nat} {xs : List Value} (i : Inv B s.heap as F st) (rs : Reps B s.heap as F [.str l] xs) :
  Sim B prog w A F no (RV B F) (call (.type "type") xs []) (pure (.ty "str")) s as st := by
 intro v st' hv Q E hQ
 obtain ⟨x, rfl, r⟩ := q2j rs
 obtain ⟨t, rfl, _⟩ := q1m r
 exact call_type_of (typeIs_str _ _ _) (by decide) (q2o i hv hQ _ s.toks (.ty _ (by decide)) (Nat.le_refl _))
theorem qo9 {y x : Str} (h : qfh y x = true) : ∃ id, q0l (.g y) x = some id := by
 unfold qfh at h
 split at h
 ·have : x = "search" := by simpa using h
  subst this
  exact ⟨"re.Pattern.search", by simp (decide := true) [q0l]⟩
 ·split at h
  ·have : x = "get" := by simpa using h
   subst this
   exact ⟨"dict.get", by simp (decide := true) [q0l]⟩
  ·cases h
theorem r00 (K : BaseOk B prog w P) : ∀ n, CtxOk B prog w (ctxN P n) n := by
 have glob : ∀ n, GlobOk B prog w (ctxN P n) := fun n => ⟨fun x v h => K.glob x v (by cases n <;> exact h)⟩
 have keys : ∀ n, q88 B prog w (ctxN P n).gd := fun n => by cases n <;> exact K.keys
 have gm : ∀ n, (ctxN P n).meth = qhn := fun n => by cases n <;> rfl
 have ga : ∀ n, (ctxN P n).attr = qmz := fun n => by cases n <;> rfl
 have meth : ∀ n (A : Around) (F : Addr -> Prop) (s : Shared) (as : List Addr) (st : St) o ov x f, Inv B s.heap as F st -> Rep B s.heap as F o ov -> (ctxN P n).meth st o x = some f -> ∀ (pl : Sem Bool) (Q : Value × List Value -> Shared -> Prop) (E : Value -> Shared -> Prop),
  (∀ fv first, Callee B s.heap as F f fv first -> Q (fv, first) s) -> wpAny (model prog w) A (getMethod ov x pl) Q E s := by
  intro n A F s as st o ov x f i ro hf pl Q E hQ
  rw [gm] at hf
  have hf0 := hf
  unfold qhn at hf
  split at hf
  ·split at hf
   ·rename_i hx
    cases hf
    obtain ⟨t, rfl, _⟩ := q1m ro
    simp only [Bool.or_eq_true, decide_eq_true_eq] at hx
    rcases hx with ((rfl | rfl) | rfl) | rfl
    ·exact PySem.GM.lower (hQ _ _ (.mb ro (by simp (decide := true) [q0l])))
    ·exact PySem.GM.upper (hQ _ _ (.mb ro (by simp (decide := true) [q0l])))
    ·exact PySem.GM.join (hQ _ _ (.mb ro (by simp (decide := true) [q0l])))
    ·exact PySem.GM.index (hQ _ _ (.mb ro (by simp (decide := true) [q0l])))
   ·cases hf
  ·split at hf
   ·rename_i hx
    cases hf
    subst hx
    have ro' := ro
    cases ro
    rename_i xs a hl _ _ _
    obtain ⟨o, k, ho, hc, hd, _⟩ := id hl
    exact getMethod_builtin hl.isList.typeIs PySem.F.plainAttrs_list PySem.F.slot_list_index PySem.F.type_list_index (fun b e => by cases e; exact ⟨o, ho, hd⟩) (hQ _ _ (.mb ro' (by simp (decide := true) [q0l])))
   ·cases hf
  ·split at hf
   ·rename_i hx
    cases hf
    subst hx
    have ro' := ro
    cases ro
    rename_i a k ho _ _ _
    exact getMethod_builtin (T := "dict") ⟨_, ho, rfl⟩ PySem.F.plainAttrs_dict PySem.F.slot_dict_items PySem.F.type_dict_items (fun b e => by cases e; exact ⟨_, ho, rfl⟩) (hQ _ _ (.mb ro' (by simp (decide := true) [q0l])))
   ·cases hf
  ·split at hf
   ·rename_i hst
    split at hf
    ·rename_i hx
     cases hf
     subst hx
     have ro' := ro
     cases ro
     rename_i a e
     have q := i.at_ _ a _ e hst
     cases q with
     | list hp _ _ =>
      obtain ⟨o, k, ho, hc, hd, _⟩ := id hp
      exact getMethod_list_append ho hc hd (hQ _ _ (.mb ro' (by simp (decide := true) [q0l])))
    ·cases hf
   ·cases hf
  ·rename_i y
   split at hf
   case isFalse => cases hf
   rename_i hx
   cases hf
   obtain ⟨id, hid⟩ := qo9 hx
   exact K.getG A F s as st y ov x id i ro hf0 hid pl Q E (hQ _ _ (.mb ro hid))
  ·rename_i j
   split at hf
   ·rename_i hx
    cases hf
    obtain ⟨a, ha, hg⟩ := K.getH A F s as st j ov x i ro hx
    exact hg pl Q E (hQ _ _ (.mf ro ha))
   ·cases hf
  ·cases hf
 have attr : ∀ n (A : Around) (F : Addr -> Prop) (s : Shared) (as : List Addr) (st : St) o ov x v, Inv B s.heap as F st -> Rep B s.heap as F o ov -> (ctxN P n).attr o x = some v -> ∀ (Q : Value -> Shared -> Prop) (E : Value -> Shared -> Prop),
  (∀ y tk, Rep B s.heap as F v y -> s.toks <= tk -> Q y { s with toks := tk }) -> wpAny (model prog w) A (getAttr ov x true) Q E s := by
  intro n A F s as st o ov x v i ro hv Q E hQ
  rw [ga] at hv
  unfold qmz at hv
  split at hv
  ·split at hv
   ·rename_i hx
    cases hv
    subst hx
    exact K.attr A F s as st _ ov i ro Q E hQ
   ·cases hv
  ·cases hv
 intro n
 induction n with
 | zero => exact ⟨glob 0, keys 0, K.keep, fun A F s as st f fv first vs xs ks kxs hA i c rs rk v st' hv => (by cases hv), meth 0, attr 0⟩
 | succ n ih =>
  refine ⟨glob _, keys _, K.keep, fun A F s as st f fv first vs xs ks kxs hA i c rs rk => ?_, meth _, attr _⟩
  have body : ∀ (d : FnD) A' F' env' ρ', Room A' n -> OkX B prog w A' F' env' ρ' (execs d.body env') (q09 (ctxN P n) d.body ρ') := fun d A' F' env' ρ' hA' => qru ih (qk3 P n) d.body A' F' env' ρ' hA'
  intro v st' hv Q E hQ
  have hv' : q43 P (ctxN P n) f vs ks st = some (v, st') := hv
  cases c with
  | bi id =>
   simp only [q43] at hv'
   split at hv'
   ·cases q10 rk
    exact qie hA i rs v st' hv' Q E hQ
   ·exact (q02 hv').elim
  | ty nm hn =>
   simp only [q43] at hv'
   split at hv'
   ·cases q10 rk
    exact qo6 i rs v st' hv' Q E hQ
   ·cases q10 rk
    exact qks (Γ := ctxN P n) hA hn i rs v st' hv' Q E hQ
   ·exact (q02 hv').elim
  | cls =>
   cases ks with
   | nil =>
    cases q10 rk
    have e : q43 P (ctxN P n) (.ty "Headers") vs [] = ctor (ctxN P n) "Headers" vs := by
     simp only [q43]
     rfl
    rw [e] at hv'
    exact K.new (ctxN P n) A F s as st vs xs (q7l hA (by omega)) i rs v st' hv' Q E hQ
   | cons k r =>
    have e : q43 P (ctxN P n) (.ty "Headers") vs (k :: r) = bad := by
     simp only [q43]
     rfl
    rw [e] at hv'
    exact (q02 hv').elim
  | fn ha =>
   rename_i x a
   simp only [q43] at hv'
   cases hp : P.prim x with
   | some p =>
    rw [hp] at hv'
    cases ks with
    | nil =>
     cases q10 rk
     exact K.prims x p a hp ha A F s as st vs xs (q7l hA (by omega)) i rs v st' hv' Q E hQ
    | cons _ _ => exact (q02 hv').elim
   | none =>
    rw [hp] at hv'
    obtain ⟨d, st1, h1, hv1⟩ := q00 hv'
    obtain ⟨h1', rfl⟩ := q0k h1
    obtain ⟨o, fd, ok⟩ := K.fns x d a hp h1' ha
    exact qyz ok K.nolimit hA (body d) i rs rk v st' hv1 Q E hQ
  | mb ro hid =>
   rename_i o ov x id
   have hp : qp7 o = true \/ ∃ y, o = .g y := by
    cases o <;> first | exact .inl rfl | exact .inr ⟨_, rfl⟩ | (simp [q0l] at hid)
   have hm : ks = [] /\ qb9 P.gd o x vs st = some (v, st') := by
    cases o <;> simp only [q43] at hv' <;> first | (simp [q0l] at hid; done) | skip
    all_goals
     cases ks with
     | nil => exact ⟨rfl, hv'⟩
     | cons _ _ => exact (q02 hv').elim
   obtain ⟨rfl, hm⟩ := hm
   cases q10 rk
   rcases hp with hp | ⟨y, rfl⟩
   ·exact qrc hA hp hid i ro rs v st' hm Q E hQ
   ·exact K.callG A F s as st y ov x id vs xs (q7l hA (by omega)) i ro hid rs v st' hm Q E hQ
  | mf ro ha =>
   rename_i j ov x a
   simp only [q43] at hv'
   obtain ⟨d, st1, h1, hv1⟩ := q00 hv'
   obtain ⟨h1', rfl⟩ := q0k h1
   obtain ⟨o, fd, ok⟩ := K.mths x d a h1' ha
   exact qyz ok K.nolimit hA (body d) i (.cons ro rs) rk v st' hv1 Q E hQ
end Ev
end
section
namespace Mine
open Ev
noncomputable def adT : List (Str × Addr) := [("in_table_b1", 49), ("map_table_b3", 95), ("ISTERMINAL", 105), ("ISNONTERMINAL", 112), ("ISEOF", 119), ("_law_form", 274), ("_law_nothing", 281), ("_law_beside", 288), ("_law_net", 295), ("_law_seen", 300),
 ("_law_text", 305), ("_law_rows", 310), ("_law_closed", 315), ("_law_code", 320), ("_law_firsts", 325), ("_law_short", 332), ("law", 337)]
noncomputable def gaT : List (Str × Addr) := [("b1_set", 39), ("b3_exceptions", 50), ("EXACT_TOKEN_TYPES", 96), ("_name_disallowed_re", 129), ("_value_disallowed_re", 134)]
noncomputable def mtA : List (Str × Addr) := [("__len__", 171), ("__setitem__", 178), ("__delitem__", 183), ("_convert_string_type", 164), ("get_all", 202), ("get", 210), ("keys", 215), ("items", 227), ("setdefault", 253), ("add_header", 260)]
noncomputable def Bw (w : World) : Base := { gA := 3, bA := 0, addr := fun x => adT.lookup x, meth := fun x => mtA.lookup x, gadr := fun x => gaT.lookup x, cls := 263, objs := KF w.params }
noncomputable def fnT : List (Str × Stmt) := [("in_table_b1", stm 2), ("map_table_b3", stm 4), ("ISTERMINAL", stm 57), ("ISNONTERMINAL", stm 58), ("ISEOF", stm 59), ("_law_form", stm 67), ("_law_nothing", stm 68), ("_law_beside", stm 69), ("_law_net", stm 70), ("_law_seen", stm 71),
 ("_law_text", stm 72), ("_law_rows", stm 73), ("_law_closed", stm 74), ("_law_code", stm 75), ("_law_firsts", stm 76), ("law", stm 78)]
noncomputable def mtT : List (Str × Stmt) := [("_convert_string_type", meth 65 1), ("get_all", meth 65 7), ("get", meth 65 8), ("items", meth 65 11), ("setdefault", meth 65 15), ("add_header", meth 65 16)]
noncomputable def fnDs (s : Stmt) : FnD := ⟨(fA s).args.map (·.arg), (fA s).defaults.map qbb, (fA s).kwonlyargs.map (·.arg), (fA s).kwarg.map (·.arg), fB s, fS s⟩
noncomputable def biT : List (Str × V × Value) := [("chr", .bi "chr", .builtin "chr"), ("ord", .bi "ord", .builtin "ord"), ("len", .bi "len", .builtin "len"), ("min", .bi "min", .builtin "min"), ("max", .bi "max", .builtin "max"), ("sum", .bi "sum", .builtin "sum"),
 ("str", .ty "str", .type "str"), ("list", .ty "list", .type "list"), ("range", .ty "range", .type "range"), ("enumerate", .ty "enumerate", .type "enumerate"), ("type", .ty "type", .type "type")]
noncomputable def glT : List (Str × V × Value) := [("in_table_b1", .fn "in_table_b1", .ref 49), ("map_table_b3", .fn "map_table_b3", .ref 95), ("ISTERMINAL", .fn "ISTERMINAL", .ref 105), ("ISNONTERMINAL", .fn "ISNONTERMINAL", .ref 112), ("ISEOF", .fn "ISEOF", .ref 119),
 ("_law_form", .fn "_law_form", .ref 274), ("_law_nothing", .fn "_law_nothing", .ref 281), ("_law_beside", .fn "_law_beside", .ref 288), ("_law_net", .fn "_law_net", .ref 295), ("_law_seen", .fn "_law_seen", .ref 300), ("_law_text", .fn "_law_text", .ref 305),
 ("_law_rows", .fn "_law_rows", .ref 310), ("_law_closed", .fn "_law_closed", .ref 315), ("_law_code", .fn "_law_code", .ref 320), ("_law_firsts", .fn "_law_firsts", .ref 325), ("_law_short", .fn "_law_short", .ref 332), ("law", .fn "law", .ref 337),
 ("b1_set", .g "b1_set", .ref 39), ("b3_exceptions", .g "b3_exceptions", .ref 50), ("EXACT_TOKEN_TYPES", .g "EXACT_TOKEN_TYPES", .ref 96), ("_name_disallowed_re", .g "_name_disallowed_re", .ref 129), ("_value_disallowed_re", .g "_value_disallowed_re", .ref 134),
 ("Headers", .ty "Headers", .ref 263), ("ENDMARKER", .int 0, .int 0 2312), ("NT_OFFSET", .int 256, .int 256 2410)]
noncomputable def qnt (x : Str) : Option V := match glT.lookup x with
 | some p => some p.1
 | none => (biT.lookup x).map (·.1)
theorem obj3 (w : World) : (KF w.params).lookup 3 = some (o3v5 w.params) := by kernel_rfl
theorem obj0 (w : World) : (KF w.params).lookup 0 = some (boot_o_0 w.params) := by kernel_rfl
noncomputable def esOf (o : Obj) : Array DictEntry := match o.data with | .dict es _ => es | _ => #[]
noncomputable def okNs (o : Obj) : Bool := match o.data with | .dict es _ => es.all (fun e => match e.key with | .str _ _ => true | _ => false) | _ => false
theorem qb3 {w : World} {h : Heap} {a : Addr} {o : Obj} (X : (KF w.params).In h) (e : (KF w.params).lookup a = some o) (ok : okNs o = true) : h.Ns a (fun x => nsFind (esOf o) x) := by
 have ho := X a o e
 unfold okNs at ok
 unfold esOf
 cases hd : o.data with
 | dict es ep =>
  rw [hd] at ok
  refine ⟨o, es, ep, ho, hd, fun e he => ?_, fun name => rfl⟩
  have hx := Array.all_eq_true_iff_forall_mem.mp ok e he
  cases hk : e.key <;> rw [hk] at hx <;> first | exact ⟨_, _, rfl⟩ | cases hx
 | _ => rw [hd] at ok; cases ok
theorem ns3 (w : World) : okNs (o3v5 w.params) = true := by kernel_rfl
theorem ns0 (w : World) : okNs (boot_o_0 w.params) = true := by kernel_rfl
theorem q4d : adT.lookup ("in_table_b1" : Str) = some 49 := by decide +kernel
theorem qai (w : World) : nsFind (esOf (o3v5 w.params)) "in_table_b1" = some (.ref 49) := by kernel_rfl
theorem q3g : adT.lookup ("map_table_b3" : Str) = some 95 := by decide +kernel
theorem q8o (w : World) : nsFind (esOf (o3v5 w.params)) "map_table_b3" = some (.ref 95) := by kernel_rfl
theorem q4z : adT.lookup ("ISTERMINAL" : Str) = some 105 := by decide +kernel
theorem qd2 (w : World) : nsFind (esOf (o3v5 w.params)) "ISTERMINAL" = some (.ref 105) := by kernel_rfl
theorem q2y : adT.lookup ("ISNONTERMINAL" : Str) = some 112 := by decide +kernel
theorem q78 (w : World) : nsFind (esOf (o3v5 w.params)) "ISNONTERMINAL" = some (.ref 112) := by kernel_rfl
theorem qg7 : adT.lookup ("ISEOF" : Str) = some 119 := by decide +kernel
theorem qs7 (w : World) : nsFind (esOf (o3v5 w.params)) "ISEOF" = some (.ref 119) := by kernel_rfl
theorem q66 : adT.lookup ("_law_form" : Str) = some 274 := by decide +kernel
theorem qf8 (w : World) : nsFind (esOf (o3v5 w.params)) "_law_form" = some (.ref 274) := by kernel_rfl
theorem q37 : adT.lookup ("_law_nothing" : Str) = some 281 := by decide +kernel
theorem q8t (w : World) : nsFind (esOf (o3v5 w.params)) "_law_nothing" = some (.ref 281) := by kernel_rfl
theorem q49 : adT.lookup ("_law_beside" : Str) = some 288 := by decide +kernel
theorem qan (w : World) : nsFind (esOf (o3v5 w.params)) "_law_beside" = some (.ref 288) := by kernel_rfl
theorem q7q : adT.lookup ("_law_net" : Str) = some 295 := by decide +kernel
theorem qhz (w : World) : nsFind (esOf (o3v5 w.params)) "_law_net" = some (.ref 295) := by kernel_rfl
theorem q5x : adT.lookup ("_law_seen" : Str) = some 300 := by decide +kernel
theorem qff (w : World) : nsFind (esOf (o3v5 w.params)) "_law_seen" = some (.ref 300) := by kernel_rfl
theorem q5q : adT.lookup ("_law_text" : Str) = some 305 := by decide +kernel
theorem qeu (w : World) : nsFind (esOf (o3v5 w.params)) "_law_text" = some (.ref 305) := by kernel_rfl
theorem q61 : adT.lookup ("_law_rows" : Str) = some 310 := by decide +kernel
theorem qeq (w : World) : nsFind (esOf (o3v5 w.params)) "_law_rows" = some (.ref 310) := by kernel_rfl
theorem q48 : adT.lookup ("_law_closed" : Str) = some 315 := by decide +kernel
theorem qab (w : World) : nsFind (esOf (o3v5 w.params)) "_law_closed" = some (.ref 315) := by kernel_rfl
theorem q67 : adT.lookup ("_law_code" : Str) = some 320 := by decide +kernel
theorem qee (w : World) : nsFind (esOf (o3v5 w.params)) "_law_code" = some (.ref 320) := by kernel_rfl
theorem q4a : adT.lookup ("_law_firsts" : Str) = some 325 := by decide +kernel
theorem qay (w : World) : nsFind (esOf (o3v5 w.params)) "_law_firsts" = some (.ref 325) := by kernel_rfl
theorem q5a : adT.lookup ("_law_short" : Str) = some 332 := by decide +kernel
theorem qcn (w : World) : nsFind (esOf (o3v5 w.params)) "_law_short" = some (.ref 332) := by kernel_rfl
theorem qjw : adT.lookup ("law" : Str) = some 337 := by decide +kernel
theorem r21 (w : World) : nsFind (esOf (o3v5 w.params)) "law" = some (.ref 337) := by kernel_rfl
theorem qcu : gaT.lookup ("b1_set" : Str) = some 39 := by decide +kernel
theorem qnm (w : World) : nsFind (esOf (o3v5 w.params)) "b1_set" = some (.ref 39) := by kernel_rfl
theorem q1l : gaT.lookup ("b3_exceptions" : Str) = some 50 := by decide +kernel
theorem q8h (w : World) : nsFind (esOf (o3v5 w.params)) "b3_exceptions" = some (.ref 50) := by kernel_rfl
theorem q0p : gaT.lookup ("EXACT_TOKEN_TYPES" : Str) = some 96 := by decide +kernel
theorem q4l (w : World) : nsFind (esOf (o3v5 w.params)) "EXACT_TOKEN_TYPES" = some (.ref 96) := by kernel_rfl
theorem q0x : gaT.lookup ("_name_disallowed_re" : Str) = some 129 := by decide +kernel
theorem q3d (w : World) : nsFind (esOf (o3v5 w.params)) "_name_disallowed_re" = some (.ref 129) := by kernel_rfl
theorem q0u : gaT.lookup ("_value_disallowed_re" : Str) = some 134 := by decide +kernel
theorem q30 (w : World) : nsFind (esOf (o3v5 w.params)) "_value_disallowed_re" = some (.ref 134) := by kernel_rfl
theorem qlx (w : World) : nsFind (esOf (o3v5 w.params)) "Headers" = some (.ref 263) := by kernel_rfl
theorem qf9 (w : World) : nsFind (esOf (o3v5 w.params)) "ENDMARKER" = some (.int 0 2312) := by kernel_rfl
theorem qeh (w : World) : nsFind (esOf (o3v5 w.params)) "NT_OFFSET" = some (.int 256 2410) := by kernel_rfl
theorem r60 (w : World) : nsFind (esOf (o3v5 w.params)) "chr" = none := by kernel_rfl
theorem r3z (w : World) : nsFind (esOf (boot_o_0 w.params)) "chr" = some (.builtin "chr") := by kernel_rfl
theorem r64 (w : World) : nsFind (esOf (o3v5 w.params)) "ord" = none := by kernel_rfl
theorem r67 (w : World) : nsFind (esOf (boot_o_0 w.params)) "ord" = some (.builtin "ord") := by kernel_rfl
theorem r31 (w : World) : nsFind (esOf (o3v5 w.params)) "len" = none := by kernel_rfl
theorem r59 (w : World) : nsFind (esOf (boot_o_0 w.params)) "len" = some (.builtin "len") := by kernel_rfl
theorem r4h (w : World) : nsFind (esOf (o3v5 w.params)) "min" = none := by kernel_rfl
theorem r6b (w : World) : nsFind (esOf (boot_o_0 w.params)) "min" = some (.builtin "min") := by kernel_rfl
theorem r5l (w : World) : nsFind (esOf (o3v5 w.params)) "max" = none := by kernel_rfl
theorem r45 (w : World) : nsFind (esOf (boot_o_0 w.params)) "max" = some (.builtin "max") := by kernel_rfl
theorem r3o (w : World) : nsFind (esOf (o3v5 w.params)) "sum" = none := by kernel_rfl
theorem r4p (w : World) : nsFind (esOf (boot_o_0 w.params)) "sum" = some (.builtin "sum") := by kernel_rfl
theorem r3y (w : World) : nsFind (esOf (o3v5 w.params)) "str" = none := by kernel_rfl
theorem r2w (w : World) : nsFind (esOf (boot_o_0 w.params)) "str" = some (.type "str") := by kernel_rfl
theorem qzx (w : World) : nsFind (esOf (o3v5 w.params)) "list" = none := by kernel_rfl
theorem r1o (w : World) : nsFind (esOf (boot_o_0 w.params)) "list" = some (.type "list") := by kernel_rfl
theorem qsd (w : World) : nsFind (esOf (o3v5 w.params)) "range" = none := by kernel_rfl
theorem qrr (w : World) : nsFind (esOf (boot_o_0 w.params)) "range" = some (.type "range") := by kernel_rfl
theorem qeg (w : World) : nsFind (esOf (o3v5 w.params)) "enumerate" = none := by kernel_rfl
theorem qed (w : World) : nsFind (esOf (boot_o_0 w.params)) "enumerate" = some (.type "enumerate") := by kernel_rfl
theorem r1z (w : World) : nsFind (esOf (o3v5 w.params)) "type" = none := by kernel_rfl
theorem qzo (w : World) : nsFind (esOf (boot_o_0 w.params)) "type" = some (.type "type") := by kernel_rfl
noncomputable def GlAt (w : World) (x : Str) (v : V) (y : Value) : Prop := nsFind (esOf (o3v5 w.params)) x = some y /\ ∀ h as F, Rep (Bw w) h as F v y
noncomputable def BiAt (w : World) (x : Str) (v : V) (y : Value) : Prop := nsFind (esOf (o3v5 w.params)) x = none /\ nsFind (esOf (boot_o_0 w.params)) x = some y /\ ∀ h as F, Rep (Bw w) h as F v y
theorem qcx {α : Type} {P : Str -> α -> Prop} : ∀ {l : List (Str × α)}, l.foldr (fun p r => P p.1 p.2 /\ r) True -> ∀ x p, l.lookup x = some p -> P x p
 | [], _, x, p, h => by simp at h
 | (n, q) :: r, hl, x, p, h => by
  by_cases e : x = n
  ·subst e
   rw [q04] at h
   cases h; exact hl.1
  ·rw [q05 e] at h
   exact qcx hl.2 x p h
theorem q8n (w : World) : GlAt w "in_table_b1" (.fn "in_table_b1") (.ref 49) := ⟨qai w, fun _ _ _ => Rep.fn (B := Bw w) q4d⟩
theorem q7s (w : World) : GlAt w "map_table_b3" (.fn "map_table_b3") (.ref 95) := ⟨q8o w, fun _ _ _ => Rep.fn (B := Bw w) q3g⟩
theorem qav (w : World) : GlAt w "ISTERMINAL" (.fn "ISTERMINAL") (.ref 105) := ⟨qd2 w, fun _ _ _ => Rep.fn (B := Bw w) q4z⟩
theorem q6f (w : World) : GlAt w "ISNONTERMINAL" (.fn "ISNONTERMINAL") (.ref 112) := ⟨q78 w, fun _ _ _ => Rep.fn (B := Bw w) q2y⟩
theorem qn7 (w : World) : GlAt w "ISEOF" (.fn "ISEOF") (.ref 119) := ⟨qs7 w, fun _ _ _ => Rep.fn (B := Bw w) qg7⟩
theorem qd1 (w : World) : GlAt w "_law_form" (.fn "_law_form") (.ref 274) := ⟨qf8 w, fun _ _ _ => Rep.fn (B := Bw w) q66⟩
theorem q70 (w : World) : GlAt w "_law_nothing" (.fn "_law_nothing") (.ref 281) := ⟨q8t w, fun _ _ _ => Rep.fn (B := Bw w) q37⟩
theorem q96 (w : World) : GlAt w "_law_beside" (.fn "_law_beside") (.ref 288) := ⟨qan w, fun _ _ _ => Rep.fn (B := Bw w) q49⟩
theorem qe1 (w : World) : GlAt w "_law_net" (.fn "_law_net") (.ref 295) := ⟨qhz w, fun _ _ _ => Rep.fn (B := Bw w) q7q⟩
theorem qbo (w : World) : GlAt w "_law_seen" (.fn "_law_seen") (.ref 300) := ⟨qff w, fun _ _ _ => Rep.fn (B := Bw w) q5x⟩
theorem qcc (w : World) : GlAt w "_law_text" (.fn "_law_text") (.ref 305) := ⟨qeu w, fun _ _ _ => Rep.fn (B := Bw w) q5q⟩
theorem qca (w : World) : GlAt w "_law_rows" (.fn "_law_rows") (.ref 310) := ⟨qeq w, fun _ _ _ => Rep.fn (B := Bw w) q61⟩
theorem q91 (w : World) : GlAt w "_law_closed" (.fn "_law_closed") (.ref 315) := ⟨qab w, fun _ _ _ => Rep.fn (B := Bw w) q48⟩
theorem qc7 (w : World) : GlAt w "_law_code" (.fn "_law_code") (.ref 320) := ⟨qee w, fun _ _ _ => Rep.fn (B := Bw w) q67⟩
theorem q8l (w : World) : GlAt w "_law_firsts" (.fn "_law_firsts") (.ref 325) := ⟨qay w, fun _ _ _ => Rep.fn (B := Bw w) q4a⟩
theorem qak (w : World) : GlAt w "_law_short" (.fn "_law_short") (.ref 332) := ⟨qcn w, fun _ _ _ => Rep.fn (B := Bw w) q5a⟩
theorem qzg (w : World) : GlAt w "law" (.fn "law") (.ref 337) := ⟨r21 w, fun _ _ _ => Rep.fn (B := Bw w) qjw⟩
theorem qit (w : World) : GlAt w "b1_set" (.g "b1_set") (.ref 39) := ⟨qnm w, fun _ _ _ => Rep.g (B := Bw w) qcu⟩
theorem q6h (w : World) : GlAt w "b3_exceptions" (.g "b3_exceptions") (.ref 50) := ⟨q8h w, fun _ _ _ => Rep.g (B := Bw w) q1l⟩
theorem q42 (w : World) : GlAt w "EXACT_TOKEN_TYPES" (.g "EXACT_TOKEN_TYPES") (.ref 96) := ⟨q4l w, fun _ _ _ => Rep.g (B := Bw w) q0p⟩
theorem q2z (w : World) : GlAt w "_name_disallowed_re" (.g "_name_disallowed_re") (.ref 129) := ⟨q3d w, fun _ _ _ => Rep.g (B := Bw w) q0x⟩
theorem q2t (w : World) : GlAt w "_value_disallowed_re" (.g "_value_disallowed_re") (.ref 134) := ⟨q30 w, fun _ _ _ => Rep.g (B := Bw w) q0u⟩
theorem qh6 (w : World) : GlAt w "Headers" (.ty "Headers") (.ref 263) := ⟨qlx w, fun _ _ _ => Rep.cls (B := Bw w)⟩
theorem qbm (w : World) : GlAt w "ENDMARKER" (.int 0) (.int 0 2312) := ⟨qf9 w, fun _ _ _ => .int _ _⟩
theorem qbs (w : World) : GlAt w "NT_OFFSET" (.int 256) (.int 256 2410) := ⟨qeh w, fun _ _ _ => .int _ _⟩
theorem qvt (w : World) : BiAt w "chr" (.bi "chr") (.builtin "chr") := ⟨r60 w, r3z w, fun _ _ _ => .bi _⟩
theorem qzt (w : World) : BiAt w "ord" (.bi "ord") (.builtin "ord") := ⟨r64 w, r67 w, fun _ _ _ => .bi _⟩
theorem qzy (w : World) : BiAt w "len" (.bi "len") (.builtin "len") := ⟨r31 w, r59 w, fun _ _ _ => .bi _⟩
theorem qxo (w : World) : BiAt w "min" (.bi "min") (.builtin "min") := ⟨r4h w, r6b w, fun _ _ _ => .bi _⟩
theorem qvr (w : World) : BiAt w "max" (.bi "max") (.builtin "max") := ⟨r5l w, r45 w, fun _ _ _ => .bi _⟩
theorem qvn (w : World) : BiAt w "sum" (.bi "sum") (.builtin "sum") := ⟨r3o w, r4p w, fun _ _ _ => .bi _⟩
theorem r0c (w : World) : BiAt w "str" (.ty "str") (.type "str") := ⟨r3y w, r2w w, fun _ _ _ => .ty _ (by decide)⟩
theorem qs5 (w : World) : BiAt w "list" (.ty "list") (.type "list") := ⟨qzx w, r1o w, fun _ _ _ => .ty _ (by decide)⟩
theorem qoz (w : World) : BiAt w "range" (.ty "range") (.type "range") := ⟨qsd w, qrr w, fun _ _ _ => .ty _ (by decide)⟩
theorem qch (w : World) : BiAt w "enumerate" (.ty "enumerate") (.type "enumerate") := ⟨qeg w, qed w, fun _ _ _ => .ty _ (by decide)⟩
theorem qrl (w : World) : BiAt w "type" (.ty "type") (.type "type") := ⟨r1z w, qzo w, fun _ _ _ => .ty _ (by decide)⟩
theorem r5d (w : World) : ∀ x p, glT.lookup x = some p -> GlAt w x p.1 p.2 := qcx (P := fun x (p : V × Value) => GlAt w x p.1 p.2) ⟨q8n w, q7s w, qav w, q6f w, qn7 w, qd1 w, q70 w, q96 w, qe1 w, qbo w, qcc w, qca w, q91 w, qc7 w, q8l w, qak w, qzg w, qit w, q6h w, q42 w, q2z w, q2t w, qh6 w, qbm w, qbs w, trivial⟩
theorem r3s (w : World) : ∀ x p, biT.lookup x = some p -> BiAt w x p.1 p.2 := qcx (P := fun x (p : V × Value) => BiAt w x p.1 p.2) ⟨qvt w, qzt w, qzy w, qxo w, qvr w, qvn w, r0c w, qs5 w, qoz w, qch w, qrl w, trivial⟩
theorem qjq (w : World) {prog : Program} : ∀ x v, qnt x = some v -> ∀ (A : Around) (s : Shared) (env : Env) (Q : Value -> Shared -> Prop) (E : Value -> Shared -> Prop), env.scope.kind = .function -> env.kindOf x = some .globalImplicit ->
  env.globals = (Bw w).gA -> env.builtins = (Bw w).bA -> (Bw w).objs.In s.heap -> (∀ y, (∀ h as F, Rep (Bw w) h as F v y) -> Q y s) -> wpAny (model prog w) A (loadName env x) Q E s := by
 intro x v hv A s env Q E hk hx hg hb X hQ
 have n3 : s.heap.Ns env.globals (fun x => nsFind (esOf (o3v5 w.params)) x) := by rw [hg]; exact qb3 X (obj3 w) (ns3 w)
 have n0 : s.heap.Ns env.builtins (fun x => nsFind (esOf (boot_o_0 w.params)) x) := by rw [hb]; exact qb3 X (obj0 w) (ns0 w)
 unfold loadName
 simp only [Env.blockKind, hk, hx, ScopeKind.isAnnotationScope, Bool.false_and, Bool.false_eq_true, if_false]
 unfold qnt at hv
 cases h1 : glT.lookup x with
 | some p =>
  rw [h1] at hv
  cases hv
  obtain ⟨e, r⟩ := r5d w x p h1
  exact loadGlobal_global n3 e (hQ _ r)
 | none =>
  rw [h1] at hv
  cases h2 : biT.lookup x with
  | none => rw [h2] at hv; cases hv
  | some p =>
   rw [h2] at hv
   cases hv
   obtain ⟨e1, e2, r⟩ := r3s w x p h2
   exact loadGlobal_builtin n3 e1 n0 e2 (hQ _ r)
end Mine
end
section
namespace Mine
open Ev
abbrev BindOk (w : World) (prog : Program) (d : FnD) (fd : FuncData) : Prop := ∀ (A : Around) (F : Addr -> Prop) (s : Shared) (as : List Addr) (st : Ev.St) vs xs ks kxs b, Ev.Inv (Bw w) s.heap as F st -> Reps (Bw w) s.heap as F vs xs -> BRep (Bw w) s.heap as F ks kxs -> q4s d vs ks = some b ->
  ∀ (Q : List (Str × Value) -> Shared -> Prop) (E : Value -> Shared -> Prop), (∀ binds h', BRep (Bw w) h' as F (q22 d b) binds -> (∀ a o, s.heap.get? a = some o -> h'.get? a = some o) -> Q binds { s with heap := h' }) ->
  wpAny (model prog w) A (bindArgs fd ⟨xs, kxs⟩) Q E s
theorem qla {w : World} {h : Heap} {as : List Addr} {F : Addr -> Prop} : ∀ {ps : List Str} {vs : List V} {xs : List Value}, ps.length = vs.length -> Reps (Bw w) h as F vs xs -> BRep (Bw w) h as F (ps.zip vs) (ps.zip xs)
 | [], _, _, _, _ => ⟨by simp, by simp; exact .nil⟩
 | p :: ps, [], _, h, _ => by simp at h
 | p :: ps, v :: vs, _, h, .cons r rs => by
  obtain ⟨h1, h2⟩ := qla (ps := ps) (by simpa using h) rs
  exact ⟨by simp [h1], .cons r h2⟩
theorem q08 {w : World} {prog : Program} {d : FnD} {fd : FuncData} (hd : d.dflt = []) (hk : d.kwonly = []) (hw : d.kwarg = none) (hb : ∀ xs : List Value, xs.length = d.params.length -> bindArgs fd ⟨xs, []⟩ = pure (d.params.zip xs)) : BindOk w prog d fd := by
 intro A F s as st vs xs ks kxs b i rs rk hv Q E hQ
 unfold q4s at hv
 simp only [hd, hk, List.drop_nil, List.append_nil] at hv
 split at hv
 ·rename_i hc
  cases hv
  have hks : ks = [] := by simpa using hc.2.2.symm
  subst hks
  cases q10 rk
  have hlen : xs.length = d.params.length := by rw [<- rs.length]; exact hc.2.1
  rw [hb xs hlen]
  refine wpAny_pure (hQ _ s.heap ?_ fun _ _ e => e)
  unfold q22
  rw [hw]
  simp only [List.append_nil]
  exact qla hc.2.1.symm rs
 ·cases hv
theorem len1 {α : Type} {l : List α} (h : l.length = 1) : ∃ x, l = [x] := by
 match l, h with
 | [x], _ => exact ⟨x, rfl⟩
theorem len2 {α : Type} {l : List α} (h : l.length = 2) : ∃ x y, l = [x, y] := by
 match l, h with
 | [x, y], _ => exact ⟨x, y, rfl⟩
theorem len3 {α : Type} {l : List α} (h : l.length = 3) : ∃ x y z, l = [x, y, z] := by
 match l, h with
 | [x, y, z], _ => exact ⟨x, y, z, rfl⟩
noncomputable def fdOf (o : Obj) : FuncData := match o.data with | .func fd => fd | _ => default
theorem q8m (w : World) {prog : Program} : BindOk w prog (fnDs (stm 2)) (fdOf (qey w.params)) := by
 refine q08 (by kernel_rfl) (by kernel_rfl) (by kernel_rfl) fun xs h => ?_
 have h1 : (fnDs (stm 2)).params.length = 1 := by kernel_rfl
 rw [h1] at h
 obtain ⟨x, rfl⟩ := len1 h
 kernel_rfl
theorem q97 (w : World) : (KF w.params).lookup 49 = some (qey w.params) := by kernel_rfl
theorem q8k (w : World) : (KF w.params).lookup 48 = some (qjz w.params) := by kernel_rfl
theorem q92 (w : World) {prog : Program} : FnOk (Bw w) prog w 49 (fnDs (stm 2)) (qey w.params) (fdOf (qey w.params)) where
 look := q97 w
 data := rfl
 body := rfl
 scope := rfl
 globals := rfl
 builtins := rfl
 closure := rfl
 code := fun h X => ⟨48, qjz w.params, _, _, rfl, X _ _ (q8k w), rfl, rfl⟩
 bind := q8m w
theorem q6v (w : World) {prog : Program} : BindOk w prog (fnDs (stm 4)) (fdOf (qk8 w.params)) := by
 refine q08 (by kernel_rfl) (by kernel_rfl) (by kernel_rfl) fun xs h => ?_
 have h1 : (fnDs (stm 4)).params.length = 1 := by kernel_rfl
 rw [h1] at h
 obtain ⟨x, rfl⟩ := len1 h
 kernel_rfl
theorem q7p (w : World) : (KF w.params).lookup 95 = some (qk8 w.params) := by kernel_rfl
theorem q7o (w : World) : (KF w.params).lookup 94 = some (qr1 w.params) := by kernel_rfl
theorem q6x (w : World) {prog : Program} : FnOk (Bw w) prog w 95 (fnDs (stm 4)) (qk8 w.params) (fdOf (qk8 w.params)) where
 look := q7p w
 data := rfl
 body := rfl
 scope := rfl
 globals := rfl
 builtins := rfl
 closure := rfl
 code := fun h X => ⟨94, qr1 w.params, _, _, rfl, X _ _ (q7o w), rfl, rfl⟩
 bind := q6v w
theorem qat (w : World) {prog : Program} : BindOk w prog (fnDs (stm 57)) (fdOf (qdn w.params)) := by
 refine q08 (by kernel_rfl) (by kernel_rfl) (by kernel_rfl) fun xs h => ?_
 have h1 : (fnDs (stm 57)).params.length = 1 := by kernel_rfl
 rw [h1] at h
 obtain ⟨x, rfl⟩ := len1 h
 kernel_rfl
theorem qaz (w : World) : (KF w.params).lookup 105 = some (qdn w.params) := by kernel_rfl
theorem qaj (w : World) : (KF w.params).lookup 104 = some (qmf w.params) := by kernel_rfl
theorem qaq (w : World) {prog : Program} : FnOk (Bw w) prog w 105 (fnDs (stm 57)) (qdn w.params) (fdOf (qdn w.params)) where
 look := qaz w
 data := rfl
 body := rfl
 scope := rfl
 globals := rfl
 builtins := rfl
 closure := rfl
 code := fun h X => ⟨104, qmf w.params, _, _, rfl, X _ _ (qaj w), rfl, rfl⟩
 bind := qat w
theorem q6e (w : World) {prog : Program} : BindOk w prog (fnDs (stm 58)) (fdOf (qdi w.params)) := by
 refine q08 (by kernel_rfl) (by kernel_rfl) (by kernel_rfl) fun xs h => ?_
 have h1 : (fnDs (stm 58)).params.length = 1 := by kernel_rfl
 rw [h1] at h
 obtain ⟨x, rfl⟩ := len1 h
 kernel_rfl
theorem q6a (w : World) : (KF w.params).lookup 112 = some (qdi w.params) := by kernel_rfl
theorem q68 (w : World) : (KF w.params).lookup 111 = some (qkx w.params) := by kernel_rfl
theorem q6g (w : World) {prog : Program} : FnOk (Bw w) prog w 112 (fnDs (stm 58)) (qdi w.params) (fdOf (qdi w.params)) where
 look := q6a w
 data := rfl
 body := rfl
 scope := rfl
 globals := rfl
 builtins := rfl
 closure := rfl
 code := fun h X => ⟨111, qkx w.params, _, _, rfl, X _ _ (q68 w), rfl, rfl⟩
 bind := q6e w
theorem qnb (w : World) {prog : Program} : BindOk w prog (fnDs (stm 59)) (fdOf (qcp w.params)) := by
 refine q08 (by kernel_rfl) (by kernel_rfl) (by kernel_rfl) fun xs h => ?_
 have h1 : (fnDs (stm 59)).params.length = 1 := by kernel_rfl
 rw [h1] at h
 obtain ⟨x, rfl⟩ := len1 h
 kernel_rfl
theorem qmx (w : World) : (KF w.params).lookup 119 = some (qcp w.params) := by kernel_rfl
theorem qnu (w : World) : (KF w.params).lookup 118 = some (qme w.params) := by kernel_rfl
theorem qns (w : World) {prog : Program} : FnOk (Bw w) prog w 119 (fnDs (stm 59)) (qcp w.params) (fdOf (qcp w.params)) where
 look := qmx w
 data := rfl
 body := rfl
 scope := rfl
 globals := rfl
 builtins := rfl
 closure := rfl
 code := fun h X => ⟨118, qme w.params, _, _, rfl, X _ _ (qnu w), rfl, rfl⟩
 bind := qnb w
theorem qbn (w : World) {prog : Program} : BindOk w prog (fnDs (stm 67)) (fdOf (qc6 w.params)) := by
 refine q08 (by kernel_rfl) (by kernel_rfl) (by kernel_rfl) fun xs h => ?_
 have h1 : (fnDs (stm 67)).params.length = 2 := by kernel_rfl
 rw [h1] at h
 obtain ⟨x, y, rfl⟩ := len2 h
 kernel_rfl
theorem qc0 (w : World) : (KF w.params).lookup 274 = some (qc6 w.params) := by kernel_rfl
theorem qc2 (w : World) : (KF w.params).lookup 273 = some (qjg w.params) := by kernel_rfl
theorem qcv (w : World) {prog : Program} : FnOk (Bw w) prog w 274 (fnDs (stm 67)) (qc6 w.params) (fdOf (qc6 w.params)) where
 look := qc0 w
 data := rfl
 body := rfl
 scope := rfl
 globals := rfl
 builtins := rfl
 closure := rfl
 code := fun h X => ⟨273, qjg w.params, _, _, rfl, X _ _ (qc2 w), rfl, rfl⟩
 bind := qbn w
theorem q7r (w : World) {prog : Program} : BindOk w prog (fnDs (stm 68)) (fdOf (qbv w.params)) := by
 refine q08 (by kernel_rfl) (by kernel_rfl) (by kernel_rfl) fun xs h => ?_
 have h1 : (fnDs (stm 68)).params.length = 1 := by kernel_rfl
 rw [h1] at h
 obtain ⟨x, rfl⟩ := len1 h
 kernel_rfl
theorem q76 (w : World) : (KF w.params).lookup 281 = some (qbv w.params) := by kernel_rfl
theorem q86 (w : World) : (KF w.params).lookup 280 = some (qjy w.params) := by kernel_rfl
theorem q73 (w : World) {prog : Program} : FnOk (Bw w) prog w 281 (fnDs (stm 68)) (qbv w.params) (fdOf (qbv w.params)) where
 look := q76 w
 data := rfl
 body := rfl
 scope := rfl
 globals := rfl
 builtins := rfl
 closure := rfl
 code := fun h X => ⟨280, qjy w.params, _, _, rfl, X _ _ (q86 w), rfl, rfl⟩
 bind := q7r w
theorem q8v (w : World) {prog : Program} : BindOk w prog (fnDs (stm 69)) (fdOf (qcl w.params)) := by
 refine q08 (by kernel_rfl) (by kernel_rfl) (by kernel_rfl) fun xs h => ?_
 have h1 : (fnDs (stm 69)).params.length = 1 := by kernel_rfl
 rw [h1] at h
 obtain ⟨x, rfl⟩ := len1 h
 kernel_rfl
theorem q95 (w : World) : (KF w.params).lookup 288 = some (qcl w.params) := by kernel_rfl
theorem q8p (w : World) : (KF w.params).lookup 287 = some (qj8 w.params) := by kernel_rfl
theorem q8s (w : World) {prog : Program} : FnOk (Bw w) prog w 288 (fnDs (stm 69)) (qcl w.params) (fdOf (qcl w.params)) where
 look := q95 w
 data := rfl
 body := rfl
 scope := rfl
 globals := rfl
 builtins := rfl
 closure := rfl
 code := fun h X => ⟨287, qj8 w.params, _, _, rfl, X _ _ (q8p w), rfl, rfl⟩
 bind := q8v w
theorem qfo (w : World) {prog : Program} : BindOk w prog (fnDs (stm 70)) (fdOf (qd8 w.params)) := by
 refine q08 (by kernel_rfl) (by kernel_rfl) (by kernel_rfl) fun xs h => ?_
 have h1 : (fnDs (stm 70)).params.length = 1 := by kernel_rfl
 rw [h1] at h
 obtain ⟨x, rfl⟩ := len1 h
 kernel_rfl
theorem qf0 (w : World) : (KF w.params).lookup 295 = some (qd8 w.params) := by kernel_rfl
theorem qei (w : World) : (KF w.params).lookup 294 = some (qj2 w.params) := by kernel_rfl
theorem qfg (w : World) {prog : Program} : FnOk (Bw w) prog w 295 (fnDs (stm 70)) (qd8 w.params) (fdOf (qd8 w.params)) where
 look := qf0 w
 data := rfl
 body := rfl
 scope := rfl
 globals := rfl
 builtins := rfl
 closure := rfl
 code := fun h X => ⟨294, qj2 w.params, _, _, rfl, X _ _ (qei w), rfl, rfl⟩
 bind := qfo w
theorem qck (w : World) {prog : Program} : BindOk w prog (fnDs (stm 71)) (fdOf (qba w.params)) := by
 refine q08 (by kernel_rfl) (by kernel_rfl) (by kernel_rfl) fun xs h => ?_
 have h1 : (fnDs (stm 71)).params.length = 1 := by kernel_rfl
 rw [h1] at h
 obtain ⟨x, rfl⟩ := len1 h
 kernel_rfl
theorem qco (w : World) : (KF w.params).lookup 300 = some (qba w.params) := by kernel_rfl
theorem qbc (w : World) : (KF w.params).lookup 299 = some (ql3 w.params) := by kernel_rfl
theorem qcj (w : World) {prog : Program} : FnOk (Bw w) prog w 300 (fnDs (stm 71)) (qba w.params) (fdOf (qba w.params)) where
 look := qco w
 data := rfl
 body := rfl
 scope := rfl
 globals := rfl
 builtins := rfl
 closure := rfl
 code := fun h X => ⟨299, ql3 w.params, _, _, rfl, X _ _ (qbc w), rfl, rfl⟩
 bind := qck w
theorem qb4 (w : World) {prog : Program} : BindOk w prog (fnDs (stm 72)) (fdOf (qbh w.params)) := by
 refine q08 (by kernel_rfl) (by kernel_rfl) (by kernel_rfl) fun xs h => ?_
 have h1 : (fnDs (stm 72)).params.length = 2 := by kernel_rfl
 rw [h1] at h
 obtain ⟨x, y, rfl⟩ := len2 h
 kernel_rfl
theorem qbq (w : World) : (KF w.params).lookup 305 = some (qbh w.params) := by kernel_rfl
theorem qb5 (w : World) : (KF w.params).lookup 304 = some (qkd w.params) := by kernel_rfl
theorem qc4 (w : World) {prog : Program} : FnOk (Bw w) prog w 305 (fnDs (stm 72)) (qbh w.params) (fdOf (qbh w.params)) where
 look := qbq w
 data := rfl
 body := rfl
 scope := rfl
 globals := rfl
 builtins := rfl
 closure := rfl
 code := fun h X => ⟨304, qkd w.params, _, _, rfl, X _ _ (qb5 w), rfl, rfl⟩
 bind := qb4 w
theorem qbe (w : World) {prog : Program} : BindOk w prog (fnDs (stm 73)) (fdOf (qcg w.params)) := by
 refine q08 (by kernel_rfl) (by kernel_rfl) (by kernel_rfl) fun xs h => ?_
 have h1 : (fnDs (stm 73)).params.length = 1 := by kernel_rfl
 rw [h1] at h
 obtain ⟨x, rfl⟩ := len1 h
 kernel_rfl
theorem qcq (w : World) : (KF w.params).lookup 310 = some (qcg w.params) := by kernel_rfl
theorem qb0 (w : World) : (KF w.params).lookup 309 = some (qlo w.params) := by kernel_rfl
theorem qbz (w : World) {prog : Program} : FnOk (Bw w) prog w 310 (fnDs (stm 73)) (qcg w.params) (fdOf (qcg w.params)) where
 look := qcq w
 data := rfl
 body := rfl
 scope := rfl
 globals := rfl
 builtins := rfl
 closure := rfl
 code := fun h X => ⟨309, qlo w.params, _, _, rfl, X _ _ (qb0 w), rfl, rfl⟩
 bind := qbe w
theorem q8r (w : World) {prog : Program} : BindOk w prog (fnDs (stm 74)) (fdOf (qc9 w.params)) := by
 refine q08 (by kernel_rfl) (by kernel_rfl) (by kernel_rfl) fun xs h => ?_
 have h1 : (fnDs (stm 74)).params.length = 1 := by kernel_rfl
 rw [h1] at h
 obtain ⟨x, rfl⟩ := len1 h
 kernel_rfl
theorem q98 (w : World) : (KF w.params).lookup 315 = some (qc9 w.params) := by kernel_rfl
theorem q99 (w : World) : (KF w.params).lookup 314 = some (qip w.params) := by kernel_rfl
theorem q8w (w : World) {prog : Program} : FnOk (Bw w) prog w 315 (fnDs (stm 74)) (qc9 w.params) (fdOf (qc9 w.params)) where
 look := q98 w
 data := rfl
 body := rfl
 scope := rfl
 globals := rfl
 builtins := rfl
 closure := rfl
 code := fun h X => ⟨314, qip w.params, _, _, rfl, X _ _ (q99 w), rfl, rfl⟩
 bind := q8r w
theorem qb8 (w : World) {prog : Program} : BindOk w prog (fnDs (stm 75)) (fdOf (qc8 w.params)) := by
 refine q08 (by kernel_rfl) (by kernel_rfl) (by kernel_rfl) fun xs h => ?_
 have h1 : (fnDs (stm 75)).params.length = 2 := by kernel_rfl
 rw [h1] at h
 obtain ⟨x, y, rfl⟩ := len2 h
 kernel_rfl
theorem qd6 (w : World) : (KF w.params).lookup 320 = some (qc8 w.params) := by kernel_rfl
theorem qc5 (w : World) : (KF w.params).lookup 319 = some (qmc w.params) := by kernel_rfl
theorem qbf (w : World) {prog : Program} : FnOk (Bw w) prog w 320 (fnDs (stm 75)) (qc8 w.params) (fdOf (qc8 w.params)) where
 look := qd6 w
 data := rfl
 body := rfl
 scope := rfl
 globals := rfl
 builtins := rfl
 closure := rfl
 code := fun h X => ⟨319, qmc w.params, _, _, rfl, X _ _ (qc5 w), rfl, rfl⟩
 bind := qb8 w
theorem q8u (w : World) {prog : Program} : BindOk w prog (fnDs (stm 76)) (fdOf (qb6 w.params)) := by
 refine q08 (by kernel_rfl) (by kernel_rfl) (by kernel_rfl) fun xs h => ?_
 have h1 : (fnDs (stm 76)).params.length = 1 := by kernel_rfl
 rw [h1] at h
 obtain ⟨x, rfl⟩ := len1 h
 kernel_rfl
theorem q9a (w : World) : (KF w.params).lookup 325 = some (qb6 w.params) := by kernel_rfl
theorem q8z (w : World) : (KF w.params).lookup 324 = some (qm2 w.params) := by kernel_rfl
theorem q8q (w : World) {prog : Program} : FnOk (Bw w) prog w 325 (fnDs (stm 76)) (qb6 w.params) (fdOf (qb6 w.params)) where
 look := q9a w
 data := rfl
 body := rfl
 scope := rfl
 globals := rfl
 builtins := rfl
 closure := rfl
 code := fun h X => ⟨324, qm2 w.params, _, _, rfl, X _ _ (q8z w), rfl, rfl⟩
 bind := q8u w
theorem qyd (w : World) {prog : Program} : BindOk w prog (fnDs (stm 78)) (fdOf (qcd w.params)) := by
 refine q08 (by kernel_rfl) (by kernel_rfl) (by kernel_rfl) fun xs h => ?_
 have h1 : (fnDs (stm 78)).params.length = 1 := by kernel_rfl
 rw [h1] at h
 obtain ⟨x, rfl⟩ := len1 h
 kernel_rfl
theorem qvk (w : World) : (KF w.params).lookup 337 = some (qcd w.params) := by kernel_rfl
theorem qxw (w : World) : (KF w.params).lookup 336 = some (ql9 w.params) := by kernel_rfl
theorem qvh (w : World) {prog : Program} : FnOk (Bw w) prog w 337 (fnDs (stm 78)) (qcd w.params) (fdOf (qcd w.params)) where
 look := qvk w
 data := rfl
 body := rfl
 scope := rfl
 globals := rfl
 builtins := rfl
 closure := rfl
 code := fun h X => ⟨336, ql9 w.params, _, _, rfl, X _ _ (qxw w), rfl, rfl⟩
 bind := qyd w
theorem qi5 (w : World) {prog : Program} : BindOk w prog (fnDs (meth 65 7)) (fdOf (q9p w.params)) := by
 refine q08 (by kernel_rfl) (by kernel_rfl) (by kernel_rfl) fun xs h => ?_
 have h1 : (fnDs (meth 65 7)).params.length = 2 := by kernel_rfl
 rw [h1] at h
 obtain ⟨x, y, rfl⟩ := len2 h
 kernel_rfl
theorem qif (w : World) : (KF w.params).lookup 202 = some (q9p w.params) := by kernel_rfl
theorem qhw (w : World) : (KF w.params).lookup 201 = some (qiy w.params) := by kernel_rfl
theorem qht (w : World) {prog : Program} : FnOk (Bw w) prog w 202 (fnDs (meth 65 7)) (q9p w.params) (fdOf (q9p w.params)) where
 look := qif w
 data := rfl
 body := rfl
 scope := rfl
 globals := rfl
 builtins := rfl
 closure := rfl
 code := fun h X => ⟨201, qiy w.params, _, _, rfl, X _ _ (qhw w), rfl, rfl⟩
 bind := qi5 w
theorem qp1 (w : World) {prog : Program} : BindOk w prog (fnDs (meth 65 11)) (fdOf (q9t w.params)) := by
 refine q08 (by kernel_rfl) (by kernel_rfl) (by kernel_rfl) fun xs h => ?_
 have h1 : (fnDs (meth 65 11)).params.length = 1 := by kernel_rfl
 rw [h1] at h
 obtain ⟨x, rfl⟩ := len1 h
 kernel_rfl
theorem qo4 (w : World) : (KF w.params).lookup 227 = some (q9t w.params) := by kernel_rfl
theorem qn5 (w : World) : (KF w.params).lookup 226 = some (qmr w.params) := by kernel_rfl
theorem qn8 (w : World) {prog : Program} : FnOk (Bw w) prog w 227 (fnDs (meth 65 11)) (q9t w.params) (fdOf (q9t w.params)) where
 look := qo4 w
 data := rfl
 body := rfl
 scope := rfl
 globals := rfl
 builtins := rfl
 closure := rfl
 code := fun h X => ⟨226, qmr w.params, _, _, rfl, X _ _ (qn5 w), rfl, rfl⟩
 bind := qp1 w
theorem qac (w : World) {prog : Program} : BindOk w prog (fnDs (meth 65 15)) (fdOf (q9g w.params)) := by
 refine q08 (by kernel_rfl) (by kernel_rfl) (by kernel_rfl) fun xs h => ?_
 have h1 : (fnDs (meth 65 15)).params.length = 3 := by kernel_rfl
 rw [h1] at h
 obtain ⟨x, y, z, rfl⟩ := len3 h
 kernel_rfl
theorem qam (w : World) : (KF w.params).lookup 253 = some (q9g w.params) := by kernel_rfl
theorem qa6 (w : World) : (KF w.params).lookup 252 = some (qld w.params) := by kernel_rfl
theorem qaf (w : World) {prog : Program} : FnOk (Bw w) prog w 253 (fnDs (meth 65 15)) (q9g w.params) (fdOf (q9g w.params)) where
 look := qam w
 data := rfl
 body := rfl
 scope := rfl
 globals := rfl
 builtins := rfl
 closure := rfl
 code := fun h X => ⟨252, qld w.params, _, _, rfl, X _ _ (qa6 w), rfl, rfl⟩
 bind := qac w
end Mine
end
section
namespace Mine
open Ev
theorem qog {w : World} {h : Heap} {as : List Addr} {F : Addr -> Prop} {n : Str} {v : V} {kxs : List (Str × Value)} (r : BRep (Bw w) h as F [(n, v)] kxs) : ∃ y, kxs = [(n, y)] /\ Rep (Bw w) h as F v y := by
 obtain ⟨h1, h2⟩ := r
 match kxs, h1, h2 with
 | [(m, y)], h1, h2 =>
  simp at h1
  subst h1
  obtain ⟨x, e, r⟩ := q2j h2
  simp at e
  subst e
  exact ⟨y, rfl, r⟩
theorem qr9 : (fnDs (meth 65 1)).params = ([("self" : Str), "value"] : List Str) /\ (fnDs (meth 65 1)).kwonly = ([("name" : Str)] : List Str) /\ (fnDs (meth 65 1)).dflt.length = 0 /\ (fnDs (meth 65 1)).kwarg = none := ⟨by kernel_rfl, by kernel_rfl, by kernel_rfl, by kernel_rfl⟩
theorem qqs (w : World) {prog : Program} : BindOk w prog (fnDs (meth 65 1)) (fdOf (q7a w.params)) := by
 intro A F s as st vs xs ks kxs b i rs rk hv Q E hQ
 obtain ⟨p1, p2, p3, p4⟩ := qr9
 have p3' : (fnDs (meth 65 1)).dflt = [] := List.eq_nil_of_length_eq_zero p3
 unfold q4s at hv
 simp only [p1, p2, p3', List.drop_nil, List.append_nil] at hv
 split at hv
 ·rename_i hc
  cases hv
  obtain ⟨v1, v2, rfl⟩ := len2 (l := vs) hc.2.1
  obtain ⟨x, y, rfl, r1, r2⟩ := qh5 rs
  match ks, hc.2.2, rk with
  | [(m, v)], hm, rk =>
   simp at hm
   subst hm
   obtain ⟨z, rfl, r3⟩ := qog rk
   have e : bindArgs (fdOf (q7a w.params)) ⟨[x, y], [(("name" : Str), z)]⟩ = pure [(("self" : Str), x), ("value", y), ("name", z)] := by kernel_rfl
   rw [e]
   refine wpAny_pure (hQ _ s.heap ?_ fun _ _ e => e)
   unfold q22
   rw [p4]
   exact ⟨rfl, .cons r1 (.cons r2 (.cons r3 .nil))⟩
 ·cases hv
theorem r1x : (fnDs (meth 65 8)).params = ([("self" : Str), "name", "default"] : List Str) /\ (fnDs (meth 65 8)).kwonly = [] /\ (fnDs (meth 65 8)).dflt = [.none] /\ (fnDs (meth 65 8)).kwarg = none := ⟨by kernel_rfl, by kernel_rfl, by kernel_rfl, by kernel_rfl⟩
theorem qk6 (w : World) : (KF w.params).lookup 203 = some (qgm w.params) := by kernel_rfl
theorem qm7 (w : World) : (fdOf (q2x w.params)).params.posonlyargs.map (·.arg) = [] /\ (fdOf (q2x w.params)).params.args.map (·.arg) = [("self" : Str), "name", "default"] /\ (fdOf (q2x w.params)).params.kwonlyargs.map (·.arg) = [] /\
  (fdOf (q2x w.params)).params.vararg = none /\ (fdOf (q2x w.params)).params.kwarg = none /\ (fdOf (q2x w.params)).defaults = .ref 203 := ⟨by kernel_rfl, by kernel_rfl, by kernel_rfl, by kernel_rfl, by kernel_rfl, by kernel_rfl⟩
theorem qkh {α : Type} {M : Model} {A : Around} {t t' : Sem α} {Q : α -> Shared -> Prop} {E : Value -> Shared -> Prop} {s : Shared} (e : t = t') (h : wpAny M A t' Q E s) : wpAny M A t Q E s := by rw [e]; exact h
theorem qr5 {fd : FuncData} (h : fd.params.posonlyargs.map (·.arg) = [] /\ fd.params.args.map (·.arg) = [("self" : Str), "name", "default"] /\ fd.params.kwonlyargs.map (·.arg) = [] /\ fd.params.vararg = none /\ fd.params.kwarg = none /\ fd.defaults = .ref 203) {s : Shared} {o : Obj} {n : Nat} (ho : s.heap.get? 203 = some o) (hs : o.data = .seq #[.none] n) (x y : Value) :
  BindsTo s fd ⟨[x, y], []⟩ [("self", x), ("name", y), ("default", .none)] := by
 obtain ⟨h1, h2, h3, h4, h5, h6⟩ := h
 intro M A E Q hq
 unfold bindArgs
 simp only [h1, h2, h3, h4, h5, h6, List.nil_append, List.forIn_nil, pure_bind]
 refine wpAny_bind (wpAny_seqItems ho hs ?_)
 refine qkh ?_ (wpAny_pure hq)
 kernel_rfl
theorem ql7 {fd : FuncData} (h : fd.params.posonlyargs.map (·.arg) = [] /\ fd.params.args.map (·.arg) = [("self" : Str), "name", "default"] /\ fd.params.kwonlyargs.map (·.arg) = [] /\ fd.params.vararg = none /\ fd.params.kwarg = none /\ fd.defaults = .ref 203) {s : Shared} {o : Obj} {n : Nat} (ho : s.heap.get? 203 = some o) (hs : o.data = .seq #[.none] n) (x y z : Value) :
  BindsTo s fd ⟨[x, y, z], []⟩ [("self", x), ("name", y), ("default", z)] := by
 obtain ⟨h1, h2, h3, h4, h5, h6⟩ := h
 intro M A E Q hq
 unfold bindArgs
 simp only [h1, h2, h3, h4, h5, h6, List.nil_append, List.forIn_nil, pure_bind]
 refine wpAny_bind (wpAny_seqItems ho hs ?_)
 refine qkh ?_ (wpAny_pure hq)
 kernel_rfl
theorem qyn (w : World) {prog : Program} : BindOk w prog (fnDs (meth 65 8)) (fdOf (q2x w.params)) := by
 intro A F s as st vs xs ks kxs b i rs rk hv Q E hQ
 obtain ⟨p1, p2, p3, p4⟩ := r1x
 unfold q4s at hv
 simp only [p1, p2, p3] at hv
 split at hv
 ·rename_i hc
  cases hv
  have hks : ks = [] := by simpa using hc.2.2.symm
  subst hks
  cases q10 rk
  have hd := (i.base 203 _ (qk6 w)).1
  have hlen : vs.length = 2 \/ vs.length = 3 := by
   have h1 := hc.1
   have h2 := hc.2.1
   simp at h1 h2
   omega
  rcases hlen with hl | hl
  ·obtain ⟨v1, v2, rfl⟩ := len2 hl
   obtain ⟨x, y, rfl, r1, r2⟩ := qh5 rs
   refine qr5 (qm7 w) hd rfl x y _ A E Q (hQ _ s.heap ?_ fun _ _ e => e)
   unfold q22
   rw [p4]
   exact ⟨rfl, .cons r1 (.cons r2 (.cons .none .nil))⟩
  ·obtain ⟨v1, v2, v3, rfl⟩ := len3 hl
   cases rs with
   | cons r1 rs =>
    obtain ⟨y, z, rfl, r2, r3⟩ := qh5 rs
    rename_i x
    refine ql7 (qm7 w) hd rfl x y z _ A E Q (hQ _ s.heap ?_ fun _ _ e => e)
    unfold q22
    rw [p4]
    exact ⟨rfl, .cons r1 (.cons r2 (.cons r3 .nil))⟩
 ·cases hv
theorem qs4 : (fnDs (meth 65 16)).params = ([("self" : Str), "_name", "_value"] : List Str) /\ (fnDs (meth 65 16)).kwonly = [] /\ (fnDs (meth 65 16)).dflt.length = 0 /\ (fnDs (meth 65 16)).kwarg = some ("_params" : Str) := ⟨by kernel_rfl, by kernel_rfl, by kernel_rfl, by kernel_rfl⟩
theorem qs1 (w : World) {prog : Program} : BindOk w prog (fnDs (meth 65 16)) (fdOf (q81 w.params)) := by
 intro A F s as st vs xs ks kxs b i rs rk hv Q E hQ
 obtain ⟨p1, p2, p3, p4⟩ := qs4
 have p3' : (fnDs (meth 65 16)).dflt = [] := List.eq_nil_of_length_eq_zero p3
 unfold q4s at hv
 simp only [p1, p2, p3', List.drop_nil, List.append_nil] at hv
 split at hv
 ·rename_i hc
  cases hv
  have hks : ks = [] := by simpa using hc.2.2.symm
  subst hks
  cases q10 rk
  obtain ⟨v1, v2, v3, rfl⟩ := len3 (l := vs) hc.2.1
  cases rs with
  | cons r1 rs =>
   obtain ⟨y, z, rfl, r2, r3⟩ := qh5 rs
   rename_i x
   have e : bindArgs (fdOf (q81 w.params)) ⟨[x, y, z], []⟩ = (do let d <- alloc { cls := .type "dict", data := .dict #[] }; pure [(("self" : Str), x), ("_name", y), ("_value", z), ("_params", .ref d)]) := by kernel_rfl
   rw [e]
   refine wpAny_bind (wpAny_alloc (wpAny_pure ?_))
   have f := i.fresh (q0a s.heap)
   have k := q07 s.heap { cls := .type "dict", data := .dict #[] }
   have hs : (s.heap.objs.size == sysModules) = false := by
    have h1 := (i.base 203 _ (qk6 w)).1
    have h2 : 203 < s.heap.objs.size := Heap.lt_size h1
    have : s.heap.objs.size ≠ 1 := by omega
    simpa [sysModules] using this
   refine hQ _ _ ?_ k
   unfold q22
   rw [p4]
   exact ⟨rfl, .cons (r1.keeps k) (.cons (r2.keeps k) (.cons (r3.keeps k) (.cons (.nod (Heap.get?_push_size _ rfl) hs f.1 f.2) .nil)))⟩
 ·cases hv
theorem qj5 (w : World) : (KF w.params).lookup 164 = some (q7a w.params) /\ (KF w.params).lookup 163 = some (qkg w.params) := ⟨by kernel_rfl, by kernel_rfl⟩
theorem qpe (w : World) : (KF w.params).lookup 210 = some (q2x w.params) /\ (KF w.params).lookup 209 = some (qlg w.params) := ⟨by kernel_rfl, by kernel_rfl⟩
theorem qjc (w : World) : (KF w.params).lookup 260 = some (q81 w.params) /\ (KF w.params).lookup 259 = some (ql8 w.params) := ⟨by kernel_rfl, by kernel_rfl⟩
theorem quj (w : World) {prog : Program} : FnOk (Bw w) prog w 164 (fnDs (meth 65 1)) (q7a w.params) (fdOf (q7a w.params)) where
 look := (qj5 w).1
 data := rfl
 body := rfl
 scope := rfl
 globals := rfl
 builtins := rfl
 closure := rfl
 code := fun h X => ⟨163, qkg w.params, _, _, rfl, X _ _ (qj5 w).2, rfl, rfl⟩
 bind := qqs w
theorem qzn (w : World) {prog : Program} : FnOk (Bw w) prog w 210 (fnDs (meth 65 8)) (q2x w.params) (fdOf (q2x w.params)) where
 look := (qpe w).1
 data := rfl
 body := rfl
 scope := rfl
 globals := rfl
 builtins := rfl
 closure := rfl
 code := fun h X => ⟨209, qlg w.params, _, _, rfl, X _ _ (qpe w).2, rfl, rfl⟩
 bind := qyn w
theorem qt6 (w : World) {prog : Program} : FnOk (Bw w) prog w 260 (fnDs (meth 65 16)) (q81 w.params) (fdOf (q81 w.params)) where
 look := (qjc w).1
 data := rfl
 body := rfl
 scope := rfl
 globals := rfl
 builtins := rfl
 closure := rfl
 code := fun h X => ⟨259, ql8 w.params, _, _, rfl, X _ _ (qjc w).2, rfl, rfl⟩
 bind := qs1 w
theorem qi8 (w : World) : (KF w.params).lookup 2 = some (o2v0 w.params) := by kernel_rfl
theorem ns2 (w : World) : okNs (o2v0 w.params) = true := by kernel_rfl
theorem r6a (w : World) : nsFind (esOf (o2v0 w.params)) "sys.recursionlimit" = none := by kernel_rfl
theorem q8g (w : World) (h : Heap) (X : (KF w.params).In h) : h.NoLimit := ⟨_, qb3 X (qi8 w) (ns2 w), r6a w⟩
end Mine
end
section
namespace Mine
open Ev
theorem qby (w : World) : (KF w.params).lookup 263 = some (qqi w.params) := by kernel_rfl
theorem qgq (w : World) : (KF w.params).lookup 262 = some (q16 w.params) := by kernel_rfl
theorem qo7 (w : World) : okNs (q16 w.params) = true := by kernel_rfl
theorem qkk {w : World} {h : Heap} {as : List Addr} {F : Addr -> Prop} {i : Nat} {x : Value} (r : Rep (Bw w) h as F (.hd i) x) :
  ∃ xa a, x = .ref xa /\ as[i]? = some a /\ h.Inst xa 263 (fun n => if n = "_headers" then some (.ref a) else none) := by
 cases r with
 | hd e ho ha hF hd ht hda hdF =>
  rename_i a xa d o o'
  obtain ⟨es, ep, h1, h2, h3, h4⟩ := ht.ns
  exact ⟨xa, a, rfl, e, o, ho, ht.cls, ht.nocls, .inr ⟨d, ht.dict, ht.ne, o', es, ep, hd, h1, h2, h3, h4⟩⟩
theorem r0d (w : World) {prog : Program} (A : Around) (F : Addr -> Prop) (s : Shared) (as : List Addr) (st : Ev.St) (i : Nat) (ov : Value) (inv : Ev.Inv (Bw w) s.heap as F st) (r : Rep (Bw w) s.heap as F (.hd i) ov) (Q : Value -> Shared -> Prop) (E : Value -> Shared -> Prop)
  (hQ : ∀ y tk, Rep (Bw w) s.heap as F (.ref i) y -> s.toks <= tk -> Q y { s with toks := tk }) : wpAny (model prog w) A (getAttr ov "_headers" true) Q E s := by
 obtain ⟨xa, a, rfl, e, I⟩ := qkk r
 have X : (KF w.params).In s.heap := fun a o e => (inv.base a o e).1
 have n := qb3 X (qgq w) (qo7 w)
 obtain ⟨h, g, d, t, os⟩ := s
 exact load_attr (X _ _ (qby w)) n (by kernel_rfl) (by kernel_rfl) (by rw [typeLookup_type, builtinLookup_eq_fast]; kernel_rfl) I (if_pos rfl) rfl (hQ _ _ (.ref e) (Nat.le_succ _))
end Mine
end
section
namespace Mine
open Ev
theorem c_ga (w : World) : nsFind (esOf (q16 w.params)) "__getattribute__" = none := by kernel_rfl
theorem c_gt (w : World) : nsFind (esOf (q16 w.params)) "__getattr__" = none := by kernel_rfl
noncomputable def HasM (w : World) (x : Str) (a : Addr) : Prop := nsFind (esOf (q16 w.params)) x = some (.ref a) /\ (∃ o, (KF w.params).lookup a = some o /\ o.cls = .type "function") /\ (∃ y, typeLookup (.type "object") x = pure y) /\ x ≠ "_headers"
theorem qn6 (w : World) : nsFind (esOf (q16 w.params)) "__len__" = some (.ref 171) := by kernel_rfl
theorem qze (w : World) : (KF w.params).lookup 171 = some (qpq w.params) := by kernel_rfl
theorem qxh : ∃ y, typeLookup (.type "object") "__len__" = pure y := ⟨none, by rw [typeLookup_type, builtinLookup_eq_fast]; kernel_rfl⟩
theorem qz7 : mtA.lookup ("__len__" : Str) = some 171 := by decide +kernel
theorem qxu (w : World) : ∃ a, (Bw w).meth "__len__" = some a /\ HasM w "__len__" a := ⟨171, qz7, qn6 w, ⟨_, qze w, rfl⟩, qxh, by decide +kernel⟩
theorem qiz (w : World) : nsFind (esOf (q16 w.params)) "__setitem__" = some (.ref 178) := by kernel_rfl
theorem qhk (w : World) : (KF w.params).lookup 178 = some (qpo w.params) := by kernel_rfl
theorem qic : ∃ y, typeLookup (.type "object") "__setitem__" = pure y := ⟨none, by rw [typeLookup_type, builtinLookup_eq_fast]; kernel_rfl⟩
theorem qh8 : mtA.lookup ("__setitem__" : Str) = some 178 := by decide +kernel
theorem qhi (w : World) : ∃ a, (Bw w).meth "__setitem__" = some a /\ HasM w "__setitem__" a := ⟨178, qh8, qiz w, ⟨_, qhk w, rfl⟩, qic, by decide +kernel⟩
theorem qlc (w : World) : nsFind (esOf (q16 w.params)) "__delitem__" = some (.ref 183) := by kernel_rfl
theorem qh7 (w : World) : (KF w.params).lookup 183 = some (qpz w.params) := by kernel_rfl
theorem qhx : ∃ y, typeLookup (.type "object") "__delitem__" = pure y := ⟨none, by rw [typeLookup_type, builtinLookup_eq_fast]; kernel_rfl⟩
theorem qh9 : mtA.lookup ("__delitem__" : Str) = some 183 := by decide +kernel
theorem qhg (w : World) : ∃ a, (Bw w).meth "__delitem__" = some a /\ HasM w "__delitem__" a := ⟨183, qh9, qlc w, ⟨_, qh7 w, rfl⟩, qhx, by decide +kernel⟩
theorem q4k (w : World) : nsFind (esOf (q16 w.params)) "_convert_string_type" = some (.ref 164) := by kernel_rfl
theorem q40 (w : World) : (KF w.params).lookup 164 = some (q7a w.params) := by kernel_rfl
theorem q44 : ∃ y, typeLookup (.type "object") "_convert_string_type" = pure y := ⟨none, by rw [typeLookup_type, builtinLookup_eq_fast]; kernel_rfl⟩
theorem q1p : mtA.lookup ("_convert_string_type" : Str) = some 164 := by decide +kernel
theorem q41 (w : World) : ∃ a, (Bw w).meth "_convert_string_type" = some a /\ HasM w "_convert_string_type" a := ⟨164, q1p, q4k w, ⟨_, q40 w, rfl⟩, q44, by decide +kernel⟩
theorem qne (w : World) : nsFind (esOf (q16 w.params)) "get_all" = some (.ref 202) := by kernel_rfl
theorem qlj (w : World) : (KF w.params).lookup 202 = some (q9p w.params) := by kernel_rfl
theorem qm8 : ∃ y, typeLookup (.type "object") "get_all" = pure y := ⟨none, by rw [typeLookup_type, builtinLookup_eq_fast]; kernel_rfl⟩
theorem qcw : mtA.lookup ("get_all" : Str) = some 202 := by decide +kernel
theorem qma (w : World) : ∃ a, (Bw w).meth "get_all" = some a /\ HasM w "get_all" a := ⟨202, qcw, qne w, ⟨_, qlj w, rfl⟩, qm8, by decide +kernel⟩
theorem r4o (w : World) : nsFind (esOf (q16 w.params)) "get" = some (.ref 210) := by kernel_rfl
theorem qzl (w : World) : (KF w.params).lookup 210 = some (q2x w.params) := by kernel_rfl
theorem qx1 : ∃ y, typeLookup (.type "object") "get" = pure y := ⟨none, by rw [typeLookup_type, builtinLookup_eq_fast]; kernel_rfl⟩
theorem qpc : mtA.lookup ("get" : Str) = some 210 := by decide +kernel
theorem r0v (w : World) : ∃ a, (Bw w).meth "get" = some a /\ HasM w "get" a := ⟨210, qpc, r4o w, ⟨_, qzl w, rfl⟩, qx1, by decide +kernel⟩
theorem r0w (w : World) : nsFind (esOf (q16 w.params)) "keys" = some (.ref 215) := by kernel_rfl
theorem qup (w : World) : (KF w.params).lookup 215 = some (qpf w.params) := by kernel_rfl
theorem qt7 : ∃ y, typeLookup (.type "object") "keys" = pure y := ⟨none, by rw [typeLookup_type, builtinLookup_eq_fast]; kernel_rfl⟩
theorem qst : mtA.lookup ("keys" : Str) = some 215 := by decide +kernel
theorem qrw (w : World) : ∃ a, (Bw w).meth "keys" = some a /\ HasM w "keys" a := ⟨215, qst, r0w w, ⟨_, qup w, rfl⟩, qt7, by decide +kernel⟩
theorem qeb (w : World) : nsFind (esOf (q16 w.params)) "items" = some (.ref 227) := by kernel_rfl
theorem qoc (w : World) : (KF w.params).lookup 227 = some (q9t w.params) := by kernel_rfl
theorem qor : ∃ y, typeLookup (.type "object") "items" = pure y := ⟨none, by rw [typeLookup_type, builtinLookup_eq_fast]; kernel_rfl⟩
theorem qg5 : mtA.lookup ("items" : Str) = some 227 := by decide +kernel
theorem qoe (w : World) : ∃ a, (Bw w).meth "items" = some a /\ HasM w "items" a := ⟨227, qg5, qeb w, ⟨_, qoc w, rfl⟩, qor, by decide +kernel⟩
theorem qbl (w : World) : nsFind (esOf (q16 w.params)) "setdefault" = some (.ref 253) := by kernel_rfl
theorem qa4 (w : World) : (KF w.params).lookup 253 = some (q9g w.params) := by kernel_rfl
theorem qa5 : ∃ y, typeLookup (.type "object") "setdefault" = pure y := ⟨none, by rw [typeLookup_type, builtinLookup_eq_fast]; kernel_rfl⟩
theorem q57 : mtA.lookup ("setdefault" : Str) = some 253 := by decide +kernel
theorem qa7 (w : World) : ∃ a, (Bw w).meth "setdefault" = some a /\ HasM w "setdefault" a := ⟨253, q57, qbl w, ⟨_, qa4 w, rfl⟩, qa5, by decide +kernel⟩
theorem qfk (w : World) : nsFind (esOf (q16 w.params)) "add_header" = some (.ref 260) := by kernel_rfl
theorem qdl (w : World) : (KF w.params).lookup 260 = some (q81 w.params) := by kernel_rfl
theorem qbt : ∃ y, typeLookup (.type "object") "add_header" = pure y := ⟨none, by rw [typeLookup_type, builtinLookup_eq_fast]; kernel_rfl⟩
theorem q5p : mtA.lookup ("add_header" : Str) = some 260 := by decide +kernel
theorem qdg (w : World) : ∃ a, (Bw w).meth "add_header" = some a /\ HasM w "add_header" a := ⟨260, q5p, qfk w, ⟨_, qdl w, rfl⟩, qbt, by decide +kernel⟩
theorem hasM (w : World) {x : Str} (h : q4f.contains x = true) : ∃ a, (Bw w).meth x = some a /\ HasM w x a := by
 have h' : x ∈ q4f := by simpa using h
 unfold q4f at h'
 simp only [List.mem_cons, List.not_mem_nil, or_false] at h'
 rcases h' with rfl | rfl | rfl | rfl | rfl | rfl | rfl | rfl | rfl | rfl
 ·exact qxu w
 ·exact qhi w
 ·exact qhg w
 ·exact q41 w
 ·exact qma w
 ·exact r0v w
 ·exact qrw w
 ·exact qoe w
 ·exact qa7 w
 ·exact qdg w
theorem qws (w : World) {prog : Program} (A : Around) (F : Addr -> Prop) (s : Shared) (as : List Addr) (st : Ev.St) (i : Nat) (ov : Value) (x : Str) (inv : Ev.Inv (Bw w) s.heap as F st) (r : Rep (Bw w) s.heap as F (.hd i) ov) (hx : q4f.contains x = true) :
  ∃ a, (Bw w).meth x = some a /\ ∀ (pl : Sem Bool) (Q : Value × List Value -> Shared -> Prop) (E : Value -> Shared -> Prop), Q (.ref a, [ov]) s -> wpAny (model prog w) A (getMethod ov x pl) Q E s := by
 obtain ⟨xa, a, rfl, e, I⟩ := qkk r
 have X : (KF w.params).In s.heap := fun a o e => (inv.base a o e).1
 have n := qb3 X (qgq w) (qo7 w)
 obtain ⟨f, hf, hm, ⟨fo, hl, hc⟩, ⟨y, hy⟩, hne⟩ := hasM w hx
 refine ⟨f, hf, fun pl Q E hQ => ?_⟩
 obtain ⟨h, g, d, t, os⟩ := s
 exact method_of (X _ _ (qby w)) n (c_ga w) (c_gt w) hm (X _ _ hl) hc hy I (if_neg hne) hQ
end Mine
end
section
namespace Mine
open Ev
theorem qnn (w : World) : (adT.map (fun (p : Str × Addr) => p.2) ++ mtA.map (fun (p : Str × Addr) => p.2) ++ [263]).all (fun a => keepIn (KF w.params) (.ref a)) = true := by kernel_rfl
theorem q2b {α : Type} {x : Str} {a : α} : ∀ {l : List (Str × α)}, l.lookup x = some a -> a ∈ l.map (·.2)
 | [], h => by simp at h
 | (n, b) :: r, h => by
  by_cases q : x = n
  ·subst q
   rw [q04] at h
   cases h; simp
  ·rw [q05 q] at h
   exact List.mem_cons_of_mem _ (q2b h)
theorem qq4 (w : World) : ∀ a, (∃ x, (Bw w).addr x = some a) \/ (∃ x, (Bw w).meth x = some a) \/ a = (Bw w).cls -> keepIn (Bw w).objs (.ref a) = true := by
 intro a h
 refine List.all_eq_true.mp (qnn w) a ?_
 rcases h with ⟨x, h⟩ | ⟨x, h⟩ | rfl
 ·exact List.mem_append_left _ (List.mem_append_left _ (q2b h))
 ·exact List.mem_append_left _ (List.mem_append_right _ (q2b h))
 ·exact List.mem_append_right _ List.mem_cons_self
noncomputable def qfp (f : V) (vs : List V) (ks : List (Str × V)) : EvM V := match f, vs, ks with
 | .ty "type", [.ref i], [] => fun st => match st[i]? with
  | some (.list _) => some (.ty "list", st)
  | _ => .none
 | _, _, _ => bad
theorem qli {B : Base} {h : Heap} {as : List Addr} {F : Addr -> Prop} {n : String} {fv : Value} {first : List Value} (c : Callee B h as F (.ty n) fv first) (hn : n ≠ "Headers") : fv = .type n /\ first = [] := by
 generalize hv : V.ty n = v at c
 cases c <;> first | (cases hv; done) | skip
 ·cases hv; exact ⟨rfl, rfl⟩
 ·injection hv with h; exact absurd h hn
noncomputable def ΓI : Ev.Ctx := ⟨qnt, qfp, fun _ _ _ => .none, fun _ _ => .none, fun _ => true, fun _ => .none⟩
theorem ctxI (w : World) {prog : Program} (n : Nat) : CtxOk (Bw w) prog w ΓI n where
 glob := ⟨qjq w⟩
 keys := fun A F s as st a b x y t hh hu i ra rb h => by
  exfalso
  have h' : q9e (fun _ => .none) st b a = some t := h
  unfold q9e at h'
  split at h'
  ·split at h' <;> cases h'
  ·split at h' <;> cases h'
  ·cases h'
 keep := qq4 w
 call := fun A F s as st f fv first vs xs ks kxs hA i c rs rk v st' hv Q E hQ => by
  have hv' : qfp f vs ks st = some (v, st') := hv
  unfold qfp at hv'
  split at hv'
  ·cases q10 rk
   obtain ⟨rfl, rfl⟩ := qli c (by decide)
   obtain ⟨x, rfl, r⟩ := q2j rs
   dsimp only at hv'
   split at hv'
   ·rename_i l hst
    cases hv'
    cases r
    rename_i a e
    have q := i.at_ _ a _ e hst
    cases q with
    | list hp _ _ =>
     exact call_type_of hp.isList.typeIs (by decide) (hQ _ s.heap as s.toks (.ty _ (by decide)) i (Ext.refl _ _ _) (Nat.le_refl _))
   ·cases hv'
  ·exact (q02 hv').elim
 meth := fun _ _ _ _ _ _ _ _ _ _ _ h => by cases h
 attr := fun _ _ _ _ _ _ _ _ _ _ _ h => by cases h
theorem qlm : q3h ΓI := fun f vs ks st r h => by
 have h' : qfp f vs ks st = some r := h
 unfold qfp at h'
 split at h'
 ·rfl
 ·cases h'
noncomputable def ini (k : Nat) : Stmt := (fB (meth 65 0))[k]?.getD (.Pass default)
theorem qt5 : fB (meth 65 0) = [ini 0, ini 1, ini 2, ini 3] := by kernel_rfl
noncomputable def tA : Stmt -> Pos | .Assign [.Attribute (.Name _ p) _ _] _ _ => p | _ => default
noncomputable def tB : Stmt -> Pos | .Assign [.Attribute _ _ p] _ _ => p | _ => default
noncomputable def tC : Stmt -> Pos | .Assign _ (.Name _ p) _ => p | _ => default
noncomputable def tD : Stmt -> Pos | .Assign _ _ p => p | _ => default
theorem ini2 : ini 2 = .Assign [.Attribute (.Name "self" (tA (ini 2))) "_headers" (tB (ini 2))] (.Name "headers" (tC (ini 2))) (tD (ini 2)) := by kernel_rfl
noncomputable def scI : List (Str × NameKind) := (fS (meth 65 0)).names
noncomputable def ρ0 : Fr := ⟨scI, [("headers", .none)], fun _ => .none⟩
noncomputable def ρ1 (i : Nat) : Fr := ⟨scI, [("headers", .ref i)], fun _ => .none⟩
noncomputable def vE : Stmt -> PySem.Expr | .Assign _ e _ => e | _ => .Name "" default
noncomputable def vP : Stmt -> Pos | .Assign [.Name _ p] _ _ => p | _ => default
theorem ini0 : ini 0 = .Assign [.Name "headers" (vP (ini 0))] (vE (ini 0)) (tD (ini 0)) := by kernel_rfl
theorem nc0 : qfm (vE (ini 0)) = true := by kernel_rfl
theorem ev0 (st : Ev.St) : q01 ΓI (vE (ini 0)) ρ0 st = some (.ref st.length, st ++ [.list []]) := by kernel_rfl
theorem q1b {α β : Type} {m : EvM α} {f : α -> EvM β} {st st1 : Ev.St} {a : α} (h : m st = some (a, st1)) : (m >>= f) st = f a st1 := by
 show (m st).bind _ = _
 rw [h]; rfl
noncomputable def tT : Stmt -> PySem.Expr | .If (.Compare t _ _ _) _ _ _ => t | _ => .Name "" default
noncomputable def tR : Stmt -> List Stmt | .If _ b _ _ => b | _ => []
noncomputable def tE : Stmt -> Pos | .If (.Compare _ _ _ p) _ _ _ => p | _ => default
noncomputable def tF : Stmt -> Pos | .If _ _ _ p => p | _ => default
noncomputable def tG : Stmt -> Pos | .If (.Compare _ _ [.Name _ p] _) _ _ _ => p | _ => default
theorem ini1 : ini 1 = .If (.Compare (tT (ini 1)) [.IsNot] [.Name "list" (tG (ini 1))] (tE (ini 1))) (tR (ini 1)) [] (tF (ini 1)) := by kernel_rfl
theorem ev1c (st : Ev.St) (i : Nat) : q01 ΓI (tT (ini 1)) (ρ1 i) st = qfp (.ty "type") [.ref i] [] st := by kernel_rfl
theorem ev1t {st : Ev.St} {i : Nat} (h : st[i]? = some (.list [])) : q0g ΓI (.Compare (tT (ini 1)) [.IsNot] [.Name "list" (tG (ini 1))] (tE (ini 1))) (ρ1 i) (q01 ΓI (.Compare (tT (ini 1)) [.IsNot] [.Name "list" (tG (ini 1))] (tE (ini 1))) (ρ1 i)) st = some (false, st) := by
 have h1 : q01 ΓI (tT (ini 1)) (ρ1 i) st = some (.ty "list", st) := by
  rw [ev1c]
  unfold qfp
  simp only [h]
 simp only [q0g]
 exact (q1b h1).trans (by kernel_rfl)
noncomputable def uT : Stmt -> PySem.Expr | .If t _ _ _ => t | _ => .Name "" default
noncomputable def uF : Stmt -> Stmt | .If _ (f :: _) _ _ => f | _ => .Pass default
noncomputable def uE : Stmt -> Pos | .If _ _ _ p => p | _ => default
noncomputable def fT : Stmt -> PySem.Expr | .For t _ _ _ _ => t | _ => .Name "" default
noncomputable def fI : Stmt -> Pos | .For _ (.Name _ p) _ _ _ => p | _ => default
noncomputable def fO : Stmt -> List Stmt | .For _ _ b _ _ => b | _ => []
noncomputable def fE : Stmt -> Pos | .For _ _ _ _ p => p | _ => default
theorem ini3 : ini 3 = .If (uT (ini 3)) [.For (fT (uF (ini 3))) (.Name "headers" (fI (uF (ini 3)))) (fO (uF (ini 3))) [] (fE (uF (ini 3)))] [] (uE (ini 3)) := by kernel_rfl
theorem ev3 {st : Ev.St} {i : Nat} (h : st[i]? = some (.list [])) : q0m ΓI (ini 3) (ρ1 i) st = some ((.next, ρ1 i), st) := by
 rw [ini3]
 generalize fT (uF (ini 3)) = t
 generalize fO (uF (ini 3)) = body
 generalize fI (uF (ini 3)) = p1
 generalize fE (uF (ini 3)) = p2
 generalize uE (ini 3) = p4
 have h1 : q01 ΓI (.Name "headers" p1) (ρ1 i) st = some (.ref i, st) := by kernel_rfl
 have h2 : q0f ΓI t (.Name "headers" p1) (q01 ΓI (.Name "headers" p1) (ρ1 i)) (ρ1 i) st = some (([], [(i, .list [])]), st) := by
  simp only [q0f]
  refine (q1b h1).trans ?_
  unfold rd srcV q5u
  simp [h]
 have h3 : q0g ΓI (uT (ini 3)) (ρ1 i) (q01 ΓI (uT (ini 3)) (ρ1 i)) st = some (true, st) := by kernel_rfl
 have h4 : q0m ΓI (.For t (.Name "headers" p1) body [] p2) (ρ1 i) st = some ((.next, ρ1 i), st) := by
  simp only [q0m, q0d, if_true]
  exact (q1b h2).trans rfl
 simp only [q0m, q09] at h4 ⊢
 refine (q1b h3).trans ?_
 simp only [if_true]
 exact (q1b h4).trans rfl
theorem qi4 {fd : FuncData} (h : fd.params.posonlyargs.map (·.arg) = [] /\ fd.params.args.map (·.arg) = [("self" : Str), "headers"] /\ fd.params.kwonlyargs.map (·.arg) = [] /\ fd.params.vararg = none /\ fd.params.kwarg = none /\ fd.defaults = .ref 150) {s : Shared} {o : Obj} {n : Nat} (ho : s.heap.get? 150 = some o) (hs : o.data = .seq #[.none] n) (x : Value) :
  BindsTo s fd ⟨[x], []⟩ [("self", x), ("headers", .none)] := by
 obtain ⟨h1, h2, h3, h4, h5, h6⟩ := h
 intro M A E Q hq
 unfold bindArgs
 simp only [h1, h2, h3, h4, h5, h6, List.nil_append, List.forIn_nil, pure_bind]
 refine wpAny_bind (wpAny_seqItems ho hs ?_)
 refine qkh ?_ (wpAny_pure hq)
 kernel_rfl
theorem qjx (w : World) : (KF w.params).lookup 157 = some (q4c w.params) /\ (KF w.params).lookup 156 = some (qlq w.params) /\ (KF w.params).lookup 150 = some (qgm w.params) := ⟨by kernel_rfl, by kernel_rfl, by kernel_rfl⟩
theorem qri (w : World) : (fdOf (q4c w.params)).params.posonlyargs.map (·.arg) = [] /\ (fdOf (q4c w.params)).params.args.map (·.arg) = [("self" : Str), "headers"] /\ (fdOf (q4c w.params)).params.kwonlyargs.map (·.arg) = [] /\
  (fdOf (q4c w.params)).params.vararg = none /\ (fdOf (q4c w.params)).params.kwarg = none /\ (fdOf (q4c w.params)).defaults = .ref 150 := ⟨by kernel_rfl, by kernel_rfl, by kernel_rfl, by kernel_rfl, by kernel_rfl, by kernel_rfl⟩
theorem qjr : (fS (meth 65 0)).kind = .function /\ (fS (meth 65 0)).isCoroutine = false /\ (fS (meth 65 0)).isGenerator = false /\ scI.lookup ("self" : Str) = some .local /\ scI.lookup ("headers" : Str) = some .local /\ scI.all (fun x => x.2 == .local || x.2 == .globalImplicit) = true :=
 ⟨by kernel_rfl, by kernel_rfl, by kernel_rfl, by kernel_rfl, by kernel_rfl, by kernel_rfl⟩
theorem q53 {x : Str} {k : NameKind} (h : scI.lookup x = some k) : k = .local \/ k = .globalImplicit := by
 have := List.all_eq_true.mp qjr.2.2.2.2.2 _ (mem_of_lookup h)
 simpa using this
theorem qji : ∀ {names : List (Str × NameKind)} {m : Nat} {acc : List (Str × Addr)}, names.all (fun x => x.2 == .local || x.2 == .globalImplicit) = true -> cellsFrom m names acc = acc
 | [], _, _, _ => rfl
 | (n, k) :: r, m, acc, h => by
  simp only [List.all_cons, Bool.and_eq_true] at h
  have hk : (k == NameKind.cell) = false := by
   cases k <;> first | rfl | (simp at h)
  unfold cellsFrom
  simp only [hk, Bool.false_eq_true, if_false]
  exact qji h.2
theorem qe3 {w : World} {h : Heap} {as : List Addr} {F : Addr -> Prop} {env : Env} {m : Str -> Option Value} {v : V} {y : Value} (hk : env.scope.kind = .function) (hg : env.globals = 3) (hb : env.builtins = 0) (hs : ∀ x, env.kindOf x = scI.lookup x)
  (hn : h.Ns env.locals m) (hF : F env.locals) (hm : m "headers" = some y) (r : Rep (Bw w) h as F v y) : FrRep (Bw w) h as F env ⟨scI, [("headers", v)], fun _ => .none⟩ where
 kind := hk
 gl := hg
 bl := hb
 loc := ⟨m, hn, fun x u _ hu => by
  by_cases q : x = ("headers" : Str)
  ·subst q
   have : v = u := by simpa using hu
   subst this
   exact ⟨y, hm, r⟩
  ·have hu' : List.lookup x [(("headers" : Str), v)] = some u := hu
   rw [q05 q] at hu'
   simp at hu'⟩
 kindL := fun x hx => by rw [hs]; exact hx
 kindN := fun x hx => by rw [hs] at hx; exact hx
 kindC := fun x hx => by rcases q53 hx with q | q <;> cases q
 kindG := fun x hx => by rw [hs]; exact hx
 cell := fun x hx => by rcases q53 hx with q | q <;> cases q
 apart := fun x _ _ hx => by rcases q53 hx with q | q <;> cases q
 free := fun x hx => by rcases q53 hx with q | q <;> cases q
 ownF := hF
theorem r2o {B : Base} {h : Heap} {as : List Addr} {F : Addr -> Prop} {y : Value} (r : Rep B h as F .none y) : y = .none := by cases r; rfl
theorem qtj {B : Base} {h : Heap} {as : List Addr} {F : Addr -> Prop} {i : Nat} {y : Value} (r : Rep B h as F (.ref i) y) : ∃ a, y = .ref a /\ as[i]? = some a := by cases r; exact ⟨_, rfl, by assumption⟩
theorem qar {w : World} {env : Env} {h : Heap} {as : List Addr} {F : Addr -> Prop} {a : Addr} (q : Own env scI a) : a = env.locals := by
 rcases q with q | ⟨x, hx, _⟩
 ·exact q
 ·rcases q53 hx with q | q <;> cases q
theorem quo {B : Base} {h h' : Heap} {as : List Addr} {F : Addr -> Prop} {st : Ev.St} (i : Ev.Inv B h as F st) (hk : ∀ a o, ¬ F a -> h.get? a = some o -> h'.get? a = some o) (hl : ∀ a, F a -> ∃ o, h'.get? a = some o) : Ev.Inv B h' as F st where
 len := i.len
 nodup := i.nodup
 at_ := fun k a o e e' => (i.at_ k a o e e').mono (List.prefix_refl _) (fun b x h1 h2 h3 => ⟨hk b x h3 h1, h2, h3⟩) (fun x hx => hk a x (i.apart a (List.mem_of_getElem? e)) hx)
 apart := i.apart
 liveF := hl
 base := fun a o e => let b := i.base a o e; ⟨hk a o b.2.2 b.1, b.2⟩
theorem c_sa (w : World) : nsFind (esOf (q16 w.params)) "__setattr__" = none := by kernel_rfl
theorem c_hd (w : World) : nsFind (esOf (q16 w.params)) "_headers" = none := by kernel_rfl
theorem step {M : Model} {A : Around} {env : Env} {t : Stmt} {r : List Stmt} {Q : Flow -> Shared -> Prop} {E : Value -> Shared -> Prop} {s : Shared} (h : wpAny M A (exec t env) (fun fl s'' => fl = .next /\ wpAny M A (execs r env) Q E s'') E s) : wpAny M A (execs (t :: r) env) Q E s := by
 show wpAny _ _ (do match <- exec t env with | .next => execs r env | f => pure f) Q E s
 refine wpAny_bind (wpAny_mono h (fun fl s'' k => ?_) fun _ _ k => k)
 obtain ⟨rfl, k⟩ := k
 exact k
theorem qyv (w : World) {prog : Program} {A : Around} {F : Addr -> Prop} {s : Shared} {as : List Addr} {st : Ev.St} {x dx : Addr} (hh : A.handled = none) (hd : A.depth + 1 < recursionLimit) (hu : A.units + 43 < cLine)
  (i : Ev.Inv (Bw w) s.heap as F st) (hFx : F x) (hFd : F dx) {ox : Obj} (hx : s.heap.get? x = some ox) (hxc : ox.cls = .ref 263) (hxn : ∀ c, ox.data ≠ .cls c) (hxd : ox.dict = some dx) (hne : dx ≠ x) (hnd : s.heap.Ns1 dx fun _ => none)
  {Q : Value -> Shared -> Prop} {E : Value -> Shared -> Prop}
  (hQ : ∀ h' as' tk a o' d', Ev.Inv (Bw w) h' as' F (st ++ [.list []]) -> Ext (fun b => b = x \/ b = dx) s.heap as h' as' -> as'[st.length]? = some a -> h'.get? x = some o' -> h'.get? dx = some d' -> HdObj 263 x dx a o' d' -> s.toks <= tk -> Q .none { s with heap := h', toks := tk }) :
  wpAny (model prog w) A (call (.ref 157) [.ref x]) Q E s := by
 obtain ⟨lk, lkc, lkd⟩ := qjx w
 obtain ⟨sk, sco, sge, ss, sh, sall⟩ := qjr
 have X : (KF w.params).In s.heap := fun a o e => (i.base a o e).1
 refine wpAny_with_toks (n := s.toks) (Nat.le_refl _) (wpAny_call (codeAny_call_function (by omega) (X _ _ lk) (o := q4c w.params) (fd := fdOf (q4c w.params)) rfl sco sge rfl ⟨156, qlq w.params, _, _, rfl, X _ _ lkc, rfl, rfl⟩ ?_))
 refine qi4 (qri w) (X _ _ lkd) rfl (.ref x) _ _ _ _ ?_
 refine wpAny_newFunctionEnv_cells sk (fun p hp => ?_) fun env he s2 hin => ?_
 ·refine .inl ?_
  simp only [List.mem_cons, List.not_mem_nil, or_false] at hp
  rcases hp with rfl | rfl
  ·exact ss
  ·exact sh
 have eL : env.locals = s.heap.objs.size := by rw [he]; rfl
 have eS : env.scope = fS (meth 65 0) := by rw [he]; rfl
 have kindOf : ∀ y, env.kindOf y = scI.lookup y := fun y => by unfold Env.kindOf; rw [eS]; rfl
 obtain ⟨h2, tk2, rfl⟩ := hin.toInCall.same
 have hk2 : ∀ a o, s.heap.get? a = some o -> h2.get? a = some o := hin.toInCall.keep
 have X2 : (KF w.params).In h2 := fun a o e => hk2 a o (X a o e)
 refine ⟨q8g w _ X2, codeAny_func ?_⟩
 have hL : ∀ a ∈ [s.heap.objs.size], s.heap.get? a = none := fun a ha => by rw [List.mem_singleton.mp ha]; exact q0a _
 have hlive : ∀ a ∈ [s.heap.objs.size], ∃ o, h2.get? a = some o := fun a ha => by
  rw [List.mem_singleton.mp ha, <- eL]
  obtain ⟨o, _, _, ho, _⟩ := hin.toInCall.ns
  exact ⟨o, ho⟩
 have hLF : ∀ a ∈ [s.heap.objs.size], ¬ F a := fun a ha => (i.fresh (hL a ha)).2
 have i2 : Ev.Inv (Bw w) h2 as (Fu F [s.heap.objs.size]) st := i.more hk2 hL hlive
 have hk' : env.scope.kind = .function := by rw [eS]; exact sk
 have hg' : env.globals = 3 := by rw [he]; rfl
 have hb' : env.builtins = 0 := by rw [he]; rfl
 have hFl : Fu F [s.heap.objs.size] env.locals := .inr (by rw [eL]; exact List.mem_cons_self)
 have nd : ([("self" : Str), "headers"] : List Str).Nodup := by decide +kernel
 have hn2 := hin.toInCall.ns
 generalize hm0 : bindL env.kindOf [(("self" : Str), Value.ref x), ("headers", .none)] (fun _ => none) = m0 at hn2
 have ms : m0 "self" = some (.ref x) := by rw [<- hm0]; exact q4o nd q04 (by rw [kindOf]; exact ss)
 have mh : m0 "headers" = some .none := by rw [<- hm0]; exact q4o nd (by rw [q05 (by decide +kernel)]; exact q04) (by rw [kindOf]; exact sh)
 have f2 : FrRep (Bw w) h2 as (Fu F [s.heap.objs.size]) env ρ0 := qe3 hk' hg' hb' kindOf hn2 hFl mh .none
 have hA' : Room (A.deeper env) 0 := ⟨hh, by show A.depth + 1 + 3 * 0 < _; omega, by show A.units + 3 + 10 * 0 + 40 < _; omega⟩
 have C : CtxOk (Bw w) prog w ΓI 0 := ctxI w 0
 have hxl : x ≠ env.locals := fun q => hLF env.locals (by rw [eL]; exact List.mem_cons_self) (q ▸ hFx)
 have hdl : dx ≠ env.locals := fun q => hLF env.locals (by rw [eL]; exact List.mem_cons_self) (q ▸ hFd)
 have hF' : ∀ {a}, F a -> Fu F [s.heap.objs.size] a := fun q => .inl q
 rw [show fB (meth 65 0) = [ini 0, ini 1, ini 2, ini 3] from qt5]
 refine step ?_
 rw [ini0]
 refine wpAny_Assign_Name ?_ (q58 nc0 _ _ _)
 refine (q79 C qlm _ (vE (ini 0)) (Nat.lt_succ_self _)).1 _ _ _ _ hA' { s with heap := h2, toks := tk2 } as st f2 i2 _ _ (ev0 st) _ _ fun y h3 as3 tk3 ry i3 e3 ht3 => ?_
 obtain ⟨a, rfl, ha⟩ := qtj ry
 have hn3 : h3.Ns env.locals m0 := by
  obtain ⟨o, es, ep, ho, r⟩ := hn2
  exact ⟨o, es, ep, e3.keep _ _ ho (fun q => i2.apart _ q hFl) id, r⟩
 refine wpAny_storeName_local (by rw [kindOf]; exact sh) hn3 (fun h4 hn4 hs4 => ?_) (by rw [hk']; rfl)
 refine ⟨rfl, ?_⟩
 have hk4 : ∀ a o, a ≠ env.locals -> h3.get? a = some o -> h4.get? a = some o := fun a o q e => (hs4.2 a q).trans e
 have hl4 : ∃ o, h4.get? env.locals = some o := by obtain ⟨o, _, _, ho, _⟩ := hn4; exact ⟨o, ho⟩
 have i4 : Ev.Inv (Bw w) h4 as3 (Fu F [s.heap.objs.size]) (st ++ [.list []]) := i3.atF hFl hk4 hl4
 have e4 : Ext (· = env.locals) h3 as3 h4 as3 := Ext.atF hk4 hl4
 have f4 : FrRep (Bw w) h4 as3 (Fu F [s.heap.objs.size]) env (ρ1 st.length) := qe3 hk' hg' hb' kindOf hn4 hFl (if_pos rfl) (.ref ha)
 have hst : (st ++ [O.list []])[st.length]? = some (.list []) := by simp
 have ms4 : (fun z => if z = ("headers" : Str) then some (Value.ref a) else m0 z) "self" = some (.ref x) := by
  show (if ("self" : Str) = ("headers" : Str) then some (Value.ref a) else m0 "self") = _
  rw [if_neg (by decide +kernel)]; exact ms
 generalize hm4 : (fun z => if z = ("headers" : Str) then some (Value.ref a) else m0 z) = m4 at hn4 ms4
 have mh4 : m4 "headers" = some (.ref a) := by rw [<- hm4]; exact if_pos rfl
 refine step ?_
 rw [ini1]
 refine wpAny_If ((q79 C qlm _ _ (Nat.lt_succ_self _)).2 _ _ _ _ hA' { s with heap := h4, toks := tk3 + 1 } as3 _ f4 i4 _ _ (ev1t hst) _ _ fun c h5 as5 tk5 rc i5 e5 ht5 => ?_)
 cases (rc : false = c)
 rw [if_neg (by decide)]
 refine wpAny_pure ⟨rfl, ?_⟩
 have hn5 : h5.Ns env.locals m4 := by
  obtain ⟨o, es, ep, ho, r⟩ := hn4
  exact ⟨o, es, ep, e5.keep _ _ ho (fun q => i4.apart _ q hFl) id, r⟩
 have ha5 : as5[st.length]? = some a := qmq e5.pre ha
 have keep5 : ∀ b o, s.heap.get? b = some o -> F b -> h5.get? b = some o := fun b o e hb => by
  have hb' : b ≠ env.locals := fun q => hLF env.locals (by rw [eL]; exact List.mem_cons_self) (q ▸ hb)
  have g2 := hk2 b o e
  have g3 := e3.keep b o g2 (fun q => i2.apart _ q (hF' hb)) id
  have g4 := hk4 b o hb' g3
  exact e5.keep b o g4 (fun q => i4.apart _ q (hF' hb)) id
 refine step ?_
 rw [ini2]
 refine plainObj_wpAny_Assign_Attribute (wpAny_Name (wpAny_loadName_local hk' (by rw [kindOf]; exact sh) hn5 mh4 ?_)) (q58 (by rfl) _ _ _)
 refine wpAny_Name (wpAny_loadName_local hk' (by rw [kindOf]; exact ss) hn5 ms4 ?_)
 have X5 : (KF w.params).In h5 := fun a o e => (i5.base a o e).1
 have hn5c := qb3 X5 (qgq w) (qo7 w)
 have hx5 := keep5 x ox hx hFx
 have hnd5 : h5.Ns1 dx fun _ => none := by
  obtain ⟨o, es, ep, ho, r⟩ := hnd
  exact ⟨o, es, ep, keep5 dx o ho hFd, r⟩
 have I5 : h5.Inst x 263 fun _ => none := ⟨ox, hx5, hxc, hxn, .inr ⟨dx, hxd, hne, hnd5⟩⟩
 have hx263 : x ≠ 263 := fun q => (i5.base 263 _ (qby w)).2.2 (.inl (q ▸ hFx))
 refine wpAny_with_toks (n := tk5) (Nat.le_refl _) (store_attr PySem.F.store_object (X5 _ _ (qby w)) hn5c (c_sa w) (c_hd w) (by rw [typeLookup_type, builtinLookup_eq_fast]; kernel_rfl) hx263 I5 fun h6 tk6 I6 hk6 hs6 ht6 => ?_)
 refine ⟨rfl, ?_⟩
 obtain ⟨o6, ho6, hc6, hd6, _, hdd6⟩ := hs6 ox hx5
 have hdx6 := hdd6 dx hxd
 have keep6 : ∀ b o, b ≠ x -> b ≠ dx -> h5.get? b = some o -> h6.get? b = some o := fun b o q1 q2 e => hk6 b o q1 (fun o₀ d' e1 e2 => by
  rw [hx5] at e1; cases e1; rw [hxd] at e2; cases e2; exact q2) e
 have hN6 : ∃ d6, h6.get? dx = some d6 /\ HdObj 263 x dx a o6 d6 := by
  obtain ⟨o', e', _, _, hdd⟩ := I6
  rw [ho6] at e'; cases e'
  rcases hdd with ⟨hn0, _⟩ | ⟨d', hd', _, ⟨d6, es, ep, g1, g2, g3, g4, g5⟩⟩
  ·rw [hdx6] at hn0; cases hn0
  ·rw [hdx6] at hd'; cases hd'
   exact ⟨d6, g1, hc6.trans hxc, fun c => by rw [hd6]; exact hxn c, hdx6, hne, es, ep, g2, g3, g4, g5⟩
 obtain ⟨d6, hd6o, H6⟩ := hN6
 have i6 : Ev.Inv (Bw w) h6 as5 (Fu F [s.heap.objs.size]) (st ++ [.list []]) := quo i5 (fun b o hb e => keep6 b o (fun q => hb (.inl (q ▸ hFx))) (fun q => hb (.inl (q ▸ hFd))) e) fun b hb => by
  by_cases q1 : b = x
  ·subst q1; exact ⟨_, ho6⟩
  ·by_cases q2 : b = dx
   ·subst q2; exact ⟨_, hd6o⟩
   ·obtain ⟨o, ho⟩ := i5.liveF b hb; exact ⟨o, keep6 b o q1 q2 ho⟩
 have hn6 : h6.Ns env.locals m4 := by
  obtain ⟨o, es, ep, ho, r⟩ := hn5
  exact ⟨o, es, ep, keep6 _ _ (Ne.symm hxl) (Ne.symm hdl) ho, r⟩
 have f6 : FrRep (Bw w) h6 as5 (Fu F [s.heap.objs.size]) env (ρ1 st.length) := qe3 hk' hg' hb' kindOf hn6 hFl mh4 (.ref ha5)
 refine step ?_
 refine (qev C qlm _ (ini 3) (Nat.lt_succ_self _)) _ _ _ _ hA' { s with heap := h6, toks := tk6 } as5 _ f6 i6 _ _ _ (ev3 hst) _ _ fun y h7 as7 tk7 ry sc7 f7 i7 e7 ht7 => ?_
 cases ry
 refine ⟨rfl, ?_⟩
 refine wpAny_pure ?_
 intro htk
 have hx7 : h7.get? x = some o6 := e7.keep _ _ ho6 (fun q => i6.apart _ q (.inl hFx)) fun q => hxl (qar (w := w) (h := h7) (as := as) (F := F) q)
 have hd7 : h7.get? dx = some d6 := e7.keep _ _ hd6o (fun q => i6.apart _ q (.inl hFd)) fun q => hdl (qar (w := w) (h := h7) (as := as) (F := F) q)
 have lw : ∀ b, b = env.locals -> (b = x \/ b = dx) \/ b ∈ [s.heap.objs.size] := fun b q => .inr (by rw [q, eL]; exact List.mem_cons_self)
 have E : Ext (fun b => (b = x \/ b = dx) \/ b ∈ [s.heap.objs.size]) s.heap as h7 as7 :=
  (Ext.keeps hk2).trans ((e3.weak fun _ q => q.elim).trans ((e4.weak lw).trans ((e5.weak fun _ q => q.elim).trans (Ext.trans (as₂ := as5) (h₂ := h6)
   ⟨List.prefix_refl _, fun _ q => .inl q, fun b o e _ hg => keep6 b o (fun q => hg (.inl (.inl q))) (fun q => hg (.inl (.inr q))) e, fun b o e => by
    by_cases q1 : b = x
    ·subst q1; exact ⟨_, ho6⟩
    ·by_cases q2 : b = dx
     ·subst q2; exact ⟨_, hd6o⟩
     ·exact ⟨o, keep6 b o q1 q2 e⟩⟩ (e7.weak fun b q => lw b (qar (w := w) (h := h7) (as := as) (F := F) q))))))
 exact hQ h7 as7 tk7 a o6 d6 (i7.drop hLF fun _ _ _ e => e) (E.thenL (fun _ _ _ e => e) hL) (qmq e7.pre ha5) hx7 hd7 H6 htk
end Mine
end
section
namespace Mine
open Ev
theorem qzf (w : World) : nsFind (esOf (q16 w.params)) "__init__" = some (.ref 157) := by kernel_rfl
theorem quf : (Code.builtin "type.__call__" ⟨[.ref 263], []⟩).weight = 1 /\ (Code.builtin "type.__call__" ⟨[.ref 263], []⟩).cUnits = 1 := by constructor <;> kernel_rfl
theorem r4u (w : World) {prog : Program} (Γ : Ev.Ctx) (A : Around) (F : Addr -> Prop) (s : Shared) (as : List Addr) (st : Ev.St) (vs : List V) (xs : List Value) (hA : Room A 1) (i : Ev.Inv (Bw w) s.heap as F st) (rs : Reps (Bw w) s.heap as F vs xs) :
  Sim (Bw w) prog w A F no (RV (Bw w) F) (call (.ref (Bw w).cls) xs []) (ctor Γ "Headers" vs) s as st := by
 intro v st' hv Q E hQ
 cases vs with
 | cons a r =>
  have h : (bad : EvM V) st = some (v, st') := hv
  exact (q02 h).elim
 | nil =>
  cases rs
  have h : some (V.hd st.length, st ++ [O.list []]) = some (v, st') := hv
  cases h
  clear hv
  obtain ⟨hh, g, d, t, os⟩ := s
  have X : (KF w.params).In hh := fun a o e => (i.base a o e).1
  have hn := qb3 X (qgq w) (qo7 w)
  refine wpAny_with_toks (n := t) (Nat.le_refl _) (wpAny_call_obj_init PySem.F.objNew (X _ _ (qby w)) hn (qzf w) (X _ _ (qjx w).1) rfl fun h' x dx Mk => ?_)
  obtain ⟨ox, hx, hcx, hncx, hdx⟩ := Mk.inst
  have hdd := Mk.dict ox hx
  have hnsd : h'.Ns1 dx fun _ => none := by
   rcases hdx with ⟨hn0, _⟩ | ⟨d', hd', _, hns'⟩
   ·rw [hn0] at hdd; cases hdd
   ·obtain rfl := Option.some.inj (hd'.symm.trans hdd); exact hns'
  have hne : dx ≠ x := by
   rcases hdx with ⟨hn0, _⟩ | ⟨d', hd', hne', _⟩
   ·rw [hn0] at hdd; cases hdd
   ·obtain rfl := Option.some.inj (hd'.symm.trans hdd); exact hne'
  have hL : ∀ a ∈ [x, dx], hh.get? a = none := fun a ha => by
   simp only [List.mem_cons, List.not_mem_nil, or_false] at ha
   rcases ha with rfl | rfl
   ·exact Mk.newX
   ·exact Mk.newD
  have hlive : ∀ a ∈ [x, dx], ∃ o, h'.get? a = some o := fun a ha => by
   simp only [List.mem_cons, List.not_mem_nil, or_false] at ha
   rcases ha with rfl | rfl
   ·exact ⟨_, hx⟩
   ·obtain ⟨o, _, _, e, _⟩ := hnsd; exact ⟨o, e⟩
  have hLF : ∀ a ∈ [x, dx], ¬ F a := fun a ha => (i.fresh (hL a ha)).2
  have i1 : Ev.Inv (Bw w) h' as (Fu F [x, dx]) st := i.more Mk.keeps hL hlive
  obtain ⟨w1, w2⟩ := quf
  have hD := hA.depth
  have hU := hA.units
  refine qyv w (A := A.under (.builtin "type.__call__" ⟨[.ref (Bw w).cls], []⟩)) (s := ⟨h', g, d, t, os⟩) (F := Fu F [x, dx]) (x := x) (dx := dx) hA.hh ?_ ?_ i1 (.inr (by simp)) (.inr (by simp)) hx hcx hncx hdd hne hnsd fun h'' as' tk a o' d' i2 e2 ha hx2 hd2 H ht => ?_
  ·show A.depth + (Code.builtin "type.__call__" ⟨[.ref 263], []⟩).weight + 1 < _
   rw [w1]; omega
  ·show A.units + (Code.builtin "type.__call__" ⟨[.ref 263], []⟩).cUnits + 43 < _
   rw [w2]; omega
  refine ⟨rfl, fun htk => ?_⟩
  have E0 : Ext (fun b => no b \/ b ∈ [x, dx]) hh as h'' as' := (Ext.keeps Mk.keeps).trans (e2.weak fun b q => .inr (by rcases q with rfl | rfl <;> simp))
  have hxa : x ∉ as' := fun q => (e2.new x q).elim (fun q => (i1.apart _ q (.inr (by simp)))) fun q => by rw [hx] at q; cases q
  have hda : dx ∉ as' := fun q => (e2.new dx q).elim (fun q => (i1.apart _ q (.inr (by simp)))) fun q => by obtain ⟨o, ho⟩ := hlive dx (by simp); rw [show h'.get? dx = none from q] at ho; cases ho
  exact hQ (.ref x) h'' as' tk (.hd ha hx2 hxa (hLF x (by simp)) hd2 H hda (hLF dx (by simp))) (i2.drop hLF fun _ _ _ e => e) (E0.thenL (fun _ _ _ e => e) hL) htk
end Mine
end
section
namespace Mine
open Ev
noncomputable def b1L : List Int := [65024, 65025, 65026, 65027, 65028, 65029, 6150, 65030, 65031, 65032, 65033, 6155, 6156, 6157, 8203, 8204, 8205, 65034, 65035, 65036, 65037, 65038, 65039, 173, 847, 8288, 65279]
noncomputable def b3V : List (Int × List Nat) := [(181, [956]), (223, [115, 115]), (304, [105, 775]), (329, [700, 110]), (383, [115]), (496, [106, 780]), (837, [953]), (890, [32, 953]), (912, [953, 776, 769]), (944, [965, 776, 769]), (962, [963]), (976, [946]), (977, [952]), (978, [965]), (979, [973]), (980, [971]), (981, [966]), (982, [960]), (1008, [954]), (1009, [961]), (1010, [963]), (1013, [949]), (1415, [1381, 1410]), (7830, [104, 817]), (7831, [116, 776]), (7832, [119, 778]), (7833, [121, 778]), (7834, [97, 702]), (7835, [7777]), (8016, [965, 787]), (8018, [965, 787, 768]), (8020, [965, 787, 769]), (8022, [965, 787, 834]), (8064, [7936, 953]), (8065, [7937, 953]), (8066, [7938, 953]), (8067, [7939, 953]), (8068, [7940, 953]), (8069, [7941, 953]), (8070, [7942, 953]), (8071, [7943, 953]), (8072, [7936, 953]), (8073, [7937, 953]), (8074, [7938, 953]), (8075, [7939, 953]), (8076, [7940, 953]), (8077, [7941, 953]), (8078, [7942, 953]), (8079, [7943, 953]), (8080, [7968, 953]), (8081, [7969, 953]), (8082, [7970, 953]), (8083, [7971, 953]), (8084, [7972, 953]), (8085, [7973, 953]), (8086, [7974, 953]), (8087, [7975, 953]), (8088, [7968, 953]), (8089, [7969, 953]), (8090, [7970, 953]), (8091, [7971, 953]), (8092, [7972, 953]), (8093, [7973, 953]), (8094, [7974, 953]), (8095, [7975, 953]), (8096, [8032, 953]), (8097, [8033, 953]), (8098, [8034, 953]), (8099, [8035, 953]), (8100, [8036, 953]), (8101, [8037, 953]), (8102, [8038, 953]), (8103, [8039, 953]), (8104, [8032, 953]), (8105, [8033, 953]), (8106, [8034, 953]), (8107, [8035, 953]), (8108, [8036, 953]), (8109, [8037, 953]), (8110, [8038, 953]), (8111, [8039, 953]), (8114, [8048, 953]), (8115, [945, 953]), (8116, [940, 953]), (8118, [945, 834]), (8119, [945, 834, 953]), (8124, [945, 953]), (8126, [953]), (8130, [8052, 953]), (8131, [951, 953]), (8132, [942, 953]), (8134, [951, 834]), (8135, [951, 834, 953]), (8140, [951, 953]), (8146, [953, 776, 768]), (8147, [953, 776, 769]), (8150, [953, 834]), (8151, [953, 776, 834]), (8162, [965, 776, 768]), (8163, [965, 776, 769]), (8164, [961, 787]), (8166, [965, 834]), (8167, [965, 776, 834]), (8178, [8060, 953]), (8179, [969, 953]), (8180, [974, 953]), (8182, [969, 834]), (8183, [969, 834, 953]), (8188, [969, 953]), (8360, [114, 115]), (8450, [99]), (8451, [176, 99]), (8455, [603]), (8457, [176, 102]), (8459, [104]), (8460, [104]), (8461, [104]), (8464, [105]), (8465, [105]), (8466, [108]), (8469, [110]), (8470, [110, 111]), (8473, [112]), (8474, [113]), (8475, [114]), (8476, [114]), (8477, [114]), (8480, [115, 109]), (8481, [116, 101, 108]), (8482, [116, 109]), (8484, [122]), (8488, [122]), (8492, [98]), (8493, [99]), (8496, [101]), (8497, [102]), (8499, [109]), (8510, [947]), (8511, [960]), (8517, [100]), (13169, [104, 112, 97]), (13171, [97, 117]), (13173, [111, 118]), (13184, [112, 97]), (13185, [110, 97]), (13186, [956, 97]), (13187, [109, 97]), (13188, [107, 97]), (13189, [107, 98]), (13190, [109, 98]), (13191, [103, 98]), (13194, [112, 102]), (13195, [110, 102]), (13196, [956, 102]), (13200, [104, 122]), (13201, [107, 104, 122]), (13202, [109, 104, 122]), (13203, [103, 104, 122]), (13204, [116, 104, 122]), (13225, [112, 97]), (13226, [107, 112, 97]), (13227, [109, 112, 97]), (13228, [103, 112, 97]), (13236, [112, 118]), (13237, [110, 118]), (13238, [956, 118]), (13239, [109, 118]), (13240, [107, 118]), (13241, [109, 118]), (13242, [112, 119]), (13243, [110, 119]), (13244, [956, 119]), (13245, [109, 119]), (13246, [107, 119]), (13247, [109, 119]), (13248, [107, 969]), (13249, [109, 969]), (13251, [98, 113]), (13254, [99, 8725, 107, 103]), (13255, [99, 111, 46]), (13256, [100, 98]), (13257, [103, 121]), (13259, [104, 112]), (13261, [107, 107]), (13262, [107, 109]), (13271, [112, 104]), (13273, [112, 112, 109]), (13274, [112, 114]), (13276, [115, 118]), (13277, [119, 98]), (64256, [102, 102]), (64257, [102, 105]), (64258, [102, 108]), (64259, [102, 102, 105]), (64260, [102, 102, 108]), (64261, [115, 116]), (64262, [115, 116]), (64275, [1396, 1398]), (64276, [1396, 1381]), (64277, [1396, 1387]), (64278, [1406, 1398]), (64279, [1396, 1389]), (119808, [97]), (119809, [98]), (119810, [99]), (119811, [100]), (119812, [101]), (119813, [102]), (119814, [103]), (119815, [104]), (119816, [105]), (119817, [106]), (119818, [107]), (119819, [108]), (119820, [109]), (119821, [110]), (119822, [111]), (119823, [112]), (119824, [113]), (119825, [114]), (119826, [115]), (119827, [116]), (119828, [117]), (119829, [118]), (119830, [119]), (119831, [120]), (119832, [121]), (119833, [122]), (119860, [97]), (119861, [98]), (119862, [99]), (119863, [100]), (119864, [101]), (119865, [102]), (119866, [103]), (119867, [104]), (119868, [105]), (119869, [106]), (119870, [107]), (119871, [108]), (119872, [109]), (119873, [110]), (119874, [111]), (119875, [112]), (119876, [113]), (119877, [114]), (119878, [115]), (119879, [116]), (119880, [117]), (119881, [118]), (119882, [119]), (119883, [120]), (119884, [121]), (119885, [122]), (119912, [97]), (119913, [98]), (119914, [99]), (119915, [100]), (119916, [101]), (119917, [102]), (119918, [103]), (119919, [104]), (119920, [105]), (119921, [106]), (119922, [107]), (119923, [108]), (119924, [109]), (119925, [110]), (119926, [111]), (119927, [112]), (119928, [113]), (119929, [114]), (119930, [115]), (119931, [116]), (119932, [117]), (119933, [118]), (119934, [119]), (119935, [120]), (119936, [121]), (119937, [122]), (119964, [97]), (119966, [99]), (119967, [100]), (119970, [103]), (119973, [106]), (119974, [107]), (119977, [110]), (119978, [111]), (119979, [112]), (119980, [113]), (119982, [115]), (119983, [116]), (119984, [117]), (119985, [118]), (119986, [119]), (119987, [120]), (119988, [121]), (119989, [122]), (120016, [97]), (120017, [98]), (120018, [99]), (120019, [100]), (120020, [101]), (120021, [102]), (120022, [103]), (120023, [104]), (120024, [105]), (120025, [106]), (120026, [107]), (120027, [108]), (120028, [109]), (120029, [110]), (120030, [111]), (120031, [112]), (120032, [113]), (120033, [114]), (120034, [115]), (120035, [116]), (120036, [117]), (120037, [118]), (120038, [119]), (120039, [120]), (120040, [121]), (120041, [122]), (120068, [97]), (120069, [98]), (120071, [100]), (120072, [101]), (120073, [102]), (120074, [103]), (120077, [106]), (120078, [107]), (120079, [108]), (120080, [109]), (120081, [110]), (120082, [111]), (120083, [112]), (120084, [113]), (120086, [115]), (120087, [116]), (120088, [117]), (120089, [118]), (120090, [119]), (120091, [120]), (120092, [121]), (120120, [97]), (120121, [98]), (120123, [100]), (120124, [101]), (120125, [102]), (120126, [103]), (120128, [105]), (120129, [106]), (120130, [107]), (120131, [108]), (120132, [109]), (120134, [111]), (120138, [115]), (120139, [116]), (120140, [117]), (120141, [118]), (120142, [119]), (120143, [120]), (120144, [121]), (120172, [97]), (120173, [98]), (120174, [99]), (120175, [100]), (120176, [101]), (120177, [102]), (120178, [103]), (120179, [104]), (120180, [105]), (120181, [106]), (120182, [107]), (120183, [108]), (120184, [109]), (120185, [110]), (120186, [111]), (120187, [112]), (120188, [113]), (120189, [114]), (120190, [115]), (120191, [116]), (120192, [117]), (120193, [118]), (120194, [119]), (120195, [120]), (120196, [121]), (120197, [122]), (120224, [97]), (120225, [98]), (120226, [99]), (120227, [100]), (120228, [101]), (120229, [102]), (120230, [103]), (120231, [104]), (120232, [105]), (120233, [106]), (120234, [107]), (120235, [108]), (120236, [109]), (120237, [110]), (120238, [111]), (120239, [112]), (120240, [113]), (120241, [114]), (120242, [115]), (120243, [116]), (120244, [117]), (120245, [118]), (120246, [119]), (120247, [120]), (120248, [121]), (120249, [122]), (120276, [97]), (120277, [98]), (120278, [99]), (120279, [100]), (120280, [101]), (120281, [102]), (120282, [103]), (120283, [104]), (120284, [105]), (120285, [106]), (120286, [107]), (120287, [108]), (120288, [109]), (120289, [110]), (120290, [111]), (120291, [112]), (120292, [113]), (120293, [114]), (120294, [115]), (120295, [116]), (120296, [117]), (120297, [118]), (120298, [119]), (120299, [120]), (120300, [121]), (120301, [122]), (120328, [97]), (120329, [98]), (120330, [99]), (120331, [100]), (120332, [101]), (120333, [102]), (120334, [103]), (120335, [104]), (120336, [105]), (120337, [106]), (120338, [107]), (120339, [108]), (120340, [109]), (120341, [110]), (120342, [111]), (120343, [112]), (120344, [113]), (120345, [114]), (120346, [115]), (120347, [116]), (120348, [117]), (120349, [118]), (120350, [119]), (120351, [120]), (120352, [121]), (120353, [122]), (120380, [97]), (120381, [98]), (120382, [99]), (120383, [100]), (120384, [101]), (120385, [102]), (120386, [103]), (120387, [104]), (120388, [105]), (120389, [106]), (120390, [107]), (120391, [108]), (120392, [109]), (120393, [110]), (120394, [111]), (120395, [112]), (120396, [113]), (120397, [114]), (120398, [115]), (120399, [116]), (120400, [117]), (120401, [118]), (120402, [119]), (120403, [120]), (120404, [121]), (120405, [122]), (120432, [97]), (120433, [98]), (120434, [99]), (120435, [100]), (120436, [101]), (120437, [102]), (120438, [103]), (120439, [104]), (120440, [105]), (120441, [106]), (120442, [107]), (120443, [108]), (120444, [109]), (120445, [110]), (120446, [111]), (120447, [112]), (120448, [113]), (120449, [114]), (120450, [115]), (120451, [116]), (120452, [117]), (120453, [118]), (120454, [119]), (120455, [120]), (120456, [121]), (120457, [122]), (120488, [945]), (120489, [946]), (120490, [947]), (120491, [948]), (120492, [949]), (120493, [950]), (120494, [951]), (120495, [952]), (120496, [953]), (120497, [954]), (120498, [955]), (120499, [956]), (120500, [957]), (120501, [958]), (120502, [959]), (120503, [960]), (120504, [961]), (120505, [952]), (120506, [963]), (120507, [964]), (120508, [965]), (120509, [966]), (120510, [967]), (120511, [968]), (120512, [969]), (120531, [963]), (120546, [945]), (120547, [946]), (120548, [947]), (120549, [948]), (120550, [949]), (120551, [950]), (120552, [951]), (120553, [952]), (120554, [953]), (120555, [954]), (120556, [955]), (120557, [956]), (120558, [957]), (120559, [958]), (120560, [959]), (120561, [960]), (120562, [961]), (120563, [952]), (120564, [963]), (120565, [964]), (120566, [965]), (120567, [966]), (120568, [967]), (120569, [968]), (120570, [969]), (120589, [963]), (120604, [945]), (120605, [946]), (120606, [947]), (120607, [948]), (120608, [949]), (120609, [950]), (120610, [951]), (120611, [952]), (120612, [953]), (120613, [954]), (120614, [955]), (120615, [956]), (120616, [957]), (120617, [958]), (120618, [959]), (120619, [960]), (120620, [961]), (120621, [952]), (120622, [963]), (120623, [964]), (120624, [965]), (120625, [966]), (120626, [967]), (120627, [968]), (120628, [969]), (120647, [963]), (120662, [945]), (120663, [946]), (120664, [947]), (120665, [948]), (120666, [949]), (120667, [950]), (120668, [951]), (120669, [952]), (120670, [953]), (120671, [954]), (120672, [955]), (120673, [956]), (120674, [957]), (120675, [958]), (120676, [959]), (120677, [960]), (120678, [961]), (120679, [952]), (120680, [963]), (120681, [964]), (120682, [965]), (120683, [966]), (120684, [967]), (120685, [968]), (120686, [969]), (120705, [963]), (120720, [945]), (120721, [946]), (120722, [947]), (120723, [948]), (120724, [949]), (120725, [950]), (120726, [951]), (120727, [952]), (120728, [953]), (120729, [954]), (120730, [955]), (120731, [956]), (120732, [957]), (120733, [958]), (120734, [959]), (120735, [960]), (120736, [961]), (120737, [952]), (120738, [963]), (120739, [964]), (120740, [965]), (120741, [966]), (120742, [967]), (120743, [968]), (120744, [969]), (120763, [963])]
noncomputable def tkV : List (List Nat × Int) := [([33], 54), ([33, 61], 28), ([37], 24), ([37, 61], 40), ([38], 19), ([38, 61], 41), ([40], 7), ([41], 8), ([42], 16), ([42, 42], 35), ([42, 42, 61], 46), ([42, 61], 38), ([43], 14), ([43, 61], 36), ([44], 12), ([45], 15), ([45, 61], 37), ([45, 62], 51), ([46], 23), ([46, 46, 46], 52), ([47], 17), ([47, 47], 47), ([47, 47, 61], 48), ([47, 61], 39), ([58], 11), ([58, 61], 53), ([59], 13), ([60], 20), ([60, 60], 33), ([60, 60, 61], 44), ([60, 61], 29), ([61], 22), ([61, 61], 27), ([62], 21), ([62, 61], 30), ([62, 62], 34), ([62, 62, 61], 45), ([64], 49), ([64, 61], 50), ([91], 9), ([93], 10), ([94], 32), ([94, 61], 43), ([123], 25), ([124], 18), ([124, 61], 42), ([125], 26), ([126], 31)]
noncomputable def gd03 (x : Str) : Option (List (V × V)) :=
 if x = ("b1_set" : Str) then some (b1L.map fun n => (.int n, .none))
 else if x = ("b3_exceptions" : Str) then some (b3V.map fun p => (.int p.1, .str p.2))
 else if x = ("EXACT_TOKEN_TYPES" : Str) then some (tkV.map fun p => (.str p.1, .int p.2))
 else .none
end Mine
end
section
namespace Mine
open PySem.Builtin.Re
noncomputable def qyo (code : Array Nat) : List Nat -> Prop
 | [] => True
 | c :: r => (∀ seen, ∃ seen', Sre.inSet code c code.size 5 true seen = .ok (false, seen')) /\ qyo code r
theorem q56 {m : Sre.M} (hc : ∀ i, i < m.lim -> ∀ seen, ∃ seen', Sre.inSet m.code (m.text.getD i 0) m.code.size 5 true seen = .ok (false, seen')) :
  ∀ (fuel s : Nat) (seen : Sre.Seen), ∃ seen', Sre.M.admitted m fuel s seen = .ok (none, seen')
 | 0, s, seen => ⟨seen, rfl⟩
 | fuel + 1, s, seen => by
  unfold Sre.M.admitted
  by_cases h : s ≥ m.lim
  ·rw [if_pos h]; exact ⟨_, rfl⟩
  ·rw [if_neg h]
   obtain ⟨seen', e⟩ := hc s (by omega) seen
   rw [e]
   exact q56 hc fuel (s + 1) seen'
noncomputable def q7j (m : Sre.M) : Prop := m.answer = some false /\ m.frames = [] /\ m.outcome = none
theorem r2b {m : Sre.M} (h1 : m.frames = []) (h2 : m.outcome = none) : q7j (m.say false) := ⟨rfl, h1, h2⟩
theorem qil (m : Sre.M) (hf : m.hasFirstSet = true) (hc : ∀ i, i < m.lim -> ∀ seen, ∃ seen', Sre.inSet m.code (m.text.getD i 0) m.code.size 5 true seen = .ok (false, seen')) (h1 : m.frames = []) (h2 : m.outcome = none) : q7j (m.attemptFrom 0 true) := by
 unfold Sre.M.attemptFrom
 rw [hf]
 simp only [Bool.not_true, Bool.false_eq_true, if_false]
 obtain ⟨seen', e'⟩ := q56 hc (m.lim + 1 - 0) 0 m.seen
 rw [e']
 exact ⟨rfl, h1, h2⟩
theorem qlp {code text : Array Nat} {groups lim : Nat} (h1 : ∀ m : Sre.M, m.code = code -> m.hasFirstSet = true) (hc : ∀ i, i < lim -> ∀ seen, ∃ seen', Sre.inSet code (text.getD i 0) code.size 5 true seen = .ok (false, seen')) :
  q7j (Sre.forSearch code text groups 0 lim false) := by
 unfold Sre.forSearch
 dsimp only
 split
 ·exact r2b rfl rfl
 ·exact qil _ (h1 _ rfl) hc rfl rfl
theorem qv7 {m : Sre.M} (h : q7j m) : (m.runFor 4).outcome = some .failed := by
 obtain ⟨h1, h2, h3⟩ := h
 have e : m.step = { m with outcome := some .failed } := by
  unfold Sre.M.step
  simp [h1, h2, h3]
 have e2 : m.runFor 4 = m.step.runFor 3 := by
  show (if m.outcome.isSome then m else m.step.runFor 3) = _
  rw [h3]; rfl
 rw [e2, e]
 rfl
theorem qnl {M : Model} {A : Around} {m : Sre.M} (h : q7j m) {Q : Sre.M -> Shared -> Prop} {E : Value -> Shared -> Prop} {s : Shared} (hQ : ∀ m', m'.outcome = some .failed -> Q m' s) (n : Nat) : wpAny M A (reDrive (n + 1) m) Q E s := by
 show wpAny _ _ (let m := m.runFor reTurnSteps; if m.outcome.isSome then pure m else do rule "sre.turn"; reDrive n m) Q E s
 have e := qv7 h
 show wpAny _ _ (if (m.runFor 4).outcome.isSome then pure (m.runFor 4) else do rule "sre.turn"; reDrive n (m.runFor 4)) Q E s
 rw [if_pos (by rw [e]; rfl)]
 exact wpAny_pure (hQ _ e)
theorem q85 {M : Model} {A : Around} {E : Value -> Shared -> Prop} {s : Shared} {p : Nat -> Bool} {f : Nat -> String} : ∀ {l : List Nat} {Q : PUnit -> Shared -> Prop}, Q ⟨⟩ s -> wpAny M A (forIn l PUnit.unit fun i r => do
   if p i then rule (f i)
   pure (ForInStep.yield PUnit.unit)) Q E s
 | [], Q, h => by
  rw [List.forIn_nil]; exact wpAny_pure h
 | i :: l, Q, h => by
  rw [List.forIn_cons]
  refine wpAny_bind ?_
  split
  ·exact wpAny_bind (wpAny_rule (wpAny_pure (q85 h)))
  ·exact wpAny_pure (q85 h)
theorem qfl {M : Model} {A : Around} {m : Sre.M} (h : q7j m) {Q : Option Sre.M -> Shared -> Prop} {E : Value -> Shared -> Prop} {s : Shared} (hQ : Q none s) : wpAny M A (reRunToEnd m) Q E s := by
 unfold reRunToEnd
 rw [show (2 ^ 64 : Nat) = (2 ^ 64 - 1) + 1 from by decide]
 refine wpAny_bind (qnl h (fun m' e => ?_) _)
 refine wpAny_bind (q85 ?_)
 simp only [e]
 exact wpAny_pure hQ
noncomputable def qox : Array Nat := #[14, 10, 4, 1, 1, 22, 0, 31, 16, 127, 0, 13, 7, 22, 0, 31, 16, 127, 0, 1]
noncomputable def qoq : Array Nat := #[14, 14, 4, 1, 1, 9, 4294966783, 0, 0, 2147483648, 0, 0, 0, 0, 0, 13, 11, 9, 4294966783, 0, 0, 2147483648, 0, 0, 0, 0, 0, 1]
theorem qo0 {code : Array Nat} {c fuel i : Nat} {yes : Bool} {seen : Sre.Seen} (h : code.getD (i + 0) 0 = 22) (hn : (decide (code.getD (i + 1) 0 <= c) && decide (c <= code.getD (i + 2) 0)) = false) :
  Sre.inSet code c (fuel + 1) i yes seen = Sre.inSet code c fuel (i + 3) yes (seen.add 22) := by
 rw [Sre.inSet]
 simp only [h, hn]
 rfl
theorem qhc {code : Array Nat} {c fuel i : Nat} {yes : Bool} {seen : Sre.Seen} (h : code.getD (i + 0) 0 = 16) (hn : (c == code.getD (i + 1) 0) = false) :
  Sre.inSet code c (fuel + 1) i yes seen = Sre.inSet code c fuel (i + 2) yes (seen.add 16) := by
 rw [Sre.inSet]
 simp only [h, hn]
 rfl
theorem qhl {code : Array Nat} {c fuel i : Nat} {yes : Bool} {seen : Sre.Seen} (h : code.getD (i + 0) 0 = 9) (hn : (decide (c < 256) && (code.getD (i + (1 + c / 32)) 0).testBit (c % 32)) = false) :
  Sre.inSet code c (fuel + 1) i yes seen = Sre.inSet code c fuel (i + 9) yes (seen.add 9) := by
 rw [Sre.inSet]
 simp only [h, hn]
 rfl
theorem qpg {code : Array Nat} {c fuel i : Nat} {yes : Bool} {seen : Sre.Seen} (h : code.getD (i + 0) 0 = 0) : Sre.inSet code c (fuel + 1) i yes seen = .ok (!yes, seen.add 0) := by
 rw [Sre.inSet]
 simp only [h]
 rfl
theorem qr2 {c : Nat} (h1 : 31 < c) (h2 : c ≠ 127) (seen : Sre.Seen) : ∃ seen', Sre.inSet qox c qox.size 5 true seen = .ok (false, seen') := by
 refine ⟨_, (qo0 (fuel := 19) rfl ?_).trans ((qhc (fuel := 18) rfl ?_).trans (qpg (fuel := 17) rfl))⟩
 ·have : decide (c <= qox.getD (5 + 2) 0) = false := decide_eq_false (by show ¬ c <= 31; omega)
  rw [this, Bool.and_false]
 ·exact beq_eq_false_iff_ne.mpr h2
theorem qs3 : ∀ c : Fin 256, (c.val < 32 /\ c.val ≠ 9) \/ c.val = 127 \/ (qoq.getD (5 + (1 + c.val / 32)) 0).testBit (c.val % 32) = false := by decide +kernel
theorem qo1 {c : Nat} (h1 : 31 < c \/ c = 9) (h2 : c ≠ 127) (seen : Sre.Seen) : ∃ seen', Sre.inSet qoq c qoq.size 5 true seen = .ok (false, seen') := by
 refine ⟨_, (qhl (fuel := 27) rfl ?_).trans (qpg (fuel := 26) rfl)⟩
 by_cases h : c < 256
 ·rcases qs3 ⟨c, h⟩ with ⟨q1, q2⟩ | q | q
  ·rcases h1 with h1 | h1
   ·have : c < 32 := q1
    omega
   ·exact absurd h1 q2
  ·exact absurd q h2
  ·rw [q, Bool.and_false]
 ·rw [decide_eq_false h, Bool.false_and]
theorem qms {code : Array Nat} (h1 : code.getD 0 0 = 14) (h2 : code.getD 2 0 = 4) (m : Sre.M) (h : m.code = code) : m.hasFirstSet = true := by
 unfold Sre.M.hasFirstSet
 rw [h, h1, h2]
 rfl
theorem q4y : PlainAttrs "re.Pattern" :=
 ⟨⟨"object.__getattribute__", by rw [typeLookup_type, builtinLookup_eq_fast]; kernel_rfl, by decide +kernel⟩, by rw [typeLookup_type, builtinLookup_eq_fast]; kernel_rfl⟩
theorem qmw : Manifest.owners.lookup (String.ofList ['n', 'r', 'e', 't', 't', 'a', 'P', '.', 'e', 'r'].reverse) = some Manifest.sig_re_Pattern := by kernel_rfl
theorem q9b (a b : Value) : argsOk "re.Pattern.search" ⟨[a, b], []⟩ := by
 unfold argsOk; rw [signature?_of (id := "re.Pattern.search") (n := ['h', 'c', 'r', 'a', 'e', 's']) (o := ['n', 'r', 'e', 't', 't', 'a', 'P', '.', 'e', 'r']) (by kernel_rfl) qmw]; kernel_rfl
theorem q2c : Slot "re.Pattern" "search" "re.Pattern.search" :=
 .of (owner := "re.Pattern") (n := "search") (by rw [typeLookup_type, builtinLookup_eq_fast]; kernel_rfl) (by decide +kernel) (by decide +kernel) (by decide +kernel)
  (by first | exact .inl (by decide +kernel) | exact .inr (by decide +kernel)) (by rw [isSubtype_type]; kernel_rfl)
theorem q47 : typeOf (.builtin "re.Pattern.search") = pure (.type "method_descriptor") := by show builtinType _ = _; rw [builtinType_eq_fast]; kernel_rfl
theorem q7z : entryFor table "re.Pattern.search" = some Builtin.«re.Pattern.search» := entryFor_of_tree (by kernel_rfl)
theorem qnr (v : Value) : reNamed "re.Pattern.search" "search" ["string", "pos", "endpos"] 1 [v] [] = pure [some v, none, none] := by kernel_rfl
theorem qsl {α : Type} {M : Model} {A : Around} {t t' : Sem α} {Q : α -> Shared -> Prop} {E : Value -> Shared -> Prop} {s : Shared} (e : t = t') (h : wpAny M A t' Q E s) : wpAny M A t Q E s := by rw [e]; exact h
theorem quq {l : List Nat} {i : Nat} (h : i < l.length) : (l.toArray).getD i 0 ∈ l := by
 simp [Array.getD, h]
theorem q7v {prog : Program} {w : World} {A : Around} {s : Shared} {a l : Addr} {p fl : Value} {o ol : Obj} {items : Array Value} {n : Nat} {code : Array Nat} {x : List Nat} {t : Tok}
  (ho : s.heap.get? a = some o) (hc : o.cls = .type "re.Pattern") (hd : o.data = .fields #[p, fl, .int 0 0, .none, .none, .ref l, .int 0 0]) (hl : s.heap.get? l = some ol) (hi : ol.data = .seq items n) (hcode : (items.map reRawOf).map (·.toNat) = code)
  (h1 : code.getD 0 0 = 14) (h2 : code.getD 2 0 = 4) (hx : ∀ c ∈ x, ∀ seen, ∃ seen', Sre.inSet code c code.size 5 true seen = .ok (false, seen'))
  {Q : Value -> Shared -> Prop} {E : Value -> Shared -> Prop} (hQ : Q .none s) : wpAny (model prog w) A (call (.builtin "re.Pattern.search") [.ref a, .str ⟨x.toArray⟩ t]) Q E s := by
 refine wpAny_call_entry q2c ⟨o, ho, hc⟩ q7z ?_ (q9b _ _)
 unfold Builtin.«re.Pattern.search» reTarget
 simp only [qnr, pure_bind]
 refine wpAny_bind (wpAny_bind (wpAny_fieldsOf ho hd ?_))
 refine qsl (t' := reRawItems (.ref l) >>= fun d => pure (ReTarget.mk (.ref a) (.str ⟨x.toArray⟩ t) (d.map (·.toNat)) x.toArray 0 0 (min (Int.toNat 0) x.toArray.size) (min (2 ^ 63 - 1 : Int).toNat x.toArray.size))) (by kernel_rfl) ?_
 unfold reRawItems
 refine wpAny_bind (wpAny_bind (wpAny_seqItems hl hi (wpAny_pure (wpAny_pure ?_))))
 unfold reAnswer
 refine wpAny_bind (qfl ?_ ?_)
 ·show q7j (Sre.forSearch ((items.map reRawOf).map (·.toNat)) x.toArray 0 (min (Int.toNat 0) x.toArray.size) (min (2 ^ 63 - 1 : Int).toNat x.toArray.size) false)
  rw [hcode, show min (Int.toNat 0) x.toArray.size = 0 from Nat.zero_min _]
  refine qlp (qms h1 h2) fun i hi seen => hx _ (quq ?_) seen
  have : i < x.toArray.size := Nat.lt_of_lt_of_le hi (Nat.min_le_right _ _)
  simpa using this
 ·exact wpAny_pure ⟨_, rfl, hQ⟩
end Mine
end
section
namespace Mine
open Ev
noncomputable def q9x {α β : Type} (f : α -> β -> Bool) : List α -> List β -> Bool
 | [], [] => true
 | a :: r, b :: t => f a b && q9x f r t
 | _, _ => false
noncomputable def okS (e : Int × Value) (k : Int) : Bool := match e.2 with
 | .int i _ => i == k && e.1 == hashInt k
 | _ => false
theorem qxi {e : Int × Value} {k : Int} (h : okS e k = true) : ∃ t, e = (hashInt k, .int k t) := by
 obtain ⟨a, v⟩ := e
 unfold okS at h
 dsimp only at h
 split at h
 ·simp only [Bool.and_eq_true, beq_iff_eq] at h
  obtain ⟨rfl, rfl⟩ := h
  exact ⟨_, rfl⟩
 ·cases h
theorem qgx {prog : Program} {w : World} : ∀ {es : List (Int × Value)} {l : List Int}, q9x okS es l = true -> ElemsOf (intKind prog w) es /\ ∀ k, (decide (k ∈ l) = true ↔ ∃ e ∈ es, (intKind prog w).is k e.2 = true)
 | [], [], _ => ⟨fun e he => by simp at he, fun k => by simp⟩
 | e :: r, k :: l, h => by
  simp only [q9x, Bool.and_eq_true] at h
  obtain ⟨t, rfl⟩ := qxi h.1
  obtain ⟨h1, h2⟩ := qgx (prog := prog) (w := w) h.2
  have hi : ∀ j, ((intKind prog w).is j (.int k t) = true) ↔ j = k := fun j => by
   show (k == j) = true ↔ _
   exact ⟨fun q => (by simpa using q : k = j).symm, fun q => by simp [q]⟩
  refine ⟨fun e he => ?_, fun j => ?_⟩
  ·rcases List.mem_cons.mp he with rfl | he
   ·exact ⟨⟨k, (hi k).mpr rfl, rfl⟩, rfl⟩
   ·exact h1 e he
  ·constructor
   ·intro hj
    have hj' : j = k \/ j ∈ l := by simpa using hj
    rcases hj' with q | q
    ·exact ⟨_, List.mem_cons_self, (hi j).mpr q⟩
    ·obtain ⟨e, he, hk⟩ := (h2 j).mp (by simpa using q)
     exact ⟨e, List.mem_cons_of_mem _ he, hk⟩
   ·rintro ⟨e, he, hk⟩
    have : j = k \/ j ∈ l := by
     rcases List.mem_cons.mp he with rfl | he
     ·exact .inl ((hi j).mp hk)
     ·exact .inr (by simpa using (h2 j).mpr ⟨e, he, hk⟩)
    simpa using this
 | [], _ :: _, h => by cases h
 | _ :: _, [], h => by cases h
noncomputable def esS (o : Obj) : Array (Int × Value) := match o.data with | .set es _ _ => es | _ => #[]
noncomputable def tbS (o : Obj) : SetTable := match o.data with | .set _ _ t => t | _ => default
noncomputable def epS (o : Obj) : Nat := match o.data with | .set _ n _ => n | _ => 0
theorem lk39 (w : World) : (KF w.params).lookup 39 = some (q5n w.params) := by kernel_rfl
theorem dt39 (w : World) : (q5n w.params).data = .set (esS (q5n w.params)) (epS (q5n w.params)) (tbS (q5n w.params)) := by kernel_rfl
theorem el39 (w : World) : q9x okS (esS (q5n w.params)).toList b1L = true := by kernel_rfl
theorem ft39 (w : World) : (tbS (q5n w.params)).fits (esS (q5n w.params)).size = true := by kernel_rfl
theorem sz39 (w : World) : (esS (q5n w.params)).size = 27 := by kernel_rfl
theorem qwu (w : World) {prog : Program} {h : Heap} (X : (KF w.params).In h) : h.SetOf (intKind prog w) 39 (fun k => decide (k ∈ b1L)) 27 := by
 obtain ⟨h1, h2⟩ := qgx (prog := prog) (w := w) (el39 w)
 refine ⟨_, _, _, _, X _ _ (lk39 w), ⟨rfl, rfl, rfl⟩, dt39 w, h1, h2, ?_, ft39 w, sz39 w⟩
 rw [sz39]; decide
noncomputable def okB (e : DictEntry) (p : Int × List Nat) : Bool := match e.key, e.val with
 | .int k _, .str x _ => k == p.1 && x.cps.toList == p.2 && e.hash == hashInt k && p.2.all (· < 0x110000)
 | _, _ => false
theorem qpi {e : DictEntry} {p : Int × List Nat} (h : okB e p = true) : ∃ t u, e = ⟨hashInt p.1, .int p.1 t, .str (S p.2) u⟩ /\ ∀ c ∈ p.2, c < 0x110000 := by
 obtain ⟨a, k, v⟩ := e
 obtain ⟨n, l⟩ := p
 unfold okB at h
 dsimp only at h
 split at h
 ·rename_i k t x u
  simp only [Bool.and_eq_true, beq_iff_eq] at h
  obtain ⟨⟨⟨rfl, rfl⟩, rfl⟩, h4⟩ := h
  exact ⟨t, u, by unfold S; simp, fun c hc => by simpa using List.all_eq_true.mp h4 c hc⟩
 ·cases h
theorem r1w {prog : Program} {w : World} : ∀ {es : List DictEntry} {l : List (Int × List Nat)}, q9x okB es l = true -> (∀ e ∈ es, ∃ k, (intKind prog w).is k e.key = true /\ e.hash = (intKind prog w).hash k)
 | [], [], _, e, he => by simp at he
 | e :: r, p :: l, h, x, hx => by
  simp only [q9x, Bool.and_eq_true] at h
  obtain ⟨t, u, rfl, _⟩ := qpi h.1
  rcases List.mem_cons.mp hx with rfl | hx
  ·exact ⟨p.1, by show (p.1 == p.1) = true; simp, rfl⟩
  ·exact r1w h.2 x hx
 | [], _ :: _, h, _, _ => by cases h
 | _ :: _, [], h, _, _ => by cases h
theorem qvo {B : Base} {h : Heap} {as : List Addr} {F : Addr -> Prop} (k : Int) : ∀ {es : List DictEntry} {l : List (Int × List Nat)}, q9x okB es l = true ->
  Rep B h as F (((l.map fun p => ((V.int p.1, V.str p.2) : V × V)).find? fun e => beqV e.1 (.int k)).elim .none (·.2)) (((es.find? fun e => Value.isInt k e.key).map (·.val)).getD .none)
 | [], [], _ => .none
 | e :: r, p :: l, hp => by
  simp only [q9x, Bool.and_eq_true] at hp
  obtain ⟨t, u, rfl, hc⟩ := qpi hp.1
  have ih := qvo (B := B) (h := h) (as := as) (F := F) k hp.2
  have e1 : beqV (V.int p.1) (.int k) = (p.1 == k) := by rw [beqV]
  have e2 : Value.isInt k (.int p.1 t) = (p.1 == k) := rfl
  simp only [List.map_cons, List.find?_cons, e1, e2]
  cases q : p.1 == k with
  | true => exact .str _ _ hc
  | false => exact ih
 | [], _ :: _, h => by cases h
 | _ :: _, [], h => by cases h
theorem lk50 (w : World) : (KF w.params).lookup 50 = some (q90 w.params) := by kernel_rfl
theorem lk96 (w : World) : (KF w.params).lookup 96 = some (qez w.params) := by kernel_rfl
noncomputable def epD (o : Obj) : Nat := match o.data with | .dict _ n => n | _ => 0
theorem dt50 (w : World) : (q90 w.params).data = .dict (esOf (q90 w.params)) (epD (q90 w.params)) := by kernel_rfl
theorem el50 (w : World) : q9x okB (esOf (q90 w.params)).toList b3V = true := by kernel_rfl
theorem dt96 (w : World) : (qez w.params).data = .dict (esOf (qez w.params)) (epD (qez w.params)) := by kernel_rfl
noncomputable def r4j (e : DictEntry) : List Nat × Tok × Int × Tok := match e.key, e.val with
 | .str x t, .int i u => (x.cps.toList, t, i, u)
 | _, _ => ([], 0, 0, 0)
noncomputable def q5t (P : Params) (q : List Nat × Tok × Int × Tok) : DictEntry := kE P (S q.1) q.2.1 (.int q.2.2.1 q.2.2.2)
noncomputable def tk4 (w : World) : List (List Nat × Tok × Int × Tok) := (esOf (qez w.params)).toList.map r4j
theorem es96 (w : World) : (esOf (qez w.params)).toList = (tk4 w).map (q5t w.params) := by kernel_rfl
theorem tk96 (w : World) : (tk4 w).map (fun q => (q.1, q.2.2.1)) = tkV := by kernel_rfl
theorem r2m (w : World) (x : Str) : PyData.keyHash w.params x = hashStr w x := rfl
theorem qu3 {a b : List Nat} : (S a == S b) = (a == b) := by
 unfold S
 by_cases h : a = b
 ·subst h; simp
 ·rw [beq_eq_false_iff_ne.mpr h]
  exact beq_eq_false_iff_ne.mpr fun e => h (by simpa using e)
theorem qsw {B : Base} {h : Heap} {as : List Addr} {F : Addr -> Prop} {w : World} (k : List Nat) {d : V} {y : Value} (rd : Rep B h as F d y) : ∀ {l : List (List Nat × Tok × Int × Tok)},
  Rep B h as F ((((l.map fun q => (q.1, q.2.2.1)).map fun p => ((V.str p.1, V.int p.2) : V × V)).find? fun e => beqV e.1 (.str k)).elim d (·.2)) ((((l.map (q5t w.params)).find? fun e => Value.isStrOf (S k) e.key).map (·.val)).getD y) /\
   (((l.map (q5t w.params)).find? fun e => Value.isStrOf (S k) e.key).map (·.val)).isSome = (((l.map fun q => (q.1, q.2.2.1)).map fun p => ((V.str p.1, V.int p.2) : V × V)).any fun e => beqV e.1 (.str k))
 | [] => ⟨rd, rfl⟩
 | q :: l => by
  have ih := qsw (w := w) k rd (l := l)
  have e1 : beqV (V.str q.1) (.str k) = (q.1 == k) := by rw [beqV]
  have e2 : Value.isStrOf (S k) (q5t w.params q).key = (q.1 == k) := qu3
  simp only [List.map_cons, List.find?_cons, List.any_cons, e1, e2]
  cases q.1 == k with
  | true => exact ⟨.int _ _, rfl⟩
  | false => exact ⟨ih.1, by simpa using ih.2⟩
theorem r62 {prog : Program} {w : World} (l : List (List Nat × Tok × Int × Tok)) : ∀ e ∈ l.map (q5t w.params), ∃ k, (strKind prog w).is k e.key = true /\ e.hash = (strKind prog w).hash k := by
 intro e he
 obtain ⟨q, _, rfl⟩ := List.mem_map.mp he
 exact ⟨S q.1, by show (S q.1 == S q.1) = true; simp, rfl⟩
theorem qgl {p : DictEntry -> Bool} (a : Array DictEntry) : a.find? p = a.toList.find? p := by
 cases a; simp
theorem r5u (w : World) {prog : Program} {h : Heap} (X : (KF w.params).In h) : h.MapOf (intKind prog w) 50 (fun k => ((esOf (q90 w.params)).toList.find? fun e => Value.isInt k e.key).map (·.val)) :=
 ⟨_, _, _, X _ _ (lk50 w), ⟨rfl, rfl, rfl⟩, dt50 w, fun e he => r1w (el50 w) e (by simpa using he), fun k => by unfold findBy; rw [qgl]; rfl⟩
theorem qsg (w : World) {prog : Program} {h : Heap} (X : (KF w.params).In h) : h.MapOf (strKind prog w) 96 (fun k => (((tk4 w).map (q5t w.params)).find? fun e => Value.isStrOf k e.key).map (·.val)) :=
 ⟨_, _, _, X _ _ (lk96 w), ⟨rfl, rfl, rfl⟩, dt96 w, fun e he => r62 (tk4 w) e (by rw [<- es96]; simpa using he), fun k => by unfold findBy; rw [qgl, es96]; rfl⟩
theorem q94 {x : Str} {a b : Addr} (h : gaT.lookup x = some a) (hb : gaT.lookup x = some b) : a = b := by rw [h] at hb; cases hb; rfl
theorem qol {w : World} {h : Heap} {as : List Addr} {F : Addr -> Prop} {x : Str} {y : Value} (r : Rep (Bw w) h as F (.g x) y) : ∃ a, y = .ref a /\ gaT.lookup x = some a := by
 cases r; exact ⟨_, rfl, by assumption⟩
theorem qxb {i : Int} : (b1L.map fun n => ((V.int n, V.none) : V × V)).any (fun e => beqV e.1 (.int i)) = decide (i ∈ b1L) := by
 generalize b1L = l
 induction l with
 | nil => rfl
 | cons n r ih =>
  have e1 : beqV (V.int n) (.int i) = (n == i) := by rw [beqV]
  simp only [List.map_cons, List.any_cons, e1, ih, List.mem_cons]
  by_cases q : n = i
  ·subst q; simp
  ·have : ¬ i = n := fun e => q e.symm
   simp [q, this]
theorem r69 : gd03 "b1_set" = some (b1L.map fun n => (.int n, .none)) := by unfold gd03; rw [if_pos rfl]
theorem r5x : gd03 "b3_exceptions" = some (b3V.map fun p => (.int p.1, .str p.2)) := by unfold gd03; rw [if_neg (by decide +kernel), if_pos rfl]
theorem qwq : gd03 "EXACT_TOKEN_TYPES" = some (tkV.map fun p => (.str p.1, .int p.2)) := by unfold gd03; rw [if_neg (by decide +kernel), if_neg (by decide +kernel), if_pos rfl]
theorem qzj (w : World) {prog : Program} : q88 (Bw w) prog w gd03 := by
 intro A F s as st a b x y t hh hu i ra rb h Q E
 have X : (KF w.params).In s.heap := fun a o e => (i.base a o e).1
 unfold q9e at h
 split at h
 ·split at h
  ·rename_i hx
   subst hx
   obtain ⟨ad, rfl, e⟩ := qol rb
   cases q94 qcu e
   cases ra
   rename_i n u
   rw [r69] at h
   have h' : some ((b1L.map fun n => ((V.int n, V.none) : V × V)).any (fun e => beqV e.1 (.int n))) = some t := h
   rw [qxb] at h'
   cases h'
   have his : (intKind prog w).is n (.int n u) = true := by show (n == n) = true; simp
   exact ⟨fun hQ => wpAny_inSet_of his rfl (qwu w X) (hQ _ (Nat.le_succ _)), fun hQ => wpAny_notInSet_of his rfl (qwu w X) (hQ _ (Nat.le_succ _))⟩
  ·cases h
 ·split at h
  ·rename_i hx
   subst hx
   obtain ⟨ad, rfl, e⟩ := qol rb
   cases q94 q0p e
   cases ra
   rename_i l u hl
   rw [qwq] at h
   have h' : some ((tkV.map fun p => ((V.str p.1, V.int p.2) : V × V)).any (fun e => beqV e.1 (.str l))) = some t := h
   rw [<- tk96 w, <- (qsw (B := Bw w) (h := s.heap) (as := as) (F := F) (w := w) l .none (l := tk4 w)).2] at h'
   cases h'
   have his : (strKind prog w).is (S l) (.str (S l) u) = true := by show (S l == S l) = true; simp
   exact ⟨fun hQ => wpAny_in_of his (by decide) (qsg w X) (hQ _ (Nat.le_succ _)), fun hQ => wpAny_notIn_of his (by decide) (qsg w X) (hQ _ (Nat.le_succ _))⟩
  ·cases h
 ·cases h
end Mine
end
section
namespace Mine
open Ev
theorem qsy (w : World) : (KF w.params).lookup 129 = some (qpd w.params) := by kernel_rfl
theorem r5i (w : World) : (KF w.params).lookup 128 = some (q9r w.params) := by kernel_rfl
theorem qsq (w : World) : (KF w.params).lookup 134 = some (qpb w.params) := by kernel_rfl
theorem r4g (w : World) : (KF w.params).lookup 133 = some (q9i w.params) := by kernel_rfl
noncomputable def itS (o : Obj) : Array Value := match o.data with | .seq xs _ => xs | _ => #[]
noncomputable def nS (o : Obj) : Nat := match o.data with | .seq _ n => n | _ => 0
theorem r5m (w : World) : ((itS (q9r w.params)).map Builtin.Re.reRawOf).map (·.toNat) = qox := by kernel_rfl
theorem r4c (w : World) : ((itS (q9i w.params)).map Builtin.Re.reRawOf).map (·.toNat) = qoq := by kernel_rfl
theorem r2q (w : World) : (q9r w.params).data = .seq (itS (q9r w.params)) (nS (q9r w.params)) := by kernel_rfl
theorem r4k (w : World) : (q9i w.params).data = .seq (itS (q9i w.params)) (nS (q9i w.params)) := by kernel_rfl
theorem qqb {y : Str} {id : String} (h : q0l (.g y) "get" = some id) : id = "dict.get" := by
 have h' : some "dict.get" = some id := by simpa (decide := true) [q0l] using h
 cases h'; rfl
theorem qb2 {y : Str} {id : String} (h : q0l (.g y) "search" = some id) : id = "re.Pattern.search" := by
 have h' : some "re.Pattern.search" = some id := by simpa (decide := true) [q0l] using h
 cases h'; rfl
theorem qya (w : World) {prog : Program} (A : Around) (F : Addr -> Prop) (s : Shared) (as : List Addr) (st : Ev.St) (y : Str) (ov : Value) (x : Str) (id : String) (inv : Ev.Inv (Bw w) s.heap as F st) (r : Rep (Bw w) s.heap as F (.g y) ov)
  (hm : qhn st (.g y) x = some (.m (.g y) x)) (hid : q0l (.g y) x = some id) (pl : Sem Bool) (Q : Value × List Value -> Shared -> Prop) (E : Value -> Shared -> Prop) (hQ : Q (.builtin id, [ov]) s) : wpAny (model prog w) A (getMethod ov x pl) Q E s := by
 obtain ⟨a, rfl, ha⟩ := qol r
 have X : (KF w.params).In s.heap := fun a o e => (inv.base a o e).1
 have hg : qfh y x = true := by
  have hm' : (if qfh y x then some (V.m (.g y) x) else .none) = some (V.m (.g y) x) := hm
  split at hm'
  ·assumption
  ·cases hm'
 unfold qfh at hg
 split at hg
 ·rename_i hy
  have hx : x = "search" := by simpa using hg
  subst hx
  cases qb2 hid
  rcases hy with rfl | rfl
  ·cases q94 q0x ha
   exact getMethod_builtin ⟨_, X _ _ (qsy w), rfl⟩ q4y q2c q47 (fun b e => by cases e; exact ⟨_, X _ _ (qsy w), rfl⟩) hQ
  ·cases q94 q0u ha
   exact getMethod_builtin ⟨_, X _ _ (qsq w), rfl⟩ q4y q2c q47 (fun b e => by cases e; exact ⟨_, X _ _ (qsq w), rfl⟩) hQ
 ·split at hg
  ·rename_i hy
   have hx : x = "get" := by simpa using hg
   subst hx
   cases qqb hid
   rcases hy with rfl | rfl
   ·cases q94 q1l ha
    exact getMethod_builtin (T := "dict") ⟨_, X _ _ (lk50 w), rfl⟩ PySem.F.plainAttrs_dict PySem.F.slot_dict_get PySem.F.type_dict_get (fun b e => by cases e; exact ⟨_, X _ _ (lk50 w), rfl⟩) hQ
   ·cases q94 q0p ha
    exact getMethod_builtin (T := "dict") ⟨_, X _ _ (lk96 w), rfl⟩ PySem.F.plainAttrs_dict PySem.F.slot_dict_get PySem.F.type_dict_get (fun b e => by cases e; exact ⟨_, X _ _ (lk96 w), rfl⟩) hQ
  ·cases hg
theorem quw {B : Base} {h : Heap} {as : List Addr} {F : Addr -> Prop} {u v : V} {xs : List Value} (r : Reps B h as F [u, v] xs) : ∃ x y, xs = [x, y] /\ Rep B h as F u x /\ Rep B h as F v y := by
 cases r with
 | cons r1 r2 =>
  obtain ⟨y, rfl, r3⟩ := q2j r2
  exact ⟨_, y, rfl, r1, r3⟩
theorem qu7 (w : World) {prog : Program} {A : Around} {s : Shared} (X : (KF w.params).In s.heap) {k : Int} {t : Tok} {Q : Value -> Shared -> Prop} {E : Value -> Shared -> Prop}
  (hQ : Q ((((esOf (q90 w.params)).toList.find? fun e => Value.isInt k e.key).map (·.val)).getD .none) { s with toks := s.toks + 1 }) : wpAny (model prog w) A (call (.builtin "dict.get") [.ref 50, .int k t]) Q E s := by
 have his : (intKind prog w).is k (.int k t) = true := by show (k == k) = true; simp
 have hm := r5u w (prog := prog) X
 refine wpAny_call_entry PySem.F.slot_dict_get hm.typeIs PySem.F.entry_dict_get ?_ (PySem.F.args_dict_get_2 _ _)
 show wpAny _ _ (dictGet 50 (.int k t) >>= _) _ _ s
 refine wpAny_bind (wpAny_dictGet_of his hm ?_)
 generalize ((esOf (q90 w.params)).toList.find? fun e => Value.isInt k e.key).map (·.val) = f at hQ ⊢
 cases f with
 | some v => exact wpAny_pure ⟨v, rfl, hQ⟩
 | none =>
  show wpAny _ _ (Builtin.Dict.missed 50 (.int k t) >>= _) _ _ _
  exact wpAny_bind (wpAny_missed_other (by decide) (wpAny_pure ⟨.none, rfl, hQ⟩))
theorem qti (w : World) {prog : Program} {A : Around} {s : Shared} (X : (KF w.params).In s.heap) {k : Str} {t : Tok} {d : Value} {Q : Value -> Shared -> Prop} {E : Value -> Shared -> Prop}
  (hQ : Q (((((tk4 w).map (q5t w.params)).find? fun e => Value.isStrOf k e.key).map (·.val)).getD d) { s with toks := s.toks + 1 }) : wpAny (model prog w) A (call (.builtin "dict.get") [.ref 96, .str k t, d]) Q E s := by
 have his : (strKind prog w).is k (.str k t) = true := by show (k == k) = true; simp
 have hm := qsg w (prog := prog) X
 refine wpAny_call_entry PySem.F.slot_dict_get hm.typeIs PySem.F.entry_dict_get ?_ (PySem.F.args_dict_get_3 _ _ _)
 show wpAny _ _ (dictGet 96 (.str k t) >>= _) _ _ s
 refine wpAny_bind (wpAny_dictGet_of his hm ?_)
 generalize (((tk4 w).map (q5t w.params)).find? fun e => Value.isStrOf k e.key).map (·.val) = f at hQ ⊢
 cases f with
 | some v => exact wpAny_pure ⟨v, rfl, hQ⟩
 | none =>
  show wpAny _ _ (Builtin.Dict.missed 96 (.str k t) >>= _) _ _ _
  exact wpAny_bind (wpAny_missed_other (by decide) (wpAny_pure ⟨d, rfl, hQ⟩))
theorem qs9 (w : World) {prog : Program} (A : Around) (F : Addr -> Prop) (s : Shared) (as : List Addr) (st : Ev.St) (y : Str) (ov : Value) (x : Str) (id : String) (vs : List V) (xs : List Value) (hA : Room A 0) (inv : Ev.Inv (Bw w) s.heap as F st) (r : Rep (Bw w) s.heap as F (.g y) ov)
  (hid : q0l (.g y) x = some id) (rs : Reps (Bw w) s.heap as F vs xs) : Sim (Bw w) prog w A F no (RV (Bw w) F) (call (.builtin id) (ov :: xs) []) (qb9 gd03 (.g y) x vs) s as st := by
 intro v st' hv Q E hQ
 obtain ⟨a, rfl, ha⟩ := qol r
 have X : (KF w.params).In s.heap := fun a o e => (inv.base a o e).1
 have hx : x = "get" \/ x = "search" := by
  by_cases h1 : x = ("get" : Str)
  ·exact .inl h1
  ·by_cases h2 : x = ("search" : Str)
   ·exact .inr h2
   ·simp [q0l, h1, h2] at hid
 rcases hx with rfl | rfl
 ·cases qqb hid
  unfold qb9 at hv
  rw [if_neg (by decide +kernel), if_neg (by decide +kernel), if_neg (by decide +kernel), if_neg (by decide +kernel), if_neg (by decide +kernel), if_neg (by decide +kernel), if_pos rfl] at hv
  rcases vs with _ | ⟨k, _ | ⟨d, _ | ⟨d2, r⟩⟩⟩
  ·exact (q02 hv).elim
  ·cases k <;> first | exact (q02 hv).elim | skip
   rename_i k
   have hv2 : (if y = ("b3_exceptions" : Str) then (do
    let es <- gt (gd03 y)
    pure ((es.find? fun e => beqV e.1 (.int k)).elim .none (·.2))) else bad : EvM V) st = some (v, st') := hv
   split at hv2
   ·rename_i hy
    subst hy
    cases q94 q1l ha
    obtain ⟨z, rfl, rz⟩ := q2j rs
    cases rz
    obtain ⟨es, st1, h1, hv1⟩ := q00 hv2
    obtain ⟨h1', rfl⟩ := q0k h1
    rw [r5x] at h1'
    cases h1'
    obtain ⟨h2, rfl⟩ := q03 hv1
    subst h2
    refine qu7 w X ?_
    exact hQ _ s.heap as (s.toks + 1) (qvo k (el50 w)) inv (Ext.refl _ _ _) (Nat.le_succ _)
   ·exact (q02 hv2).elim
  ·cases k <;> first | exact (q02 hv).elim | skip
   rename_i k
   have hv2 : (if y = ("EXACT_TOKEN_TYPES" : Str) then (do
    let es <- gt (gd03 y)
    pure ((es.find? fun e => beqV e.1 (.str k)).elim d (·.2))) else bad : EvM V) st = some (v, st') := hv
   split at hv2
   ·rename_i hy
    subst hy
    cases q94 q0p ha
    obtain ⟨z, q, rfl, rz, rq⟩ := quw rs
    cases rz
    obtain ⟨es, st1, h1, hv1⟩ := q00 hv2
    obtain ⟨h1', rfl⟩ := q0k h1
    rw [qwq] at h1'
    cases h1'
    obtain ⟨h2, rfl⟩ := q03 hv1
    subst h2
    refine qti w X ?_
    refine hQ _ s.heap as (s.toks + 1) ?_ inv (Ext.refl _ _ _) (Nat.le_succ _)
    rw [<- tk96 w]
    exact (qsw (w := w) k rq (l := tk4 w)).1
   ·exact (q02 hv2).elim
  ·cases k <;> exact (q02 hv).elim
 ·cases qb2 hid
  unfold qb9 at hv
  rw [if_neg (by decide +kernel), if_neg (by decide +kernel), if_neg (by decide +kernel), if_neg (by decide +kernel), if_neg (by decide +kernel), if_neg (by decide +kernel), if_neg (by decide +kernel), if_pos rfl] at hv
  rcases vs with _ | ⟨k, _ | ⟨d2, r⟩⟩
  ·exact (q02 hv).elim
  ·cases k <;> first | exact (q02 hv).elim | skip
   rename_i l
   have hv2 : (if (y = ("_name_disallowed_re" : Str) \/ y = ("_value_disallowed_re" : Str)) /\ l.any (fun c => c < 32 && (y = ("_name_disallowed_re" : Str) || c != 9) || c == 127) = false then pure .none else bad : EvM V) st = some (v, st') := hv
   split at hv2
   ·rename_i hy
    obtain ⟨hy, hs⟩ := hy
    obtain ⟨z, rfl, rz⟩ := q2j rs
    cases rz
    obtain ⟨h2, rfl⟩ := q03 hv2
    subst h2
    have hq : Q .none s := hQ _ s.heap as s.toks .none inv (Ext.refl _ _ _) (Nat.le_refl _)
    have hs' := List.any_eq_false.mp hs
    rcases hy with rfl | rfl
    ·cases q94 q0x ha
     refine q7v (X _ _ (qsy w)) rfl rfl (X _ _ (r5i w)) (r2q w) (r5m w) rfl rfl (fun c hc seen => qr2 ?_ ?_ seen) hq
     ·have := hs' c hc
      simp at this
      omega
     ·have := hs' c hc
      simp at this
      omega
    ·cases q94 q0u ha
     have hne : decide (("_value_disallowed_re" : Str) = ("_name_disallowed_re" : Str)) = false := by decide +kernel
     refine q7v (X _ _ (qsq w)) rfl rfl (X _ _ (r4g w)) (r4k w) (r4c w) rfl rfl (fun c hc seen => qo1 ?_ ?_ seen) hq
     ·have := hs' c hc
      rw [hne] at this
      simp at this
      omega
     ·have := hs' c hc
      rw [hne] at this
      simp at this
      omega
   ·exact (q02 hv2).elim
  ·cases k <;> exact (q02 hv).elim
end Mine
end
section
namespace Mine
open Ev
noncomputable def shF (k : Nat) : Stmt := (fB (stm 77))[k]?.getD (.Pass default)
noncomputable def shB : List Stmt := match shF 0 with | .For _ _ b _ _ => b | _ => []
noncomputable def rE (o : PySem.Expr) (a b : Str) (ap p2 p3 pos : Pos) : PySem.Expr := .Call (.Attribute o "replace" ap) [.Constant (.str a) 0 p2, .Constant (.str b) 0 p3] [] pos
theorem qtb : fB (stm 77) = [shF 0, shF 1] := by kernel_rfl
theorem shF0 : shF 0 = .For (.Name "k" ⟨249, 8, 249, 9⟩) (.Call (.Name "range" ⟨249, 13, 249, 18⟩) [.Constant (.int 12) 0 ⟨249, 19, 249, 21⟩] [] ⟨249, 13, 249, 22⟩) shB [] ⟨249, 4, 250, 82⟩ := by kernel_rfl
theorem qy6 : shB = [.Assign [.Name "word" ⟨250, 8, 250, 12⟩] (rE (rE (rE (.Name "word" ⟨250, 15, 250, 19⟩) "~~" "" ⟨250, 15, 250, 27⟩ ⟨250, 28, 250, 32⟩ ⟨250, 34, 250, 36⟩ ⟨250, 15, 250, 37⟩)
  "kk" "k" ⟨250, 15, 250, 45⟩ ⟨250, 46, 250, 50⟩ ⟨250, 52, 250, 55⟩ ⟨250, 15, 250, 56⟩) "k~k~k~k" "k~k" ⟨250, 15, 250, 64⟩ ⟨250, 65, 250, 74⟩ ⟨250, 76, 250, 81⟩ ⟨250, 15, 250, 82⟩) ⟨250, 8, 250, 82⟩] := by kernel_rfl
theorem shF1 : shF 1 = .Return (some (.Name "word" ⟨251, 11, 251, 15⟩)) ⟨251, 4, 251, 15⟩ := by kernel_rfl
noncomputable def sh1 (w : List Nat) : Option (List Nat) :=
 if w.length <= 65536 /\ (Txt.replace (S w) "~~" "").cps.toList.length <= 65536 /\ (Txt.replace (Txt.replace (S w) "~~" "") "kk" "k").cps.toList.length <= 65536 /\
   (Txt.replace (Txt.replace (Txt.replace (S w) "~~" "") "kk" "k") "k~k~k~k" "k~k").cps.toList.all (· < 0x110000) = true then
  some (Txt.replace (Txt.replace (Txt.replace (S w) "~~" "") "kk" "k") "k~k~k~k" "k~k").cps.toList
 else .none
noncomputable def shN : Nat -> List Nat -> Option (List Nat)
 | 0, w => some w
 | n + 1, w => (sh1 w).bind (shN n)
noncomputable def qm4 (x : Str) : Option (List V -> EvM V) := if x = "_law_short" then some fun vs => match vs with
 | [.str w] => gt ((shN 12 w).map .str)
 | _ => bad else .none
noncomputable def gB (ρ : Fr) : EvM (Fl × Fr) := match ρ.vars.lookup ("word" : Str) with
 | some (.str z) => do
  let r <- gt (sh1 z)
  let ρ' <- gt (ρ.set "word" (.str r))
  pure (.next, ρ')
 | _ => bad
noncomputable def scS : List (Str × NameKind) := (fS (stm 77)).names
theorem q2p : scS.lookup ("word" : Str) = some .local /\ scS.lookup ("k" : Str) = some .local /\ scS.lookup ("range" : Str) = some .globalImplicit := ⟨by kernel_rfl, by kernel_rfl, by kernel_rfl⟩
theorem q8b {prog : Program} {w : World} {A : Around} {env : Env} {o : PySem.Expr} {apos pos p2 p3 : Pos} {a b : Str} {z : Str} {s : Shared} (hbase : q2l o = true) (hl : (apos.endLine == pos.line) = true) (hab : (a == b) = false) (hz : z.length <= 65536) (hb : b.length <= 14) (h1 : 1 <= s.toks)
  (ho : ∀ (Q : Value -> Shared -> Prop) (E : Value -> Shared -> Prop), (∀ t tk, s.toks <= tk -> Q (.str z t) { s with toks := tk }) -> wpAny (model prog w) A (eval o env) Q E s)
  {Q : Value -> Shared -> Prop} {E : Value -> Shared -> Prop} (hQ : ∀ t tk, s.toks <= tk -> Q (.str (Txt.replace z a b) t) { s with toks := tk }) :
  wpAny (model prog w) A (eval (rE o a b apos p2 p3 pos) env) Q E s := by
 unfold rE
 rw [q5h, q3x hbase]
 refine wpAny_bind (ho _ _ fun t3 tk3 ht3 => ?_)
 refine wpAny_bind (wpAny_standAt ?_)
 unfold methodCall
 refine wpAny_bind (wpAny_holding ?_)
 show wpAny _ _ (getMethod (.str z t3) "replace" _) _ _ _
 refine PySem.GM.replace ?_
 refine wpAny_bind (wpAny_of_eq (qao hl) ?_)
 refine callWith_of (P := fun _ => True) rfl (fun h' X => ⟨.machine, .inr (.inl rfl), .now⟩) ?_
 refine q1h (es := [.Constant (.str a) 0 p2, .Constant (.str b) 0 p3]) (keywords := []) rfl ?_
 refine spliced_cons (Constant_str (spliced_cons (Constant_str (spliced_nil ?_))))
 refine wpAny_evalAll_nil ⟨trivial, ?_⟩
 have h4 : 1 <= tk3 := Nat.le_trans h1 ht3
 show wpAny _ _ (call (.builtin "str.replace") [.str z t3, .str a tk3, .str b (tk3 + 1)]) _ _ _
 refine wpAny_with_toks (n := tk3) (Nat.le_succ_of_le (Nat.le_succ _)) (PySem.SC.replace (Nat.ne_of_gt h4) (Nat.succ_ne_zero _) (Nat.ne_of_lt (Nat.lt_succ_self _)) hab ?_ fun t' k htk => ?_)
 ·have h5 : (z.length + 1) * b.length <= (z.length + 1) * 14 := Nat.mul_le_mul_left _ hb
  omega
 ·exact hQ t' k (Nat.le_trans ht3 htk)
theorem qrp (x : Str) : x.cps.toList.length = x.length := by simp [Str.length]
theorem qts {w : World} {prog : Program} {A : Around} {F : Addr -> Prop} {env : Env} {ρ : Fr} (hsc : ρ.sc = scS) (s : Shared) (as : List Addr) (st : Ev.St) (h1 : 1 <= s.toks) (f : FrRep (Bw w) s.heap as F env ρ) (i : Ev.Inv (Bw w) s.heap as F st) :
  SimX (Bw w) prog w A F env ρ.sc (execs shB env) (gB ρ) s as st := by
 intro fl ρ' st' hv Q E hQ
 unfold gB at hv
 generalize hw : ρ.vars.lookup ("word" : Str) = o at hv
 rcases o with _ | v
 ·exact (q02 hv).elim
 cases v <;> first | exact (q02 hv).elim | skip
 rename_i z
 obtain ⟨r, st1, h2g, hv1⟩ := q00 hv
 obtain ⟨h2, rfl⟩ := q0k h2g
 obtain ⟨ρ1, st2, h3g, hv2⟩ := q00 hv1
 obtain ⟨h3, rfl⟩ := q0k h3g
 obtain ⟨hv3, rfl⟩ := q03 hv2
 cases hv3
 unfold sh1 at h2
 split at h2
 case isFalse => cases h2
 rename_i hc
 cases h2
 obtain ⟨c1, c2, c3, c4⟩ := hc
 rw [qrp] at c2 c3
 obtain ⟨m, hn, hm⟩ := f.loc
 obtain ⟨y, hy, ry⟩ := hm "word" _ (by rw [hsc]; exact q2p.1) hw
 obtain ⟨t, rfl, hcd⟩ := q1m ry
 rw [qy6]
 show wpAny _ _ (do match <- exec _ env with | .next => execs [] env | f => pure f) Q E s
 refine wpAny_bind (wpAny_Assign_Name ?_ rfl)
 have hlen : (S z).length <= 65536 := by rw [q12]; exact c1
 refine q8b rfl rfl (by decide +kernel) c3 (by decide +kernel) h1 (fun Q E hq => q8b rfl rfl (by decide +kernel) c2 (by decide +kernel) h1 (fun Q E hq => q8b rfl rfl (by decide +kernel) hlen (by decide +kernel) h1 (fun Q E hq => ?_) hq) hq) fun t4 tk4 ht4 => ?_
 ·exact wpAny_Name (wpAny_loadName_local f.kind (f.kindL "word" (by rw [hsc]; exact q2p.1)) hn hy (hq t s.toks (Nat.le_refl _)))
 ·have rr : Rep (Bw w) s.heap as F (.str (Txt.replace (Txt.replace (Txt.replace (S z) "~~" "") "kk" "k") "k~k~k~k" "k~k").cps.toList) (.str (S (Txt.replace (Txt.replace (Txt.replace (S z) "~~" "") "kk" "k") "k~k~k~k" "k~k").cps.toList) t4) :=
   .str _ _ fun c hc => by simpa using List.all_eq_true.mp c4 c hc
  rw [q3v] at rr
  refine qbi (s := { s with toks := tk4 }) f i rr h3 fun h5 tk5 f5 i5 e5 ht5 => ?_
  have sc : ρ'.sc = ρ.sc := by obtain ⟨_, rfl⟩ := Fr.set_some h3; rfl
  exact wpAny_pure (hQ .next h5 as tk5 .next sc f5 i5 e5 (Nat.le_trans ht4 ht5))
noncomputable def gF (ρ : Fr) : EvM (Fl × Fr) := q2r [] ((List.range 12).map fun (i : Nat) => V.int (0 + i)) ρ fun x ρ => do
 let ρ' <- rd fun st => q0e false st (.Name "k" ⟨249, 8, 249, 9⟩) x ρ
 gB ρ'
noncomputable def gAll (ρ : Fr) : EvM (Fl × Fr) := @ite _ (ρ.sc = scS) (Classical.propDecidable _) (do
 match <- gF ρ with
 | (.next, ρ') => match ρ'.vars.lookup ("word" : Str) with
  | some v => pure (.ret v, ρ')
  | .none => bad
 | o => pure o) bad
theorem r1h {w : World} {prog : Program} {A : Around} {F : Addr -> Prop} {env : Env} {ρ : Fr} (hA : Room A 0) : OkX (Bw w) prog w A F env ρ (execs (fB (stm 77)) env) (gAll ρ) := by
 intro s as st f i fl ρ' st' hv Q E hQ
 unfold gAll at hv
 split at hv
 case isFalse => exact (q02 hv).elim
 rename_i hsc
 obtain ⟨⟨fl1, ρ1⟩, st1, h1, hv1⟩ := q00 hv
 have base : (KF w.params).In s.heap := fun a o e => (i.base a o e).1
 rw [qtb]
 show wpAny _ _ (do match <- exec (shF 0) env with | .next => execs [shF 1] env | f => pure f) Q E s
 rw [shF0]
 refine wpAny_bind (wpAny_For ?_ fun x => rfl)
 rw [q5e (by rfl)]
 refine wpAny_bind (wpAny_Name (qjq w "range" (.ty "range") (by rfl) A s env _ _ f.kind (f.kindG "range" (by rw [hsc]; exact q2p.2.2)) f.gl f.bl base fun y hy => ?_) (by decide))
 have hy' : y = .type "range" := qq2 (hy s.heap as F) (by decide)
 subst hy'
 refine callWith_of (P := (KF w.params).In) rfl (fun h' X => ⟨.machine, .inr (.inl rfl), .now⟩) (q1h (es := [.Constant (.int 12) 0 ⟨249, 19, 249, 21⟩]) (keywords := []) rfl (spliced_cons (wpAny_Constant_int (spliced_nil ?_))))
 refine wpAny_evalAll_nil ⟨base, ?_⟩
 refine wpAny_with_toks (n := s.toks + 1) (Nat.le_refl _) (qks (s := { s with toks := s.toks + 1 }) (B := Bw w) (F := F) (as := as) (st := st) (vs := [.int 12]) (Γ := ΓI) (nm := "range") hA (by decide) i (.cons (.int 12 s.toks) .nil) (.rng 0 12) st rfl _ _ fun y h2 as2 tk2 ry i2 e2 ht2 htk => ?_)
 have hsrc : srcV st (.rng 0 12) = some ((List.range 12).map fun (i : Nat) => V.int (0 + i), []) := rfl
 refine qkj (t := .Name "k" ⟨249, 8, 249, 9⟩) (s := { s with heap := h2, toks := tk2 }) i2 ry hsrc fun I h' hbg hw => ?_
 obtain ⟨L, P, T, p0, hk, hL⟩ := hbg
 have f1 := f.on i e2
 have hLF : ∀ a ∈ L, ¬ F a := fun a ha => (i2.fresh (hL a ha)).2
 have htk' : s.toks + 1 <= tk2 := htk
 refine qfs (g := gB) (n0 := 1) hA.hh T (fun ρ hs s as st h1 f i => qts (hs.trans hsc) s as st h1 f i) (h₁ := h2) (as₁ := as2) hL hLF f1 rfl (s := { s with heap := h', toks := tk2 }) (fun x h3 as3 tk3 rx sc f3 i3 e3 ht3 => ?_) (Nat.le_trans (Nat.le_add_left 1 _) htk') rfl p0 (i2.more hk hL (T.live _ _ _ _ p0)) (f1.more hk hL) hw (Ext.keeps hk) h1
 have ht4 : s.toks <= tk3 := Nat.le_trans (Nat.le_trans (Nat.le_succ _) htk') ht3
 cases rx with
 | next =>
  have hv2 : (match ρ1.vars.lookup ("word" : Str) with
   | some v => pure (Fl.ret v, ρ1)
   | .none => bad : EvM (Fl × Fr)) st1 = some ((fl, ρ'), st') := hv1
  generalize hw2 : ρ1.vars.lookup ("word" : Str) = o at hv2
  rcases o with _ | v
  ·exact (q02 hv2).elim
  obtain ⟨hv3, rfl⟩ := q03 hv2
  cases hv3
  obtain ⟨m, hn, hm⟩ := f3.loc
  obtain ⟨y3, hy3, ry3⟩ := hm "word" _ (by rw [sc, hsc]; exact q2p.1) hw2
  show wpAny _ _ (do match <- exec (shF 1) env with | .next => execs [] env | f => pure f) Q E _
  rw [shF1]
  refine wpAny_bind (wpAny_Return_some (wpAny_Name (wpAny_loadName_local f3.kind (f3.kindL "word" (by rw [sc, hsc]; exact q2p.1)) hn hy3 ?_)))
  exact wpAny_pure (hQ _ h3 as3 tk3 (.ret ry3) sc f3 i3 (e2.own.trans e3) ht4)
 | ret r =>
  obtain ⟨hv3, rfl⟩ := q03 hv1
  cases hv3
  exact wpAny_pure (hQ _ h3 as3 tk3 (.ret r) sc f3 i3 (e2.own.trans e3) ht4)
theorem qko {st : Ev.St} : ∀ (xs : List V) (ρ : Fr) (z r : List Nat), ρ.sc = scS -> ρ.vars.lookup ("word" : Str) = some (.str z) -> shN xs.length z = some r ->
  ∃ ρ', q2r [] xs ρ (fun x ρ => do
   let ρ' <- rd fun st => q0e false st (.Name "k" ⟨249, 8, 249, 9⟩) x ρ
   gB ρ') st = some ((.next, ρ'), st) /\ ρ'.sc = scS /\ ρ'.vars.lookup ("word" : Str) = some (.str r)
 | [], ρ, z, r, hs, hw, h => by
  cases h
  exact ⟨ρ, rfl, hs, hw⟩
 | x :: xs, ρ, z, r, hs, hw, h => by
  have h' : (sh1 z).bind (shN xs.length) = some r := h
  cases h1 : sh1 z with
  | none => rw [h1] at h'; cases h'
  | some z1 =>
   rw [h1] at h'
   have hk : ρ.set "k" x = some { ρ with vars := q0c "k" x ρ.vars } := by unfold Ev.Fr.set; rw [hs, q2p.2.1]
   have hb : (rd (fun st => q0e false st (.Name "k" ⟨249, 8, 249, 9⟩) x ρ) : EvM Fr) st = some ({ ρ with vars := q0c "k" x ρ.vars }, st) := by
    unfold rd q0e
    simp [hk]
   have hw1 : ({ ρ with vars := q0c "k" x ρ.vars } : Fr).vars.lookup ("word" : Str) = some (.str z) := by
    show (q0c "k" x ρ.vars).lookup ("word" : Str) = _
    rw [q14, if_neg (by decide +kernel)]; exact hw
   generalize hρ : ({ ρ with vars := q0c "k" x ρ.vars } : Fr) = ρ1 at hb hw1
   have hs1 : ρ1.sc = scS := by rw [<- hρ]; exact hs
   have hset : ρ1.set "word" (.str z1) = some { ρ1 with vars := q0c "word" (.str z1) ρ1.vars } := by unfold Ev.Fr.set; rw [hs1, q2p.1]
   have hg : gB ρ1 st = some ((.next, { ρ1 with vars := q0c "word" (.str z1) ρ1.vars }), st) := by
    unfold gB
    rw [hw1]
    refine (q1b (show (gt (sh1 z) : EvM _) st = some (z1, st) by rw [h1]; rfl)).trans ?_
    refine (q1b (show (gt (ρ1.set "word" (.str z1)) : EvM _) st = some (_, st) by rw [hset]; rfl)).trans rfl
   obtain ⟨ρ', e1, e2, e3⟩ := qko xs { ρ1 with vars := q0c "word" (.str z1) ρ1.vars } z1 r hs1 (by
    show (q0c "word" (.str z1) ρ1.vars).lookup ("word" : Str) = _
    rw [q14, if_pos rfl]) h'
   refine ⟨ρ', ?_, e2, e3⟩
   unfold q2r
   refine (q1b ((q1b hb).trans hg)).trans ?_
   exact (q1b (show (same [] : EvM Unit) st = some ((), st) from rfl)).trans e1
theorem r5t : okFn (fnDs (stm 77)) = true := by kernel_rfl
theorem r5g (z : List Nat) : q4s (fnDs (stm 77)) [.str z] [] = some [(("word" : Str), V.str z)] := by kernel_rfl
theorem r3x : (fnDs (stm 77)).kwarg = none := by kernel_rfl
theorem r1q {st : Ev.St} {z r : List Nat} (h : shN 12 z = some r) : runG gAll (fnDs (stm 77)) [.str z] [] st = some (.str r, st) := by
 unfold runG
 refine (q1b (show (gt (if okFn (fnDs (stm 77)) then q4s (fnDs (stm 77)) [.str z] [] else .none) : EvM _) st = some ([(("word" : Str), V.str z)], st) by rw [r5t, if_pos rfl, r5g]; rfl)).trans ?_
 have hk : q22 (fnDs (stm 77)) [(("word" : Str), V.str z)] = [(("word" : Str), V.str z)] := by unfold q22; rw [r3x]
 rw [hk]
 obtain ⟨ρ', e1, e2, e3⟩ := qko (st := st) ((List.range 12).map fun (i : Nat) => V.int (0 + i)) ⟨scS, [("word", .str z)], fun _ => .none⟩ z r rfl q04 (by simpa using h)
 have hg : gAll ⟨scS, [("word", .str z)], fun _ => .none⟩ st = some ((.ret (.str r), ρ'), st) := by
  unfold gAll
  rw [if_pos rfl]
  refine (q1b (show gF _ st = _ from e1)).trans ?_
  show (match ρ'.vars.lookup ("word" : Str) with
   | some v => pure (Fl.ret v, ρ')
   | .none => bad : EvM (Fl × Fr)) st = _
  rw [e3]; rfl
 exact (q1b hg).trans rfl
theorem r65 (w : World) {prog : Program} : BindOk w prog (fnDs (stm 77)) (fdOf (qdh w.params)) := by
 refine q08 (by kernel_rfl) (by kernel_rfl) (by kernel_rfl) fun xs h => ?_
 have h1 : (fnDs (stm 77)).params.length = 1 := by kernel_rfl
 rw [h1] at h
 obtain ⟨x, rfl⟩ := len1 h
 kernel_rfl
theorem r4b (w : World) : (KF w.params).lookup 332 = some (qdh w.params) := by kernel_rfl
theorem r5a (w : World) : (KF w.params).lookup 331 = some (qmp w.params) := by kernel_rfl
theorem r5s (w : World) {prog : Program} : FnOk (Bw w) prog w 332 (fnDs (stm 77)) (qdh w.params) (fdOf (qdh w.params)) where
 look := r4b w
 data := rfl
 body := rfl
 scope := rfl
 globals := rfl
 builtins := rfl
 closure := rfl
 code := fun h X => ⟨331, qmp w.params, _, _, rfl, X _ _ (r5a w), rfl, rfl⟩
 bind := r65 w
theorem qs8 (w : World) {prog : Program} : ∀ x p a, qm4 x = some p -> (Bw w).addr x = some a -> ∀ (A : Around) (F : Addr -> Prop) (s : Shared) (as : List Addr) (st : Ev.St) vs xs, Room A 1 -> Ev.Inv (Bw w) s.heap as F st -> Reps (Bw w) s.heap as F vs xs ->
  Sim (Bw w) prog w A F no (RV (Bw w) F) (call (.ref a) xs []) (p vs) s as st := by
 intro x p a hp ha A F s as st vs xs hA i rs v st' hv Q E hQ
 unfold qm4 at hp
 split at hp
 case isFalse => cases hp
 rename_i hx
 subst hx
 cases hp
 have ha' : adT.lookup ("_law_short" : Str) = some a := ha
 rw [q5a] at ha'
 cases ha'
 rcases vs with _ | ⟨k, _ | ⟨d, r⟩⟩
 ·exact (q02 hv).elim
 ·cases k <;> first | exact (q02 hv).elim | skip
  rename_i z
  have hv' : (gt ((shN 12 z).map V.str) : EvM V) st = some (v, st') := hv
  obtain ⟨h1, rfl⟩ := q0k hv'
  cases h2 : shN 12 z with
  | none => rw [h2] at h1; cases h1
  | some r =>
   rw [h2] at h1
   cases h1
   exact qpk (g := gAll) (r5s w) (q8g w) hA (fun A' F' env' ρ' hA' => r1h hA') i rs ⟨rfl, .nil⟩ _ _ (r1q h2) Q E hQ
 ·cases k <;> exact (q02 hv).elim
end Mine
end
section
namespace Mine
open Ev
noncomputable def kp3 : List (Nat × Nat) := [(179,37),(179,92),(179,97),(179,101),(179,105),(179,109),(202,19),(202,20),(211,28),(214,12),(216,15),(86,54),(158,16)]
noncomputable def P03 : Prg := { fns := fnT.map fun p => (p.1, fnDs p.2), mths := mtT.map fun p => (p.1, fnDs p.2), glob := qnt, gd := gd03, keep := fun p => kp3.contains (p.line, p.col), prim := qm4 }
noncomputable def FnAt (w : World) (prog : Program) (x : Str) (d : FnD) : Prop := ∀ a, adT.lookup x = some a -> ∃ o fd, FnOk (Bw w) prog w a d o fd
noncomputable def MtAt (w : World) (prog : Program) (x : Str) (d : FnD) : Prop := ∀ a, mtA.lookup x = some a -> ∃ o fd, FnOk (Bw w) prog w a d o fd
theorem q21 {l : List (Str × Addr)} {x : Str} {b : Addr} {Q : Addr -> Prop} (h : l.lookup x = some b) (q : Q b) : ∀ a, l.lookup x = some a -> Q a := fun a ha => by rw [h] at ha; cases ha; exact q
theorem r40 (w : World) {prog : Program} : ∀ x d, P03.fns.lookup x = some d -> FnAt w prog x d := qcx (P := fun x d => FnAt w prog x d) ⟨q21 q4d ⟨_, _, q92 w⟩, q21 q3g ⟨_, _, q6x w⟩, q21 q4z ⟨_, _, qaq w⟩, q21 q2y ⟨_, _, q6g w⟩, q21 qg7 ⟨_, _, qns w⟩, q21 q66 ⟨_, _, qcv w⟩, q21 q37 ⟨_, _, q73 w⟩, q21 q49 ⟨_, _, q8s w⟩, q21 q7q ⟨_, _, qfg w⟩, q21 q5x ⟨_, _, qcj w⟩, q21 q5q ⟨_, _, qc4 w⟩, q21 q61 ⟨_, _, qbz w⟩, q21 q48 ⟨_, _, q8w w⟩, q21 q67 ⟨_, _, qbf w⟩, q21 q4a ⟨_, _, q8q w⟩, q21 qjw ⟨_, _, qvh w⟩, trivial⟩
theorem qw6 (w : World) {prog : Program} : ∀ x d, P03.mths.lookup x = some d -> MtAt w prog x d := qcx (P := fun x d => MtAt w prog x d) ⟨q21 q1p ⟨_, _, quj w⟩, q21 qcw ⟨_, _, qht w⟩, q21 qpc ⟨_, _, qzn w⟩, q21 qg5 ⟨_, _, qn8 w⟩, q21 q57 ⟨_, _, qaf w⟩, q21 q5p ⟨_, _, qt6 w⟩, trivial⟩
theorem r2d (w : World) {prog : Program} : BaseOk (Bw w) prog w P03 where
 glob := qjq w
 keys := qzj w
 keep := qq4 w
 nolimit := q8g w
 fns := fun x d a _ h ha => r40 w x d h a ha
 prims := fun x p a hp ha => qs8 w x p a hp ha
 mths := fun x d a h ha => qw6 w x d h a ha
 getG := qya w
 callG := qs9 w
 getH := qws w
 attr := r0d w
 new := r4u w
theorem r3t (w : World) {prog : Program} (n : Nat) : CtxOk (Bw w) prog w (ctxN P03 n) n := r00 (r2d w) n
end Mine
end
section
namespace Mine
open Ev
theorem qqw {h : Heap} {a : Addr} {m m' : Str -> Option Value} (x : h.Ns a m) (y : h.Ns a m') (n : Str) : m n = m' n := by
 obtain ⟨o, es, ep, h1, h2, _, h3⟩ := x
 obtain ⟨o', es', ep', h1', h2', _, h3'⟩ := y
 rw [h1] at h1'
 cases h1'
 rw [h2] at h2'
 cases h2'
 rw [<- h3, h3']
theorem qdo {B : Base} {h : Heap} {as : List Addr} {F : Addr -> Prop} : ∀ {vs : List Value} {ns : List Int}, IntsAre vs ns -> Reps B h as F (ns.map .int) vs
 | _, _, .nil => .nil
 | _, _, .cons _ _ r => .cons (.int _ _) (qdo r)
theorem inv0 {w : World} {h : Heap} (X : (KF w.params).In h) : Ev.Inv (Bw w) h [] no [] where
 len := rfl
 nodup := .nil
 at_ := fun i a o e => by simp at e
 apart := fun a ha => by cases ha
 liveF := fun a ha => ha.elim
 base := fun a o e => ⟨X a o e, by simp, fun h => h⟩
theorem r2x : Room callerA 8 := ⟨rfl, by decide, by decide⟩
theorem qrq {P : Params} {h : Heap} {a : Addr} {d : WData} {its : Array Value} (W : Well P h (.ref a) d) (hL : h.IsList a its) : PlainL h a its := by
 obtain ⟨o, ho, hc, n, hd⟩ := hL
 cases W <;> first
  | (rename_i e _; rw [ho] at e; cases e; exact ⟨_, _, ho, rfl, rfl, hd⟩)
  | (rename_i e; rw [ho] at e; cases e; exact ⟨_, _, ho, hc, rfl, hd⟩)
  | skip
 all_goals (rename_i e; rw [ho] at e; cases e; cases hc)
theorem qx5 (T3 : ∀ script : List Int, script.length <= 63 -> ∃ st', (ctxN P03 8).call (.fn "law") [.lst (script.map .int)] [] [] = some (.bool true, st')) :
  WalkO qv q9m (fun _ _ => True) KH.says PySem.Challenge.rw_kl0260_03.row.toRowW dLaw [] fun f vs => PySem.call f vs := by
 k_fill
 intro w s₀ s₁ mg mb G Y fa o pm cd doc dV kV ho hd hcd hD hmg hg args vals as hpre hlay hrd hwl hlo
 have KX : (KF w.params).In s₁.heap := kIn_of Y
 refine Ground.open G ?_
 intro T B D TE TW
 have hfa : fa = 337 := by
  have e := qqw T.g (qb3 KX (obj3 w) (ns3 w)) "law"
  rw [show mg "law" = some (.ref fa) from hmg, r21 w] at e
  cases e; rfl
 subst hfa
 wrow_args hpre hlay hrd hwl hlo
 rename_i xs _ _ _ _ _ _ _ l its _ hL _ W _ hI _ hlen _
 have hp := qrq W hL
 obtain ⟨st', h3⟩ := T3 xs (by omega)
 have i0 : Ev.Inv (Bw w) s₁.heap [] no [] := inv0 KX
 have r0 : Reps (Bw w) s₁.heap [] no [.lst (xs.map .int)] [.ref l] := .cons (.lst hp (by simp) (fun h => h) (qdo hI)) .nil
 refine (r3t w 8).call callerA no s₁ [] [] (.fn "law") (.ref 337) [] _ _ [] [] r2x i0 (.fn qjw) r0 ⟨rfl, .nil⟩ (.bool true) st' h3 _ _ fun y h' as' tk ry i' e' ht => ?_
 cases ry
 refine ⟨.inl ⟨_, _, [], rfl, fun _ => rfl, ReadsW.bool true, ?_, fun _ => ⟨List.nodup_nil, fun _ hm => (nomatch hm)⟩⟩, .of_keep fun b o hb => e'.keep b o hb (by simp) (fun h => h), rfl, .of_eq hg⟩
 first | rfl | wrow_post
end Mine
end
section
namespace Mt
open Ev
noncomputable def W {α : Type} (t : EvM α) (st : Ev.St) (Q : α -> Ev.St -> Prop) : Prop := ∃ a s, t st = some (a, s) /\ Q a s
theorem W.of {α : Type} {t : EvM α} {st s : Ev.St} {a : α} {Q : α -> Ev.St -> Prop} (h : t st = some (a, s)) (q : Q a s) : W t st Q := ⟨a, s, h, q⟩
theorem W.mono {α : Type} {t : EvM α} {st : Ev.St} {P Q : α -> Ev.St -> Prop} (h : W t st P) (k : ∀ a s, P a s -> Q a s) : W t st Q := by
 obtain ⟨a, s, e, p⟩ := h
 exact ⟨a, s, e, k a s p⟩
theorem W.bind {α β : Type} {t : EvM α} {f : α -> EvM β} {st : Ev.St} {Q : β -> Ev.St -> Prop} (h : W t st fun a s => W (f a) s Q) : W (t >>= f) st Q := by
 obtain ⟨a, s, e, b, s', e', q⟩ := h
 refine ⟨b, s', ?_, q⟩
 show (t st).bind (fun p => f p.1 p.2) = _
 rw [e]; exact e'
theorem W.pure {α : Type} {a : α} {st : Ev.St} {Q : α -> Ev.St -> Prop} (q : Q a st) : W (Pure.pure a : EvM α) st Q := ⟨a, st, rfl, q⟩
theorem W.gt {α : Type} {o : Option α} {a : α} {st : Ev.St} {Q : α -> Ev.St -> Prop} (h : o = some a) (q : Q a st) : W (Ev.gt o) st Q := ⟨a, st, by rw [h]; rfl, q⟩
theorem W.rd {α : Type} {f : Ev.St -> Option α} {a : α} {st : Ev.St} {Q : α -> Ev.St -> Prop} (h : f st = some a) (q : Q a st) : W (Ev.rd f) st Q := ⟨a, st, by unfold Ev.rd; rw [h]; rfl, q⟩
theorem W.eq {α : Type} {t t' : EvM α} {st : Ev.St} {Q : α -> Ev.St -> Prop} (e : t = t') (h : W t' st Q) : W t st Q := by rw [e]; exact h
variable {Γ : Ev.Ctx} {ρ : Fr} {st : Ev.St} {p : Pos}
section
variable {Q : V -> Ev.St -> Prop}
theorem qzi {a : Nat} (q : Q .none st) : W (q01 Γ (.Constant .none a p) ρ) st Q := ⟨_, _, rfl, q⟩
theorem r14 {a : Nat} {b : Bool} (q : Q (.bool b) st) : W (q01 Γ (.Constant (.bool b) a p) ρ) st Q := ⟨_, _, rfl, q⟩
theorem r5y {a : Nat} {b : Int} (q : Q (.int b) st) : W (q01 Γ (.Constant (.int b) a p) ρ) st Q := ⟨_, _, rfl, q⟩
noncomputable def okS (s : String) : Bool := (Str.ofString s).cps.all (· < 0x110000) && (Str.ofString s).cps.size <= cap
theorem r3p {a : Nat} {s : String} (h : okS s = true) (q : Q (.str (chs s)) st) : W (q01 Γ (.Constant (.str (Str.ofString s)) a p) ρ) st Q := by
 refine ⟨_, _, ?_, q⟩
 have h' : ((Str.ofString s).cps.all (· < 0x110000) && (Str.ofString s).cps.size <= cap) = true := h
 rw [q01]
 simp only [h', if_true]
 rfl
theorem q8a {x : Str} {v : V} (hx : decide (x = ("__debug__" : Str)) = false) (h : ρ.get Γ x = some v) (q : Q v st) : W (q01 Γ (.Name x p) ρ) st Q := by
 rw [q01, if_neg (of_decide_eq_false hx)]
 exact W.gt h q
theorem qsr {l r : PySem.Expr} {op : Operator} (h : W (q01 Γ l ρ) st fun a s => W (q01 Γ r ρ) s fun b s => ∃ v, binV s op a b = some v /\ Q v s) : W (q01 Γ (.BinOp l op r p) ρ) st Q := by
 rw [q01]
 exact W.bind (h.mono fun a s h => W.bind (h.mono fun b s ⟨v, e, q⟩ => W.rd e q))
theorem qm0 {x : PySem.Expr} {op : UnaryOp} (h : W (q01 Γ x ρ) st fun a s => ∃ v, unV s op a = some v /\ Q v s) : W (q01 Γ (.UnaryOp op x p) ρ) st Q := by
 rw [q01]
 exact W.bind (h.mono fun a s ⟨v, e, q⟩ => W.rd e q)
theorem quc {t a b : PySem.Expr} (h : W (q0g Γ t ρ (q01 Γ t ρ)) st fun c s => W (bif c then q01 Γ a ρ else q01 Γ b ρ) s Q) : W (q01 Γ (.IfExp t a b p) ρ) st Q := by
 rw [q01]
 exact W.bind (h.mono fun c s h => by cases c <;> exact h)
theorem qm5 {l : PySem.Expr} {op : CmpOp} {r : PySem.Expr} (h : W (q01 Γ l ρ) st fun a s => W (q01 Γ r ρ) s fun b s => ∃ c, cmpV Γ.gd s op a b = some c /\ Q (.bool c) s) : W (q01 Γ (.Compare l [op] [r] p) ρ) st Q := by
 rw [q01]
 refine W.bind (h.mono fun a s h => ?_)
 rw [q2d]
 exact W.bind (W.bind (h.mono fun b s ⟨v, e, q⟩ => W.rd e (W.pure q)))
theorem r2n {l : List PySem.Expr} {op : BoolOp} (h : W (q1f Γ l op ρ) st Q) : W (q01 Γ (.BoolOp op l p) ρ) st Q := by rw [q01]; exact h
theorem r1m {a b : PySem.Expr} (h : W (q01 Γ a ρ) st fun v s => ∃ t, q26 s v = some t /\ (bif t then W (q01 Γ b ρ) s Q else Q v s)) : W (q01 Γ (.BoolOp .And [a, b] p) ρ) st Q := by
 rw [q01, q1f]
 ·refine W.bind (h.mono fun v s ⟨t, e, h⟩ => W.bind (W.rd e ?_))
  cases t
  ·exact W.pure h
  ·rw [q1f]; exact h
 ·simp
noncomputable def plM (o : PySem.Expr) (name : Str) (apos pos : Pos) (a k : Nat) : Bool := (q2l o && apos.endLine == pos.line && qfa a k) && !decide (name = ("replace" : Str))
theorem qr0 {o : PySem.Expr} {name : Str} {apos pos : Pos} {args : List PySem.Expr} {kws : List Keyword} (hc : plM o name apos pos args.length kws.length = true)
  (h : W (q01 Γ o ρ) st fun ov s => ∃ f, Γ.meth s ov name = some f /\ W (q0j Γ args ρ) s fun vs s => W (q0y Γ kws ρ) s fun ks s => W (Γ.call f vs ks) s Q) : W (q01 Γ (.Call (.Attribute o name apos) args kws pos) ρ) st Q := by
 unfold plM at hc
 obtain ⟨h1, h2⟩ := (Bool.and_eq_true _ _).mp hc
 rw [q01]
 refine W.bind (h.mono fun ov s ⟨f, e, h⟩ => ?_)
 rw [if_pos h1, if_neg (by simpa using h2)]
 exact W.bind (W.rd e (W.bind (h.mono fun vs s h => W.bind (h.mono fun ks s h => h))))
theorem qdt {x : Str} {p' : Pos} {args : List PySem.Expr} {kws : List Keyword} (h : W (q01 Γ (.Name x p') ρ) st fun f s => W (q0j Γ args ρ) s fun vs s => W (q0y Γ kws ρ) s fun ks s => W (Γ.call f vs ks) s Q) :
  W (q01 Γ (.Call (.Name x p') args kws p) ρ) st Q := by
 have e : q01 Γ (.Call (.Name x p') args kws p) ρ = (do
  let fv <- q01 Γ (.Name x p') ρ
  let vs <- q0j Γ args ρ
  let ks <- q0y Γ kws ρ
  Γ.call fv vs ks) := by rw [q01] <;> intros <;> first | rfl | simp_all
 rw [e]
 exact W.bind (h.mono fun f s h => W.bind (h.mono fun vs s h => W.bind (h.mono fun ks s h => h)))
theorem qvz {o : PySem.Expr} {name : Str} (hp : q2l o = true) (h : W (q01 Γ o ρ) st fun ov s => ∃ v, Γ.attr ov name = some v /\ Q v s) : W (q01 Γ (.Attribute o name p) ρ) st Q := by
 rw [q01]
 exact W.bind (h.mono fun ov s ⟨v, e, q⟩ => by rw [if_pos hp]; exact W.gt e q)
theorem qu4 {o : PySem.Expr} {a b c : Option PySem.Expr} {p' : Pos} (h : W (q01 Γ o ρ) st fun ov s => W (q38 Γ a ρ) s fun x s => W (q38 Γ b ρ) s fun y s => W (q38 Γ c ρ) s fun z s => ∃ r, q60 s ov x y z = some r /\ W (mkSl Γ p r) s Q) :
  W (q01 Γ (.Subscript o (.Slice a b c p') p) ρ) st Q := by
 rw [q01]
 exact W.bind (h.mono fun ov s h => W.bind (h.mono fun x s h => W.bind (h.mono fun y s h => W.bind (h.mono fun z s ⟨r, e, h⟩ => W.bind (W.rd e h)))))
noncomputable def isSl : PySem.Expr -> Bool | .Slice .. => true | _ => false
theorem qye {o i : PySem.Expr} (hi : isSl i = false) (h : W (q01 Γ o ρ) st fun ov s => W (q01 Γ i ρ) s fun iv s => ∃ v, q1o s ov iv = some v /\ Q v s) : W (q01 Γ (.Subscript o i p) ρ) st Q := by
 have e : q01 Γ (.Subscript o i p) ρ = (do
  let ov <- q01 Γ o ρ
  let iv <- q01 Γ i ρ
  Ev.rd fun st => q1o st ov iv) := by
  cases i <;> first | exact Bool.noConfusion hi | rfl | (rw [q01] <;> intros <;> first | rfl | simp_all | trace_state)
 rw [e]
 exact W.bind (h.mono fun f s h => W.bind (h.mono fun vs s ⟨v, e, q⟩ => W.rd e q))
theorem qvc {es : List PySem.Expr} (h : W (q0j Γ es ρ) st fun vs s => W (q1q Γ p vs) s Q) : W (q01 Γ (.List es p) ρ) st Q := by
 rw [q01]; exact W.bind h
theorem qqz {es : List PySem.Expr} {k : Nat} (hl : decide (es.length <= cap) = true) (h : W (q0j Γ es ρ) st fun vs s => Q (.tup vs) s) : W (q01 Γ (.Tuple es k p) ρ) st Q := by
 rw [q01, if_pos (of_decide_eq_true hl)]; exact W.bind (h.mono fun vs s q => W.pure q)
noncomputable def okC (ρ : Fr) (sc : Scope) (gs : List Comprehension) : Bool := q72 ρ sc && gs.all q52 && !gs.isEmpty
theorem r1l {e : PySem.Expr} {gs : List Comprehension} {sc : Scope} (hc : okC ρ sc gs = true) (h : W (q0t Γ gs (fun ρ' => do return [<- q01 Γ e ρ']) ρ ⟨sc.names, [], ρ.seen Γ⟩) st fun xs s => W (q1q Γ p xs) s Q) : W (q01 Γ (.ListComp e gs sc p) ρ) st Q := by
 have hc' : (q72 ρ sc && gs.all q52 && !gs.isEmpty) = true := hc
 rw [q01, if_pos hc']
 exact W.bind h
theorem q0q {vs : List V} (hl : vs.length <= cap) (hk : Γ.keep p = false) (q : Q (.lst vs) st) : W (q1q Γ p vs) st Q := by
 unfold q1q
 rw [if_pos hl, hk]
 exact W.pure q
theorem r6d {vs : List V} (hl : vs.length <= cap) (hk : Γ.keep p = true) (q : Q (.ref st.length) (st ++ [.list vs])) : W (q1q Γ p vs) st Q := by
 unfold q1q
 rw [if_pos hl, hk]
 exact ⟨_, _, rfl, q⟩
theorem r4z {z : List Nat} (q : Q (.str z) st) : W (mkSl Γ p (.str z)) st Q := W.pure q
theorem qbw {vs : List V} (h : W (q1q Γ p vs) st Q) : W (mkSl Γ p (.lst vs)) st Q := h
end
section
variable {Q : List V -> Ev.St -> Prop}
theorem r5h (q : Q [] st) : W (q0j Γ [] ρ) st Q := by rw [q0j]; exact W.pure q
theorem r0h {e : PySem.Expr} {es : List PySem.Expr} (h : W (q01 Γ e ρ) st fun v s => W (q0j Γ es ρ) s fun vs s => Q (v :: vs) s) : W (q0j Γ (e :: es) ρ) st Q := by
 rw [q0j]; exact W.bind (h.mono fun v s h => W.bind (h.mono fun vs s q => W.pure q))
theorem r0n {e : PySem.Expr} (h : W (q01 Γ e ρ) st fun v s => Q [v] s) : W (do return [<- q01 Γ e ρ]) st Q := W.bind (h.mono fun v s q => W.pure q)
end
section
variable {Q : List (Str × V) -> Ev.St -> Prop}
theorem qxg (q : Q [] st) : W (q0y Γ [] ρ) st Q := by rw [q0y]; exact W.pure q
theorem qsj {e : PySem.Expr} {n : Str} {ks : List Keyword} (h : W (q01 Γ e ρ) st fun v s => W (q0y Γ ks ρ) s fun vs s => Q ((n, v) :: vs) s) : W (q0y Γ (⟨some n, e, p⟩ :: ks) ρ) st Q := by
 rw [q0y]; exact W.bind (h.mono fun v s h => W.bind (h.mono fun vs s q => W.pure q))
end
section
variable {Q : V -> Ev.St -> Prop}
theorem w_on (q : Q .none st) : W (q38 Γ none ρ) st Q := by rw [q38]; exact W.pure q
theorem w_os {e : PySem.Expr} (h : W (q01 Γ e ρ) st Q) : W (q38 Γ (some e) ρ) st Q := by rw [q38]; exact h
end
section
variable {Q : Bool -> Ev.St -> Prop} {t0 : EvM V}
theorem qww {l : PySem.Expr} {op : CmpOp} {r : PySem.Expr} (h : W (q01 Γ l ρ) st fun a s => W (q01 Γ r ρ) s fun b s => ∃ c, cmpV Γ.gd s op a b = some c /\ Q c s) : W (q0g Γ (.Compare l [op] [r] p) ρ t0) st Q := by
 rw [q0g]
 refine W.bind (h.mono fun a s h => ?_)
 rw [q2d]
 exact W.bind (h.mono fun b s ⟨v, e, q⟩ => W.rd e q)
theorem qxa {x : PySem.Expr} (h : W (q0g Γ x ρ (q01 Γ x ρ)) st fun c s => Q (!c) s) : W (q0g Γ (.UnaryOp .Not x p) ρ t0) st Q := by
 rw [q0g]; exact W.bind (h.mono fun c s q => W.pure q)
theorem r0b {a b : PySem.Expr} (h : W (q0g Γ a ρ (q01 Γ a ρ)) st fun c s => bif c then Q true s else W (q0g Γ b ρ (q01 Γ b ρ)) s Q) : W (q0g Γ (.BoolOp .Or [a, b] p) ρ t0) st Q := by
 rw [q0g, q13]
 refine W.bind (h.mono fun c s h => ?_)
 cases c
 ·rw [q13]
  refine W.bind (W.mono h fun c s q => ?_)
  cases c
  ·rw [q13]; exact W.pure q
  ·exact W.pure q
 ·exact W.pure h
theorem qr6 {a b : PySem.Expr} (h : W (q0g Γ a ρ (q01 Γ a ρ)) st fun c s => bif c then W (q0g Γ b ρ (q01 Γ b ρ)) s Q else Q false s) : W (q0g Γ (.BoolOp .And [a, b] p) ρ t0) st Q := by
 rw [q0g, q13]
 refine W.bind (h.mono fun c s h => ?_)
 cases c
 ·exact W.pure h
 ·rw [q13]
  refine W.bind (W.mono h fun c s q => ?_)
  cases c
  ·exact W.pure q
  ·rw [q13]; exact W.pure q
noncomputable def valT : PySem.Expr -> Bool | .Name .. | .BinOp .. | .Call .. | .Subscript .. => true | _ => false
theorem qv9 {x : PySem.Expr} (hx : valT x = true) (h : W t0 st fun v s => ∃ t, q26 s v = some t /\ Q t s) : W (q0g Γ x ρ t0) st Q := by
 have e : q0g Γ x ρ t0 = (do
  let v <- t0
  Ev.rd fun st => q26 st v) := by
  cases x <;> first | exact Bool.noConfusion hx | (rw [q0g] <;> intros <;> first | rfl | simp_all)
 rw [e]
 exact W.bind (h.mono fun v s ⟨t, e, q⟩ => W.rd e q)
theorem qux (q : Q true st) : W (q0v Γ [] ρ) st Q := by rw [q0v]; exact W.pure q
theorem qus {e : PySem.Expr} {es : List PySem.Expr} (h : W (q0g Γ e ρ (q01 Γ e ρ)) st fun c s => bif c then W (q0v Γ es ρ) s Q else Q false s) : W (q0v Γ (e :: es) ρ) st Q := by
 rw [q0v]
 refine W.bind (h.mono fun c s h => ?_)
 cases c
 ·exact W.pure h
 ·exact h
end
end Mt
end
section
namespace Mt
open Ev
variable {Γ : Ev.Ctx} {ρ : Fr} {st : Ev.St} {p : Pos}
section
variable {Q : Fl × Fr -> Ev.St -> Prop} {r : List Stmt}
theorem r42 (q : Q (.next, ρ) st) : W (q09 Γ [] ρ) st Q := by rw [q09]; exact W.pure q
theorem qer {s : Stmt} (h : W (q0m Γ s ρ) st fun o s' => match o.1 with | .next => W (q09 Γ r o.2) s' Q | .ret v => Q (.ret v, o.2) s') : W (q09 Γ (s :: r) ρ) st Q := by
 rw [q09]
 refine W.bind (h.mono fun o s' h => ?_)
 obtain ⟨fl, ρ'⟩ := o
 cases fl
 ·exact h
 ·exact W.pure h
theorem r37 {e : PySem.Expr} (h : W (q01 Γ e ρ) st fun v s => Q (.ret v, ρ) s) : W (q09 Γ (.Return (some e) p :: r) ρ) st Q := by
 refine qer ?_
 rw [q0m]
 exact W.bind (h.mono fun v s q => W.pure q)
theorem qxx {e : PySem.Expr} (hc : qea e = true) (h : W (q01 Γ e ρ) st fun v s => W (q09 Γ r ρ) s Q) : W (q09 Γ (.Expr e p :: r) ρ) st Q := by
 refine qer ?_
 rw [q0m, if_pos hc]
 exact W.bind (h.mono fun v s q => W.pure q)
theorem qno {t e : PySem.Expr} (h : W (q01 Γ e ρ) st fun v s => ∃ ρ', q6c s t e v ρ = some ρ' /\ W (q09 Γ r ρ') s Q) : W (q09 Γ (.Assign [t] e p :: r) ρ) st Q := by
 refine qer ?_
 rw [q0m]
 exact W.bind (h.mono fun v s ⟨ρ', e, h⟩ => W.bind (W.rd e (W.pure h)))
theorem r18 {x : Str} {p' : Pos} {op : Operator} {e : PySem.Expr} {a : V} (ha : ρ.get Γ x = some a) (h : W (q01 Γ e ρ) st fun b s => ∃ c, augV op a b = some c /\ ∃ ρ', ρ.set x c = some ρ' /\ W (q09 Γ r ρ') s Q) :
  W (q09 Γ (.AugAssign (.Name x p') op e p :: r) ρ) st Q := by
 refine qer ?_
 rw [q0m]
 exact W.bind (W.gt ha (W.bind (h.mono fun b s ⟨c, e1, ρ', e2, h⟩ => W.bind (W.gt e1 (W.bind (W.gt e2 (W.pure h)))))))
theorem qw9 {o i : PySem.Expr} {p' : Pos} {op : Operator} {e : PySem.Expr} (hi : isSl i = false) (h : W (q01 Γ o ρ) st fun ov s => W (q01 Γ i ρ) s fun iv s => ∃ a, q1o s ov iv = some a /\ W (q01 Γ e ρ) s fun b s => ∃ c, augV op a b = some c /\ W (q1y ov iv c) s fun _ s => W (q09 Γ r ρ) s Q) :
  W (q09 Γ (.AugAssign (.Subscript o i p') op e p :: r) ρ) st Q := by
 refine qer ?_
 have e : q0m Γ (.AugAssign (.Subscript o i p') op e p) ρ = (do
   let ov <- q01 Γ o ρ
   let iv <- q01 Γ i ρ
   let a <- rd fun st => q1o st ov iv
   let b <- q01 Γ e ρ
   let c <- gt (augV op a b)
   q1y ov iv c
   pure (.next, ρ)) := by
  cases i <;> first | exact Bool.noConfusion hi | rfl
 rw [e]
 exact W.bind (h.mono fun ov s h => W.bind (h.mono fun iv s ⟨a, e1, h⟩ => W.bind (W.rd e1 (W.bind (h.mono fun b s ⟨c, e2, h⟩ => W.bind (W.gt e2 (W.bind (h.mono fun _ s h => W.pure h))))))))
theorem q62 {b : List Stmt} : ∀ {a : List Stmt} {ρ : Fr}, q09 Γ (a ++ b) ρ = (do match <- q09 Γ a ρ with
   | (.next, ρ') => q09 Γ b ρ'
   | o => pure o)
 | [], ρ => by rw [q09]; rfl
 | s :: a, ρ => by
  rw [List.cons_append, q09, q09]
  funext st
  show ((q0m Γ s ρ st).bind _) = (((q0m Γ s ρ st).bind _).bind _)
  cases q0m Γ s ρ st with
  | none => rfl
  | some o =>
   obtain ⟨⟨fl, ρ'⟩, s'⟩ := o
   cases fl
   ·show q09 Γ (a ++ b) ρ' s' = (q09 Γ a ρ' s').bind _
    rw [q62]; rfl
   ·rfl
theorem W.bind' {α β : Type} {t : EvM α} {f : α -> EvM β} {st : Ev.St} {Q : β -> Ev.St -> Prop} (h : W (t >>= f) st Q) : W t st fun a s => W (f a) s Q := by
 obtain ⟨b, s', e, q⟩ := h
 have e' : (t st).bind (fun p => f p.1 p.2) = some (b, s') := e
 cases ht : t st with
 | none => rw [ht] at e'; cases e'
 | some o =>
  rw [ht] at e'
  exact ⟨o.1, o.2, ht, b, s', e', q⟩
theorem x_If {t : PySem.Expr} {a b : List Stmt} (h : W (q0g Γ t ρ (q01 Γ t ρ)) st fun c s => W (q09 Γ ((bif c then a else b) ++ r) ρ) s Q) : W (q09 Γ (.If t a b p :: r) ρ) st Q := by
 refine qer ?_
 rw [q0m]
 refine W.bind (h.mono fun c s h => ?_)
 rw [q62] at h
 have h := W.bind' h
 cases c
 ·refine W.mono h fun o s' h => ?_
  obtain ⟨fl, ρ'⟩ := o
  cases fl
  ·exact h
  ·obtain ⟨_, _, e, q⟩ := h; cases e; exact q
 ·refine W.mono h fun o s' h => ?_
  obtain ⟨fl, ρ'⟩ := o
  cases fl
  ·exact h
  ·obtain ⟨_, _, e, q⟩ := h; cases e; exact q
noncomputable def qna (Γ : Ev.Ctx) (t : PySem.Expr) (body : List Stmt) (x : V) (ρ : Fr) : EvM (Fl × Fr) := do
 let ρ' <- rd fun st => q0e false st t x ρ
 q09 Γ body ρ'
theorem qwg {t it : PySem.Expr} {body : List Stmt} (hi : q0d it = true) (h : W (q0f Γ t it (q01 Γ it ρ) ρ) st fun xs s => W (q2r xs.2 xs.1 ρ (qna Γ t body)) s fun o s' => match o.1 with | .next => W (q09 Γ r o.2) s' Q | .ret v => Q (.ret v, o.2) s') :
  W (q09 Γ (.For t it body [] p :: r) ρ) st Q := by
 refine qer ?_
 rw [q0m, if_pos hi]
 exact W.bind h
theorem qpn {t : PySem.Expr} {body : List Stmt} {x : V} {ρ' : Fr} (hb : q0e false st t x ρ = some ρ') (h : W (q09 Γ body ρ') st Q) : W (qna Γ t body x ρ) st Q := W.bind (W.rd hb h)
theorem qrz {ws : List (Nat × O)} {f : V -> Fr -> EvM (Fl × Fr)} (q : Q (.next, ρ) st) : W (q2r ws [] ρ f) st Q := by rw [q2r]; exact W.pure q
theorem qlk {ws : List (Nat × O)} {f : V -> Fr -> EvM (Fl × Fr)} {x : V} {xs : List V} (h : W (f x ρ) st fun o s => match o.1 with | .next => W (same ws) s fun _ s => W (q2r ws xs o.2 f) s Q | .ret v => Q (.ret v, o.2) s) : W (q2r ws (x :: xs) ρ f) st Q := by
 rw [q2r]
 refine W.bind (h.mono fun o s h => ?_)
 obtain ⟨fl, ρ'⟩ := o
 cases fl
 ·exact W.bind (W.mono h fun _ s h => h)
 ·exact W.pure h
theorem r48 {f : V -> Fr -> EvM (Fl × Fr)} {x : V} {xs : List V} (h : W (f x ρ) st fun o s => match o.1 with | .next => W (q2r [] xs o.2 f) s Q | .ret v => Q (.ret v, o.2) s) : W (q2r [] (x :: xs) ρ f) st Q := by
 refine qlk (h.mono fun o s h => ?_)
 obtain ⟨fl, ρ'⟩ := o
 cases fl
 ·exact ⟨(), s, rfl, h⟩
 ·exact h
theorem qp8 {ws : List (Nat × O)} {f : V -> Fr -> EvM (Fl × Fr)} (I : List V -> Fr -> Ev.St -> Prop) {Q : Fl × Fr -> Ev.St -> Prop} (hq : ∀ ρ s, I [] ρ s -> Q (.next, ρ) s) (hs : ∀ x xs ρ s, I (x :: xs) ρ s -> W (f x ρ) s fun o s' => match o.1 with | .next => same ws s' = some ((), s') /\ I xs o.2 s' | .ret v => Q (.ret v, o.2) s') :
  ∀ (xs : List V) {ρ : Fr} {st : Ev.St}, I xs ρ st -> W (q2r ws xs ρ f) st Q
 | [], ρ, st, i => qrz (hq ρ st i)
 | x :: xs, ρ, st, i => by
  refine qlk ((hs x xs ρ st i).mono fun o s' h => ?_)
  obtain ⟨fl, ρ'⟩ := o
  cases fl
  ·exact ⟨(), s', h.1, qp8 I hq hs xs h.2⟩
  ·exact h
theorem q6i {ws : List (Nat × O)} {f : V -> Fr -> EvM (Fl × Fr)} (I : List V -> Fr -> Ev.St -> Prop) {Q : Fl × Fr -> Ev.St -> Prop} (hq : ∀ ρ s, I [] ρ s -> Q (.next, ρ) s) (hs : ∀ x xs ρ s, I (x :: xs) ρ s -> W (f x ρ) s fun o s' => o.1 = .next /\ same ws s' = some ((), s') /\ I xs o.2 s') :
  ∀ (xs : List V) {ρ : Fr} {st : Ev.St}, I xs ρ st -> W (q2r ws xs ρ f) st Q
 | [], ρ, st, i => qrz (hq ρ st i)
 | x :: xs, ρ, st, i => by
  refine qlk ((hs x xs ρ st i).mono fun o s' h => ?_)
  obtain ⟨fl, ρ'⟩ := o
  obtain ⟨h1, h2, h3⟩ := h
  cases h1
  exact ⟨(), s', h2, q6i I hq hs xs h3⟩
end
section
variable {Q : List V × List (Nat × O) -> Ev.St -> Prop} {t0 : EvM V} {t : PySem.Expr}
noncomputable def isCN : PySem.Expr -> Bool | .Call (.Name _ _) _ [] _ => true | _ => false
theorem qtp {it : PySem.Expr} (hi : isCN it = false) (h : W t0 st fun v s => ∃ r, srcV s v = some r /\ Q r s) : W (q0f Γ t it t0 ρ) st Q := by
 have e : q0f Γ t it t0 ρ = (do
   let v <- t0
   Ev.rd fun st => srcV st v) := by
  unfold q0f
  split
  ·exact Bool.noConfusion hi
  ·rfl
 rw [e]
 exact W.bind (h.mono fun v s ⟨r, e, q⟩ => W.rd e q)
noncomputable def qmt : V -> Bool | .ty n => !decide (n = "enumerate") | _ => true
theorem qzr {f : Str} {p' : Pos} {args : List PySem.Expr} {v0 : V} (hf : ρ.get Γ f = some v0) (hn : qmt v0 = true) (h : W t0 st fun v s => ∃ r, srcV s v = some r /\ Q r s) : W (q0f Γ t (.Call (.Name f p') args [] p) t0 ρ) st Q := by
 have e : q0f Γ t (.Call (.Name f p') args [] p) t0 ρ = (do
   let v <- t0
   Ev.rd fun st => srcV st v) := by
  rw [q0f, hf]
  cases v0 <;> first | rfl | skip
  rename_i n
  have hn' : ¬ n = "enumerate" := by simpa [qmt] using hn
  show (if n = "enumerate" /\ f ≠ ("__debug__" : Str) then _ else _) = _
  rw [if_neg (fun h => hn' h.1)]
 rw [e]
 exact W.bind (h.mono fun v s ⟨r, e, q⟩ => W.rd e q)
theorem r2g {f : Str} {p' : Pos} {args : List PySem.Expr} (hf : ρ.get Γ f = some (.ty "enumerate")) (hn : decide (f = ("__debug__" : Str)) = false) (ht : qd0 t = true) (h : W (q0j Γ args ρ) st fun vs s => ∃ xs, vs = [.lst xs] /\ Q (xs.zipIdx.map fun x => .tup [.int x.2, x.1], []) s) :
  W (q0f Γ t (.Call (.Name f p') args [] p) t0 ρ) st Q := by
 rw [q0f, hf]
 show W (if "enumerate" = "enumerate" /\ f ≠ ("__debug__" : Str) then _ else _) _ _
 rw [if_pos ⟨rfl, of_decide_eq_false hn⟩]
 refine W.bind (h.mono fun vs s ⟨xs, e, q⟩ => ?_)
 subst e
 show W (if qd0 t = true then _ else _) _ _
 rw [if_pos ht]
 exact W.pure q
end
section
variable {Q : List V -> Ev.St -> Prop}
theorem r2h {ws : List (Nat × O)} {f : V -> EvM (List V)} (q : Q [] st) : W (mapE ws [] f) st Q := by rw [mapE]; exact W.pure q
theorem qpv {ws : List (Nat × O)} {f : V -> EvM (List V)} {x : V} {xs : List V} (h : W (f x) st fun a s => W (same ws) s fun _ s => W (mapE ws xs f) s fun b s => Q (a ++ b) s) : W (mapE ws (x :: xs) f) st Q := by
 rw [mapE]
 exact W.bind (h.mono fun a s h => W.bind (h.mono fun _ s h => W.bind (h.mono fun b s q => W.pure q)))
theorem qiv {ws : List (Nat × O)} {f : V -> EvM (List V)} {α : Type} (h : α -> V) (g : α -> List V) {st : Ev.St} (hw : same ws st = some ((), st)) (l : List α) (hf : ∀ a ∈ l, W (f (h a)) st fun r s => r = g a /\ s = st) : W (mapE ws (l.map h) f) st fun r s => r = l.flatMap g /\ s = st := by
 induction l with
 | nil => exact r2h ⟨rfl, rfl⟩
 | cons a l ih =>
  refine qpv ((hf a (List.mem_cons_self ..)).mono fun r s h => ?_)
  obtain ⟨h1, h2⟩ := h
  subst h1 h2
  refine ⟨(), _, hw, (ih fun b hb => hf b (List.mem_cons_of_mem _ hb)).mono fun r s h => ?_⟩
  obtain ⟨h1, h2⟩ := h
  subst h1 h2
  exact ⟨rfl, rfl⟩
noncomputable def qi6 (Γ : Ev.Ctx) (t : PySem.Expr) (ifs : List PySem.Expr) (gs : List Comprehension) (leaf : Fr -> EvM (List V)) (ρi : Fr) (x : V) : EvM (List V) := do
 let ρ' <- rd fun st => q0e true st t x ρi
 if <- q0v Γ ifs ρ' then q0t Γ gs leaf ρ' ρ' else pure []
theorem r3b {leaf : Fr -> EvM (List V)} {ρi : Fr} (h : W (leaf ρi) st Q) : W (q0t Γ [] leaf ρ ρi) st Q := by rw [q0t]; exact h
theorem r29 {leaf : Fr -> EvM (List V)} {ρi : Fr} {t it : PySem.Expr} {ifs : List PySem.Expr} {gs : List Comprehension} (hp : q0d it = true) (h : W (q0f Γ t it (q01 Γ it ρ) ρ) st fun xs s => W (mapE xs.2 xs.1 (qi6 Γ t ifs gs leaf ρi)) s Q) :
  W (q0t Γ (⟨t, it, ifs, 0⟩ :: gs) leaf ρ ρi) st Q := by
 rw [q0t]
 refine W.eq (if_pos (by rw [hp]; rfl)) ?_
 exact W.bind h
theorem qg4 {leaf : Fr -> EvM (List V)} {ρi ρ' : Fr} {t : PySem.Expr} {ifs : List PySem.Expr} {gs : List Comprehension} {x : V} (hb : q0e true st t x ρi = some ρ') (h : W (q0v Γ ifs ρ') st fun c s => bif c then W (q0t Γ gs leaf ρ' ρ') s Q else Q [] s) :
  W (qi6 Γ t ifs gs leaf ρi x) st Q := by
 refine W.bind (W.rd hb (W.bind (h.mono fun c s h => ?_)))
 cases c
 ·exact W.pure h
 ·exact h
end
theorem qt2 {vars : List (Str × V)} {sc : List (Str × NameKind)} {out : Str -> Option V} {x : Str} {v : V} (hk : (sc.lookup x == some .local || sc.lookup x == some .cell) = true) (h : vars.lookup x = some v) : (⟨sc, vars, out⟩ : Fr).get Γ x = some v := by
 unfold Ev.Fr.get
 show (match sc.lookup x with | some .local | some .cell => vars.lookup x | some .free => out x | some .globalImplicit => Γ.glob x | _ => none) = _
 rcases (Bool.or_eq_true _ _).mp hk with h1 | h1 <;> rw [eq_of_beq h1] <;> exact h
theorem qmv {vars : List (Str × V)} {sc : List (Str × NameKind)} {out : Str -> Option V} {x : Str} {v : V} (hk : (sc.lookup x == some .free) = true) (h : out x = some v) : (⟨sc, vars, out⟩ : Fr).get Γ x = some v := by
 unfold Ev.Fr.get
 show (match sc.lookup x with | some .local | some .cell => vars.lookup x | some .free => out x | some .globalImplicit => Γ.glob x | _ => none) = _
 rw [eq_of_beq hk]; exact h
theorem q27 {vars : List (Str × V)} {sc : List (Str × NameKind)} {out : Str -> Option V} {x : Str} {v : V} (hk : (sc.lookup x == some .globalImplicit) = true) (h : Γ.glob x = some v) : (⟨sc, vars, out⟩ : Fr).get Γ x = some v := by
 unfold Ev.Fr.get
 show (match sc.lookup x with | some .local | some .cell => vars.lookup x | some .free => out x | some .globalImplicit => Γ.glob x | _ => none) = _
 rw [eq_of_beq hk]; exact h
theorem qk2 {vars : List (Str × V)} {sc : List (Str × NameKind)} {out : Str -> Option V} {x : Str} {v : V} (hk : (sc.lookup x == some .cell) = true) (h : vars.lookup x = some v) : (⟨sc, vars, out⟩ : Fr).seen Γ x = some v := by
 unfold Ev.Fr.seen
 show (match sc.lookup x with | some .cell => vars.lookup x | some .free => out x | _ => none) = _
 rw [eq_of_beq hk]; exact h
theorem qle {vars : List (Str × V)} {sc : List (Str × NameKind)} {out : Str -> Option V} {x : Str} {v : V} (hk : (sc.lookup x == some .free) = true) (h : out x = some v) : (⟨sc, vars, out⟩ : Fr).seen Γ x = some v := by
 unfold Ev.Fr.seen
 show (match sc.lookup x with | some .cell => vars.lookup x | some .free => out x | _ => none) = _
 rw [eq_of_beq hk]; exact h
theorem qz1 {x : Str} {v : V} {l : List (Str × V)} : ((x, v) :: l).lookup x = some v := by simp [List.lookup]
theorem qrm {x y : Str} {v u : V} {l : List (Str × V)} (hn : decide (y = x) = false) (h : l.lookup x = some v) : ((y, u) :: l).lookup x = some v := by
 have h' : (x == y) = false := by
  have := of_decide_eq_false hn
  exact beq_eq_false_iff_ne.mpr fun e => this e.symm
 rw [List.lookup, h']; exact h
theorem q7n {x y : Str} {v : V} : ∀ {l : List (Str × V)}, (q0c x v l).lookup y = if y = x then some v else l.lookup y
 | [] => by
  unfold q0c
  by_cases h : y = x
  ·subst h; simp [List.lookup]
  ·have : (y == x) = false := beq_eq_false_iff_ne.mpr h
   rw [if_neg h]; simp [List.lookup, this]
 | (z, u) :: l => by
  unfold q0c
  by_cases hz : z = x
  ·subst hz
   rw [if_pos rfl]
   by_cases h : y = z
   ·subst h; simp [List.lookup]
   ·have : (y == z) = false := beq_eq_false_iff_ne.mpr h
    rw [if_neg h, List.lookup, List.lookup, this]
  ·rw [if_neg hz]
   by_cases h : y = z
   ·subst h
    rw [if_neg hz]; simp [List.lookup]
   ·have : (y == z) = false := beq_eq_false_iff_ne.mpr h
    rw [List.lookup, this, List.lookup, this]
    exact q7n
theorem q24 {x : Str} {v : V} {l : List (Str × V)} : (q0c x v l).lookup x = some v := by rw [q7n, if_pos rfl]
theorem q2e {x y : Str} {v u : V} {l : List (Str × V)} (hn : decide (y = x) = false) (h : l.lookup x = some v) : (q0c y u l).lookup x = some v := by
 rw [q7n, if_neg (fun e => of_decide_eq_false hn e.symm)]; exact h
theorem q5g {vars : List (Str × V)} {sc : List (Str × NameKind)} {out : Str -> Option V} {x : Str} {v : V} (hk : (sc.lookup x == some .local || sc.lookup x == some .cell) = true) : (⟨sc, vars, out⟩ : Fr).set x v = some ⟨sc, q0c x v vars, out⟩ := by
 unfold Ev.Fr.set
 show (match sc.lookup x with | some .local | some .cell => some _ | _ => none) = _
 rcases (Bool.or_eq_true _ _).mp hk with h1 | h1 <;> rw [eq_of_beq h1]
theorem q2k {vars : List (Str × V)} {sc : List (Str × NameKind)} {out : Str -> Option V} {x : Str} {v : V} {e : PySem.Expr} {p : Pos} (hk : (sc.lookup x == some .local || sc.lookup x == some .cell) = true) : q6c st (.Name x p) e v ⟨sc, vars, out⟩ = some ⟨sc, q0c x v vars, out⟩ := by
 unfold q6c
 show q0e false st (.Name x p) v _ = _
 rw [q0e]
 exact q5g hk
theorem q3r {vars : List (Str × V)} {sc : List (Str × NameKind)} {out : Str -> Option V} {x : Str} {v : V} {p : Pos} (hk : (sc.lookup x == some .local || sc.lookup x == some .cell) = true) : q0e false st (.Name x p) v ⟨sc, vars, out⟩ = some ⟨sc, q0c x v vars, out⟩ := by
 rw [q0e]
 exact q5g hk
theorem q3t {vars : List (Str × V)} {sc : List (Str × NameKind)} {out : Str -> Option V} {x : Str} {v : V} {p : Pos} (hn : vars.lookup x = none) (hk : (sc.lookup x == some .local || sc.lookup x == some .cell) = true) : q0e true st (.Name x p) v ⟨sc, vars, out⟩ = some ⟨sc, q0c x v vars, out⟩ := by
 rw [q0e]
 show (if true && (vars.lookup x).isSome then _ else _) = _
 rw [hn]
 exact q5g hk
noncomputable def lcl (sc : List (Str × NameKind)) (x : Str) : Bool := sc.lookup x == some .local || sc.lookup x == some .cell
theorem q9o {vars : List (Str × V)} {sc : List (Str × NameKind)} {out : Str -> Option V} {x y : Str} {a b : V} {p p1 p2 : Pos} {k : Nat} (hk : (lcl sc x && lcl sc y) = true) : q0e false st (.Tuple [.Name x p1, .Name y p2] k p) (.tup [a, b]) ⟨sc, vars, out⟩ = some ⟨sc, q0c y b (q0c x a vars), out⟩ := by
 obtain ⟨h1, h2⟩ := (Bool.and_eq_true _ _).mp hk
 rw [q0e, q0b, q3r h1]
 show q0b false st [.Name y p2] [b] _ = _
 rw [q0b, q3r h2]
 show q0b false st [] [] _ = _
 rw [q0b]
theorem qq0 {es : List PySem.Expr} {vs : List V} {ρ ρ' : Fr} {k : Nat} {p : Pos} (h : q0b false st es vs ρ = some ρ') : q0e false st (.Tuple es k p) (.tup vs) ρ = some ρ' := by rw [q0e]; exact h
theorem qqj {ρ : Fr} : q0b false st [] [] ρ = some ρ := by rw [q0b]
theorem q34 {vars : List (Str × V)} {sc : List (Str × NameKind)} {out : Str -> Option V} {x : Str} {p : Pos} {es : List PySem.Expr} {v : V} {vs : List V} {ρ' : Fr} (hk : (sc.lookup x == some .local || sc.lookup x == some .cell) = true) (h : q0b false st es vs ⟨sc, q0c x v vars, out⟩ = some ρ') : q0b false st (.Name x p :: es) (v :: vs) ⟨sc, vars, out⟩ = some ρ' := by
 rw [q0b, q3r hk]; exact h
theorem qbu {ts es : List PySem.Expr} {v : V} {ρ ρ' : Fr} {k k' : Nat} {p p' : Pos} (hp : qcy ts es ρ.sc = some none) (h : q0e false st (.Tuple ts k p) v ρ = some ρ') : q6c st (.Tuple ts k p) (.Tuple es k' p') v ρ = some ρ' := by
 show (qcy ts es ρ.sc).bind _ = _
 rw [hp]; exact h
theorem qi9 {ts : List PySem.Expr} {f : PySem.Expr} {args : List PySem.Expr} {kws : List Keyword} {v : V} {ρ ρ' : Fr} {k : Nat} {p p' : Pos} (h : q0e false st (.Tuple ts k p) v ρ = some ρ') : q6c st (.Tuple ts k p) (.Call f args kws p') v ρ = some ρ' := h
theorem qig {vars : List (Str × V)} {sc : List (Str × NameKind)} {out : Str -> Option V} {es : List PySem.Expr} {x y : Str} {a b : V} {k k' : Nat} {p p' p1 p2 : Pos} (hp : qcy [.Name x p1, .Name y p2] es sc = some (some [x, y])) (hk : (lcl sc x && lcl sc y) = true) :
  q6c st (.Tuple [.Name x p1, .Name y p2] k p) (.Tuple es k' p') (.tup [a, b]) ⟨sc, vars, out⟩ = some ⟨sc, q0c x a (q0c y b vars), out⟩ := by
 obtain ⟨h1, h2⟩ := (Bool.and_eq_true _ _).mp hk
 show (qcy [.Name x p1, .Name y p2] es sc).bind _ = _
 rw [hp]
 show q1j [y, x] [b, a] ⟨sc, vars, out⟩ = _
 unfold q1j
 rw [q5g h2]
 show q1j [x] [a] _ = _
 unfold q1j
 rw [q5g h1]
 rfl
theorem q9f {sc : List (Str × NameKind)} {out : Str -> Option V} {x y : Str} {a b : V} {p p1 p2 : Pos} {k : Nat} (hk : (lcl sc x && lcl sc y && !decide (y = x)) = true) : q0e true st (.Tuple [.Name x p1, .Name y p2] k p) (.tup [a, b]) ⟨sc, [], out⟩ = some ⟨sc, [(x, a), (y, b)], out⟩ := by
 obtain ⟨h0, h3⟩ := (Bool.and_eq_true _ _).mp hk
 obtain ⟨h1, h2⟩ := (Bool.and_eq_true _ _).mp h0
 have h4 : ¬ y = x := by simpa using h3
 have h4' : (y == x) = false := beq_eq_false_iff_ne.mpr h4
 rw [q0e, q0b, q3t rfl h1]
 show q0b true st [.Name y p2] [b] _ = _
 rw [q0b, q3t (by unfold q0c; simp [List.lookup, h4']) h2]
 show q0b true st [] [] _ = _
 rw [q0b]
 have h5 : ¬ x = y := fun e => h4 e.symm
 simp [q0c, h5]
end Mt
end
section
namespace Mt
open Ev
variable {Γ : Ev.Ctx} {ρ : Fr} {st : Ev.St} {p : Pos}
section
variable {Q : V -> Prop}
theorem qyb {a b : Int} (q : Q (.int (a + b))) : ∃ v, binV st .Add (.int a) (.int b) = some v /\ Q v := ⟨_, rfl, q⟩
theorem qx0 {a b : Int} (q : Q (.int (a - b))) : ∃ v, binV st .Sub (.int a) (.int b) = some v /\ Q v := ⟨_, rfl, q⟩
theorem qys {a b : Int} (h : decide (a.natAbs < 2 ^ 30) = true) (q : Q (.int (a * b))) : ∃ v, binV st .Mult (.int a) (.int b) = some v /\ Q v :=
 ⟨_, by simp only [binV, binS, if_pos (Or.inl (of_decide_eq_true h))], q⟩
theorem qqy {a b : Int} (h : decide (b.natAbs < 2 ^ 30) = true) (q : Q (.int (a * b))) : ∃ v, binV st .Mult (.int a) (.int b) = some v /\ Q v :=
 ⟨_, by simp only [binV, binS, if_pos (Or.inr (of_decide_eq_true h))], q⟩
theorem qz5 {a b : Int} (h : decide (0 < b /\ b.natAbs < 1073741824) = true) (q : Q (.int (a / b))) : ∃ v, binV st .FloorDiv (.int a) (.int b) = some v /\ Q v := by
 have h := of_decide_eq_true h
 refine ⟨_, ?_, q⟩
 have h2 : b ≠ 0 /\ b.natAbs < 1073741824 := ⟨by omega, h.2⟩
 simp only [binV, binS, if_pos h2, Int.fdiv_eq_ediv_of_nonneg a (Int.le_of_lt h.1)]
theorem qy7 {a b : Int} (h : decide (0 < b) = true) (q : Q (.int (a % b))) : ∃ v, binV st .Mod (.int a) (.int b) = some v /\ Q v := by
 have h := of_decide_eq_true h
 refine ⟨_, ?_, q⟩
 have h2 : ¬ b = 0 := by omega
 simp only [binV, binS, if_neg h2, Int.fmod_eq_emod_of_nonneg a (Int.le_of_lt h)]
theorem qwo {a b : Int} (h : decide (0 <= b /\ b <= 1000000 /\ a.natAbs < 2 ^ 64) = true) (q : Q (.int (a ^ b.toNat))) : ∃ v, binV st .Pow (.int a) (.int b) = some v /\ Q v :=
 ⟨_, by simp only [binV, binS, if_pos (of_decide_eq_true h)], q⟩
theorem qgh {a b : Int} (h : 0 <= b /\ b <= 1000000 /\ a.natAbs < 2 ^ 64) (q : Q (.int (a * 2 ^ b.toNat))) : ∃ v, binV st .LShift (.int a) (.int b) = some v /\ Q v :=
 ⟨_, by simp only [binV, binS, if_pos h], q⟩
theorem q9k {a b : Int} (h : 0 <= b) (q : Q (.int (a / 2 ^ b.toNat))) : ∃ v, binV st .RShift (.int a) (.int b) = some v /\ Q v := by
 have e : (0 : Int) <= 2 ^ b.toNat := Int.le_of_lt (Int.pow_pos (by decide))
 exact ⟨_, by simp only [binV, binS, if_pos h, Int.fdiv_eq_ediv_of_nonneg a e], q⟩
theorem qy1 {a b : Int} (q : Q (.int (Builtin.bitAnd a b))) : ∃ v, binV st .BitAnd (.int a) (.int b) = some v /\ Q v := ⟨_, rfl, q⟩
theorem r5p {a b : Int} (q : Q (.int (Builtin.bitOr a b))) : ∃ v, binV st .BitOr (.int a) (.int b) = some v /\ Q v := ⟨_, rfl, q⟩
theorem q2w {a b : List Nat} (h : (a ++ b).length <= cap) (q : Q (.str (a ++ b))) : ∃ v, binV st .Add (.str a) (.str b) = some v /\ Q v :=
 ⟨_, by simp only [binV, binS, strV, if_pos h], q⟩
theorem q3a {a b : List V} (h : (a ++ b).length <= cap) (q : Q (.lst (a ++ b))) : ∃ v, binV st .Add (.lst a) (.lst b) = some v /\ Q v := by
 refine ⟨_, ?_, q⟩
 show (match binS .Add (.lst a) (.lst b) with | some v => some v | none => (some a).bind fun x => (some b).bind fun y => lstV (x ++ y)) = _
 show lstV (a ++ b) = _
 unfold lstV
 rw [if_pos h]
theorem qu9 {a b : Int} (q : Q (.int (a + b))) : ∃ v, augV .Add (.int a) (.int b) = some v /\ Q v := ⟨_, rfl, q⟩
theorem qf6 {a b : List Nat} (h : (a ++ b).length <= cap) (q : Q (.str (a ++ b))) : ∃ v, augV .Add (.str a) (.str b) = some v /\ Q v := ⟨_, by show strV (a ++ b) = _; unfold strV; rw [if_pos h], q⟩
theorem qvs {a : Int} (q : Q (.int (-a))) : ∃ v, unV st .USub (.int a) = some v /\ Q v := ⟨_, rfl, q⟩
theorem q7h {n : Nat} {i : Int} (hn : n <= cap) (h0 : 0 <= i) (h1 : i < n) : idx n i = some i.toNat := by
 unfold idx; rw [if_pos hn, if_pos h0, if_pos h1]
theorem q9q {vs : List V} {i : Int} {v : V} (hn : vs.length <= cap) (h0 : 0 <= i) (h1 : i < vs.length) (hv : vs[i.toNat]? = some v) (q : Q v) : ∃ v, q1o st (.tup vs) (.int i) = some v /\ Q v :=
 ⟨v, by show (idx vs.length i).bind _ = _; rw [q7h hn h0 h1]; exact hv, q⟩
theorem q2i {vs : List V} {i : Int} {v : V} (hn : vs.length <= cap) (h0 : 0 <= i) (h1 : i < vs.length) (hv : vs[i.toNat]? = some v) (q : Q v) : ∃ v, q1o st (.lst vs) (.int i) = some v /\ Q v :=
 ⟨v, by show (idx vs.length i).bind _ = _; rw [q7h hn h0 h1]; exact hv, q⟩
theorem qlz {r : Nat} {vs : List V} {i : Int} {v : V} (hs : st[r]? = some (.list vs)) (hn : vs.length <= cap) (h0 : 0 <= i) (h1 : i < vs.length) (hv : vs[i.toNat]? = some v) (q : Q v) : ∃ v, q1o st (.ref r) (.int i) = some v /\ Q v :=
 ⟨v, by show (match st[r]?, V.int i with | some (.list vs), .int i => (idx vs.length i).bind _ | _, _ => _) = _; rw [hs]; show (idx vs.length i).bind _ = _; rw [q7h hn h0 h1]; exact hv, q⟩
theorem qzz {vs : List Nat} {i : Int} {v : Nat} (hn : vs.length <= cap) (h0 : 0 <= i) (h1 : i < vs.length) (hv : vs[i.toNat]? = some v) (q : Q (.str [v])) : ∃ v, q1o st (.str vs) (.int i) = some v /\ Q v :=
 ⟨.str [v], by show (idx vs.length i).bind _ = _; rw [q7h hn h0 h1]; show (vs[i.toNat]?).bind _ = _; rw [hv]; rfl, q⟩
theorem r6h {o i v : V} (h : q1o st o i = some v) (q : Q v) : ∃ v, q1o st o i = some v /\ Q v := ⟨v, h, q⟩
end
section
variable {Q : Bool -> Prop} {gd : Str -> Option (List (V × V))}
theorem r2y {a b : Int} (q : Q (decide (a < b))) : ∃ c, cmpV gd st .Lt (.int a) (.int b) = some c /\ Q c := ⟨_, rfl, q⟩
theorem r3v {a b : Int} (q : Q (decide (a <= b))) : ∃ c, cmpV gd st .LtE (.int a) (.int b) = some c /\ Q c := ⟨_, rfl, q⟩
theorem r3u {a b : Int} (q : Q (decide (b < a))) : ∃ c, cmpV gd st .Gt (.int a) (.int b) = some c /\ Q c := ⟨_, rfl, q⟩
theorem r66 {a b : Int} (q : Q (decide (b <= a))) : ∃ c, cmpV gd st .GtE (.int a) (.int b) = some c /\ Q c := ⟨_, rfl, q⟩
theorem S_eq {a b : List Nat} : PyData.eqv (.str ⟨a.toArray⟩) (.str ⟨b.toArray⟩) = decide (a = b) := by
 unfold PyData.eqv
 by_cases h : a = b
 ·subst h; simp
 ·rw [decide_eq_false h]
  exact beq_eq_false_iff_ne.mpr fun e => h (by injection e with e; simpa using congrArg Array.toList e)
theorem I_eq {a b : Int} : PyData.eqv (.int a) (.int b) = decide (a = b) := by
 unfold PyData.eqv
 by_cases h : a = b
 ·subst h; simp
 ·rw [decide_eq_false h]; exact beq_eq_false_iff_ne.mpr h
theorem r26 {a b : Int} (q : Q (decide (a = b))) : ∃ c, cmpV gd st .Eq (.int a) (.int b) = some c /\ Q c := ⟨_, by show some (PyData.eqv (.int a) (.int b)) = _; rw [I_eq], q⟩
theorem qvj {a b : List Nat} (q : Q (decide (a = b))) : ∃ c, cmpV gd st .Eq (.str a) (.str b) = some c /\ Q c := ⟨_, by show some (PyData.eqv (.str ⟨a.toArray⟩) (.str ⟨b.toArray⟩)) = _; rw [S_eq], q⟩
theorem qwh {a b : List Nat} (q : Q (!decide (a = b))) : ∃ c, cmpV gd st .NotEq (.str a) (.str b) = some c /\ Q c := ⟨_, by show some (!PyData.eqv (.str ⟨a.toArray⟩) (.str ⟨b.toArray⟩)) = _; rw [S_eq], q⟩
theorem qhp {a b : V} {c : Bool} (h : q3b a b = some c) (q : Q c) : ∃ c, cmpV gd st .Is a b = some c /\ Q c := ⟨c, h, q⟩
theorem qas {a b : V} {c : Bool} (h : q3b a b = some c) (q : Q (!c)) : ∃ c, cmpV gd st .IsNot a b = some c /\ Q c := ⟨_, by show (q3b a b).map _ = _; rw [h]; rfl, q⟩
theorem qvx {op : CmpOp} {a b : V} {c : Bool} (h : cmpV gd st op a b = some c) (q : Q c) : ∃ c, cmpV gd st op a b = some c /\ Q c := ⟨c, h, q⟩
theorem qtc {a : Bool} (q : Q a) : ∃ c, q26 st (.bool a) = some c /\ Q c := ⟨_, rfl, q⟩
theorem lt_int {a : Int} (q : Q (a != 0)) : ∃ c, q26 st (.int a) = some c /\ Q c := ⟨_, rfl, q⟩
theorem qrv (q : Q false) : ∃ c, q26 st .none = some c /\ Q c := ⟨_, rfl, q⟩
end
section
theorem qxr {r : Nat} {vs : List V} {n : Int} {v : V} {Q : Unit -> Ev.St -> Prop} (h : st[r]? = some (.list vs)) (hc : vs.length <= cap) (h0 : 0 <= n) (h1 : n < vs.length) (q : Q () (st.set r (.list (vs.set n.toNat v)))) : W (q1y (.ref r) (.int n) v) st Q := by
 have hi : r < st.length := by
  rcases Nat.lt_or_ge r st.length with h' | h'
  ·exact h'
  ·rw [List.getElem?_eq_none h'] at h; cases h
 show W (do
  match <- Ev.rd fun st => st[r]? with
  | .list vs => do
    let k <- Ev.gt (if 0 <= n then idx vs.length n else .none)
    setO r (.list (vs.set k v))
  | _ => bad) st Q
 refine W.bind (W.rd h ?_)
 refine W.bind (W.gt (a := n.toNat) (by rw [if_pos h0]; exact q7h hc h0 h1) ?_)
 refine ⟨(), st.set r (.list (vs.set n.toNat v)), ?_, q⟩
 unfold setO
 rw [if_pos hi]
theorem w_bt {α : Type} {c : Bool} {a b : EvM α} {Q : α -> Ev.St -> Prop} (h : c = true) (k : W a st Q) : W (bif c then a else b) st Q := by rw [h]; exact k
theorem w_bf {α : Type} {c : Bool} {a b : EvM α} {Q : α -> Ev.St -> Prop} (h : c = false) (k : W b st Q) : W (bif c then a else b) st Q := by rw [h]; exact k
theorem x_bt {c : Bool} {a b r : List Stmt} {Q : Fl × Fr -> Ev.St -> Prop} (h : c = true) (k : W (q09 Γ (a ++ r) ρ) st Q) : W (q09 Γ ((bif c then a else b) ++ r) ρ) st Q := by rw [h]; exact k
theorem x_bf {c : Bool} {a b r : List Stmt} {Q : Fl × Fr -> Ev.St -> Prop} (h : c = false) (k : W (q09 Γ (b ++ r) ρ) st Q) : W (q09 Γ ((bif c then a else b) ++ r) ρ) st Q := by rw [h]; exact k
theorem r54 {s : Stmt} {a r : List Stmt} {Q : Fl × Fr -> Ev.St -> Prop} (k : W (q09 Γ (s :: (a ++ r)) ρ) st Q) : W (q09 Γ ((s :: a) ++ r) ρ) st Q := k
theorem r19 {r : List Stmt} {Q : Fl × Fr -> Ev.St -> Prop} (k : W (q09 Γ r ρ) st Q) : W (q09 Γ ([] ++ r) ρ) st Q := k
theorem p_bt {c : Bool} {a b : Prop} (h : c = true) (k : a) : (bif c then a else b) := by rw [h]; exact k
theorem p_bf {c : Bool} {a b : Prop} (h : c = false) (k : b) : (bif c then a else b) := by rw [h]; exact k
theorem r57 {vs : List V} {i : Int} {Q : V -> Prop} (l : List Int) (hv : vs = l.map V.int) (hn : decide (vs.length <= cap) = true) (h0 : 0 <= i) (h1 : i < l.length) (q : Q (.int (l.getD i.toNat 0))) : ∃ v, q1o st (.tup vs) (.int i) = some v /\ Q v := by
 subst hv
 have hl : i.toNat < l.length := by omega
 refine q9q (of_decide_eq_true hn) h0 (by simpa using h1) ?_ q
 rw [List.getElem?_map, List.getD_eq_getElem?_getD, List.getElem?_eq_getElem hl]
 rfl
theorem qah {vs : List V} {i : Int} {Q : V -> Prop} (l : List Nat) (hv : vs = l.map fun (x : Nat) => V.int x) (hn : decide (vs.length <= cap) = true) (h0 : 0 <= i) (h1 : i < l.length) (q : Q (.int (l.getD i.toNat 0 : Nat))) : ∃ v, q1o st (.tup vs) (.int i) = some v /\ Q v := by
 subst hv
 have hl : i.toNat < l.length := by omega
 refine q9q (of_decide_eq_true hn) h0 (by simpa using h1) ?_ q
 rw [List.getElem?_map, List.getD_eq_getElem?_getD, List.getElem?_eq_getElem hl]
 rfl
theorem q7w {vs : List V} {i : Int} {Q : V -> Prop} (l : List (List Nat)) (hv : vs = l.map V.str) (hn : decide (vs.length <= cap) = true) (h0 : 0 <= i) (h1 : i < l.length) (q : Q (.str (l.getD i.toNat []))) : ∃ v, q1o st (.tup vs) (.int i) = some v /\ Q v := by
 subst hv
 have hl : i.toNat < l.length := by omega
 refine q9q (of_decide_eq_true hn) h0 (by simpa using h1) ?_ q
 rw [List.getElem?_map, List.getD_eq_getElem?_getD, List.getElem?_eq_getElem hl]
 rfl
theorem q77 {l : List Nat} {i : Int} {Q : V -> Prop} (hn : decide (l.length <= cap) = true) (h0 : 0 <= i) (h1 : i < l.length) (q : Q (.str [l.getD i.toNat 0])) : ∃ v, q1o st (.str l) (.int i) = some v /\ Q v := by
 have hl : i.toNat < l.length := by omega
 refine qzz (of_decide_eq_true hn) h0 h1 ?_ q
 rw [List.getD_eq_getElem?_getD, List.getElem?_eq_getElem hl]
 rfl
end
section
variable {Q : List V × List (Nat × O) -> Prop}
theorem qx9 {l : List Nat} (q : Q (l.map fun c => V.str [c], [])) : ∃ r, srcV st (.str l) = some r /\ Q r := ⟨_, rfl, q⟩
theorem qvl {l : List V} (q : Q (l, [])) : ∃ r, srcV st (.lst l) = some r /\ Q r := ⟨_, rfl, q⟩
theorem qwk {l : List V} (q : Q (l, [])) : ∃ r, srcV st (.tup l) = some r /\ Q r := ⟨_, rfl, q⟩
theorem qwr (q : Q ([], [])) : ∃ r, srcV st .noi = some r /\ Q r := ⟨_, rfl, q⟩
theorem qdc {i : Nat} {l : List V} (h : st[i]? = some (.list l)) (q : Q (l, [(i, .list l)])) : ∃ r, srcV st (.ref i) = some r /\ Q r :=
 ⟨_, by
  show (match st[i]? with | some (O.list vs) => some vs | _ => none).bind (fun xs => (st[i]?).bind fun o => some (xs, [(i, o)])) = _
  rw [h]; rfl, q⟩
theorem qq8 {a : Int} (h : -65536 <= a /\ a <= 65536) (q : Q ((List.range a.toNat).map fun (i : Nat) => V.int i, [])) : ∃ r, srcV st (.rng 0 a) = some r /\ Q r :=
 ⟨_, by
  show (if -65536 <= (0 : Int) /\ (0 : Int) <= 65536 /\ -65536 <= a /\ a <= 65536 then some ((List.range (a - 0).toNat).map fun (i : Nat) => V.int (0 + i)) else none).map (·, []) = some _
  rw [if_pos ⟨by decide, by decide, h.1, h.2⟩, Int.sub_zero]
  rfl, by simpa using q⟩
end
section
variable {Q : List V -> Ev.St -> Prop}
theorem qq5 {α : Type} (e : α -> V) : ∀ l : List α, l.flatMap (fun a => [e a]) = l.map e
 | [] => rfl
 | a :: l => by rw [List.flatMap_cons, qq5 e l]; rfl
theorem qc1 {α : Type} (c : α -> Bool) (e : α -> V) : ∀ l : List α, l.flatMap (fun a => bif c a then [e a] else []) = (l.filter c).map e
 | [] => rfl
 | a :: l => by rw [List.flatMap_cons, qc1 c e l, List.filter_cons]; cases c a <;> rfl
theorem q2a {ws : List (Nat × O)} {f : V -> EvM (List V)} {α : Type} (h : α -> V) (e : α -> V) (hw : same ws st = some ((), st)) (l : List α) (hf : ∀ a ∈ l, W (f (h a)) st fun r s => r = [e a] /\ s = st) (q : Q (l.map e) st) : W (mapE ws (l.map h) f) st Q :=
 (qiv h (fun a => [e a]) hw l hf).mono fun r s ⟨h1, h2⟩ => by
  subst h1 h2
  rw [qq5]; exact q
theorem qke {ws : List (Nat × O)} {f : V -> EvM (List V)} {α : Type} (h : α -> V) (g : α -> List V) (hw : same ws st = some ((), st)) (l : List α) (hf : ∀ a ∈ l, W (f (h a)) st fun r s => r = g a /\ s = st) (q : Q (l.flatMap g) st) : W (mapE ws (l.map h) f) st Q :=
 (qiv h g hw l hf).mono fun r s ⟨h1, h2⟩ => by
  subst h1 h2
  exact q
theorem q0z {ws : List (Nat × O)} {f : V -> EvM (List V)} {α : Type} (h : α -> V) (c : α -> Bool) (e : α -> V) (hw : same ws st = some ((), st)) (l : List α) (hf : ∀ a ∈ l, W (f (h a)) st fun r s => r = (bif c a then [e a] else []) /\ s = st) (q : Q ((l.filter c).map e) st) : W (mapE ws (l.map h) f) st Q :=
 (qiv h (fun a => bif c a then [e a] else []) hw l hf).mono fun r s ⟨h1, h2⟩ => by
  subst h1 h2
  rw [qc1]; exact q
end
section
theorem qap {r : Nat} {vs : List V} {v : V} {Q : V -> Prop} (hs : st[r]? = some (.list (vs ++ [v]))) (hn : vs.length + 1 <= cap) (q : Q v) : ∃ v, q1o st (.ref r) (.int (-1)) = some v /\ Q v := by
 refine ⟨v, ?_, q⟩
 show (match st[r]?, V.int (-1) with | some (.list vs), .int i => (idx vs.length i).bind fun k => vs[k]? | _, _ => _) = _
 rw [hs]
 show (idx (vs ++ [v]).length (-1)).bind (fun k => (vs ++ [v])[k]?) = _
 have e : idx (vs ++ [v]).length (-1) = some vs.length := by
  unfold idx
  rw [if_pos (by simpa using hn), if_neg (by decide), if_pos (by simp; omega)]
  simp
  omega
 rw [e]
 show (vs ++ [v])[vs.length]? = _
 simp
theorem r16 {α : Type} {pre d : List α} {j : Nat} (h : pre.length + d.length <= cap) : cut (pre ++ d) (.int pre.length) (.int (pre.length + j)) = some (d.take j) := by
 unfold cut
 rw [if_neg (by simp; omega)]
 show (some (if (pre.length : Int) < 0 then ((pre.length : Int) + (pre ++ d).length).toNat else min (pre.length : Int).toNat (pre ++ d).length)).bind (fun x => (some (if (pre.length + j : Int) < 0 then ((pre.length + j : Int) + (pre ++ d).length).toNat else min (pre.length + j : Int).toNat (pre ++ d).length)).bind fun y => some (((pre ++ d).take y).drop x)) = _
 rw [if_neg (by omega), if_neg (by omega)]
 have e1 : min (pre.length : Int).toNat (pre ++ d).length = pre.length := by simp
 have e2 : min (pre.length + j : Int).toNat (pre ++ d).length = pre.length + min j d.length := by simp; omega
 rw [e1, e2]
 show some (((pre ++ d).take (pre.length + min j d.length)).drop pre.length) = _
 rw [List.take_length_add_append, List.drop_left]
 congr 1
 rw [List.take_eq_take_iff]
 omega
theorem qek {α : Type} {l pre d : List α} {x y : Int} (hl : l = pre ++ d) (j : Nat) (h : pre.length + d.length <= cap) (hx : x = pre.length) (hy : y = pre.length + j) : cut l (.int x) (.int y) = some (d.take j) := by
 subst hl hx hy
 exact r16 h
theorem qgf {l a : List Nat} {x y : V} {Q : V -> Prop} (h : cut l x y = some a) (q : Q (.str a)) : ∃ r, q60 st (.str l) x y .none = some r /\ Q r := ⟨_, by show (cut l x y).map V.str = _; rw [h]; rfl, q⟩
theorem qhv {i : Nat} {l : List V} {Q : V -> Prop} (h : st[i]? = some (.list l)) (q : Q (.lst l.reverse)) : ∃ r, q60 st (.ref i) .none .none (.int (-1)) = some r /\ Q r := ⟨_, by
 show (match st[i]? with | some (O.list vs) => some vs | _ => none).bind (fun vs => some (V.lst vs.reverse)) = _
 rw [h]; rfl, q⟩
theorem qk0 {l a : List V} {x y : V} {Q : V -> Prop} (h : cut l x y = some a) (q : Q (.lst a)) : ∃ r, q60 st (.lst l) x y .none = some r /\ Q r := ⟨_, by show (some l).bind (fun vs => (cut vs x y).map V.lst) = _; show (cut l x y).map V.lst = _; rw [h]; rfl, q⟩
end
section
theorem q3u (m : Nat) : ∀ l : List Int, ((l.map V.int).mapM (dat st (m + 1))) = some (l.map PyData.int)
 | [] => rfl
 | i :: l => by
  rw [List.map_cons, List.mapM_cons, q3u m l]
  rfl
theorem qrf {gd : Str -> Option (List (V × V))} {r : Nat} {t : Int} {l : List Int} {Q : Bool -> Prop} (h : st[r]? = some (.list (l.map V.int))) (q : Q (!decide (t ∈ l))) : ∃ c, cmpV gd st .NotIn (.int t) (.ref r) = some c /\ Q c := by
 refine ⟨_, ?_, q⟩
 show (inV st (.int t) (.ref r)).map (!·) = _
 have e : dat st 8 (.ref r) = some (.list (l.map PyData.int)) := by
  show (match st[r]? with | some (O.list vs) => (vs.mapM (dat st 7)).map PyData.list | _ => none) = _
  rw [h]
  show ((l.map V.int).mapM (dat st 7)).map PyData.list = _
  rw [q3u]; rfl
 have e2 : inV st (.int t) (.ref r) = some ((l.map PyData.int).any fun y => PyData.eqv y (.int t)) := by
  unfold inV
  show (some (PyData.int t)).bind (fun x => (dat st 8 (.ref r)).bind fun y => match y with
   | .list ys => some (ys.any fun y => PyData.eqv y x)
   | .tuple ys => some (ys.any fun y => PyData.eqv y x)
   | _ => none) = _
  rw [e]; rfl
 rw [e2, List.any_map]
 show some (!(l.any fun i => PyData.eqv (.int i) (.int t))) = _
 congr 2
 rw [Bool.eq_iff_iff]
 simp only [List.any_eq_true, decide_eq_true_eq, I_eq]
 exact ⟨fun ⟨x, hx, e⟩ => e ▸ hx, fun hx => ⟨t, hx, rfl⟩⟩
theorem qvq {gd : Str -> Option (List (V × V))} {l : List Int} {Q : Bool -> Prop} (q : Q (decide (l ≠ []))) : ∃ c, cmpV gd st .NotEq (.lst (l.map V.int)) (.lst []) = some c /\ Q c := by
 refine ⟨_, ?_, q⟩
 show (eqV st (.lst (l.map V.int)) (.lst [])).map (!·) = _
 have e : dat st 8 (.lst (l.map V.int)) = some (.list (l.map PyData.int)) := by
  show ((l.map V.int).mapM (dat st 7)).map PyData.list = _
  rw [q3u]; rfl
 have e2 : eqV st (.lst (l.map V.int)) (.lst []) = some (PyData.eqv (.list (l.map PyData.int)) (.list [])) := by
  show (dat st 8 (.lst (l.map V.int))).bind (fun x => (dat st 8 (.lst [])).bind fun y => some (PyData.eqv x y)) = _
  rw [e]; rfl
 rw [e2]
 cases l <;> rfl
theorem qyl {P : Prg} {n : Nat} {l : List Int} {Q : V -> Ev.St -> Prop} (hl : l.length <= cap) (hb : ∀ i ∈ l, -1000000 <= i /\ i <= 1000000) (q : Q (.int l.sum) st) : W ((ctxN P (n + 1)).call (.bi "sum") [.lst (l.map V.int)] []) st Q := by
 have e1 : ∀ ys : List Int, q4q (ys.map V.int) = some ys := by
  intro ys
  induction ys with
  | nil => rfl
  | cons y ys ih => show (q4q (ys.map V.int)).map (y :: ·) = _; rw [ih]; rfl
 show W (do
  let l <- Ev.gt (q4q (l.map V.int))
  if l.length <= cap /\ l.all (fun i => decide (-1000000 <= i /\ i <= 1000000)) then pure (.int l.sum) else bad) st Q
 refine W.bind (W.gt (e1 l) ?_)
 rw [if_pos ⟨hl, by rw [List.all_eq_true]; exact fun i hi => decide_eq_true (hb i hi)⟩]
 exact W.pure q
theorem qiw {i : Nat} {l a : List V} {x y : V} {Q : V -> Prop} (hi : st[i]? = some (.list l)) (h : cut l x y = some a) (q : Q (.lst a)) : ∃ r, q60 st (.ref i) x y .none = some r /\ Q r := ⟨_, by
 show (match st[i]? with | some (O.list vs) => some vs | _ => none).bind (fun vs => (cut vs x y).map V.lst) = _
 rw [hi]; show (cut l x y).map V.lst = _; rw [h]; rfl, q⟩
theorem qse {α : Type} {l : List α} {j : Nat} (h : l.length <= cap) : cut l (.int j) (.int (j + 1)) = some ((l.drop j).take 1) := by
 unfold cut
 rw [if_neg (by omega)]
 show (some (if (j : Int) < 0 then ((j : Int) + l.length).toNat else min (j : Int).toNat l.length)).bind (fun x => (some (if (j + 1 : Int) < 0 then ((j + 1 : Int) + l.length).toNat else min (j + 1 : Int).toNat l.length)).bind fun y => some ((l.take y).drop x)) = _
 rw [if_neg (by omega), if_neg (by omega)]
 show some ((l.take _).drop _) = _
 congr 1
 rw [List.drop_take]
 rcases Nat.lt_or_ge j l.length with hj | hj
 ·have e1 : min (j : Int).toNat l.length = j := by omega
  have e2 : min (j + 1 : Int).toNat l.length = j + 1 := by omega
  rw [e1, e2, Nat.add_sub_cancel_left]
 ·have e1 : min (j : Int).toNat l.length = l.length := by omega
  rw [e1, List.drop_eq_nil_of_le (Nat.le_refl _), List.drop_eq_nil_of_le hj]
  simp
theorem qlh {i : Nat} {l : List Int} (h : st[i]? = some (.list (l.map V.int))) : Ev.same [(i, .list (l.map V.int))] st = some ((), st) := by
 have e : ∀ l : List Int, q1x (l.map V.int) (l.map V.int) = true := by
  intro l
  induction l with
  | nil => rfl
  | cons a l ih => show (a == a && q1x (l.map V.int) (l.map V.int)) = true; rw [ih]; simp
 show ((st[i]?).map (·, st)).bind (fun p => (if q4j (.list (l.map V.int)) p.1 then Ev.same [] else bad) p.2) = _
 rw [h]
 show (if q4j (.list (l.map V.int)) (.list (l.map V.int)) = true then Ev.same [] else bad) st = _
 rw [if_pos (show q4j (.list (l.map V.int)) (.list (l.map V.int)) = true from e l)]
 rfl
end
section
variable {Q : V -> Ev.St -> Prop}
theorem qsu {x : Str} {p' : Pos} {args : List PySem.Expr} {kws : List Keyword} {vars : List (Str × V)} {sc : List (Str × NameKind)} {out : Str -> Option V} (hx : decide (x = ("__debug__" : Str)) = false) (hk : (sc.lookup x == some .globalImplicit) = true) (hg : Γ.glob x = some (.fn x))
  (h : W (q0j Γ args ⟨sc, vars, out⟩) st fun vs s => W (q0y Γ kws ⟨sc, vars, out⟩) s fun ks s => W (Γ.call (.fn x) vs ks) s Q) : W (q01 Γ (.Call (.Name x p') args kws p) ⟨sc, vars, out⟩) st Q :=
 qdt (q8a hx (q27 hk hg) h)
theorem que {x : String} {p' : Pos} {args : List PySem.Expr} {kws : List Keyword} {vars : List (Str × V)} {sc : List (Str × NameKind)} {out : Str -> Option V} (hx : decide (Str.ofString x = ("__debug__" : Str)) = false) (hk : (sc.lookup (Str.ofString x) == some .globalImplicit) = true) (hg : Γ.glob (Str.ofString x) = some (.bi x))
  (h : W (q0j Γ args ⟨sc, vars, out⟩) st fun vs s => W (q0y Γ kws ⟨sc, vars, out⟩) s fun ks s => W (Γ.call (.bi x) vs ks) s Q) : W (q01 Γ (.Call (.Name (Str.ofString x) p') args kws p) ⟨sc, vars, out⟩) st Q :=
 qdt (q8a hx (q27 hk hg) h)
theorem qrk {x : String} {p' : Pos} {args : List PySem.Expr} {kws : List Keyword} {vars : List (Str × V)} {sc : List (Str × NameKind)} {out : Str -> Option V} (hx : decide (Str.ofString x = ("__debug__" : Str)) = false) (hk : (sc.lookup (Str.ofString x) == some .globalImplicit) = true) (hg : Γ.glob (Str.ofString x) = some (.ty x))
  (h : W (q0j Γ args ⟨sc, vars, out⟩) st fun vs s => W (q0y Γ kws ⟨sc, vars, out⟩) s fun ks s => W (Γ.call (.ty x) vs ks) s Q) : W (q01 Γ (.Call (.Name (Str.ofString x) p') args kws p) ⟨sc, vars, out⟩) st Q :=
 qdt (q8a hx (q27 hk hg) h)
theorem qsc {x : Str} {vars : List (Str × V)} {sc : List (Str × NameKind)} {out : Str -> Option V} (hx : decide (x = ("__debug__" : Str)) = false) (hk : (sc.lookup x == some .globalImplicit) = true) (hg : Γ.glob x = some (.g x))
  (q : Q (.g x) st) : W (q01 Γ (.Name x p) ⟨sc, vars, out⟩) st Q := q8a hx (q27 hk hg) q
theorem qtz {x : String} {vars : List (Str × V)} {sc : List (Str × NameKind)} {out : Str -> Option V} (hx : decide (Str.ofString x = ("__debug__" : Str)) = false) (hk : (sc.lookup (Str.ofString x) == some .globalImplicit) = true) (hg : Γ.glob (Str.ofString x) = some (.ty x))
  (q : Q (.ty x) st) : W (q01 Γ (.Name (Str.ofString x) p) ⟨sc, vars, out⟩) st Q := q8a hx (q27 hk hg) q
theorem qe9 {x : Str} {v : V} {vars : List (Str × V)} {sc : List (Str × NameKind)} {out : Str -> Option V} (hx : decide (x = ("__debug__" : Str)) = false) (hk : (sc.lookup x == some .globalImplicit) = true) (hg : Γ.glob x = some v)
  (q : Q v st) : W (q01 Γ (.Name x p) ⟨sc, vars, out⟩) st Q := q8a hx (q27 hk hg) q
end
section
variable {Q : V -> Ev.St -> Prop} {P : Prg} {n : Nat}
theorem q20 {d : FnD} {vs : List V} {ks : List (Str × V)} (vars : List (Str × V)) (ho : okFn d = true) (hb : (q4s d vs ks).map (q22 d) = some vars) (h : W (q09 Γ d.body ⟨d.sc.names, vars, fun _ => .none⟩) st fun o s => match o.1 with | .ret v => Q v s | .next => Q .none s) : W (qbk Γ d vs ks) st Q := by
 unfold qbk
 cases hv : q4s d vs ks with
 | none => rw [hv] at hb; cases hb
 | some b =>
  rw [hv] at hb
  cases hb
  refine W.bind (W.gt (a := b) (by rw [if_pos ho]) (W.bind (h.mono fun o s h => ?_)))
  obtain ⟨fl, ρ'⟩ := o
  cases fl
  ·exact W.pure h
  ·exact W.pure h
theorem c_fn {x : Str} {d : FnD} {vs : List V} {ks : List (Str × V)} (hp : P.prim x = none) (hd : P.fns.lookup x = some d) (h : W (qbk (ctxN P n) d vs ks) st Q) : W ((ctxN P (n + 1)).call (.fn x) vs ks) st Q := by
 show W (match P.prim x with
  | some p => match ks with | [] => p vs | _ => bad
  | .none => do
   let d <- Ev.gt (P.fns.lookup x)
   qbk (ctxN P n) d vs ks) st Q
 rw [hp]
 exact W.bind (W.gt hd h)
theorem c_mt {x : Str} {i : Nat} {d : FnD} {vs : List V} {ks : List (Str × V)} (hd : P.mths.lookup x = some d) (h : W (qbk (ctxN P n) d (.hd i :: vs) ks) st Q) : W ((ctxN P (n + 1)).call (.m (.hd i) x) vs ks) st Q := by
 show W (q43 P (ctxN P n) (.m (.hd i) x) vs ks) st Q
 unfold q43
 exact W.bind (W.gt hd h)
theorem qoo {i : Int} (h : 0 <= i /\ i < 1114112) (q : Q (.str [i.toNat]) st) : W ((ctxN P (n + 1)).call (.bi "chr") [.int i] []) st Q := by
 show W (if 0 <= i /\ i < 1114112 then _ else _) st Q
 rw [if_pos h]; exact W.pure q
theorem r4i {c : Nat} (q : Q (.int c) st) : W ((ctxN P (n + 1)).call (.bi "ord") [.str [c]] []) st Q := W.pure q
theorem r52 {a b : Int} (q : Q (.int (if b < a then b else a)) st) : W ((ctxN P (n + 1)).call (.bi "min") [.int a, .int b] []) st Q := W.pure q
theorem r36 {a b : Int} (q : Q (.int (if a < b then b else a)) st) : W ((ctxN P (n + 1)).call (.bi "max") [.int a, .int b] []) st Q := W.pure q
theorem qn6 {a : List Nat} (h : a.length <= cap) (q : Q (.int a.length) st) : W ((ctxN P (n + 1)).call (.bi "len") [.str a] []) st Q := by
 show W (if a.length <= cap then _ else _) st Q
 rw [if_pos h]; exact W.pure q
theorem r0p {a : List V} (h : a.length <= cap) (q : Q (.int a.length) st) : W ((ctxN P (n + 1)).call (.bi "len") [.lst a] []) st Q := by
 show W (if a.length <= cap then _ else _) st Q
 rw [if_pos h]; exact W.pure q
theorem qrx {a : Int} (q : Q (.rng 0 a) st) : W ((ctxN P (n + 1)).call (.ty "range") [.int a] []) st Q := W.pure q
theorem qy9 {a : Int} (h : -65536 <= a /\ a <= 65536) (q : Q (.lst ((List.range a.toNat).map fun (i : Nat) => V.int i)) st) : W ((ctxN P (n + 1)).call (.ty "list") [.rng 0 a] []) st Q := by
 show W (do
  let xs <- Ev.rd fun st => q5u st (.rng 0 a)
  pure (.lst xs)) st Q
 refine W.bind (W.rd (a := (List.range a.toNat).map fun (i : Nat) => V.int i) ?_ (W.pure q))
 show (if -65536 <= (0 : Int) /\ (0 : Int) <= 65536 /\ -65536 <= a /\ a <= 65536 then some ((List.range (a - 0).toNat).map fun (i : Nat) => V.int (0 + i)) else none) = some _
 rw [if_pos ⟨by decide, by decide, h.1, h.2⟩, Int.sub_zero]
 congr 2
 funext i
 rw [Int.zero_add]
theorem qwv {z : List Nat} (q : Q (.ty "str") st) : W ((ctxN P (n + 1)).call (.ty "type") [.str z] []) st Q := W.pure q
theorem qeb (q : Q .noi st) : W ((ctxN P (n + 1)).call (.m .nod "items") [] []) st Q := W.pure q
theorem q6y {a b : List Nat} (h : txtV (Txt.lower (S a)).cps.toList = some (.str b)) (q : Q (.str b) st) : W ((ctxN P (n + 1)).call (.m (.str a) "lower") [] []) st Q := W.gt h q
theorem qes {a b : List Nat} (h : txtV (Txt.upper (S a)).cps.toList = some (.str b)) (q : Q (.str b) st) : W ((ctxN P (n + 1)).call (.m (.str a) "upper") [] []) st Q := W.gt h q
theorem q8d {i : Nat} {xs : List V} {v : V} (h : st[i]? = some (.list xs)) (hl : xs.length + 1 <= cap) (q : Q .none (st.set i (.list (xs ++ [v])))) : W ((ctxN P (n + 1)).call (.m (.ref i) "append") [v] []) st Q := by
 show W (do
  match <- Ev.rd fun st => st[i]? with
  | .list xs => setL i (xs ++ [v])
  | _ => bad) st Q
 refine W.bind (W.rd h ?_)
 show W (setL i (xs ++ [v])) st Q
 unfold setL
 rw [if_pos (by simpa using hl)]
 have hi : i < st.length := by
  rcases Nat.lt_or_ge i st.length with h' | h'
  ·exact h'
  ·rw [List.getElem?_eq_none h'] at h; cases h
 refine W.bind ⟨(), st.set i (.list (xs ++ [v])), ?_, W.pure q⟩
 unfold setO
 rw [if_pos hi]
end
section
variable {Q : V -> Prop} {P : Prg} {n : Nat}
theorem qz0 {a : List Nat} {x : Str} (h : (x = ("lower" : Str) || x = ("upper" : Str) || x = ("join" : Str) || x = ("index" : Str)) = true) (q : Q (.m (.str a) x)) : ∃ f, (ctxN P (n + 1)).meth st (.str a) x = some f /\ Q f :=
 ⟨_, by show (if _ then some (V.m (.str a) x) else none) = _; rw [if_pos h], q⟩
theorem r56 {i : Nat} {x : Str} (h : q4f.contains x = true) (q : Q (.m (.hd i) x)) : ∃ f, (ctxN P (n + 1)).meth st (.hd i) x = some f /\ Q f :=
 ⟨_, by show (if _ then some (V.m (.hd i) x) else none) = _; rw [if_pos h], q⟩
theorem qkr {i : Nat} {xs : List V} (h : st[i]? = some (.list xs)) (q : Q (.m (.ref i) "append")) : ∃ f, (ctxN P (n + 1)).meth st (.ref i) "append" = some f /\ Q f :=
 ⟨_, by show (match st[i]? with | some (.list _) => _ | _ => none) = _; rw [h]; rfl, q⟩
theorem qym (q : Q (.m .nod "items")) : ∃ f, (ctxN P (n + 1)).meth st .nod "items" = some f /\ Q f := ⟨_, rfl, q⟩
theorem r4s {i : Nat} (q : Q (.ref i)) : ∃ v, (ctxN P (n + 1)).attr (.hd i) "_headers" = some v /\ Q v := ⟨_, rfl, q⟩
theorem me_g {y x : Str} (h : qfh y x = true) (q : Q (.m (.g y) x)) : ∃ f, (ctxN P (n + 1)).meth st (.g y) x = some f /\ Q f :=
 ⟨_, by show (if _ then some (V.m (.g y) x) else none) = _; rw [if_pos h], q⟩
end
end Mt
end
namespace Mt
open Mine Ev
local macro_rules | `(tactic| walk_at "look") => `(tactic| first
 | with_reducible exact qz1
 | with_reducible exact q24
 | with_reducible assumption
 | with_reducible exact qrm (by kernel_rfl!) (by walk_at "look")
 | with_reducible exact q2e (by kernel_rfl!) (by walk_at "look")
 | with_reducible exact qk2 (by kernel_rfl!) (by walk_at "look")
 | with_reducible exact qle (by kernel_rfl!) (by walk_at "look"))
local macro_rules | `(tactic| walk_at "get") => `(tactic| first
 | with_reducible exact qt2 (by kernel_rfl!) (by walk_at "look")
 | with_reducible exact qmv (by kernel_rfl!) (by walk_at "look"))
local macro_rules | `(tactic| walk_at "len") => `(tactic| exact Nat.le_of_ble_eq_true (by kernel_rfl!))
local macro_rules | `(tactic| walk_at "w1") => `(tactic| with_reducible first
 | refine r5y ?_
 | refine r3p (by kernel_rfl!) ?_
 | refine q8a (by kernel_rfl!) (by walk_at "get") ?_
 | refine qsr ?_
 | refine quc ?_
 | refine qr0 (by kernel_rfl!) ?_
 | refine qsu (by kernel_rfl!) (by kernel_rfl!) (by kernel_rfl!) ?_
 | refine que (by kernel_rfl!) (by kernel_rfl!) (by kernel_rfl!) ?_
 | refine qrk (by kernel_rfl!) (by kernel_rfl!) (by kernel_rfl!) ?_
 | refine qsc (by kernel_rfl!) (by kernel_rfl!) (by kernel_rfl!) ?_
 | refine qtz (by kernel_rfl!) (by kernel_rfl!) (by kernel_rfl!) ?_
 | refine qm5 ?_
 | refine qye (by kernel_rfl!) ?_
 | refine qu4 ?_
 | refine qqz (by kernel_rfl!) ?_
 | refine qvc ?_
 | refine r1l (by kernel_rfl!) ?_
 | refine r0h ?_
 | refine r5h ?_
 | refine qxg ?_
 | refine qsj ?_
 | refine qww ?_
 | refine qxa ?_
 | refine r0b ?_
 | refine qr6 ?_
 | refine qv9 (by kernel_rfl!) ?_
 | refine r0n ?_
 | refine w_on ?_
 | refine w_os ?_
 | refine qzi ?_
 | refine r14 ?_
 | refine qm0 ?_
 | refine r1m ?_
 | refine qvz (by kernel_rfl!) ?_
 | refine qux ?_
 | refine qus ?_
 | refine r42 ?_
 | refine r37 ?_
 | refine qxx (by kernel_rfl!) ?_
 | refine qno ?_
 | refine r18 (by walk_at "get") ?_
 | refine qw9 (by kernel_rfl!) ?_
 | refine x_If ?_
 | refine qwg (by kernel_rfl!) ?_
 | refine r3b ?_
 | refine r29 (by kernel_rfl!) ?_
 | refine qzr (by with_reducible exact q27 (v := .ty "range") (by kernel_rfl!) (by kernel_rfl!)) (by kernel_rfl!) ?_
 | refine qtp (by kernel_rfl!) ?_)
local macro_rules | `(tactic| walk_at "leaf") => `(tactic| with_reducible first
 | refine qyb ?_
 | refine q0q (by walk_at "len") (by kernel_rfl!) ?_
 | refine r6d (by walk_at "len") (by kernel_rfl!) ?_
 | refine r4z ?_
 | refine qbw ?_
 | refine qvs ?_
 | refine qwk ?_
 | refine qx0 ?_
 | refine qu9 ?_
 | refine ⟨_, q5g (by kernel_rfl!), ?_⟩
 | refine qys (by kernel_rfl!) ?_
 | refine qqy (by kernel_rfl!) ?_
 | refine qz5 (by kernel_rfl!) ?_
 | refine qy7 (by kernel_rfl!) ?_
 | refine qwo (by kernel_rfl!) ?_
 | refine qy1 ?_
 | refine r5p ?_
 | refine r2y ?_
 | refine r3v ?_
 | refine r3u ?_
 | refine r66 ?_
 | refine r26 ?_
 | refine qvj ?_
 | refine qwh ?_
 | refine qtc ?_
 | refine lt_int ?_
 | refine r4i ?_
 | refine r52 ?_
 | refine r36 ?_
 | refine qn6 (by assumption) ?_
 | refine qrx ?_
 | refine qx9 ?_
 | refine qvl ?_
 | refine qq8 (by decide) ?_
 | refine qwv ?_
 | refine qeb ?_
 | refine qym ?_
 | refine r4s ?_
 | refine qwr ?_
 | refine qrz ?_
 | refine qrv ?_
 | refine qz0 (by kernel_rfl!) ?_
 | refine r56 (by kernel_rfl!) ?_
 | refine me_g (by kernel_rfl!) ?_
 | refine qkr (by assumption) ?_)
local macro_rules | `(tactic| walk_at "tt") => `(tactic| first | with_reducible assumption | exact decide_eq_true (by with_reducible assumption) | exact decide_eq_false (by with_reducible assumption) | kernel_rfl!)
local macro_rules | `(tactic| walk_at "br") => `(tactic| with_reducible first
 | refine w_bt (by walk_at "tt") ?_
 | refine w_bf (by walk_at "tt") ?_
 | refine x_bt (by walk_at "tt") ?_
 | refine x_bf (by walk_at "tt") ?_
 | refine p_bt (by walk_at "tt") ?_
 | refine p_bf (by walk_at "tt") ?_
 | refine r54 ?_
 | refine r19 ?_)
local macro_rules | `(tactic| walk_at "bind") => `(tactic| with_reducible first
 | refine ⟨_, q2k (by kernel_rfl!), ?_⟩
 | refine ⟨_, qig (by kernel_rfl!) (by kernel_rfl!), ?_⟩
 | refine ⟨_, qbu (by kernel_rfl!) (q9o (by kernel_rfl!)), ?_⟩
 | refine qg4 (q3t (by kernel_rfl!) (by kernel_rfl!)) ?_
 | refine qg4 (q9f (by kernel_rfl!)) ?_
 | refine qpn (q3r (by kernel_rfl!)) ?_
 | refine qpn (q9o (by kernel_rfl!)) ?_)
local macro_rules | `(tactic| walk_at "w") => `(tactic| repeat (first | walk_at "w1" | walk_at "leaf" | walk_at "br" | walk_at "bind"))
noncomputable def q1z (r : Nat) : Nat := if r < 16 then 65024 + r else [173, 847, 6150, 6155, 6156, 6157, 8203, 8204, 8205, 8288, 65279].getD (r - 16) 0
noncomputable def besF (r : Nat) : Nat := [172, 174, 846, 848, 6149, 6151, 6154, 6158, 8202, 8206, 8287, 8289, 65023, 65040, 65278, 65280].getD r 0
noncomputable def qp4 (r : Nat) : Nat := [0, 0, 0, 1, 2, 4, 7, 8, 9, 10, 11, 12].getD r 0
noncomputable def q4x (c r : Nat) : Nat := if r = 0 then c else if r = 1 then c - 32 else 119711 + 52 * qp4 r + c
theorem q7e (r : Nat) : q1z r < 1114112 := by
 unfold q1z
 split
 ·omega
 ·generalize r - 16 = j
  rcases (by omega : j = 0 \/ j = 1 \/ j = 2 \/ j = 3 \/ j = 4 \/ j = 5 \/ j = 6 \/ j = 7 \/ j = 8 \/ j = 9 \/ j = 10 \/ 11 <= j) with r | r | r | r | r | r | r | r | r | r | r | r
  all_goals first | (subst r; decide) | (rw [List.getD_eq_getElem?_getD, List.getElem?_eq_none (by simpa using r)]; decide)
theorem q2f {n : Nat} {k : Int} {st : Ev.St} {Q : V -> Ev.St -> Prop} (q : Q (.str [q1z (k % 27).toNat]) st) : W ((ctxN P03 (n + 2)).call (.fn "_law_nothing") [.int k] []) st Q := by
 refine c_fn (d := fnDs (stm 68)) (by kernel_rfl!) (by kernel_rfl!) (q20 [("n", .int k)] (by kernel_rfl!) (by kernel_rfl!) ?_)
 conv => arg 1; arg 2; whnf
 walk_at "w"
 have h0 : 0 <= k % 27 /\ k % 27 < 27 := by omega
 by_cases h : k % 27 < 16
 ·walk_at "w"
  refine qoo (by omega) ?_
  have e : q1z (k % 27).toNat = (65024 + k % 27).toNat := by unfold q1z; rw [if_pos (by omega)]; omega
  rw [<- e]
  exact q
 ·walk_at "w"
  refine qah [173, 847, 6150, 6155, 6156, 6157, 8203, 8204, 8205, 8288, 65279] rfl (by kernel_rfl!) (by omega) (by simp; omega) ?_
  walk_at "w"
  have e : [173, 847, 6150, 6155, 6156, 6157, 8203, 8204, 8205, 8288, 65279].getD (k % 27 - 16).toNat 0 = q1z (k % 27).toNat := by
   unfold q1z
   rw [if_neg (by omega), show (k % 27 - 16).toNat = (k % 27).toNat - 16 by omega]
  rw [e]
  exact qoo ⟨Int.natCast_nonneg _, Int.ofNat_lt.mpr (q7e _)⟩ q
theorem qqc (r : Nat) : besF r < 1114112 := by
 unfold besF
 rcases (by omega : r = 0 \/ r = 1 \/ r = 2 \/ r = 3 \/ r = 4 \/ r = 5 \/ r = 6 \/ r = 7 \/ r = 8 \/ r = 9 \/ r = 10 \/ r = 11 \/ r = 12 \/ r = 13 \/ r = 14 \/ r = 15 \/ 16 <= r) with h | h | h | h | h | h | h | h | h | h | h | h | h | h | h | h | h
 all_goals first | (subst h; decide) | (rw [List.getD_eq_getElem?_getD, List.getElem?_eq_none (by simpa using h)]; decide)
theorem qg8 {n : Nat} {k : Int} {st : Ev.St} {Q : V -> Ev.St -> Prop} (q : Q (.str [besF (k % 16).toNat]) st) : W ((ctxN P03 (n + 2)).call (.fn "_law_beside") [.int k] []) st Q := by
 refine c_fn (d := fnDs (stm 69)) (by kernel_rfl!) (by kernel_rfl!) (q20 [("n", .int k)] (by kernel_rfl!) (by kernel_rfl!) ?_)
 conv => arg 1; arg 2; whnf
 walk_at "w"
 refine qah [172, 174, 846, 848, 6149, 6151, 6154, 6158, 8202, 8206, 8287, 8289, 65023, 65040, 65278, 65280] rfl (by kernel_rfl!) (by omega) (by simp; omega) ?_
 walk_at "w"
 exact qoo ⟨Int.natCast_nonneg _, Int.ofNat_lt.mpr (qqc _)⟩ q
noncomputable def lets : List Nat := [97, 98, 99, 100, 120]
theorem qzw {c : Nat} (h : c ∈ lets) : txtV (Txt.upper (S [c])).cps.toList = some (.str [c - 32]) := by
 simp only [lets, List.mem_cons, List.not_mem_nil, or_false] at h
 rcases h with h | h | h | h | h <;> subst h <;> kernel_rfl
theorem qop (r : Nat) : qp4 r < 13 := by
 unfold qp4
 rcases (by omega : r = 0 \/ r = 1 \/ r = 2 \/ r = 3 \/ r = 4 \/ r = 5 \/ r = 6 \/ r = 7 \/ r = 8 \/ r = 9 \/ r = 10 \/ r = 11 \/ 12 <= r) with h | h | h | h | h | h | h | h | h | h | h | h | h
 all_goals first | (subst h; decide) | (rw [List.getD_eq_getElem?_getD, List.getElem?_eq_none (by simpa using h)]; decide)
theorem qw2 {c : Nat} (h : c ∈ lets) : c < 128 := by
 simp only [lets, List.mem_cons, List.not_mem_nil, or_false] at h
 omega
theorem qpx {n c : Nat} {k : Int} {st : Ev.St} {Q : V -> Ev.St -> Prop} (hc : c ∈ lets) (q : Q (.str [q4x c (k % 12).toNat]) st) : W ((ctxN P03 (n + 2)).call (.fn "_law_form") [.str [c], .int k] []) st Q := by
 refine c_fn (d := fnDs (stm 67)) (by kernel_rfl!) (by kernel_rfl!) (q20 [("letter", .str [c]), ("k", .int k)] (by kernel_rfl!) (by kernel_rfl!) ?_)
 conv => arg 1; arg 2; whnf
 walk_at "w"
 have h0 : 0 <= k % 12 /\ k % 12 < 12 := by omega
 refine qah [0, 0, 0, 1, 2, 4, 7, 8, 9, 10, 11, 12] rfl (by kernel_rfl!) (by omega) (by simp; omega) ?_
 walk_at "w"
 have h1 := qop (k % 12).toNat
 have h2 := qw2 hc
 generalize hT : [0, 0, 0, 1, 2, 4, 7, 8, 9, 10, 11, 12].getD (k % 12).toNat 0 = T
 have hT' : qp4 (k % 12).toNat = T := hT
 rw [hT'] at h1
 refine qoo (by show 0 <= 119711 + 52 * (T : Int) + c /\ 119711 + 52 * (T : Int) + c < 1114112; omega) ?_
 refine ⟨_, q2k (by kernel_rfl!), ?_⟩
 walk_at "w"
 refine qes (qzw hc) ?_
 walk_at "w"
 have eg : (119711 + 52 * (T : Int) + (c : Int)).toNat = 119711 + 52 * T + c := by show (119711 + 52 * (T : Int) + c).toNat = _; omega
 rw [eg]
 refine q7w [[c], [c - 32], [119711 + 52 * T + c]] rfl (by kernel_rfl!) ?_ ?_ ?_
 ·split <;> omega
 ·simp only [List.length_cons, List.length_nil]; split <;> omega
 ·have e : [[c], [c - 32], [119711 + 52 * T + c]].getD (if (2 : Int) < k % 12 then 2 else k % 12).toNat [] = [q4x c (k % 12).toNat] := by
   unfold q4x
   rw [hT']
   rcases (by omega : k % 12 = 0 \/ k % 12 = 1 \/ 2 <= k % 12) with h | h | h
   ·rw [h]; rfl
   ·rw [h]; rfl
   ·have : (if (2 : Int) < k % 12 then 2 else k % 12).toNat = 2 := by split <;> omega
    rw [this, if_neg (by omega), if_neg (by omega)]; rfl
  rw [e]
  exact q
theorem qgy {P : Prg} {n : Nat} {st : Ev.St} {Q : V -> Ev.St -> Prop} {vs : List V} {xs : List (List Nat)} (hv : vs = xs.map V.str) (hl : xs.flatten.length + xs.length <= cap) (hc : xs.flatten.all (fun c => decide (c < 0x110000)) = true) (q : Q (.str xs.flatten) st) :
  W ((ctxN P (n + 1)).call (.m (.str []) "join") [.lst vs] []) st Q := by
 subst hv
 have e1 : ∀ ys : List (List Nat), q28 (ys.map V.str) = some ys := by
  intro ys
  induction ys with
  | nil => rfl
  | cons y ys ih => show (q28 (ys.map V.str)).map (y :: ·) = _; rw [ih]; rfl
 have e2 : ∀ ys : List (List Nat), (Str.join (S []) (ys.map S)).cps.toList = ys.flatten := by
  intro ys
  induction ys with
  | nil => rfl
  | cons y ys ih =>
   cases ys with
   | nil => show y.toArray.toList = _; simp
   | cons z zs =>
    show ((S y ++ S [] ++ Str.join (S []) ((z :: zs).map S)) : Str).cps.toList = _
    show (y.toArray ++ #[] ++ (Str.join (S []) ((z :: zs).map S)).cps).toList = _
    rw [Array.toList_append, Array.toList_append, ih]; simp
 have e3 : (Txt.join (S []) (xs.map S)).cps.toList = xs.flatten := by
  show (Builtin.Str.glued (S []) (xs.map S)).cps.toList = _
  rw [StrLaws.glued_eq_join, e2]
 have hj : JoinOk (S []) (xs.map S) = true := by
  refine joinOk_of_weight ?_ (by decide)
  have : ((xs.map S).map (·.length)).sum = xs.flatten.length := by
   rw [List.length_flatten, List.map_map]
   congr 1
  rw [this, List.length_map]
  unfold cap at hl
  omega
 show W (do
   let ys <- Ev.rd fun st => (q1v st (.lst (xs.map V.str))).bind q28
   Ev.gt (qhh [] ys)) st Q
 refine W.bind (W.rd (a := xs) (e1 xs) (W.gt (a := .str xs.flatten) ?_ q))
 unfold qhh
 rw [if_pos hj, e3]
 unfold txtV
 rw [if_pos hc]
 unfold strV
 rw [if_pos (by omega)]
noncomputable def b1B (c : Nat) : Bool := b1L.any fun n => n == (c : Int)
theorem f_b1 {n c : Nat} {st : Ev.St} {Q : V -> Ev.St -> Prop} (q : Q (.bool (b1B c)) st) : W ((ctxN P03 (n + 2)).call (.fn "in_table_b1") [.str [c]] []) st Q := by
 refine c_fn (d := fnDs (stm 2)) (by kernel_rfl!) (by kernel_rfl!) (q20 [("code", .str [c])] (by kernel_rfl!) (by kernel_rfl!) ?_)
 conv => arg 1; arg 2; whnf
 walk_at "w"
 refine qvx (c := b1B c) ?_ q
 show some ((b1L.map fun n => ((V.int n, V.none) : V × V)).any fun e => beqV e.1 (.int c)) = _
 rw [List.any_map]
 rfl
noncomputable def mapF (c : Nat) : List Nat := match b3V.find? (fun p => p.1 == (c : Int)) with
 | some p => p.2
 | none => (Txt.lower (S [c])).cps.toList
theorem f_b3 {n c : Nat} {st : Ev.St} {Q : V -> Ev.St -> Prop} (hl : txtV (Txt.lower (S [c])).cps.toList = some (.str (Txt.lower (S [c])).cps.toList)) (q : Q (.str (mapF c)) st) : W ((ctxN P03 (n + 2)).call (.fn "map_table_b3") [.str [c]] []) st Q := by
 refine c_fn (d := fnDs (stm 4)) (by kernel_rfl!) (by kernel_rfl!) (q20 [("code", .str [c])] (by kernel_rfl!) (by kernel_rfl!) ?_)
 conv => arg 1; arg 2; whnf
 walk_at "w"
 have e : ((b3V.map fun p => ((V.int p.1, V.str p.2) : V × V)).find? fun e => beqV e.1 (.int c)) = (b3V.find? (fun p => p.1 == (c : Int))).map fun p => (V.int p.1, V.str p.2) := by
  rw [List.find?_map]
  rfl
 refine W.of (a := ((b3V.map fun p => ((V.int p.1, V.str p.2) : V × V)).find? fun e => beqV e.1 (.int c)).elim .none (·.2)) rfl ?_
 rw [e]
 unfold mapF at q
 cases hf : b3V.find? (fun p => p.1 == (c : Int)) with
 | none =>
  rw [hf] at q
  show ∃ ρ', q6c st _ _ V.none _ = some ρ' /\ _
  refine ⟨_, q2k (by kernel_rfl!), ?_⟩
  walk_at "w"
  refine qas (c := true) rfl ?_
  walk_at "w"
  exact q6y hl q
 | some p =>
  rw [hf] at q
  show ∃ ρ', q6c st _ _ (V.str p.2) _ = some ρ' /\ _
  refine ⟨_, q2k (by kernel_rfl!), ?_⟩
  walk_at "w"
  refine qas (c := false) rfl ?_
  walk_at "w"
  exact q
noncomputable def q1a (c : Nat) : List Nat := if b1B c = true then [] else mapF c
noncomputable def quh (c : Nat) : Bool := (Txt.lower (S [c])).cps.toList.all (· < 0x110000) && decide ((Txt.lower (S [c])).cps.toList.length <= cap)
noncomputable def good (c : Nat) : Bool := b1B c || (quh c && decide ((mapF c).length <= 1) && (mapF c).all (· < 0x110000))
theorem qrb {c : Nat} (h : quh c = true) : txtV (Txt.lower (S [c])).cps.toList = some (.str (Txt.lower (S [c])).cps.toList) := by
 unfold quh at h
 obtain ⟨h1, h2⟩ := (Bool.and_eq_true _ _).mp h
 unfold txtV strV
 rw [if_pos h1, if_pos (of_decide_eq_true h2)]
theorem qa3 : ∀ {l : List Nat}, l.all good = true -> (l.flatMap q1a).length <= l.length /\ (l.flatMap q1a).all (fun c => decide (c < 0x110000)) = true
 | [], _ => ⟨Nat.le_refl _, rfl⟩
 | c :: l, h => by
  rw [List.all_cons] at h
  obtain ⟨h1, h2⟩ := (Bool.and_eq_true _ _).mp h
  obtain ⟨i1, i2⟩ := qa3 h2
  have h3 : (q1a c).length <= 1 /\ (q1a c).all (fun c => decide (c < 0x110000)) = true := by
   unfold q1a
   unfold good at h1
   cases hb : b1B c
   ·rw [hb, Bool.false_or] at h1
    obtain ⟨h3, h4⟩ := (Bool.and_eq_true _ _).mp h1
    rw [if_neg (by simp)]
    exact ⟨of_decide_eq_true ((Bool.and_eq_true _ _).mp h3).2, h4⟩
   ·rw [if_pos rfl]; exact ⟨Nat.zero_le _, rfl⟩
  rw [List.flatMap_cons]
  refine ⟨?_, ?_⟩
  ·rw [List.length_append, List.length_cons]; omega
  ·rw [List.all_append, h3.2, i2]; rfl
theorem qq3 {n : Nat} {text : List Nat} {st : Ev.St} {Q : V -> Ev.St -> Prop} (hg : text.all good = true) (hn : text.length <= 30000) (q : Q (.str (text.flatMap q1a)) st) : W ((ctxN P03 (n + 3)).call (.fn "_law_seen") [.str text] []) st Q := by
 refine c_fn (d := fnDs (stm 71)) (by kernel_rfl!) (by kernel_rfl!) (q20 [("text", .str text)] (by kernel_rfl!) (by kernel_rfl!) ?_)
 conv => arg 1; arg 2; whnf
 walk_at "w"
 refine q2a (fun c => V.str [c]) (fun c => .tup [.bool (b1B c), .str [c]]) rfl text (fun c hc => ?_) ?_
 ·refine qg4 (q3t rfl (by kernel_rfl!)) ?_
  walk_at "w"
  refine f_b1 ?_
  walk_at "w"
  exact ⟨rfl, rfl⟩
 ·refine q0q (by unfold cap; simp; omega) (by kernel_rfl!) ?_
  refine ⟨_, q2k (by kernel_rfl!), ?_⟩
  walk_at "w"
  refine q2a (fun c => .tup [.bool (b1B c), .str [c]]) (fun c => V.str (q1a c)) rfl text (fun c hc => ?_) ?_
  ·refine qg4 (q9f (by kernel_rfl!)) ?_
   have hgc : good c = true := List.all_eq_true.mp hg c hc
   unfold good at hgc
   unfold q1a
   walk_at "w"
   cases hb : b1B c
   ·refine qhp (c := false) rfl ?_
    walk_at "w"
    refine qhp (c := true) rfl ?_
    walk_at "w"
    rw [hb, Bool.false_or] at hgc
    refine f_b3 (qrb ((Bool.and_eq_true _ _).mp ((Bool.and_eq_true _ _).mp hgc).1).1) ?_
    exact ⟨by rw [if_neg (by simp)], rfl⟩
   ·refine qhp (c := true) rfl ?_
    walk_at "w"
    exact ⟨by rw [if_pos rfl]; rfl, rfl⟩
  ·refine q0q (by unfold cap; simp; omega) (by kernel_rfl!) ?_
   walk_at "w"
   obtain ⟨h1, h2⟩ := qa3 hg
   have e : (text.map q1a).flatten = text.flatMap q1a := rfl
   refine qgy (xs := text.map q1a) (by rw [List.map_map]; rfl) ?_ ?_ ?_
   ·rw [e, List.length_map]; unfold cap; omega
   ·rw [e]; exact h2
   ·rw [e]; exact q
theorem qjj : (List.range 27).all (fun r => b1B (q1z r) && good (q1z r)) = true := by decide +kernel
theorem qos : (List.range 16).all (fun r => !b1B (besF r) && (mapF (besF r) == [besF r]) && good (besF r)) = true := by decide +kernel
theorem qj6 : lets.all (fun c => (List.range 12).all fun r => !b1B (q4x c r) && (mapF (q4x c r) == [c]) && good (q4x c r)) = true := by decide +kernel
theorem qng : [126, 60, 62, 59].all (fun c => !b1B c && (mapF c == [c]) && good c) = true := by decide +kernel
theorem qku : b1B 70 = false /\ mapF 70 = [102] /\ good 70 = true := by decide +kernel
theorem qtm {n : Nat} {x : Int} {b : Bool} {st : Ev.St} {Q : V -> Ev.St -> Prop} (h : decide (x < 256) = b) (q : Q (.bool b) st) : W ((ctxN P03 (n + 2)).call (.fn "ISTERMINAL") [.int x] []) st Q := by
 subst h
 refine c_fn (d := fnDs (stm 57)) (by kernel_rfl!) (by kernel_rfl!) (q20 [("x", .int x)] (by kernel_rfl!) (by kernel_rfl!) ?_)
 conv => arg 1; arg 2; whnf
 walk_at "w"
 refine qe9 (v := .int 256) (by kernel_rfl!) (by kernel_rfl!) (by kernel_rfl!) ?_
 walk_at "w"
 exact q
theorem qt1 {n : Nat} {x : Int} {b : Bool} {st : Ev.St} {Q : V -> Ev.St -> Prop} (h : decide (256 <= x) = b) (q : Q (.bool b) st) : W ((ctxN P03 (n + 2)).call (.fn "ISNONTERMINAL") [.int x] []) st Q := by
 subst h
 refine c_fn (d := fnDs (stm 58)) (by kernel_rfl!) (by kernel_rfl!) (q20 [("x", .int x)] (by kernel_rfl!) (by kernel_rfl!) ?_)
 conv => arg 1; arg 2; whnf
 walk_at "w"
 refine qe9 (v := .int 256) (by kernel_rfl!) (by kernel_rfl!) (by kernel_rfl!) ?_
 walk_at "w"
 exact q
theorem qtk {n : Nat} {x : Int} {b : Bool} {st : Ev.St} {Q : V -> Ev.St -> Prop} (h : decide (x = 0) = b) (q : Q (.bool b) st) : W ((ctxN P03 (n + 2)).call (.fn "ISEOF") [.int x] []) st Q := by
 subst h
 refine c_fn (d := fnDs (stm 59)) (by kernel_rfl!) (by kernel_rfl!) (q20 [("x", .int x)] (by kernel_rfl!) (by kernel_rfl!) ?_)
 conv => arg 1; arg 2; whnf
 walk_at "w"
 refine qe9 (v := .int 0) (by kernel_rfl!) (by kernel_rfl!) (by kernel_rfl!) ?_
 walk_at "w"
 exact q
noncomputable def qdk (a : List Nat) : Bool := tkV.any fun p => p.1 == a
noncomputable def tokN (a : List Nat) : Int := match tkV.find? (fun p => p.1 == a) with | some p => p.2 | none => 255
noncomputable def numC (c : Nat) : Int := if c = 120 then 256 else tokN [c]
theorem qqf {gd : Str -> Option (List (V × V))} {st : Ev.St} {a : List Nat} {Q : Bool -> Prop} (hg : gd "EXACT_TOKEN_TYPES" = some (tkV.map fun p => (.str p.1, .int p.2))) (q : Q (qdk a)) : ∃ c, cmpV gd st .In (.str a) (.g "EXACT_TOKEN_TYPES") = some c /\ Q c := by
 refine qvx (c := qdk a) ?_ q
 show (match (if ("EXACT_TOKEN_TYPES" : Str) = ("EXACT_TOKEN_TYPES" : Str) then (gd "EXACT_TOKEN_TYPES").map fun es => es.any fun e => beqV e.1 (.str a) else none) with
  | some t => some t
  | none => inV st (.str a) (.g "EXACT_TOKEN_TYPES")) = _
 rw [if_pos rfl, hg]
 show some ((tkV.map fun p => ((V.str p.1, V.int p.2) : V × V)).any fun e => beqV e.1 (.str a)) = _
 rw [List.any_map]
 rfl
theorem qsa {n : Nat} {st : Ev.St} {a : List Nat} {Q : V -> Ev.St -> Prop} (q : Q (.int (tokN a)) st) : W ((ctxN P03 (n + 1)).call (.m (.g "EXACT_TOKEN_TYPES") "get") [.str a, .int 255] []) st Q := by
 have e : ((tkV.map fun p => ((V.str p.1, V.int p.2) : V × V)).find? fun e => beqV e.1 (.str a)) = (tkV.find? (fun p => p.1 == a)).map fun p => (V.str p.1, V.int p.2) := by
  rw [List.find?_map]
  rfl
 refine W.of (a := ((tkV.map fun p => ((V.str p.1, V.int p.2) : V × V)).find? fun e => beqV e.1 (.str a)).elim (.int 255) (·.2)) rfl ?_
 rw [e]
 unfold tokN at q
 cases hf : tkV.find? (fun p => p.1 == a) with
 | none => rw [hf] at q; exact q
 | some p => rw [hf] at q; exact q
noncomputable def q2g (s : List (List Int) × List Int) (x : Int) : List (List Int) × List Int := if x = 13 then (s.1 ++ [s.2 ++ [x]], []) else (s.1, s.2 ++ [x])
structure RowsAt (base : Ev.St) (r : Nat) (refs : List Nat) (R : List (List Int)) (st : Ev.St) : Prop where
 out : st[r]? = some (.list (refs.map .ref))
 len : refs.length = R.length
 rows : ∀ (k i : Nat) (row : List Int), refs[k]? = some i -> R[k]? = some row -> st[i]? = some (.list (row.map .int))
 nodup : refs.Nodup
 fresh : r ∉ refs
 lt : ∀ i ∈ refs, i < st.length
 ge : ∀ i ∈ refs, base.length <= i
 rge : base.length <= r
 pre : ∀ i, i < base.length -> st[i]? = base[i]?
 size : base.length <= st.length
theorem RowsAt.push {base st : Ev.St} {r c : Nat} {refs : List Nat} {done : List (List Int)} {cur : List Int} {x : Int} (h : RowsAt base r (refs ++ [c]) (done ++ [cur]) st) :
  st[c]? = some (.list (cur.map .int)) /\ RowsAt base r (refs ++ [c]) (done ++ [cur ++ [x]]) (st.set c (O.list (cur.map V.int ++ [V.int x]))) := by
 have hl : refs.length = done.length := by have := h.len; simpa using this
 have hc : st[c]? = some (.list (cur.map .int)) := h.rows refs.length c cur (by simp) (by rw [hl]; simp)
 have hcl : c < st.length := h.lt c (by simp)
 have hrc : r ≠ c := fun e => h.fresh (by simp [e])
 refine ⟨hc, ?_⟩
 constructor
 ·rw [List.getElem?_set_ne (fun e => hrc e.symm)]; exact h.out
 ·simpa using hl
 ·intro k i row h1 h2
  rcases Nat.lt_trichotomy k refs.length with hk | hk | hk
  ·have hi : i ≠ c := by
    intro e
    subst e
    have hn := h.nodup
    rw [List.nodup_append] at hn
    have h1' : refs[k]? = some i := by rw [List.getElem?_append_left hk] at h1; exact h1
    exact hn.2.2 i (List.mem_of_getElem? h1') i (by simp) rfl
   rw [List.getElem?_set_ne (fun e => hi e.symm)]
   refine h.rows k i row h1 ?_
   rw [List.getElem?_append_left (by omega)] at h2 ⊢
   exact h2
  ·subst hk
   have : i = c := by simpa using h1.symm
   subst this
   rw [hl] at h2
   have : row = cur ++ [x] := by simpa using h2.symm
   subst this
   rw [List.getElem?_set_self hcl, List.map_append]
   rfl
  ·rw [List.getElem?_eq_none (by simp; omega)] at h1
   cases h1
 ·exact h.nodup
 ·exact h.fresh
 ·intro i hi; rw [List.length_set]; exact h.lt i hi
 ·exact h.ge
 ·exact h.rge
 ·intro i hi
  have : c ≠ i := fun e => by have := h.ge c (by simp); omega
  rw [List.getElem?_set_ne this]; exact h.pre i hi
 ·rw [List.length_set]; exact h.size
theorem RowsAt.more {base st : Ev.St} {r : Nat} {refs : List Nat} {R : List (List Int)} (h : RowsAt base r refs R st) (hr : r < st.length) : RowsAt base r (refs ++ [st.length]) (R ++ [[]]) ((st ++ [O.list []]).set r (O.list (refs.map V.ref ++ [V.ref st.length]))) := by
 have hs : st.length ∉ refs := fun e => Nat.lt_irrefl _ (h.lt _ e)
 have hl := h.len
 constructor
 ·rw [List.getElem?_set_self (by simp; omega), List.map_append]; rfl
 ·simpa using hl
 ·intro k i row h1 h2
  rcases Nat.lt_trichotomy k refs.length with hk | hk | hk
  ·rw [List.getElem?_append_left hk] at h1
   rw [List.getElem?_append_left (by omega)] at h2
   have hi := List.mem_of_getElem? h1
   have hir : r ≠ i := fun e => h.fresh (e ▸ hi)
   rw [List.getElem?_set_ne hir, List.getElem?_append_left (h.lt i hi)]
   exact h.rows k i row h1 h2
  ·subst hk
   have e1 : i = st.length := by simpa using h1.symm
   subst e1
   rw [hl] at h2
   have e2 : row = [] := by simpa using h2.symm
   subst e2
   rw [List.getElem?_set_ne (by omega)]
   simp
  ·rw [List.getElem?_eq_none (by simp; omega)] at h1
   cases h1
 ·rw [List.nodup_append]
  exact ⟨h.nodup, by simp, fun a ha b hb => by simp at hb; subst hb; exact fun e => hs (e ▸ ha)⟩
 ·intro hm
  rcases List.mem_append.mp hm with hm | hm
  ·exact h.fresh hm
  ·simp at hm; omega
 ·intro i hi
  rw [List.length_set, List.length_append]
  rcases List.mem_append.mp hi with hi | hi
  ·have := h.lt i hi; simp; omega
  ·simp at hi; simp; omega
 ·intro i hi
  rcases List.mem_append.mp hi with hi | hi
  ·exact h.ge i hi
  ·simp at hi; have := h.size; omega
 ·exact h.rge
 ·intro i hi
  have h1 := h.rge
  have h2 := h.size
  rw [List.getElem?_set_ne (by omega), List.getElem?_append_left (by omega)]
  exact h.pre i hi
 ·have := h.size; rw [List.length_set, List.length_append]; omega
noncomputable def qk4 (l : List Nat) : List (List Int) := (((l.map numC ++ [0]).foldl q2g ([], [])).1 ++ [((l.map numC ++ [0]).foldl q2g ([], [])).2])
noncomputable def RowI (l : List Nat) (base : Ev.St) (sc : List (Str × NameKind)) (xs : List V) (ρ : Fr) (s : Ev.St) : Prop :=
 ∃ vars r refs c done cur, ρ = ⟨sc, vars, fun _ => none⟩ /\ vars.lookup ("seen" : Str) = some (.str l) /\ vars.lookup ("rows" : Str) = some (.ref r) /\ RowsAt base r (refs ++ [c]) (done ++ [cur]) s /\
  ((∃ pre d, l = pre ++ d /\ xs = (List.range' pre.length (d.length + 1)).map (fun (i : Nat) => V.int i) /\ vars.lookup ("place" : Str) = some (.int pre.length) /\ (done, cur) = (pre.map numC).foldl q2g ([], []) /\ done.length <= pre.length /\ cur.length <= pre.length) \/
   (xs = [] /\ (done, cur) = (l.map numC ++ [0]).foldl q2g ([], [])))
theorem q8e {l pre d : List Nat} {ch : Nat} {base s : Ev.St} {sc : List (Str × NameKind)} {vars : List (Str × V)} {r c : Nat} {refs : List Nat} {done done' : List (List Int)} {cur cur' : List Int} (hl : l = pre ++ ch :: d) (hfold : (done, cur) = (pre.map numC).foldl q2g ([], [])) (hs : (done', cur') = q2g (done, cur) (numC ch))
  (hb1 : done.length <= pre.length) (hb2 : cur.length <= pre.length) (h1 : vars.lookup ("seen" : Str) = some (.str l)) (h2 : vars.lookup ("rows" : Str) = some (.ref r)) (h3 : vars.lookup ("place" : Str) = some (.int (pre.length + 1))) (hR : RowsAt base r (refs ++ [c]) (done' ++ [cur']) s) :
  RowI l base sc ((List.range' (pre.length + 1) (ch :: d).length).map fun (i : Nat) => V.int i) ⟨sc, vars, fun _ => none⟩ s := by
 refine ⟨vars, r, refs, c, done', cur', rfl, h1, h2, hR, .inl ⟨pre ++ [ch], d, by rw [hl]; simp, by simp, by rw [h3]; simp, ?_, ?_, ?_⟩⟩
 ·rw [List.map_append, List.foldl_append, <- hfold, hs]; rfl
 ·unfold q2g at hs
  split at hs <;> (injection hs with e1 e2; subst e1 e2; simp; try omega)
 ·unfold q2g at hs
  split at hs <;> (injection hs with e1 e2; subst e1 e2; simp; try omega)
theorem qlw {l : List Nat} {base s : Ev.St} {sc : List (Str × NameKind)} {vars : List (Str × V)} {r c : Nat} {refs : List Nat} {done : List (List Int)} {cur : List Int} (hfold : (done, cur) = (l.map numC).foldl q2g ([], []))
  (h1 : vars.lookup ("seen" : Str) = some (.str l)) (h2 : vars.lookup ("rows" : Str) = some (.ref r)) (hR : RowsAt base r (refs ++ [c]) (done ++ [cur ++ [0]]) s) : RowI l base sc [] ⟨sc, vars, fun _ => none⟩ s := by
 refine ⟨vars, r, refs, c, done, cur ++ [0], rfl, h1, h2, hR, .inr ⟨rfl, ?_⟩⟩
 rw [List.foldl_append, <- hfold]
 rfl
theorem qi1 {l : List Nat} {base : Ev.St} {sc : List (Str × NameKind)} {vars : List (Str × V)} (h1 : vars.lookup ("seen" : Str) = some (.str l)) (h2 : vars.lookup ("rows" : Str) = some (.ref (base ++ [O.list []]).length)) (h3 : vars.lookup ("place" : Str) = some (.int 0)) :
  RowI l base sc ((List.range' ([] : List Nat).length (l.length + 1)).map fun (i : Nat) => V.int i) ⟨sc, vars, fun _ => none⟩ (base ++ [O.list []] ++ [O.list [V.ref base.length]]) := by
 refine ⟨vars, _, [], base.length, [], [], rfl, h1, h2, ?_, .inl ⟨[], l, rfl, rfl, h3, rfl, Nat.le_refl _, Nat.le_refl _⟩⟩
 constructor
 ·rw [List.getElem?_append_right (Nat.le_refl _)]; simp
 ·rfl
 ·intro k i row e1 e2
  match k, e1, e2 with
  | 0, e1, e2 =>
   cases e1; cases e2
   rw [List.getElem?_append_left (by simp), List.getElem?_append_right (Nat.le_refl _)]; simp
  | k + 1, e1, _ => simp at e1
 ·simp
 ·simp
 ·intro i hi; simp at hi; subst hi; simp
 ·intro i hi; simp at hi; omega
 ·simp
 ·intro i hi
  rw [List.append_assoc, List.getElem?_append_left hi]
 ·simp
theorem qwm {P : Prg} {n : Nat} {st : Ev.St} {Q : V -> Ev.St -> Prop} (q : Q (.int 1) st) : W ((ctxN P (n + 1)).call (.bi "max") [.lst [.int 1]] []) st Q := W.of (a := .int 1) (s := st) (by kernel_rfl!) q
theorem r12 {n : Nat} {l : List Nat} {st : Ev.St} {Q : V -> Ev.St -> Prop} (hn : l.length <= 30000) (h2 : ∀ j, qdk ((l.drop j).take 2) = false /\ qdk ((l.drop j).take 3) = false) (hnum : ∀ c ∈ l, c = 120 \/ (0 < numC c /\ numC c < 256))
  (q : ∀ r refs s, RowsAt st r refs (qk4 l) s -> Q (.ref r) s) : W ((ctxN P03 (n + 3)).call (.fn "_law_rows") [.str l]  []) st Q := by
 refine c_fn (d := fnDs (stm 73)) (by kernel_rfl!) (by kernel_rfl!) (q20 [("seen", .str l)] (by kernel_rfl!) (by kernel_rfl!) ?_)
 conv => arg 1; arg 2; whnf
 have hlen : l.length <= cap := by unfold cap; omega
 walk_at "w"
 refine qq8 ⟨by omega, by omega⟩ ?_
 have e0 : ((List.range ((l.length : Int) + 1).toNat).map fun (i : Nat) => V.int i) = (List.range' ([] : List Nat).length (l.length + 1)).map fun (i : Nat) => V.int i := by
  rw [show ((l.length : Int) + 1).toNat = l.length + 1 by omega, List.range_eq_range']; rfl
 rw [e0]
 refine q6i (RowI l st (fnDs (stm 73)).sc.names) ?_ ?_ _ ?_
 ·rintro ρ s ⟨vars, r, refs, c, done, cur, rfl, hseen, hrows, hR, h⟩
  rcases h with ⟨pre, d, -, hx, -⟩ | ⟨-, hd⟩
  ·rw [List.range'_succ] at hx; cases hx
  ·show W (q09 _ _ _) s _
   walk_at "w"
   refine q r (refs ++ [c]) s ?_
   have : qk4 l = done ++ [cur] := by unfold qk4; rw [<- hd]
   rw [this]; exact hR
 ·rintro x xs ρ s ⟨vars, r, refs, c, done, cur, rfl, hseen, hrows, hR, h⟩
  rcases h with ⟨pre, d, hl, hx, hplace, hfold, hb1, hb2⟩ | ⟨hx, -⟩
  ·rw [List.range'_succ, List.map_cons] at hx
   injection hx with hx1 hx2
   subst hx1
   have hkk : decide ((pre.length : Int) = (pre.length : Int)) = true := decide_eq_true rfl
   have hdrop : l.drop pre.length = d := by rw [hl, List.drop_left]
   have hj := h2 pre.length
   rw [hdrop] at hj
   have hcap : pre.length + d.length <= cap := by rw [hl, List.length_append] at hlen; exact hlen
   walk_at "w"
   refine q0z V.int (fun _ => false) V.int rfl [2, 3] (fun a ha => ?_) ?_
   ·walk_at "w"
    have ha' : a = 2 \/ a = 3 := by simpa using ha
    rcases ha' with ha' | ha'
    ·refine qgf (qek hl 2 hcap rfl (by rw [ha']; rfl)) ?_
     walk_at "w"
     refine qqf rfl ?_
     rw [hj.1]
     walk_at "w"
     exact ⟨rfl, rfl⟩
    ·refine qgf (qek hl 3 hcap rfl (by rw [ha']; rfl)) ?_
     walk_at "w"
     refine qqf rfl ?_
     rw [hj.2]
     walk_at "w"
     exact ⟨rfl, rfl⟩
   ·walk_at "w"
    refine q3a (by decide) ?_
    walk_at "w"
    refine qwm ?_
    walk_at "w"
    refine qgf (qek hl 1 hcap rfl rfl) ?_
    have hp1 : (d.take 1).length <= cap := by have := List.length_take (i := 1) (l := d); unfold cap; omega
    walk_at "w"
    have hdl : done.length <= 30000 /\ cur.length <= 30000 /\ refs.length = done.length := by
     have := hR.len
     simp at this
     have : l.length = pre.length + d.length := by rw [hl, List.length_append]
     omega
    cases d with
    | nil =>
    have hpush := hR.push (x := 0)
    have hpc := hpush.1
    have hout : s[r]? = some (.list (refs.map V.ref ++ [V.ref c])) := by rw [hR.out, List.map_append]; rfl
    have hl' : l = pre := by rw [hl, List.append_nil]
    walk_at "w"
    refine qtm (b := true) (by kernel_rfl!) ?_
    walk_at "w"
    refine qt1 (b := false) (by kernel_rfl!) ?_
    walk_at "w"
    refine qtk (b := true) (by kernel_rfl!) ?_
    walk_at "w"
    refine W.of (a := [.str [84], .str [70], .str [84]]) (s := s) (by kernel_rfl!) ?_
    walk_at "w"
    refine W.of (a := .str [84, 70, 84]) (s := s) (by kernel_rfl!) ?_
    walk_at "w"
    refine qap (vs := refs.map V.ref) (v := .ref c) hout (by have := hR.len; simp at this; unfold cap; simp; omega) ?_
    walk_at "w"
    refine q8d hpush.1 (by unfold cap; simp; omega) ?_
    walk_at "w"
    refine ⟨rfl, rfl, ?_⟩
    subst hx2
    refine qlw (by rw [hl']; exact hfold) (by walk_at "look") (by walk_at "look") hpush.2
    | cons ch d' =>
    have ht : (ch :: d').take 1 = [ch] := rfl
    rw [ht]
    have hplace' : ((pre.length : Int) + if (1 : Int) < (([ch] : List Nat).length : Int) then (([ch] : List Nat).length : Int) else 1) = pre.length + 1 := rfl
    rw [hplace']
    by_cases hc : ch = 120
    ·skip
     subst hc
     walk_at "w"
     have hpush := hR.push (x := 256)
     have hpc := hpush.1
     have hout : s[r]? = some (.list (refs.map V.ref ++ [V.ref c])) := by rw [hR.out, List.map_append]; rfl
     refine qtm (b := false) (by kernel_rfl!) ?_
     walk_at "w"
     refine qt1 (b := true) (by kernel_rfl!) ?_
     walk_at "w"
     refine qtk (b := false) (by kernel_rfl!) ?_
     walk_at "w"
     refine W.of (a := [.str [70], .str [84], .str [70]]) (s := s) (by kernel_rfl!) ?_
     walk_at "w"
     refine W.of (a := .str [70, 84, 70]) (s := s) (by kernel_rfl!) ?_
     walk_at "w"
     refine qap (vs := refs.map V.ref) (v := .ref c) hout (by have := hR.len; simp at this; unfold cap; simp; omega) ?_
     walk_at "w"
     refine q8d hpush.1 (by unfold cap; simp; omega) ?_
     walk_at "w"
     refine ⟨rfl, rfl, ?_⟩
     subst hx2
     refine q8e hl hfold rfl hb1 hb2 (by walk_at "look") (by walk_at "look") (by walk_at "look") hpush.2
    ·skip
     have hx0 : decide ([ch] = chs "x") = false := decide_eq_false (by intro e; exact hc (by injection e))
     have hx1 : numC ch = tokN [ch] := by unfold numC; rw [if_neg hc]
     have hx3 := (hnum ch (by rw [hl]; simp)).resolve_left hc
     rw [hx1] at hx3
     have hpush := hR.push (x := tokN [ch])
     have hpc := hpush.1
     have hout : s[r]? = some (.list (refs.map V.ref ++ [V.ref c])) := by rw [hR.out, List.map_append]; rfl
     walk_at "w"
     refine qsa ?_
     walk_at "w"
     refine qtm (b := true) (decide_eq_true hx3.2) ?_
     walk_at "w"
     refine qt1 (b := false) (decide_eq_false (by omega)) ?_
     walk_at "w"
     refine qtk (b := false) (decide_eq_false (by omega)) ?_
     walk_at "w"
     refine W.of (a := [.str [84], .str [70], .str [70]]) (s := s) (by kernel_rfl!) ?_
     walk_at "w"
     refine W.of (a := .str [84, 70, 70]) (s := s) (by kernel_rfl!) ?_
     walk_at "w"
     refine qap (vs := refs.map V.ref) (v := .ref c) hout (by have := hR.len; simp at this; unfold cap; simp; omega) ?_
     walk_at "w"
     refine q8d hpush.1 (by unfold cap; simp; omega) ?_
     walk_at "w"
     by_cases h13 : tokN [ch] = 13
     ·skip
      walk_at "w"
      have hne : c ≠ r := fun e => hR.fresh (by simp [e])
      have hrl : r < s.length := by
       rcases Nat.lt_or_ge r s.length with h' | h'
       ·exact h'
       ·have := hR.out; rw [List.getElem?_eq_none h'] at this; cases this
      have hout2 := hpush.2.out
      rw [List.map_append] at hout2
      walk_at "w"
      refine q8d (xs := refs.map V.ref ++ [V.ref c]) (by rw [List.getElem?_append_left (by simpa using hrl)]; exact hout2) (by unfold cap; simp; omega) ?_
      walk_at "w"
      refine ⟨rfl, rfl, ?_⟩
      have hmore := hpush.2.more (by simpa using hrl)
      rw [List.map_append] at hmore
      subst hx2
      refine q8e hl hfold (done' := done ++ [cur ++ [tokN [ch]]]) (cur' := []) (by rw [hx1]; unfold q2g; rw [if_pos h13]) hb1 hb2 (by walk_at "look") (by walk_at "look") (by walk_at "look") hmore
     ·skip
      walk_at "w"
      refine ⟨rfl, rfl, ?_⟩
      subst hx2
      refine q8e hl hfold (by rw [hx1]; unfold q2g; rw [if_neg h13]) hb1 hb2 (by walk_at "look") (by walk_at "look") (by walk_at "look") hpush.2
  ·cases hx
 ·exact qi1 (by walk_at "look") (by walk_at "look") (by walk_at "look")
noncomputable def q50 (cl : List Nat) (vs : List Nat) (x : Int) : List Nat := if x = 256 then List.range 16 else if x = 31 then vs.map (15 - ·) else if x = 20 then vs.map (cl.getD · 0) else vs
noncomputable def q4g (cl : List Nat) (row : List Int) : List Nat := (row.reverse.foldl (q50 cl) []).map (97 + ·)
noncomputable def CodI (cl : List Nat) (fin : List Nat) (st : Ev.St) (sc : List (Str × NameKind)) (xs : List V) (ρ : Fr) (s : Ev.St) : Prop :=
 s = st /\ ∃ (vars : List (Str × V)) (rest : List Int) (vs : List Nat), xs = rest.map V.int /\ ρ = ⟨sc, vars, fun _ => none⟩ /\ vars.lookup ("values" : Str) = some (.lst (vs.map fun (v : Nat) => V.int v)) /\ vars.lookup ("closed" : Str) = some (.lst (cl.map fun (v : Nat) => V.int v)) /\ vs.length <= 16 /\ (∀ v ∈ vs, v < 16) /\ rest.foldl (q50 cl) vs = fin
theorem qsi : ∀ v, v < 16 -> (chs "abcdefghijklmnop").getD v 0 = 97 + v := by decide +kernel
theorem qqm : (chs "abcdefghijklmnop").length = 16 := by decide +kernel
theorem qpp : ∀ vs : List Nat, (vs.map fun v => [97 + v]).flatten = vs.map (97 + ·)
 | [] => rfl
 | v :: vs => by rw [List.map_cons, List.flatten_cons, qpp vs]; rfl
theorem qwl {n i : Nat} {row : List Int} {cl : List Nat} {st : Ev.St} {Q : V -> Ev.St -> Prop} (hi : st[i]? = some (.list (row.map V.int))) (hn : row.length <= 30000) (hcl : cl.length = 16) (hlt : ∀ c ∈ cl, c < 16)
  (q : Q (.str (q4g cl row)) st) : W ((ctxN P03 (n + 3)).call (.fn "_law_code") [.ref i, .lst (cl.map fun (v : Nat) => V.int v)] []) st Q := by
 refine c_fn (d := fnDs (stm 75)) (by kernel_rfl!) (by kernel_rfl!) (q20 [("row", .ref i), ("closed", .lst (cl.map fun (v : Nat) => V.int v))] (by kernel_rfl!) (by kernel_rfl!) ?_)
 conv => arg 1; arg 2; whnf
 walk_at "w"
 refine qhv hi ?_
 refine qbw (q0q (by unfold cap; simp; omega) (by kernel_rfl!) ?_)
 walk_at "w"
 refine q6i (CodI cl (row.reverse.foldl (q50 cl) []) st (fnDs (stm 75)).sc.names) ?_ ?_ _ ?_
 ·rintro ρ s ⟨rfl, vars, rest, vs, hx, rfl, hv, hc, hlen, hall, hf⟩
  have : rest = [] := by simpa using hx.symm
  subst this
  show W (q09 _ _ _) s _
  walk_at "w"
  refine q2a (fun (v : Nat) => V.int v) (fun v => .str [97 + v]) rfl vs (fun v hv => ?_) ?_
  ·have hv16 := hall v hv
   walk_at "w"
   refine q77 (by kernel_rfl!) (by omega) (by rw [qqm]; omega) ?_
   rw [Int.toNat_natCast, qsi v hv16]
   exact ⟨rfl, rfl⟩
  ·refine q0q (by unfold cap; simp; omega) (by kernel_rfl!) ?_
   walk_at "w"
   have e := qpp vs
   refine qgy (xs := vs.map fun v => [97 + v]) (by rw [List.map_map]; rfl) ?_ ?_ ?_
   ·rw [e]; unfold cap; simp; omega
   ·rw [e, List.all_map, List.all_eq_true]
    intro v hv
    have := hall v hv
    simp
    omega
   ·rw [e]
    unfold q4g at q
    have hf' : vs = row.reverse.foldl (q50 cl) [] := hf
    rw [<- hf'] at q
    exact q
 ·rintro x xs ρ s ⟨rfl, vars, rest, vs, hx, rfl, hv, hc, hlen, hall, hf⟩
  cases rest with
  | nil => cases hx
  | cons a rest =>
   rw [List.map_cons] at hx
   injection hx with hx1 hx2
   subst hx1
   rw [List.foldl_cons] at hf
   walk_at "w"
   by_cases h1 : a = 256
   ·walk_at "w"
    refine qy9 (by decide) ?_
    walk_at "w"
    refine ⟨rfl, rfl, rfl, _, rest, List.range 16, hx2, rfl, q24, by walk_at "look", by decide, by decide, ?_⟩
    unfold q50 at hf
    rw [if_pos h1] at hf
    exact hf
   ·walk_at "w"
    by_cases h2 : a = 31
    ·walk_at "w"
     refine q2a (fun (v : Nat) => V.int v) (fun v => .int ((15 - v : Nat) : Int)) rfl vs (fun v hv => ?_) ?_
     ·walk_at "w"
      have := hall v hv
      exact ⟨by rw [show (15 : Int) - (v : Int) = ((15 - v : Nat) : Int) by omega], rfl⟩
     ·refine q0q (by unfold cap; simp; omega) (by kernel_rfl!) ?_
      walk_at "w"
      refine ⟨rfl, rfl, rfl, _, rest, vs.map (15 - ·), hx2, rfl, ?_, by walk_at "look", by simpa using hlen, ?_, ?_⟩
      ·rw [List.map_map]; exact q24
      ·intro v hv
       obtain ⟨u, hu, rfl⟩ := List.mem_map.mp hv
       omega
      ·unfold q50 at hf
       rw [if_neg h1, if_pos h2] at hf
       exact hf
    ·walk_at "w"
     by_cases h3 : a = 20
     ·walk_at "w"
      refine q2a (fun (v : Nat) => V.int v) (fun v => .int ((cl.getD v 0 : Nat) : Int)) rfl vs (fun v hv => ?_) ?_
      ·walk_at "w"
       have hv16 := hall v hv
       refine q2i (v := .int ((cl.getD v 0 : Nat) : Int)) (by unfold cap; simp; omega) (by omega) (by simp; omega) ?_ ⟨rfl, rfl⟩
       rw [Int.toNat_natCast, List.getElem?_map, List.getD_eq_getElem?_getD, List.getElem?_eq_getElem (by omega)]
       rfl
      ·refine q0q (by unfold cap; simp; omega) (by kernel_rfl!) ?_
       walk_at "w"
       refine ⟨rfl, rfl, rfl, _, rest, vs.map (cl.getD · 0), hx2, rfl, ?_, by walk_at "look", by simpa using hlen, ?_, ?_⟩
       ·rw [List.map_map]; exact q24
       ·intro v hv
        obtain ⟨u, hu, rfl⟩ := List.mem_map.mp hv
        have := hall u hu
        refine hlt _ ?_
        rw [List.getD_eq_getElem?_getD, List.getElem?_eq_getElem (by omega)]
        exact List.getElem_mem _
       ·unfold q50 at hf
        rw [if_neg h1, if_neg h2, if_pos h3] at hf
        exact hf
     ·walk_at "w"
      refine ⟨rfl, rfl, rfl, _, rest, vs, hx2, rfl, by walk_at "look", by walk_at "look", hlen, hall, ?_⟩
      unfold q50 at hf
      rw [if_neg h1, if_neg h2, if_neg h3] at hf
      exact hf
 ·exact ⟨rfl, _, row.reverse, [], by rw [List.map_reverse], rfl, q24, by walk_at "look", by decide, by simp, rfl⟩
theorem RowsAt.alloc {base st : Ev.St} {r : Nat} {refs : List Nat} {R : List (List Int)} (h : RowsAt base r refs R st) (o : O) : RowsAt base r refs R (st ++ [o]) := by
 have hr : r < st.length := by
  rcases Nat.lt_or_ge r st.length with h' | h'
  ·exact h'
  ·have := h.out; rw [List.getElem?_eq_none h'] at this; cases this
 constructor
 ·rw [List.getElem?_append_left hr]; exact h.out
 ·exact h.len
 ·intro k i row h1 h2
  rw [List.getElem?_append_left (h.lt i (List.mem_of_getElem? h1))]
  exact h.rows k i row h1 h2
 ·exact h.nodup
 ·exact h.fresh
 ·intro i hi; have := h.lt i hi; rw [List.length_append]; omega
 ·exact h.ge
 ·exact h.rge
 ·intro i hi
  have h2 := h.size
  rw [List.getElem?_append_left (by omega)]
  exact h.pre i hi
 ·have := h.size; rw [List.length_append]; omega
theorem RowsAt.other {base st : Ev.St} {r c : Nat} {refs : List Nat} {R : List (List Int)} (h : RowsAt base r refs R st) (hc : c ∉ refs) (hr : c ≠ r) (hb : base.length <= c) (o : O) : RowsAt base r refs R (st.set c o) := by
 constructor
 ·rw [List.getElem?_set_ne hr]; exact h.out
 ·exact h.len
 ·intro k i row h1 h2
  rw [List.getElem?_set_ne (by intro e; subst e; exact hc (List.mem_of_getElem? h1))]
  exact h.rows k i row h1 h2
 ·exact h.nodup
 ·exact h.fresh
 ·intro i hi; rw [List.length_set]; exact h.lt i hi
 ·exact h.ge
 ·exact h.rge
 ·intro i hi
  rw [List.getElem?_set_ne (by omega)]; exact h.pre i hi
 ·rw [List.length_set]; exact h.size
theorem RowsAt.join {base st : Ev.St} {r c : Nat} {refs : List Nat} {R : List (List Int)} {row : List Int} (h : RowsAt base r refs R st) (hc : c ∉ refs) (hr : c ≠ r) (hb : base.length <= c) (hcl : st[c]? = some (.list (row.map V.int))) : RowsAt base r (refs ++ [c]) (R ++ [row]) (st.set r (O.list (refs.map V.ref ++ [V.ref c]))) := by
 have hrl : r < st.length := by
  rcases Nat.lt_or_ge r st.length with h' | h'
  ·exact h'
  ·have := h.out; rw [List.getElem?_eq_none h'] at this; cases this
 have hcl' : c < st.length := by
  rcases Nat.lt_or_ge c st.length with h' | h'
  ·exact h'
  ·rw [List.getElem?_eq_none h'] at hcl; cases hcl
 have hl := h.len
 constructor
 ·rw [List.getElem?_set_self hrl, List.map_append]; rfl
 ·simpa using hl
 ·intro k i row' h1 h2
  rcases Nat.lt_trichotomy k refs.length with hk | hk | hk
  ·rw [List.getElem?_append_left hk] at h1
   rw [List.getElem?_append_left (by omega)] at h2
   have hi := List.mem_of_getElem? h1
   have hir : r ≠ i := fun e => h.fresh (e ▸ hi)
   rw [List.getElem?_set_ne hir]
   exact h.rows k i row' h1 h2
  ·subst hk
   have e1 : i = c := by simpa using h1.symm
   subst e1
   rw [hl] at h2
   have e2 : row' = row := by simpa using h2.symm
   subst e2
   rw [List.getElem?_set_ne (fun e => hr e.symm)]
   exact hcl
  ·rw [List.getElem?_eq_none (by simp; omega)] at h1
   cases h1
 ·rw [List.nodup_append]
  exact ⟨h.nodup, by simp, fun a ha b hb => by simp at hb; subst hb; exact fun e => hc (e ▸ ha)⟩
 ·intro hm
  rcases List.mem_append.mp hm with hm | hm
  ·exact h.fresh hm
  ·simp at hm; exact hr hm.symm
 ·intro i hi
  rw [List.length_set]
  rcases List.mem_append.mp hi with hi | hi
  ·exact h.lt i hi
  ·simp at hi; omega
 ·intro i hi
  rcases List.mem_append.mp hi with hi | hi
  ·exact h.ge i hi
  ·simp at hi; omega
 ·exact h.rge
 ·intro i hi
  have h1 := h.rge
  rw [List.getElem?_set_ne (by omega)]
  exact h.pre i hi
 ·rw [List.length_set]; exact h.size
noncomputable def addA (line : List Int) (t : Int) : List Int := if t ∈ line then line else line ++ [t]
noncomputable def q35 (hid : List (List Nat)) (line : List Int) (n : Nat) : List Int := ((line.drop n).take 1).foldl (fun line p => ((hid.getD p.toNat []).map fun (v : Nat) => (v : Int)).foldl addA line) line
noncomputable def q0n (hid : List (List Nat)) (x : Nat) : List Int := (List.range 4).foldl (q35 hid) [(x : Int)]
noncomputable def hitB (line : List Int) (lit : Nat) : Bool := decide ((line.filter fun y => (lit : Int) / 2 ^ y.toNat % 2 != 0) ≠ [])
noncomputable def q7f (hid : List (List Nat)) : List Nat := (List.range 16).map fun lit => (((List.range 4).filter fun x => hitB (q0n hid x) lit).map (2 ^ ·)).sum
structure LineAt (base : Ev.St) (r c : Nat) (refs : List Nat) (R : List (List Int)) (line : List Int) (st : Ev.St) : Prop where
 rows : RowsAt base r refs R st
 c1 : c ∉ refs
 c2 : c ≠ r
 c3 : base.length <= c
 at_ : st[c]? = some (.list (line.map V.int))
theorem LineAt.add {base st : Ev.St} {r c : Nat} {refs : List Nat} {R : List (List Int)} {line : List Int} {t : Int} (h : LineAt base r c refs R line st) : LineAt base r c refs R (line ++ [t]) (st.set c (O.list (line.map V.int ++ [V.int t]))) := by
 have hcl' : c < st.length := by
  rcases Nat.lt_or_ge c st.length with h' | h'
  ·exact h'
  ·have := h.at_; rw [List.getElem?_eq_none h'] at this; cases this
 exact ⟨h.rows.other h.c1 h.c2 h.c3 _, h.c1, h.c2, h.c3, by rw [List.getElem?_set_self hcl', List.map_append]; rfl⟩
noncomputable def bnd (line : List Int) : Prop := ∀ v ∈ line, 0 <= v /\ v < 4
theorem q9z {line : List Int} (hn : line.Nodup) (hb : bnd line) : line.length <= 4 := by
 have : line ⊆ [0, 1, 2, 3] := by
  intro v hv
  have := hb v hv
  simp
  omega
 exact hn.length_le_of_subset this
theorem qlu {line : List Int} {t : Int} (hn : line.Nodup) (hb : bnd line) (ht : 0 <= t /\ t < 4) : (addA line t).Nodup /\ bnd (addA line t) := by
 unfold addA
 split
 ·exact ⟨hn, hb⟩
 ·rename_i h
  refine ⟨?_, ?_⟩
  ·rw [List.nodup_append]
   exact ⟨hn, by simp, fun a ha b hb => by simp at hb; subst hb; exact fun e => h (e ▸ ha)⟩
  ·intro v hv
   rcases List.mem_append.mp hv with hv | hv
   ·exact hb v hv
   ·simp at hv; subst hv; exact ht
noncomputable def VF (hid : List (List Nat)) (r c : Nat) (vars : List (Str × V)) : Prop := vars.lookup ("hidden" : Str) = some (.lst (hid.map fun l => .lst (l.map fun (v : Nat) => V.int v))) /\ vars.lookup ("reach" : Str) = some (.ref r) /\ vars.lookup ("line" : Str) = some (.ref c)
noncomputable def TgtI (hid : List (List Nat)) (base : Ev.St) (r c : Nat) (refs : List Nat) (R : List (List Int)) (fin : List Int) (sc : List (Str × NameKind)) (xs : List V) (ρ : Fr) (s : Ev.St) : Prop :=
 ∃ (vars : List (Str × V)) (rest line : List Int), xs = rest.map V.int /\ ρ = ⟨sc, vars, fun _ => none⟩ /\ VF hid r c vars /\ LineAt base r c refs R line s /\ line.Nodup /\ bnd line /\ bnd rest /\ rest.foldl addA line = fin
noncomputable def plF (hid : List (List Nat)) (line : List Int) (p : Int) : List Int := ((hid.getD p.toNat []).map fun (v : Nat) => (v : Int)).foldl addA line
noncomputable def PlcI (hid : List (List Nat)) (base : Ev.St) (r c : Nat) (refs : List Nat) (R : List (List Int)) (fin : List Int) (sc : List (Str × NameKind)) (xs : List V) (ρ : Fr) (s : Ev.St) : Prop :=
 ∃ (vars : List (Str × V)) (rest line : List Int), xs = rest.map V.int /\ ρ = ⟨sc, vars, fun _ => none⟩ /\ VF hid r c vars /\ LineAt base r c refs R line s /\ line.Nodup /\ bnd line /\ bnd rest /\ rest.foldl (plF hid) line = fin
noncomputable def NumI (hid : List (List Nat)) (base : Ev.St) (r c : Nat) (refs : List Nat) (R : List (List Int)) (fin : List Int) (sc : List (Str × NameKind)) (xs : List V) (ρ : Fr) (s : Ev.St) : Prop :=
 ∃ (vars : List (Str × V)) (rest : List Nat) (line : List Int), xs = rest.map (fun (i : Nat) => V.int i) /\ ρ = ⟨sc, vars, fun _ => none⟩ /\ VF hid r c vars /\ LineAt base r c refs R line s /\ line.Nodup /\ bnd line /\ rest.foldl (q35 hid) line = fin
noncomputable def StaI (hid : List (List Nat)) (base : Ev.St) (r : Nat) (fin : List (List Int)) (sc : List (Str × NameKind)) (xs : List V) (ρ : Fr) (s : Ev.St) : Prop :=
 ∃ (vars : List (Str × V)) (rest : List Nat) (refs : List Nat) (R : List (List Int)), xs = rest.map (fun (i : Nat) => V.int i) /\ ρ = ⟨sc, vars, fun _ => none⟩ /\ vars.lookup ("hidden" : Str) = some (.lst (hid.map fun l => .lst (l.map fun (v : Nat) => V.int v))) /\ vars.lookup ("reach" : Str) = some (.ref r) /\
  RowsAt base r refs R s /\ R ++ rest.map (q0n hid) = fin /\ (∀ i ∈ rest, i < 4) /\ R.length + rest.length = 4 /\ (∀ l ∈ R, l.Nodup /\ bnd l)
theorem qjd {hid : List (List Nat)} (hb : ∀ l ∈ hid, ∀ v ∈ l, v < 4) : (∀ (ts line : List Int), bnd ts -> line.Nodup -> bnd line -> (ts.foldl addA line).Nodup /\ bnd (ts.foldl addA line))
 | [], line, _, h1, h2 => ⟨h1, h2⟩
 | t :: ts, line, ht, h1, h2 => by
  obtain ⟨h3, h4⟩ := qlu h1 h2 (ht t (by simp))
  exact qjd hb ts (addA line t) (fun v hv => ht v (by simp [hv])) h3 h4
theorem qkm {hid : List (List Nat)} (hb : ∀ l ∈ hid, ∀ v ∈ l, v < 4) (p : Nat) : bnd ((hid.getD p []).map fun (v : Nat) => (v : Int)) := by
 intro v hv
 obtain ⟨u, hu, rfl⟩ := List.mem_map.mp hv
 have : u < 4 := by
  rw [List.getD_eq_getElem?_getD] at hu
  cases h : hid[p]? with
  | none => rw [h] at hu; cases hu
  | some l => rw [h] at hu; exact hb l (List.mem_of_getElem? h) u hu
 omega
theorem r1d {hid : List (List Nat)} (hb : ∀ l ∈ hid, ∀ v ∈ l, v < 4) : (∀ (ts line : List Int), line.Nodup -> bnd line -> (ts.foldl (plF hid) line).Nodup /\ bnd (ts.foldl (plF hid) line))
 | [], line, h1, h2 => ⟨h1, h2⟩
 | t :: ts, line, h1, h2 => by
  obtain ⟨h3, h4⟩ := qjd hb _ line (qkm hb t.toNat) h1 h2
  exact r1d hb ts _ h3 h4
theorem qmi {hid : List (List Nat)} (hb : ∀ l ∈ hid, ∀ v ∈ l, v < 4) : (∀ (ts : List Nat) (line : List Int), line.Nodup -> bnd line -> (ts.foldl (q35 hid) line).Nodup /\ bnd (ts.foldl (q35 hid) line))
 | [], line, h1, h2 => ⟨h1, h2⟩
 | t :: ts, line, h1, h2 => by
  obtain ⟨h3, h4⟩ := r1d hb ((line.drop t).take 1) line h1 h2
  exact qmi hb ts _ h3 h4
theorem qsn {hid : List (List Nat)} {p : Int} (hl : hid.length = 4) (h : 0 <= p /\ p < 4) : (hid.map fun l => V.lst (l.map fun (v : Nat) => V.int v))[p.toNat]? = some (.lst ((hid.getD p.toNat []).map fun (v : Nat) => V.int v)) := by
 rw [List.getElem?_map, List.getD_eq_getElem?_getD, List.getElem?_eq_getElem (by omega)]
 rfl
theorem qa0 : ∀ l : List Nat, (l.map fun x => (1 : Int) * 2 ^ x).sum = (((l.map (2 ^ ·)).sum : Nat) : Int)
 | [] => rfl
 | x :: l => by
  rw [List.map_cons, List.sum_cons, List.map_cons, List.sum_cons, qa0 l, Int.natCast_add, Int.natCast_pow, Int.one_mul]
  rfl
theorem qnq {n : Nat} {hid : List (List Nat)} {st : Ev.St} {Q : V -> Ev.St -> Prop} (hl : hid.length = 4) (hb : ∀ l ∈ hid, ∀ v ∈ l, v < 4)
  (q : ∀ s, (∀ i, i < st.length -> s[i]? = st[i]?) -> st.length <= s.length -> Q (.lst ((q7f hid).map fun (v : Nat) => V.int v)) s) :
  W ((ctxN P03 (n + 2)).call (.fn "_law_closed") [.lst (hid.map fun l => .lst (l.map fun (v : Nat) => V.int v))] []) st Q := by
 refine c_fn (d := fnDs (stm 74)) (by kernel_rfl!) (by kernel_rfl!) (q20 [("hidden", .lst (hid.map fun l => .lst (l.map fun (v : Nat) => V.int v)))] (by kernel_rfl!) (by kernel_rfl!) ?_)
 conv => arg 1; arg 2; whnf
 walk_at "w"
 refine q6i (StaI hid st st.length ((List.range 4).map (q0n hid)) (fnDs (stm 74)).sc.names) ?_ ?_ _ ?_
 ·rintro ρ s ⟨vars, rest, refs, R, hx, rfl, hh, hr, hR, hfin, hlt, hlen, hnd⟩
  have : rest = [] := by simpa using hx.symm
  subst this
  rw [List.map_nil, List.append_nil] at hfin
  have hrl : refs.length = 4 := by rw [hR.len, hfin]; rfl
  show W (q09 _ _ _) s _
  walk_at "w"
  refine q2a (fun (i : Nat) => V.int i) (fun lit => .int (((((List.range 4).filter fun x => hitB (q0n hid x) lit).map (2 ^ ·)).sum : Nat) : Int)) rfl (List.range 16) (fun lit hlit => ?_) ?_
  ·walk_at "w"
   refine q0z (fun (i : Nat) => V.int i) (fun x => hitB (q0n hid x) lit) (fun x => .int (1 * 2 ^ x)) rfl (List.range 4) (fun x hx => ?_) ?_
   ·have hx4 : x < 4 := by simpa using hx
    obtain ⟨i, hi⟩ : ∃ i, refs[x]? = some i := ⟨_, List.getElem?_eq_getElem (by omega)⟩
    have hrow : s[i]? = some (.list ((q0n hid x).map V.int)) := hR.rows x i _ hi (by rw [hfin, List.getElem?_map, List.getElem?_range hx4]; rfl)
    have hbx : ∀ v ∈ q0n hid x, 0 <= v /\ v < 4 := (hnd (q0n hid x) (by rw [hfin]; exact List.mem_map.mpr ⟨x, by simpa using hx4, rfl⟩)).2
    have hnx : (q0n hid x).length <= 4 := q9z (hnd (q0n hid x) (by rw [hfin]; exact List.mem_map.mpr ⟨x, by simpa using hx4, rfl⟩)).1 hbx
    walk_at "w"
    refine qlz hR.out (by unfold cap; simp; omega) (by omega) (by simp; omega) (by rw [Int.toNat_natCast, List.getElem?_map, hi]; rfl) ?_
    refine qdc hrow ?_
    refine q0z V.int (fun y => (lit : Int) / 2 ^ y.toNat % 2 != 0) V.int (qlh hrow) (q0n hid x) (fun y hy => ?_) ?_
    ·have hy4 := hbx y hy
     walk_at "w"
     refine q9k hy4.1 ?_
     walk_at "w"
     rw [bitAnd_m1]
     by_cases hb : ((lit : Int) / 2 ^ y.toNat % 2 != 0) = true
     ·rw [hb]
      walk_at "w"
      exact ⟨rfl, rfl⟩
     ·have hb' : ((lit : Int) / 2 ^ y.toNat % 2 != 0) = false := by simpa using hb
      rw [hb']
      walk_at "w"
      exact ⟨rfl, rfl⟩
    ·have hfl : ((q0n hid x).filter fun y => (lit : Int) / 2 ^ y.toNat % 2 != 0).length <= 4 := Nat.le_trans (List.length_filter_le _ _) hnx
     refine q0q (by unfold cap; rw [List.length_map]; omega) (by kernel_rfl!) ?_
     walk_at "w"
     refine qvq ?_
     show bif hitB (q0n hid x) lit then _ else _
     cases hh : hitB (q0n hid x) lit
     ·walk_at "w"
      exact ⟨rfl, rfl⟩
     ·walk_at "w"
      refine qgh ⟨by omega, by omega, by decide⟩ ?_
      exact ⟨rfl, rfl⟩
   ·have hfl : ((List.range 4).filter fun x => hitB (q0n hid x) lit).length <= 4 := Nat.le_trans (List.length_filter_le _ _) (by simp)
    refine q0q (by unfold cap; rw [List.length_map]; omega) (by kernel_rfl!) ?_
    walk_at "w"
    have e : (((List.range 4).filter fun x => hitB (q0n hid x) lit).map fun x => V.int (1 * 2 ^ x)) = (((List.range 4).filter fun x => hitB (q0n hid x) lit).map fun x => (1 : Int) * 2 ^ x).map V.int := by rw [List.map_map]; rfl
    rw [e]
    refine qyl (by unfold cap; rw [List.length_map]; omega) ?_ ?_
    ·intro i hi
     obtain ⟨x, hx, rfl⟩ := List.mem_map.mp hi
     have hx4 : x < 4 := by simpa using (List.mem_filter.mp hx).1
     rcases (by omega : x = 0 \/ x = 1 \/ x = 2 \/ x = 3) with h | h | h | h <;> subst h <;> decide
    ·rw [qa0]
     exact ⟨rfl, rfl⟩
  ·refine q0q (by unfold cap; simp) (by kernel_rfl!) ?_
   have hq := q s (fun i hi => hR.pre i hi) hR.size
   have e : (List.range 16).map (fun lit => V.int (((((List.range 4).filter fun x => hitB (q0n hid x) lit).map (2 ^ ·)).sum : Nat) : Int)) = (q7f hid).map fun (v : Nat) => V.int v := by unfold q7f; rw [List.map_map]; rfl
   rw [e]
   exact hq
 ·rintro x xs ρ s ⟨vars, rest, refs, R, hx, rfl, hh, hr, hR, hfin, hlt, hlen, hnd⟩
  cases rest with
  | nil => cases hx
  | cons a rest =>
   rw [List.map_cons] at hx
   injection hx with hx1 hx2
   subst hx1
   have ha := hlt a (by simp)
   walk_at "w"
   have hsl : s.length ∉ refs := fun e => Nat.lt_irrefl _ (hR.lt _ e)
   have hrl : s.length ≠ st.length := by
    intro e
    have := hR.out
    rw [<- e, List.getElem?_eq_none (Nat.le_refl _)] at this; cases this
   have hL : LineAt st st.length s.length refs R [(a : Int)] (s ++ [O.list [V.int a]]) :=
    ⟨hR.alloc _, hsl, hrl, hR.size, by rw [List.getElem?_append_right (Nat.le_refl _)]; simp⟩
   refine q6i (NumI hid st st.length s.length refs R (q0n hid a) (fnDs (stm 74)).sc.names) ?_ ?_ _ ?_
   ·rintro ρ s' ⟨vars', rest', line, hx, rfl, ⟨v1, v2, v3⟩, hL, hn, hb, hf⟩
    have : rest' = [] := by simpa using hx.symm
    subst this
    show W (q09 _ _ _) s' _
    have hline : line = q0n hid a := hf
    have hout := hL.rows.out
    walk_at "w"
    refine q8d (xs := refs.map V.ref) hout (by have := hR.len; unfold cap; simp; omega) ?_
    walk_at "w"
    refine ⟨rfl, rfl, _, rest, refs ++ [s.length], R ++ [line], hx2, rfl, v1, v2, hL.rows.join hL.c1 hL.c2 hL.c3 hL.at_, ?_, fun i hi => hlt i (by simp [hi]), ?_, ?_⟩
    ·rw [<- hfin, hline]; simp
    ·simp at hlen ⊢; omega
    ·intro l hl
     rcases List.mem_append.mp hl with hl | hl
     ·exact hnd l hl
     ·simp at hl; subst hl; exact ⟨hn, hb⟩
   ·rintro x xs ρ s' ⟨vars', rest', line, hx, rfl, ⟨v1, v2, v3⟩, hL, hn, hbl, hf⟩
    cases rest' with
    | nil => cases hx
    | cons j rest' =>
     rw [List.map_cons] at hx
     injection hx with hx1 hx2
     subst hx1
     walk_at "w"
     have hll := q9z hn hbl
     refine qiw hL.at_ (qse (by unfold cap; simp; omega)) ?_
     rw [<- List.map_drop, <- List.map_take]
     refine qbw (q0q (by unfold cap; simp; omega) (by kernel_rfl!) ?_)
     walk_at "w"
     refine q6i (PlcI hid st st.length s.length refs R (q35 hid line j) (fnDs (stm 74)).sc.names) ?_ ?_ _ ?_
     ·rintro ρ s' ⟨vars', rest'', line', hx, rfl, v, hL, hn, hb, -, hf'⟩
      have : rest'' = [] := by simpa using hx.symm
      subst this
      show W (q09 _ _ _) s' _
      walk_at "w"
      refine ⟨rfl, rfl, _, rest', line', hx2, rfl, v, hL, hn, hb, ?_⟩
      have hf'' : line' = q35 hid line j := hf'
      rw [hf'']
      exact hf
     ·rintro x xs ρ s' ⟨vars', rest'', line', hx, rfl, ⟨v1, v2, v3⟩, hL, hn, hbl, hbr, hf'⟩
      cases rest'' with
      | nil => cases hx
      | cons p rest'' =>
       rw [List.map_cons] at hx
       injection hx with hx1 hx3
       subst hx1
       have hp := hbr p (by simp)
       walk_at "w"
       refine q2i (by unfold cap; simp; omega) hp.1 (by simp; omega) (qsn hl hp) ?_
       walk_at "w"
       refine q6i (TgtI hid st st.length s.length refs R (plF hid line' p) (fnDs (stm 74)).sc.names) ?_ ?_ _ ?_
       ·rintro ρ s' ⟨vars', rest3, line3, hx, rfl, v, hL, hn, hb, -, hf3⟩
        have : rest3 = [] := by simpa using hx.symm
        subst this
        show W (q09 _ _ _) s' _
        walk_at "w"
        refine ⟨rfl, rfl, _, rest'', line3, hx3, rfl, v, hL, hn, hb, fun v hv => hbr v (by simp [hv]), ?_⟩
        have hf4 : line3 = plF hid line' p := hf3
        rw [hf4]
        exact hf'
       ·rintro x xs ρ s' ⟨vars', rest3, line3, hx, rfl, ⟨v1, v2, v3⟩, hL, hn, hbl, hbr, hf3⟩
        cases rest3 with
        | nil => cases hx
        | cons t rest3 =>
         rw [List.map_cons] at hx
         injection hx with hx1 hx4
         subst hx1
         have ht := hbr t (by simp)
         have hll := q9z hn hbl
         have hat := hL.at_
         walk_at "w"
         refine qrf hat ?_
         by_cases htl : t ∈ line3
         ·rw [decide_eq_true htl]
          walk_at "w"
          refine ⟨rfl, rfl, _, rest3, line3, hx4, rfl, ⟨by walk_at "look", by walk_at "look", by walk_at "look"⟩, hL, hn, hbl, fun v hv => hbr v (by simp [hv]), ?_⟩
          rw [<- hf3, List.foldl_cons]
          unfold addA
          rw [if_pos htl]
         ·rw [decide_eq_false htl]
          walk_at "w"
          refine q8d hat (by unfold cap; simp; omega) ?_
          walk_at "w"
          obtain ⟨n1, n2⟩ := qlu hn hbl ht
          have e : addA line3 t = line3 ++ [t] := by unfold addA; rw [if_neg htl]
          rw [e] at n1 n2
          refine ⟨rfl, rfl, _, rest3, line3 ++ [t], hx4, rfl, ⟨by walk_at "look", by walk_at "look", by walk_at "look"⟩, hL.add, n1, n2, fun v hv => hbr v (by simp [hv]), ?_⟩
          rw [<- hf3, List.foldl_cons, e]
       ·exact ⟨_, _, line', by rw [List.map_map]; rfl, rfl, ⟨by walk_at "look", by walk_at "look", by walk_at "look"⟩, hL, hn, hbl, qkm hb p.toNat, rfl⟩
     ·exact ⟨_, _, line, rfl, rfl, ⟨by walk_at "look", by walk_at "look", by walk_at "look"⟩, hL, hn, hbl, fun v hv => hbl v (List.mem_of_mem_drop (List.mem_of_mem_take hv)), rfl⟩
   ·exact ⟨_, List.range 4, [(a : Int)], rfl, rfl, ⟨by walk_at "look", by walk_at "look", by walk_at "look"⟩, hL, by simp, by intro v hv; simp at hv; subst hv; omega, rfl⟩
 ·refine ⟨_, List.range 4, [], [], rfl, rfl, by walk_at "look", by walk_at "look", ?_, rfl, by decide, rfl, by simp⟩
  constructor
  ·rw [List.getElem?_append_right (Nat.le_refl _)]; simp
  ·rfl
  ·intro k i row h; simp at h
  ·simp
  ·simp
  ·simp
  ·simp
  ·exact Nat.le_refl _
  ·intro i hi; rw [List.getElem?_append_left hi]
  ·simp
abbrev Road := Nat × Nat × List Nat
noncomputable def q1d (r : Road) : V := .tup [.int r.1, .int r.2.1, .str r.2.2]
noncomputable def q8x (r : Road) : PyData := .tuple [.int r.1, .int r.2.1, .str ⟨r.2.2.toArray⟩]
theorem qcz {st : Ev.St} (m : Nat) : ∀ rs : List Road, ((rs.map q1d).mapM (dat st (m + 2))) = some (rs.map q8x)
 | [] => rfl
 | r :: rs => by
  rw [List.map_cons, List.mapM_cons, qcz m rs]
  rfl
theorem qh0 (a b : Road) : PyData.eqv (q8x a) (q8x b) = decide (a = b) := by
 obtain ⟨a1, a2, a3⟩ := a
 obtain ⟨b1, b2, b3⟩ := b
 unfold q8x
 rw [PyData.eqv, PyData.eqvAll, PyData.eqvAll, PyData.eqvAll, PyData.eqvAll, I_eq, I_eq, S_eq, Bool.and_true]
 rw [Bool.eq_iff_iff]
 simp only [Bool.and_eq_true, decide_eq_true_eq, Prod.mk.injEq, Int.ofNat_inj]
theorem qon {gd : Str -> Option (List (V × V))} {st : Ev.St} {i : Nat} {a : Road} {rs : List Road} {Q : Bool -> Prop} (h : st[i]? = some (.list (rs.map q1d))) (q : Q (decide (a ∈ rs))) : ∃ c, cmpV gd st .In (q1d a) (.ref i) = some c /\ Q c := by
 refine ⟨_, ?_, q⟩
 show inV st (q1d a) (.ref i) = _
 have e : dat st 8 (.ref i) = some (.list (rs.map q8x)) := by
  show (match st[i]? with | some (O.list vs) => (vs.mapM (dat st 7)).map PyData.list | _ => none) = _
  rw [h]
  show ((rs.map q1d).mapM (dat st 7)).map PyData.list = _
  rw [qcz]; rfl
 have e2 : inV st (q1d a) (.ref i) = some ((rs.map q8x).any fun y => PyData.eqv y (q8x a)) := by
  unfold inV
  show (some (q8x a)).bind (fun x => (dat st 8 (.ref i)).bind fun y => match y with
   | .list ys => some (ys.any fun y => PyData.eqv y x)
   | .tuple ys => some (ys.any fun y => PyData.eqv y x)
   | _ => none) = _
  rw [e]; rfl
 rw [e2, List.any_map]
 congr 1
 rw [Bool.eq_iff_iff, List.any_eq_true, decide_eq_true_eq]
 constructor
 ·rintro ⟨x, hx, e⟩
  have e' : decide (x = a) = true := by rw [<- qh0]; exact e
  exact of_decide_eq_true e' ▸ hx
 ·intro hx
  exact ⟨a, hx, by show PyData.eqv (q8x a) (q8x a) = true; rw [qh0]; exact decide_eq_true rfl⟩
noncomputable def bit (m y : Nat) : Bool := m / 2 ^ y % 2 == 1
noncomputable def q1e (rs : List Road) : List Nat := (List.range 4).map fun x => (((List.range 4).filter fun y => y == x || decide (((x, y, []) : Road) ∈ rs)).map (2 ^ ·)).sum
noncomputable def warS (R : List Nat) (y : Nat) : List Nat := R.map fun row => bif bit row y then row ||| R.getD y 0 else row
noncomputable def war (R : List Nat) : List Nat := (List.range 4).foldl warS R
noncomputable def prs (R : List Nat) : List (Nat × Nat) := (List.range 4).flatMap fun x => ((List.range 4).filter fun y => bit (R.getD x 0) y).map fun y => (x, y)
noncomputable def aprt (R : List Nat) : List Nat := (prs R).flatMap fun p => ((List.range 4).filter fun z => bit (R.getD p.1 0) z && (R.getD p.2 0 &&& R.getD z 0) == 0).map fun _ => p.1
noncomputable def ends (R : List Nat) : List Nat := ((prs R).filter fun p => R.getD p.2 0 == 2 ^ p.2).map fun p => p.1
noncomputable def back (R : List Nat) : List Nat := ((prs R).filter fun p => !bit (R.getD p.2 0) p.1).map fun p => p.1
noncomputable def qct (R : List Nat) : List Nat := (List.range 4).filter fun x => !decide (x ∈ ends R)
noncomputable def q3j (R : List Nat) : List Nat :=
 if (prs R).length = 4 then [0, 0, 0, 0, 0, 0, 0] else if back R = [] then [0, 1, 2, 2, 1, 1, 2] else if qct R = [] then (if aprt R = [] then [0, 1, 2, 3, 3, 3, 3] else [0, 1, 2, 3, 4, 3, 4])
 else if aprt R = [] then [0, 1, 2, 3, 4, 4, 3] else [0, 1, 2, 3, 4, 5, 6]
noncomputable def msk (R : List Nat) : Prop := R.length = 4 /\ ∀ m ∈ R, m < 16
theorem or16 : ∀ a : Nat, a < 16 -> ∀ b : Nat, b < 16 -> Builtin.bitOr (a : Int) (b : Int) = ((a ||| b : Nat) : Int) /\ (a ||| b) < 16 := by decide +kernel
theorem r58 : ∀ a : Nat, a < 16 -> ∀ b : Nat, b < 16 -> Builtin.bitAnd (a : Int) (b : Int) = ((a &&& b : Nat) : Int) := by decide +kernel
theorem qp2 : ∀ a : Nat, a < 16 -> ∀ y : Nat, y < 4 -> (Builtin.bitAnd ((a : Int) / 2 ^ y) 1 != 0) = bit a y := by decide +kernel
theorem q1n {R : List Nat} (h : msk R) {x : Nat} (hx : x < 4) : R.getD x 0 < 16 := by
 rw [List.getD_eq_getElem?_getD, List.getElem?_eq_getElem (by rw [h.1]; exact hx)]
 exact h.2 _ (List.getElem_mem _)
theorem q17 {R : List Nat} (h : msk R) {y : Nat} (hy : y < 4) : msk (warS R y) := by
 refine ⟨by unfold warS; rw [List.length_map]; exact h.1, fun m hm => ?_⟩
 unfold warS at hm
 obtain ⟨a, ha, rfl⟩ := List.mem_map.mp hm
 cases bit a y
 ·exact h.2 a ha
 ·exact (or16 a (h.2 a ha) _ (q1n h hy)).2
theorem q15 (rs : List Road) : msk (q1e rs) := by
 refine ⟨by simp [q1e], fun m hm => ?_⟩
 unfold q1e at hm
 obtain ⟨x, hx, rfl⟩ := List.mem_map.mp hm
 generalize (fun y => y == x || decide (((x, y, []) : Road) ∈ rs)) = f
 show (((List.filter f [0, 1, 2, 3]).map (2 ^ ·)).sum) < 16
 simp only [List.filter]
 cases f 0 <;> cases f 1 <;> cases f 2 <;> cases f 3 <;> decide
theorem q7t {R : List Nat} {st : Ev.St} {x : Nat} {Q : V -> Prop} (h : msk R) (hx : x < 4) (q : Q (.int ((R.getD x 0 : Nat) : Int))) : ∃ v, q1o st (.lst (R.map fun (m : Nat) => V.int m)) (.int x) = some v /\ Q v := by
 refine q2i (v := .int ((R.getD x 0 : Nat) : Int)) (by unfold cap; rw [List.length_map, h.1]; decide) (by omega) (by rw [List.length_map, h.1]; omega) ?_ q
 rw [Int.toNat_natCast, List.getElem?_map, List.getD_eq_getElem?_getD, List.getElem?_eq_getElem (by rw [h.1]; exact hx)]
 rfl
theorem qgw {gd : Str -> Option (List (V × V))} {st : Ev.St} {l : List Int} {Q : Bool -> Prop} (q : Q (decide (l = []))) : ∃ c, cmpV gd st .Eq (.lst (l.map V.int)) (.lst []) = some c /\ Q c := by
 refine ⟨_, ?_, q⟩
 show eqV st (.lst (l.map V.int)) (.lst []) = _
 have e : dat st 8 (.lst (l.map V.int)) = some (.list (l.map PyData.int)) := by
  show ((l.map V.int).mapM (dat st 7)).map PyData.list = _
  rw [q3u]; rfl
 have e2 : eqV st (.lst (l.map V.int)) (.lst []) = some (PyData.eqv (.list (l.map PyData.int)) (.list [])) := by
  show (dat st 8 (.lst (l.map V.int))).bind (fun x => (dat st 8 (.lst [])).bind fun y => some (PyData.eqv x y)) = _
  rw [e]; rfl
 rw [e2]
 cases l <;> rfl
theorem qtr {gd : Str -> Option (List (V × V))} {st : Ev.St} {t : Int} {l : List Int} {Q : Bool -> Prop} (q : Q (!decide (t ∈ l))) : ∃ c, cmpV gd st .NotIn (.int t) (.lst (l.map V.int)) = some c /\ Q c := by
 refine ⟨_, ?_, q⟩
 show (inV st (.int t) (.lst (l.map V.int))).map (!·) = _
 have e : dat st 8 (.lst (l.map V.int)) = some (.list (l.map PyData.int)) := by
  show ((l.map V.int).mapM (dat st 7)).map PyData.list = _
  rw [q3u]; rfl
 have e2 : inV st (.int t) (.lst (l.map V.int)) = some ((l.map PyData.int).any fun y => PyData.eqv y (.int t)) := by
  unfold inV
  show (some (PyData.int t)).bind (fun x => (dat st 8 (.lst (l.map V.int))).bind fun y => match y with
   | .list ys => some (ys.any fun y => PyData.eqv y x)
   | .tuple ys => some (ys.any fun y => PyData.eqv y x)
   | _ => none) = _
  rw [e]; rfl
 rw [e2, List.any_map]
 show some (!(l.any fun i => PyData.eqv (.int i) (.int t))) = _
 congr 2
 rw [Bool.eq_iff_iff]
 simp only [List.any_eq_true, decide_eq_true_eq, I_eq]
 exact ⟨fun ⟨x, hx, e⟩ => e ▸ hx, fun hx => ⟨t, hx, rfl⟩⟩
noncomputable def RchI (fin : List Nat) (roads : Nat) (st : Ev.St) (sc : List (Str × NameKind)) (xs : List V) (ρ : Fr) (s : Ev.St) : Prop :=
 s = st /\ ∃ (vars : List (Str × V)) (rest R : List Nat), xs = rest.map (fun (i : Nat) => V.int i) /\ ρ = ⟨sc, vars, fun _ => none⟩ /\ vars.lookup ("reach" : Str) = some (.lst (R.map fun (v : Nat) => V.int v)) /\ msk R /\ (∀ y ∈ rest, y < 4) /\ rest.foldl warS R = fin
theorem qmb : ∀ (ys R : List Nat), msk R -> (∀ y ∈ ys, y < 4) -> msk (ys.foldl warS R)
 | [], R, h, _ => h
 | y :: ys, R, h, hy => qmb ys _ (q17 h (hy y (by simp))) fun z hz => hy z (by simp [hz])
theorem qjo {R : List Nat} : ∀ p ∈ prs R, p.1 < 4 /\ p.2 < 4 := by
 intro p hp
 unfold prs at hp
 obtain ⟨x, hx, hp⟩ := List.mem_flatMap.mp hp
 obtain ⟨y, hy, rfl⟩ := List.mem_map.mp hp
 exact ⟨by simpa using hx, by simpa using (List.mem_filter.mp hy).1⟩
noncomputable def qfn (p : Nat × Nat) : V := .tup [.int p.1, .int p.2]
theorem qkt (R : List Nat) : (prs R).length <= 16 := by
 unfold prs
 have h : ∀ f : Nat -> Bool, (List.filter f (List.range 4)).length <= 4 := fun f => Nat.le_trans (List.length_filter_le _ _) (by simp)
 show (List.flatMap _ [0, 1, 2, 3]).length <= 16
 simp only [List.flatMap_cons, List.flatMap_nil, List.length_append, List.length_map, List.length_nil]
 have h0 := h fun y => bit (R.getD 0 0) y
 have h1 := h fun y => bit (R.getD 1 0) y
 have h2 := h fun y => bit (R.getD 2 0) y
 have h3 := h fun y => bit (R.getD 3 0) y
 omega
theorem qo8 (R : List Nat) : (aprt R).length <= 64 := by
 unfold aprt
 have h : ∀ (l : List (Nat × Nat)) (f : Nat × Nat -> Nat -> Bool), (l.flatMap fun p => ((List.range 4).filter (f p)).map fun _ => p.1).length <= 4 * l.length := by
  intro l f
  induction l with
  | nil => simp
  | cons p l ih =>
   rw [List.flatMap_cons, List.length_append, List.length_map, List.length_cons]
   have : (List.filter (f p) (List.range 4)).length <= 4 := Nat.le_trans (List.length_filter_le _ _) (by simp)
   omega
 have := h (prs R) fun p z => bit (R.getD p.1 0) z && (R.getD p.2 0 &&& R.getD z 0) == 0
 have := qkt R
 omega
noncomputable def q8f (R : List Nat) : V := .tup ((q3j R).map fun (v : Nat) => V.int v)
theorem qod {n i : Nat} {rs : List Road} {st : Ev.St} {Q : V -> Ev.St -> Prop} (hi : st[i]? = some (.list (rs.map q1d))) (q : Q (q8f (war (q1e rs))) st) :
  W ((ctxN P03 (n + 2)).call (.fn "_law_firsts") [.ref i] []) st Q := by
 refine c_fn (d := fnDs (stm 76)) (by kernel_rfl!) (by kernel_rfl!) (q20 [("roads", .ref i)] (by kernel_rfl!) (by kernel_rfl!) ?_)
 conv => arg 1; arg 2; whnf
 walk_at "w"
 have hm0 := q15 rs
 refine q2a (fun (i : Nat) => V.int i) (fun x => .int (((((List.range 4).filter fun y => y == x || decide (((x, y, []) : Road) ∈ rs)).map (2 ^ ·)).sum : Nat) : Int)) rfl (List.range 4) (fun x hx => ?_) ?_
 ·walk_at "w"
  refine q0z (fun (i : Nat) => V.int i) (fun y => y == x || decide (((x, y, []) : Road) ∈ rs)) (fun y => .int (1 * 2 ^ y)) rfl (List.range 4) (fun y hy => ?_) ?_
  ·have hy4 : y < 4 := by simpa using hy
   walk_at "w"
   by_cases hxy : y = x
   ·have e1 : decide ((y : Int) = (x : Int)) = true := decide_eq_true (by omega)
    have e2 : (y == x) = true := by simpa using hxy
    rw [e2]
    walk_at "w"
    refine qgh ⟨by omega, by omega, by decide⟩ ?_
    exact ⟨rfl, rfl⟩
   ·have e1 : decide ((y : Int) = (x : Int)) = false := decide_eq_false (by omega)
    have e2 : (y == x) = false := by simpa using hxy
    rw [e2]
    walk_at "w"
    refine qon (a := (x, y, [])) hi ?_
    by_cases hr : ((x, y, []) : Road) ∈ rs
    ·rw [decide_eq_true hr]
     walk_at "w"
     refine qgh ⟨by omega, by omega, by decide⟩ ?_
     exact ⟨rfl, rfl⟩
    ·rw [decide_eq_false hr]
     walk_at "w"
     exact ⟨rfl, rfl⟩
  ·generalize hL : ((List.range 4).filter fun y => y == x || decide (((x, y, []) : Road) ∈ rs)) = L
   have hL4 : L.length <= 4 := by rw [<- hL]; exact Nat.le_trans (List.length_filter_le _ _) (by simp)
   have hLb : ∀ y ∈ L, y < 4 := fun y hy => by rw [<- hL] at hy; simpa using (List.mem_filter.mp hy).1
   refine q0q (by unfold cap; rw [List.length_map]; omega) (by kernel_rfl!) ?_
   walk_at "w"
   have e : (L.map fun y => V.int (1 * 2 ^ y)) = (L.map fun y => (1 : Int) * 2 ^ y).map V.int := by rw [List.map_map]; rfl
   rw [e]
   refine qyl (by unfold cap; rw [List.length_map]; omega) ?_ ?_
   ·intro i hi
    obtain ⟨y, hy, rfl⟩ := List.mem_map.mp hi
    have hx4 := hLb y hy
    rcases (by omega : y = 0 \/ y = 1 \/ y = 2 \/ y = 3) with h | h | h | h <;> subst h <;> decide
   ·rw [qa0]
    exact ⟨rfl, rfl⟩
 ·refine q0q (by unfold cap; simp) (by kernel_rfl!) ?_
  have e : (List.range 4).map (fun x => V.int (((((List.range 4).filter fun y => y == x || decide (((x, y, []) : Road) ∈ rs)).map (2 ^ ·)).sum : Nat) : Int)) = (q1e rs).map fun (v : Nat) => V.int v := by unfold q1e; rw [List.map_map]; rfl
  rw [e]
  walk_at "w"
  refine q6i (RchI (war (q1e rs)) i st (fnDs (stm 76)).sc.names) ?_ ?_ _ ?_
  ·rintro ρ s ⟨rfl, vars, rest, R, hx, rfl, hv, hm, -, hf⟩
   have : rest = [] := by simpa using hx.symm
   subst this
   have hf' : R = war (q1e rs) := hf
   rw [<- hf'] at q
   clear hf hf' hm0 e hi
   show W (q09 _ _ _) s _
   walk_at "w"
   refine qke (fun (i : Nat) => V.int i) (fun x => ((List.range 4).filter fun y => bit (R.getD x 0) y).map fun y => qfn (x, y)) rfl (List.range 4) (fun x hx => ?_) ?_
   ·have hx4 : x < 4 := by simpa using hx
    walk_at "w"
    refine q0z (fun (i : Nat) => V.int i) (fun y => bit (R.getD x 0) y) (fun y => qfn (x, y)) rfl (List.range 4) (fun y hy => ?_) ⟨rfl, rfl⟩
    have hy4 : y < 4 := by simpa using hy
    walk_at "w"
    refine q7t hm hx4 ?_
    walk_at "w"
    refine q9k (by omega) ?_
    walk_at "w"
    rw [Int.toNat_natCast, qp2 _ (q1n hm hx4) y hy4]
    cases hb : bit (R.getD x 0) y
    ·walk_at "w"
     exact ⟨rfl, rfl⟩
    ·walk_at "w"
     exact ⟨rfl, rfl⟩
   have e1 : ((List.range 4).flatMap fun x => ((List.range 4).filter fun y => bit (R.getD x 0) y).map fun y => qfn (x, y)) = (prs R).map qfn := by
    unfold prs
    rw [List.map_flatMap]
    congr 1
    funext x
    rw [List.map_map]; rfl
   rw [e1]
   have hpl := qkt R
   refine q0q (by unfold cap; rw [List.length_map]; omega) (by kernel_rfl!) ?_
   walk_at "w"
   refine qke qfn (fun p => ((List.range 4).filter fun z => bit (R.getD p.1 0) z && (R.getD p.2 0 &&& R.getD z 0) == 0).map fun _ => V.int p.1) rfl (prs R) (fun p hp => ?_) ?_
   ·obtain ⟨x, y⟩ := p
    obtain ⟨hx4, hy4⟩ := qjo _ hp
    show W (qi6 _ _ _ _ _ _ (.tup [.int (x : Int), .int (y : Int)])) _ _
    walk_at "w"
    refine q0z (fun (i : Nat) => V.int i) (fun z => bit (R.getD x 0) z && (R.getD y 0 &&& R.getD z 0) == 0) (fun _ => V.int x) rfl (List.range 4) (fun z hz => ?_) ⟨rfl, rfl⟩
    have hz4 : z < 4 := by simpa using hz
    walk_at "w"
    refine q7t hm hx4 ?_
    walk_at "w"
    refine q9k (by omega) ?_
    walk_at "w"
    rw [Int.toNat_natCast, qp2 _ (q1n hm hx4) z hz4]
    cases hb : bit (R.getD x 0) z
    ·walk_at "w"
     exact ⟨rfl, rfl⟩
    ·walk_at "w"
     refine q7t hm hy4 ?_
     walk_at "w"
     refine q7t hm hz4 ?_
     walk_at "w"
     rw [r58 _ (q1n hm hy4) _ (q1n hm hz4)]
     by_cases hc : (R.getD y 0 &&& R.getD z 0) = 0
     ·rw [decide_eq_true (show (((R.getD y 0 &&& R.getD z 0 : Nat) : Int) = 0) by omega), show ((R.getD y 0 &&& R.getD z 0) == 0) = true from beq_iff_eq.mpr hc]
      walk_at "w"
      exact ⟨rfl, rfl⟩
     ·rw [decide_eq_false (show ¬ (((R.getD y 0 &&& R.getD z 0 : Nat) : Int) = 0) by omega), show ((R.getD y 0 &&& R.getD z 0) == 0) = false from beq_eq_false_iff_ne.mpr hc]
      walk_at "w"
      exact ⟨rfl, rfl⟩
   have e2 : ((prs R).flatMap fun p => ((List.range 4).filter fun z => bit (R.getD p.1 0) z && (R.getD p.2 0 &&& R.getD z 0) == 0).map fun _ => V.int p.1) = ((aprt R).map fun (v : Nat) => (v : Int)).map V.int := by
    unfold aprt
    rw [List.map_map, List.map_flatMap]
    congr 1
    funext p
    rw [List.map_map]; rfl
   rw [e2]
   have hal := qo8 R
   refine q0q (by unfold cap; rw [List.length_map, List.length_map]; omega) (by kernel_rfl!) ?_
   walk_at "w"
   refine q0z qfn (fun p => R.getD p.2 0 == 2 ^ p.2) (fun p => V.int p.1) rfl (prs R) (fun p hp => ?_) ?_
   ·obtain ⟨x, y⟩ := p
    obtain ⟨hx4, hy4⟩ := qjo _ hp
    show W (qi6 _ _ _ _ _ _ (.tup [.int (x : Int), .int (y : Int)])) _ _
    walk_at "w"
    refine q7t hm hy4 ?_
    walk_at "w"
    refine qgh ⟨by omega, by omega, by decide⟩ ?_
    walk_at "w"
    have ep : ((1 : Int) * 2 ^ ((y : Int)).toNat) = ((2 ^ y : Nat) : Int) := by rw [Int.toNat_natCast, Int.one_mul, Int.natCast_pow]; rfl
    rw [ep]
    by_cases hc : R.getD y 0 = 2 ^ y
    ·rw [decide_eq_true (show ((R.getD y 0 : Nat) : Int) = ((2 ^ y : Nat) : Int) by rw [hc]), show (R.getD y 0 == 2 ^ y) = true from beq_iff_eq.mpr hc]
     walk_at "w"
     exact ⟨rfl, rfl⟩
    ·rw [decide_eq_false (show ¬ ((R.getD y 0 : Nat) : Int) = ((2 ^ y : Nat) : Int) from fun e => hc (Int.ofNat_inj.mp e)), show (R.getD y 0 == 2 ^ y) = false from beq_eq_false_iff_ne.mpr hc]
     walk_at "w"
     exact ⟨rfl, rfl⟩
   have e3 : (((prs R).filter fun p => R.getD p.2 0 == 2 ^ p.2).map fun p => V.int p.1) = ((ends R).map fun (v : Nat) => (v : Int)).map V.int := by
    unfold ends
    rw [List.map_map, List.map_map]; rfl
   rw [e3]
   have hel : (ends R).length <= 16 := by unfold ends; rw [List.length_map]; exact Nat.le_trans (List.length_filter_le _ _) hpl
   refine q0q (by unfold cap; rw [List.length_map, List.length_map]; omega) (by kernel_rfl!) ?_
   walk_at "w"
   refine r0p (by unfold cap; rw [List.length_map]; omega) ?_
   walk_at "w"
   rw [List.length_map]
   unfold q8f q3j at q
   by_cases h1 : (prs R).length = 4
   ·rw [if_pos h1] at q
    rw [decide_eq_true (show (((prs R).length : Nat) : Int) = 4 by omega)]
    walk_at "w"
    exact q
   rw [if_neg h1] at q
   rw [decide_eq_false (show ¬ (((prs R).length : Nat) : Int) = 4 by omega)]
   walk_at "w"
   refine q0z qfn (fun p => !bit (R.getD p.2 0) p.1) (fun p => V.int p.1) rfl (prs R) (fun p hp => ?_) ?_
   ·obtain ⟨x, y⟩ := p
    obtain ⟨hx4, hy4⟩ := qjo _ hp
    show W (qi6 _ _ _ _ _ _ (.tup [.int (x : Int), .int (y : Int)])) _ _
    walk_at "w"
    refine q7t hm hy4 ?_
    walk_at "w"
    refine q9k (by omega) ?_
    walk_at "w"
    rw [Int.toNat_natCast, qp2 _ (q1n hm hy4) x hx4]
    cases hb : bit (R.getD y 0) x
    ·walk_at "w"
     exact ⟨rfl, rfl⟩
    ·walk_at "w"
     exact ⟨rfl, rfl⟩
   have e4 : (((prs R).filter fun p => !bit (R.getD p.2 0) p.1).map fun p => V.int p.1) = ((back R).map fun (v : Nat) => (v : Int)).map V.int := by
    unfold back
    rw [List.map_map, List.map_map]; rfl
   rw [e4]
   have hbl : (back R).length <= 16 := by unfold back; rw [List.length_map]; exact Nat.le_trans (List.length_filter_le _ _) hpl
   refine q0q (by unfold cap; rw [List.length_map, List.length_map]; omega) (by kernel_rfl!) ?_
   walk_at "w"
   refine qgw ?_
   by_cases h2 : back R = []
   ·rw [if_pos h2] at q
    rw [decide_eq_true (show (back R).map (fun (v : Nat) => (v : Int)) = [] by rw [h2]; rfl)]
    walk_at "w"
    exact q
   rw [if_neg h2] at q
   rw [decide_eq_false (show ¬ (back R).map (fun (v : Nat) => (v : Int)) = [] from fun e => h2 (List.map_eq_nil_iff.mp e))]
   walk_at "w"
   refine q0z (fun (i : Nat) => V.int i) (fun x => !decide (x ∈ ends R)) (fun x => V.int x) rfl (List.range 4) (fun x hx => ?_) ?_
   ·walk_at "w"
    refine qtr ?_
    by_cases hc : x ∈ ends R
    ·rw [decide_eq_true hc, decide_eq_true (show (x : Int) ∈ (ends R).map (fun (v : Nat) => (v : Int)) from List.mem_map.mpr ⟨x, hc, rfl⟩)]
     walk_at "w"
     exact ⟨rfl, rfl⟩
    ·rw [decide_eq_false hc, decide_eq_false (show ¬ (x : Int) ∈ (ends R).map (fun (v : Nat) => (v : Int)) from fun h => by
      obtain ⟨z, hz, e⟩ := List.mem_map.mp h
      exact hc (Int.ofNat_inj.mp e ▸ hz))]
     walk_at "w"
     exact ⟨rfl, rfl⟩
   have e5 : (((List.range 4).filter fun x => !decide (x ∈ ends R)).map fun (x : Nat) => V.int x) = ((qct R).map fun (v : Nat) => (v : Int)).map V.int := by
    unfold qct
    rw [List.map_map]; rfl
   rw [e5]
   have hnl : (qct R).length <= 4 := by unfold qct; exact Nat.le_trans (List.length_filter_le _ _) (by simp)
   refine q0q (by unfold cap; rw [List.length_map, List.length_map]; omega) (by kernel_rfl!) ?_
   walk_at "w"
   refine qgw ?_
   by_cases h3 : qct R = []
   ·rw [if_pos h3] at q
    rw [decide_eq_true (show (qct R).map (fun (v : Nat) => (v : Int)) = [] by rw [h3]; rfl)]
    walk_at "w"
    refine qgw ?_
    by_cases h4 : aprt R = []
    ·rw [if_pos h4] at q
     rw [decide_eq_true (show (aprt R).map (fun (v : Nat) => (v : Int)) = [] by rw [h4]; rfl)]
     walk_at "w"
     exact q
    ·rw [if_neg h4] at q
     rw [decide_eq_false (show ¬ (aprt R).map (fun (v : Nat) => (v : Int)) = [] from fun e => h4 (List.map_eq_nil_iff.mp e))]
     walk_at "w"
     exact q
   ·rw [if_neg h3] at q
    rw [decide_eq_false (show ¬ (qct R).map (fun (v : Nat) => (v : Int)) = [] from fun e => h3 (List.map_eq_nil_iff.mp e))]
    walk_at "w"
    refine qgw ?_
    by_cases h4 : aprt R = []
    ·rw [if_pos h4] at q
     rw [decide_eq_true (show (aprt R).map (fun (v : Nat) => (v : Int)) = [] by rw [h4]; rfl)]
     walk_at "w"
     exact q
    ·rw [if_neg h4] at q
     rw [decide_eq_false (show ¬ (aprt R).map (fun (v : Nat) => (v : Int)) = [] from fun e => h4 (List.map_eq_nil_iff.mp e))]
     walk_at "w"
     exact q
  ·rintro x xs ρ s ⟨rfl, vars, rest, R, hx, rfl, hv, hm, hy, hf⟩
   cases rest with
   | nil => cases hx
   | cons y rest =>
    rw [List.map_cons] at hx
    injection hx with hx1 hx2
    subst hx1
    have hy4 := hy y (by simp)
    walk_at "w"
    refine q2a (fun (m : Nat) => V.int m) (fun row => .int ((bif bit row y then row ||| R.getD y 0 else row : Nat) : Int)) rfl R (fun row hrow => ?_) ?_
    ·have hr16 := hm.2 row hrow
     walk_at "w"
     refine q9k (by omega) ?_
     walk_at "w"
     rw [Int.toNat_natCast, qp2 row hr16 y hy4]
     cases hb : bit row y
     ·walk_at "w"
      exact ⟨rfl, rfl⟩
     ·walk_at "w"
      refine q7t hm hy4 ?_
      walk_at "w"
      rw [(or16 row hr16 _ (q1n hm hy4)).1]
      exact ⟨rfl, rfl⟩
    ·refine q0q (by unfold cap; rw [List.length_map, hm.1]; decide) (by kernel_rfl!) ?_
     walk_at "w"
     refine ⟨rfl, rfl, rfl, _, rest, warS R y, hx2, rfl, ?_, q17 hm hy4, fun z hz => hy z (by simp [hz]), hf⟩
     unfold warS
     rw [List.map_map]
     exact q24
  ·exact ⟨rfl, _, List.range 4, q1e rs, rfl, rfl, by walk_at "look", hm0, by simp, rfl⟩
theorem qal {a : List Nat} (h : ∀ c ∈ a, c < 128) (hl : a.length <= cap) : txtV (Txt.lower (S a)).cps.toList = some (.str (a.map lo1)) := by
 have e : (Txt.lower (S a)).cps.toList = a.map lo1 := by
  rw [lower_ascii (x := S a) (by simpa [S] using h)]
  simp [S]
 rw [e]
 unfold txtV strV
 rw [if_pos, if_pos (by simpa using hl)]
 rw [List.all_map, List.all_eq_true]
 intro c hc
 have := h c hc
 show decide (lo1 c < 0x110000) = true
 unfold lo1
 split <;> exact decide_eq_true (by omega)
theorem r1s {a : List Nat} (h : ∀ c ∈ a, c < 128) (hl : a.length <= cap) : txtV (Txt.upper (S a)).cps.toList = some (.str (a.map up1)) := by
 have e : (Txt.upper (S a)).cps.toList = a.map up1 := by
  rw [upper_ascii (x := S a) (by simpa [S] using h)]
  simp [S]
 rw [e]
 unfold txtV strV
 rw [if_pos, if_pos (by simpa using hl)]
 rw [List.all_map, List.all_eq_true]
 intro c hc
 have := h c hc
 show decide (up1 c < 0x110000) = true
 unfold up1
 split <;> exact decide_eq_true (by omega)
noncomputable def clean (z : List Nat) : Prop := ∀ c ∈ z, 32 <= c /\ c ≠ 127
theorem qg1 {P : Prg} {n : Nat} {x : Str} {z : List Nat} {st : Ev.St} {Q : V -> Ev.St -> Prop} (hx : x = ("_name_disallowed_re" : Str) \/ x = ("_value_disallowed_re" : Str)) (hz : clean z) (q : Q .none st) : W ((ctxN P (n + 1)).call (.m (.g x) "search") [.str z] []) st Q := by
 show W (if (x = ("_name_disallowed_re" : Str) \/ x = ("_value_disallowed_re" : Str)) /\ z.any (fun c => c < 32 && (x = ("_name_disallowed_re" : Str) || c != 9) || c == 127) = false then pure .none else bad) st Q
 rw [if_pos]
 ·exact W.pure q
 ·refine ⟨hx, ?_⟩
  rw [List.any_eq_false]
  intro c hc
  have := hz c hc
  simp
  omega
theorem q9v {n i : Nat} {z : List Nat} {b : Bool} {st : Ev.St} {Q : V -> Ev.St -> Prop} (hz : clean z) (q : Q (.str z) st) : W ((ctxN P03 (n + 2)).call (.m (.hd i) "_convert_string_type") [.str z] [("name", .bool b)]) st Q := by
 refine c_mt (d := fnDs (meth 65 1)) (by kernel_rfl!) (q20 [("self", .hd i), ("value", .str z), ("name", .bool b)] (by kernel_rfl!) (by kernel_rfl!) ?_)
 conv => arg 1; arg 2; whnf
 walk_at "w"
 refine qhp (c := true) rfl ?_
 walk_at "w"
 cases b
 ·walk_at "w"
  refine qg1 (.inr rfl) hz ?_
  walk_at "w"
  exact q
 ·walk_at "w"
  refine qg1 (.inl rfl) hz ?_
  walk_at "w"
  exact q
noncomputable def hdV (h : List Nat × List Nat) : V := .tup [.str h.1, .str h.2]
theorem qty {P : Prg} {n r : Nat} {z v : List Nat} {st : Ev.St} {Q : V -> Ev.St -> Prop} (h : st[r]? = some (.list [.str v])) (hz : z.length <= 16) (hv : v.length <= cap) (hc : v.all (fun c => decide (c < 0x110000)) = true) (q : Q (.str v) st) :
  W ((ctxN P (n + 1)).call (.m (.str z) "join") [.ref r] []) st Q := by
 have hj : JoinOk (S z) [S v] = true := joinOk_of_weight (by show v.toArray.size + 0 + 1 <= 1048576; unfold cap at hv; simp; omega) (by simpa [S, Str.length] using hz)
 show W (do
   let ys <- Ev.rd fun st => (q1v st (.ref r)).bind q28
   Ev.gt (qhh z ys)) st Q
 refine W.bind (W.rd (a := [v]) ?_ (W.gt (a := .str v) ?_ q))
 ·show (match st[r]? with | some (O.list vs) => some vs | _ => none).bind q28 = _
  rw [h]; rfl
 ·unfold qhh
  rw [if_pos (show JoinOk (S z) ([v].map S) = true from hj)]
  show txtV (v.toArray.toList) = _
  rw [List.toList_toArray]
  unfold txtV strV
  rw [if_pos hc, if_pos hv]
theorem r1g {n i : Nat} {nm v : List Nat} {xs : List V} {st : Ev.St} {Q : V -> Ev.St -> Prop} (hi : st[i]? = some (.list xs)) (hx : xs.length + 1 <= cap) (hn : clean nm) (hv : clean v) (hvl : v.length <= cap) (hvc : v.all (fun c => decide (c < 0x110000)) = true)
  (q : Q .none ((st ++ [O.list [.str v]]).set i (.list (xs ++ [hdV (nm, v)])))) : W ((ctxN P03 (n + 3)).call (.m (.hd i) "add_header") [.str nm, .str v] []) st Q := by
 refine c_mt (d := fnDs (meth 65 16)) (by kernel_rfl!) (q20 [("self", .hd i), ("_name", .str nm), ("_value", .str v), ("_params", .nod)] (by kernel_rfl!) (by kernel_rfl!) ?_)
 conv => arg 1; arg 2; whnf
 walk_at "w"
 refine qas (c := false) rfl ?_
 walk_at "w"
 refine q9v hv ?_
 walk_at "w"
 have hil : i < st.length := by
  rcases Nat.lt_or_ge i st.length with h' | h'
  ·exact h'
  ·rw [List.getElem?_eq_none h'] at hi; cases hi
 refine qkr (xs := []) (by rw [List.getElem?_append_right (Nat.le_refl _)]; simp) ?_
 walk_at "w"
 refine q8d (xs := []) (by rw [List.getElem?_append_right (Nat.le_refl _)]; simp) (by decide) ?_
 have e : (st ++ [O.list []]).set st.length (O.list ([] ++ [V.str v])) = st ++ [O.list [V.str v]] := by
  rw [List.set_append_right _ _ (Nat.le_refl _)]; simp
 rw [e]
 have hi2 : (st ++ [O.list [V.str v]])[i]? = some (.list xs) := by rw [List.getElem?_append_left hil]; exact hi
 have hp2 : (st ++ [O.list [V.str v]])[st.length]? = some (.list [.str v]) := by rw [List.getElem?_append_right (Nat.le_refl _)]; simp
 walk_at "w"
 refine q9v hn ?_
 walk_at "w"
 refine qty hp2 (by decide +kernel) hvl hvc ?_
 walk_at "w"
 refine q8d hi2 hx ?_
 walk_at "w"
 exact q
theorem qdj {st : Ev.St} {i : Nat} {l : List (List Nat × List Nat)} (h : st[i]? = some (.list (l.map hdV))) : Ev.same [(i, .list (l.map hdV))] st = some ((), st) := by
 have e : ∀ l : List (List Nat × List Nat), q1x (l.map hdV) (l.map hdV) = true := by
  intro l
  induction l with
  | nil => rfl
  | cons a l ih => show ((a.1 == a.1 && (a.2 == a.2 && true)) && q1x (l.map hdV) (l.map hdV)) = true; rw [ih]; simp
 show ((st[i]?).map (·, st)).bind (fun p => (if q4j (.list (l.map hdV)) p.1 then Ev.same [] else bad) p.2) = _
 rw [h]
 show (if q4j (.list (l.map hdV)) (.list (l.map hdV)) = true then Ev.same [] else bad) st = _
 rw [if_pos (show q4j (.list (l.map hdV)) (.list (l.map hdV)) = true from e l)]
 rfl
noncomputable def ascN (a : List Nat) : Prop := (∀ c ∈ a, 32 <= c /\ c < 127) /\ a.length <= 1000
theorem ascN.lt {a : List Nat} (h : ascN a) : ∀ c ∈ a, c < 128 := fun c hc => by have := h.1 c hc; omega
theorem ascN.clean {a : List Nat} (h : ascN a) : clean a := fun c hc => by have := h.1 c hc; omega
theorem ascN.low {a : List Nat} (h : ascN a) : ascN (a.map lo1) := by
 refine ⟨fun c hc => ?_, by rw [List.length_map]; exact h.2⟩
 obtain ⟨d, hd, rfl⟩ := List.mem_map.mp hc
 have := h.1 d hd
 unfold lo1
 split <;> omega
theorem ascN.cap {a : List Nat} (h : ascN a) : a.length <= cap := by have := h.2; unfold Ev.cap; omega
theorem qir {n i : Nat} {nm : List Nat} {hs : List (List Nat × List Nat)} {st : Ev.St} {Q : V -> Ev.St -> Prop} (hi : st[i]? = some (.list (hs.map hdV))) (hn : ascN nm) (ha : ∀ h ∈ hs, ascN h.1) (hl : hs.length <= 1000)
  (q : Q (.lst ((hs.filter fun h => decide (h.1.map lo1 = nm.map lo1)).map fun h => .str h.2)) st) : W ((ctxN P03 (n + 3)).call (.m (.hd i) "get_all") [.str nm] []) st Q := by
 refine c_mt (d := fnDs (meth 65 7)) (by kernel_rfl!) (q20 [("self", .hd i), ("name", .str nm)] (by kernel_rfl!) (by kernel_rfl!) ?_)
 conv => arg 1; arg 2; whnf
 walk_at "w"
 refine q6y (qal hn.lt hn.cap) ?_
 walk_at "w"
 refine q9v hn.low.clean ?_
 walk_at "w"
 refine qdc hi ?_
 refine q0z hdV (fun h => decide (h.1.map lo1 = nm.map lo1)) (fun h => .str h.2) (qdj hi) hs (fun h hh => ?_) ?_
 ·obtain ⟨a, b⟩ := h
  have haa := ha _ hh
  show W (qi6 _ _ _ _ _ _ (.tup [.str a, .str b])) _ _
  walk_at "w"
  refine q7w [a, b] rfl (by kernel_rfl!) (by decide) (by simp) ?_
  walk_at "w"
  refine q6y (qal haa.lt haa.cap) ?_
  walk_at "w"
  by_cases hc : a.map lo1 = nm.map lo1
  ·show bif decide (a.map lo1 = nm.map lo1) then _ else _
   rw [decide_eq_true hc]
   walk_at "w"
   refine q7w [a, b] rfl (by kernel_rfl!) (by decide) (by simp) ?_
   exact ⟨rfl, rfl⟩
  ·show bif decide (a.map lo1 = nm.map lo1) then _ else _
   rw [decide_eq_false hc]
   walk_at "w"
   exact ⟨rfl, rfl⟩
 ·have := List.length_filter_le (fun h => decide (h.1.map lo1 = nm.map lo1)) hs
  refine q0q (by unfold cap; rw [List.length_map]; omega) (by kernel_rfl!) ?_
  exact q
noncomputable def getV (hs : List (List Nat × List Nat)) (nm : List Nat) : V := match hs.find? fun h => decide (h.1.map lo1 = nm) with | some h => .str h.2 | none => .none
noncomputable def GetI (hs0 : List (List Nat × List Nat)) (nm : List Nat) (st : Ev.St) (sc : List (Str × NameKind)) (xs : List V) (ρ : Fr) (s : Ev.St) : Prop :=
 s = st /\ ∃ (vars : List (Str × V)) (hs : List (List Nat × List Nat)), xs = hs.map hdV /\ ρ = ⟨sc, vars, fun _ => none⟩ /\ vars.lookup ("name" : Str) = some (.str nm) /\ vars.lookup ("default" : Str) = some .none /\ (∀ h ∈ hs, ascN h.1) /\ getV hs nm = getV hs0 nm
theorem r5z {n i : Nat} {nm : List Nat} {hs : List (List Nat × List Nat)} {st : Ev.St} {Q : V -> Ev.St -> Prop} (hi : st[i]? = some (.list (hs.map hdV))) (hn : ascN nm) (ha : ∀ h ∈ hs, ascN h.1) (hl : hs.length <= 1000)
  (q : Q (getV hs (nm.map lo1)) st) : W ((ctxN P03 (n + 3)).call (.m (.hd i) "get") [.str nm] []) st Q := by
 refine c_mt (d := fnDs (meth 65 8)) (by kernel_rfl!) (q20 [("self", .hd i), ("name", .str nm), ("default", .none)] (by kernel_rfl!) (by kernel_rfl!) ?_)
 conv => arg 1; arg 2; whnf
 walk_at "w"
 refine q6y (qal hn.lt hn.cap) ?_
 walk_at "w"
 refine q9v hn.low.clean ?_
 walk_at "w"
 refine qdc hi ?_
 refine qp8 (GetI hs (nm.map lo1) st (fnDs (meth 65 8)).sc.names) ?_ ?_ _ ?_
 ·rintro ρ s ⟨rfl, vars, hs', hx, rfl, v1, v2, ha', hg⟩
  have : hs' = [] := by simpa using hx.symm
  subst this
  show W (q09 _ _ _) s _
  walk_at "w"
  rw [<- hg] at q
  exact q
 ·rintro x xs ρ s ⟨rfl, vars, hs', hx, rfl, v1, v2, ha', hg⟩
  cases hs' with
  | nil => cases hx
  | cons h hs' =>
   rw [List.map_cons] at hx
   injection hx with hx1 hx2
   subst hx1
   obtain ⟨a, b⟩ := h
   have haa := ha' (a, b) (by simp)
   show W (qna _ _ _ (.tup [.str a, .str b]) _) _ _
   walk_at "w"
   refine q6y (qal haa.lt haa.cap) ?_
   walk_at "w"
   by_cases hc : a.map lo1 = nm.map lo1
   ·walk_at "w"
    have e : getV ((a, b) :: hs') (nm.map lo1) = .str b := by
     unfold getV
     rw [List.find?_cons_of_pos (by simpa using hc)]
    rw [e] at hg
    rw [<- hg] at q
    exact q
   ·walk_at "w"
    refine ⟨qdj hi, rfl, _, hs', hx2, rfl, by walk_at "look", by walk_at "look", fun h hh => ha' h (by simp [hh]), ?_⟩
    rw [<- hg]
    unfold getV
    rw [List.find?_cons_of_neg (by simpa using hc)]
 ·exact ⟨rfl, _, hs, rfl, rfl, by walk_at "look", by walk_at "look", ha, rfl⟩
theorem r24 {n i : Nat} {nm v : List Nat} {hs : List (List Nat × List Nat)} {st : Ev.St} {Q : V -> Ev.St -> Prop} (hi : st[i]? = some (.list (hs.map hdV))) (hn : ascN nm) (hv : clean v) (ha : ∀ h ∈ hs, ascN h.1) (hl : hs.length <= 1000)
  (q1 : ∀ w, getV hs (nm.map lo1) = .str w -> Q (.str w) st) (q2 : getV hs (nm.map lo1) = .none -> Q (.str v) (st.set i (.list ((hs ++ [(nm, v)]).map hdV)))) : W ((ctxN P03 (n + 4)).call (.m (.hd i) "setdefault") [.str nm, .str v] []) st Q := by
 refine c_mt (d := fnDs (meth 65 15)) (by kernel_rfl!) (q20 [("self", .hd i), ("name", .str nm), ("value", .str v)] (by kernel_rfl!) (by kernel_rfl!) ?_)
 conv => arg 1; arg 2; whnf
 walk_at "w"
 refine r5z hi hn ha hl ?_
 have hg : getV hs (nm.map lo1) = .none \/ ∃ w, getV hs (nm.map lo1) = .str w := by
  unfold getV
  cases hs.find? fun h => decide (h.1.map lo1 = nm.map lo1) with
  | none => exact .inl rfl
  | some h => exact .inr ⟨_, rfl⟩
 rcases hg with hg | ⟨w, hg⟩
 ·rw [hg]
  walk_at "w"
  refine qhp (c := true) rfl ?_
  walk_at "w"
  refine q9v hn.clean ?_
  walk_at "w"
  refine q9v hv ?_
  walk_at "w"
  refine q8d hi (by unfold cap; rw [List.length_map]; omega) ?_
  walk_at "w"
  have := q2 hg
  rw [List.map_append] at this
  exact this
 ·rw [hg]
  walk_at "w"
  refine qhp (c := false) rfl ?_
  walk_at "w"
  exact q1 w hg
theorem qrs {n i : Nat} {vs : List V} {st : Ev.St} {Q : V -> Ev.St -> Prop} (hi : st[i]? = some (.list vs)) (hl : vs.length <= cap) (q : Q (.lst vs) st) : W ((ctxN P03 (n + 2)).call (.m (.hd i) "items") [] []) st Q := by
 refine c_mt (d := fnDs (meth 65 11)) (by kernel_rfl!) (q20 [("self", .hd i)] (by kernel_rfl!) (by kernel_rfl!) ?_)
 conv => arg 1; arg 2; whnf
 walk_at "w"
 refine qiw (a := vs) hi ?_ ?_
 ·unfold cut
  rw [if_neg (by omega)]
  show (some (0 : Int).toNat).bind (fun x => (some ((vs.length : Int)).toNat).bind fun y => some ((vs.take y).drop x)) = _
  show some ((vs.take ((vs.length : Int)).toNat).drop 0) = _
  rw [Int.toNat_natCast, List.take_length]; rfl
 ·refine qbw (q0q hl (by kernel_rfl!) ?_)
  exact q
theorem q5j (k : Int) : good (q1z (k % 27).toNat) = true /\ q1a (q1z (k % 27).toNat) = [] := by
 have h := List.all_eq_true.mp qjj (k % 27).toNat (List.mem_range.mpr (by omega))
 obtain ⟨h1, h2⟩ := (Bool.and_eq_true _ _).mp h
 exact ⟨h2, by unfold q1a; rw [if_pos h1]⟩
theorem qpu (k : Int) : good (besF (k % 16).toNat) = true /\ q1a (besF (k % 16).toNat) = [besF (k % 16).toNat] := by
 have h := List.all_eq_true.mp qos (k % 16).toNat (List.mem_range.mpr (by omega))
 obtain ⟨h1, h2⟩ := (Bool.and_eq_true _ _).mp h
 obtain ⟨h3, h4⟩ := (Bool.and_eq_true _ _).mp h1
 refine ⟨h2, ?_⟩
 unfold q1a
 rw [if_neg (by simpa using h3)]
 exact eq_of_beq h4
theorem qdx {c : Nat} (hc : c ∈ lets) (k : Int) : good (q4x c (k % 12).toNat) = true /\ q1a (q4x c (k % 12).toNat) = [c] := by
 have h := List.all_eq_true.mp (List.all_eq_true.mp qj6 c hc) (k % 12).toNat (List.mem_range.mpr (by omega))
 obtain ⟨h1, h2⟩ := (Bool.and_eq_true _ _).mp h
 obtain ⟨h3, h4⟩ := (Bool.and_eq_true _ _).mp h1
 refine ⟨h2, ?_⟩
 unfold q1a
 rw [if_neg (by simpa using h3)]
 exact eq_of_beq h4
theorem qgk {c : Nat} (hc : c ∈ [126, 60, 62, 59]) : good c = true /\ q1a c = [c] := by
 have h := List.all_eq_true.mp qng c hc
 obtain ⟨h1, h2⟩ := (Bool.and_eq_true _ _).mp h
 obtain ⟨h3, h4⟩ := (Bool.and_eq_true _ _).mp h1
 refine ⟨h2, ?_⟩
 unfold q1a
 rw [if_neg (by simpa using h3)]
 exact eq_of_beq h4
noncomputable def q2v (t u : List Nat) : Prop := t.all good = true /\ t.flatMap q1a = u
theorem q2v.app {t u t' u' : List Nat} (h : q2v t u) (h' : q2v t' u') : q2v (t ++ t') (u ++ u') := by
 refine ⟨by rw [List.all_append, h.1, h'.1]; rfl, by rw [List.flatMap_append, h.2, h'.2]⟩
theorem q2v.one {c : Nat} {u : List Nat} (h : good c = true /\ q1a c = u) : q2v [c] u := ⟨by simp [h.1], by simp [h.2]⟩
noncomputable def sgn (c : Nat) : List Nat := if c = 126 then [126] else [60, 62]
noncomputable def q1t (w : List Nat) : List Nat := w.flatMap sgn ++ [120, 59]
noncomputable def wrd (w : List Nat) : Prop := ∀ c ∈ w, c = 126 \/ c = 107
noncomputable def room : List (List Nat) -> Nat
 | [] => 0
 | w :: ws => 3 * w.length + 2 + room ws
noncomputable def SgnI (fin : List Nat) (lim : Nat) (wv : List V) (e : Int) (w : List Nat) (st : Ev.St) (sc : List (Str × NameKind)) (xs : List V) (ρ : Fr) (s : Ev.St) : Prop :=
 s = st /\ ∃ (vars : List (Str × V)) (rest t u : List Nat) (count : Int), xs = rest.map (fun c => V.str [c]) /\ ρ = ⟨sc, vars, fun _ => none⟩ /\ vars.lookup ("words" : Str) = some (.lst wv) /\ vars.lookup ("e" : Str) = some (.int e) /\ vars.lookup ("word" : Str) = some (.str w) /\ vars.lookup ("text" : Str) = some (.str t) /\ vars.lookup ("count" : Str) = some (.int count) /\
  q2v t u /\ u ++ rest.flatMap sgn = fin /\ t.length + 3 * rest.length <= lim /\ wrd rest
noncomputable def WrdI (fin : List Nat) (lim : Nat) (wv : List V) (e : Int) (st : Ev.St) (sc : List (Str × NameKind)) (xs : List V) (ρ : Fr) (s : Ev.St) : Prop :=
 s = st /\ ∃ (vars : List (Str × V)) (rest : List (List Nat)) (t u : List Nat) (count : Int), xs = rest.map V.str /\ ρ = ⟨sc, vars, fun _ => none⟩ /\ vars.lookup ("words" : Str) = some (.lst wv) /\ vars.lookup ("e" : Str) = some (.int e) /\ vars.lookup ("text" : Str) = some (.str t) /\ vars.lookup ("count" : Str) = some (.int count) /\
  q2v t u /\ u ++ rest.flatMap q1t = fin /\ t.length + room rest <= lim /\ (∀ w ∈ rest, wrd w) /\ (rest ≠ [] \/ ∃ t' u', t = t' ++ [59] /\ u = u' ++ [59] /\ q2v t' u')
theorem r1a {n : Nat} {ws : List (List Nat)} {e : Int} {st : Ev.St} {Q : V -> Ev.St -> Prop} (hw : ∀ w ∈ ws, wrd w) (hne : ws ≠ []) (hroom : room ws <= 20000)
  (q : ∀ t, q2v t ((ws.flatMap q1t).dropLast ++ [besF (e % 16).toNat]) -> t.length <= 20004 -> Q (.str t) st) :
  W ((ctxN P03 (n + 3)).call (.fn "_law_text") [.lst (ws.map V.str), .int e] []) st Q := by
 refine c_fn (d := fnDs (stm 72)) (by kernel_rfl!) (by kernel_rfl!) (q20 [("words", .lst (ws.map V.str)), ("e", .int e)] (by kernel_rfl!) (by kernel_rfl!) ?_)
 conv => arg 1; arg 2; whnf
 walk_at "w"
 refine q6i (WrdI (ws.flatMap q1t) 20000 (ws.map V.str) e st (fnDs (stm 72)).sc.names) ?_ ?_ _ ?_
 ·rintro ρ s ⟨rfl, vars, rest, t, u, count, hx, rfl, v1, v2, v3, v4, hT, hf, hlim, -, hend⟩
  have : rest = [] := by simpa using hx.symm
  subst this
  obtain ⟨t', u', rfl, rfl, hT'⟩ := hend.resolve_left (by simp)
  have hf' : ws.flatMap q1t = u' ++ [59] := by rw [<- hf]; simp
  show W (q09 _ _ _) s _
  walk_at "w"
  have hlen : t'.length <= 20000 := by have : (t' ++ [59]).length + 0 <= 20000 := hlim; simp at this; omega
  refine qgf (a := t') ?_ ?_
  ·unfold cut
   rw [if_neg (by unfold cap; simp; omega)]
   show (some (0 : Int).toNat).bind (fun x => (some (((-1 : Int) + (t' ++ [59]).length).toNat)).bind fun y => some (((t' ++ [59]).take y).drop x)) = _
   have e1 : ((-1 : Int) + (t' ++ [59]).length).toNat = t'.length := by simp; omega
   rw [e1]
   show some (((t' ++ [59]).take t'.length).drop 0) = _
   simp
  walk_at "w"
  refine q2a (fun (i : Nat) => V.int i) (fun i => .str [q1z ((count + (i : Int)) % 27).toNat]) rfl (List.range 3) (fun i hi => ?_) ?_
  ·walk_at "w"
   refine q2f ?_
   exact ⟨rfl, rfl⟩
  ·refine q0q (by unfold cap; simp) (by kernel_rfl!) ?_
   walk_at "w"
   have hk : ∀ k : Int, q1z (k % 27).toNat < 1114112 := fun k => q7e _
   refine qgy (xs := [[q1z ((count + (0 : Int)) % 27).toNat], [q1z ((count + (1 : Int)) % 27).toNat], [q1z ((count + (2 : Int)) % 27).toNat]]) rfl (by unfold cap; simp) ?_ ?_
   ·simp [q7e]
   ·walk_at "w"
    refine q2w (by unfold cap; simp; omega) ?_
    walk_at "w"
    refine qg8 ?_
    refine q2w (by unfold cap; simp; omega) ?_
    refine q _ ?_ (by simp; omega)
    rw [hf', List.dropLast_concat]
    have h0 := q5j (count + 0)
    have h1 := q5j (count + 1)
    have h2 := q5j (count + 2)
    have hn3 : q2v ([[q1z ((count + (0 : Int)) % 27).toNat], [q1z ((count + (1 : Int)) % 27).toNat], [q1z ((count + (2 : Int)) % 27).toNat]]).flatten [] := by
     refine ⟨?_, ?_⟩
     ·simp only [List.flatten_cons, List.flatten_nil, List.append_nil, List.singleton_append, List.all_cons, List.all_nil, h0.1, h1.1, h2.1, Bool.and_true]
     ·simp only [List.flatten_cons, List.flatten_nil, List.append_nil, List.singleton_append, List.flatMap_cons, List.flatMap_nil, h0.2, h1.2, h2.2]
    have := (hT'.app hn3).app (q2v.one (qpu e))
    rw [List.append_nil] at this
    exact this
 ·rintro x xs ρ s ⟨rfl, vars, rest, t, u, count, hx, rfl, v1, v2, v3, v4, hT, hf, hlim, hwr, -⟩
  cases rest with
  | nil => cases hx
  | cons w rest =>
   rw [List.map_cons] at hx
   injection hx with hx1 hx2
   subst hx1
   have hww := hwr w (by simp)
   have hlw : t.length + (3 * w.length + 2 + room rest) <= 20000 := hlim
   walk_at "w"
   refine q6i (SgnI (u ++ w.flatMap sgn) (t.length + 3 * w.length) (ws.map V.str) e w s (fnDs (stm 72)).sc.names) ?_ ?_ _ ?_
   ·rintro ρ s' ⟨rfl, vars', rest', t', u', count', hx, rfl, v1, v2, v3, v4, v5, hT', hf', hlim', -⟩
    have : rest' = [] := by simpa using hx.symm
    subst this
    have hl' : t'.length <= t.length + 3 * w.length := by simpa using hlim'
    have hwc : w.length <= cap := by unfold cap; omega
    show W (q09 _ _ _) s' _
    walk_at "w"
    rw [show chs "x" = [120] by decide +kernel]
    refine qpx (by decide) ?_
    walk_at "w"
    refine q2w (by have : (chs ";").length = 1 := (by decide +kernel); unfold cap; simp; omega) ?_
    refine qf6 (by have : (chs ";").length = 1 := (by decide +kernel); unfold cap; simp; omega) ?_
    walk_at "w"
    have hT2 := (hT'.app (q2v.one (qdx (c := 120) (by decide) (count' + (w.length : Int))))).app (q2v.one (qgk (c := 59) (by decide)))
    have hu' : u' = u ++ w.flatMap sgn := by rw [<- hf']; simp
    refine ⟨rfl, rfl, rfl, _, rest, t' ++ [q4x 120 ((count' + (w.length : Int)) % 12).toNat] ++ [59], u' ++ [120] ++ [59], count', hx2, rfl, by walk_at "look", by walk_at "look", ?_, by walk_at "look", hT2, ?_, ?_, fun v hv => hwr v (by simp [hv]), .inr ⟨_, _, rfl, rfl, hT'.app (q2v.one (qdx (c := 120) (by decide) (count' + (w.length : Int))))⟩⟩
    ·rw [List.append_assoc]
     exact q24
    ·rw [<- hf, hu', List.flatMap_cons]
     unfold q1t
     simp
    ·simp
     omega
   ·rintro x xs ρ s' ⟨rfl, vars', rest', t', u', count', hx, rfl, v1, v2, v3, v4, v5, hT', hf', hlim', hwr'⟩
    cases rest' with
    | nil => cases hx
    | cons c rest' =>
     rw [List.map_cons] at hx
     injection hx with hx1 hx3
     subst hx1
     have hlim2 : t'.length + 3 * (rest'.length + 1) <= t.length + 3 * w.length := by simpa using hlim'
     have hc := hwr' c (by simp)
     rw [List.flatMap_cons] at hf'
     walk_at "w"
     rcases hc with hc | hc
     ·subst hc
      walk_at "w"
      refine qf6 (by have : (chs "~").length = 1 := (by decide +kernel); unfold cap; simp; omega) ?_
      walk_at "w"
      refine ⟨rfl, rfl, rfl, _, rest', t' ++ [126], u' ++ [126], _, hx3, rfl, by walk_at "look", by walk_at "look", by walk_at "look", ?_, by walk_at "look", hT'.app (q2v.one (qgk (by decide))), ?_, ?_, fun v hv => hwr' v (by simp [hv])⟩
      ·refine q2e (by kernel_rfl!) ?_
       exact q24
      ·rw [<- hf']
       unfold sgn
       simp
      ·simp
       omega
     ·subst hc
      walk_at "w"
      refine q2f ?_
      refine q2w (by have : (chs "<").length = 1 := (by decide +kernel); unfold cap; simp; omega) ?_
      walk_at "w"
      refine q2w (by have : (chs "<").length = 1 := (by decide +kernel); have : (chs ">").length = 1 := (by decide +kernel); unfold cap; simp; omega) ?_
      refine qf6 (by have : (chs "<").length = 1 := (by decide +kernel); have : (chs ">").length = 1 := (by decide +kernel); unfold cap; simp; omega) ?_
      walk_at "w"
      have hT2 := hT'.app (((q2v.one (qgk (c := 60) (by decide))).app (q2v.one (q5j count'))).app (q2v.one (qgk (c := 62) (by decide))))
      refine ⟨rfl, rfl, rfl, _, rest', _, _, _, hx3, rfl, by walk_at "look", by walk_at "look", by walk_at "look", ?_, by walk_at "look", hT2, ?_, ?_, fun v hv => hwr' v (by simp [hv])⟩
      ·refine q2e (by kernel_rfl!) ?_
       exact q24
      ·rw [<- hf']
       unfold sgn
       simp
      ·simp
       omega
   ·exact ⟨rfl, _, w, t, u, count, rfl, rfl, by walk_at "look", by walk_at "look", by walk_at "look", by walk_at "look", by walk_at "look", hT, rfl, Nat.le_refl _, hww⟩
 ·exact ⟨rfl, _, ws, [], [], e, rfl, rfl, by walk_at "look", by walk_at "look", q2e (by kernel_rfl!) q24, by walk_at "look", ⟨rfl, rfl⟩, rfl, by simpa using hroom, hw, .inl hne⟩
noncomputable def q7u (e : Int) : Nat := [0, 1, 2, 0, 3, 1, 0, 4].getD (e / 16 % 8).toNat 0
noncomputable def toF (e : Int) : Nat := (e / 4 % 4).toNat
noncomputable def frF (e : Int) : Nat := (e % 4).toNat
noncomputable def bsF (e : Int) : Nat := besF (e / 256 / 27 % 16).toNat
noncomputable def q2s (e : Int) : List Nat := [[], [], [], [bsF e], [102]].getD (q7u e) []
noncomputable def n1F (e : Int) : Nat := q1z (e / 256 % 27).toNat
noncomputable def n2F (e : Int) : Nat := q1z (e / 256 / 7 % 27).toNat
noncomputable def q6b (e : Int) : List Nat := [[n1F e], [n1F e, n2F e], [], [bsF e], [n1F e, 70]].getD (q7u e) []
noncomputable def fmF (e : Int) : Nat := q4x (97 + toF e) (e / 256 / 432 % 12).toNat
noncomputable def valF (e : Int) : List Nat := q6b e ++ [fmF e]
noncomputable def qau (e : Int) : List Nat := [[97, 98, 99, 100, 65, 66, 67, 68].getD (e % 4 + e / 128 % 2 * 4).toNat 0]
noncomputable def q19 (e : Int) : Road := (frF e, toF e, q2s e)
noncomputable def hdrF (e : Int) : List Nat × List Nat := (qau e, valF e)
noncomputable def q32 (j : Nat) (es : List Int) : List (List Nat) := (es.filter fun e => frF e == j).map valF
structure NetAt (es : List Int) (s : Ev.St) : Prop where
 hd : s[1]? = some (.list ((es.map hdrF).map hdV))
 rd : s[2]? = some (.list ((es.map q19).map q1d))
 vl : ∀ j, j < 4 -> s[3 + j]? = some (.list ((q32 j es).map V.str))
 len : 7 <= s.length
theorem qax (e : Int) : q7u e < 5 := by
 unfold q7u
 have h : (e / 16 % 8).toNat < 8 := by omega
 generalize (e / 16 % 8).toNat = j at h
 rcases (by omega : j = 0 \/ j = 1 \/ j = 2 \/ j = 3 \/ j = 4 \/ j = 5 \/ j = 6 \/ j = 7) with h | h | h | h | h | h | h | h <;> subst h <;> decide
theorem qgj : (List.range 27).all (fun r => decide (128 <= q1z r)) = true := by decide +kernel
theorem qkc : (List.range 16).all (fun r => decide (128 <= besF r)) = true := by decide +kernel
theorem qp0 : lets.all (fun c => (List.range 12).all fun r => decide (32 <= q4x c r /\ q4x c r ≠ 127 /\ q4x c r < 0x110000)) = true := by decide +kernel
theorem qec (e : Int) : 97 + toF e ∈ lets := by
 have h : toF e < 4 := by unfold toF; omega
 rcases (by omega : toF e = 0 \/ toF e = 1 \/ toF e = 2 \/ toF e = 3) with h | h | h | h <;> rw [h] <;> decide
theorem qhd (e : Int) : q6b e = [n1F e] \/ q6b e = [n1F e, n2F e] \/ q6b e = [] \/ q6b e = [bsF e] \/ q6b e = [n1F e, 70] := by
 unfold q6b
 have h := qax e
 generalize q7u e = j at h
 rcases (by omega : j = 0 \/ j = 1 \/ j = 2 \/ j = 3 \/ j = 4) with h | h | h | h | h <;> subst h <;> simp
theorem r0x (e : Int) : 128 <= n1F e /\ n1F e < 0x110000 := ⟨of_decide_eq_true (List.all_eq_true.mp qgj _ (List.mem_range.mpr (by omega))), q7e _⟩
theorem qy0 (e : Int) : 128 <= n2F e /\ n2F e < 0x110000 := ⟨of_decide_eq_true (List.all_eq_true.mp qgj _ (List.mem_range.mpr (by omega))), q7e _⟩
theorem qx4 (e : Int) : 128 <= bsF e /\ bsF e < 0x110000 := ⟨of_decide_eq_true (List.all_eq_true.mp qkc _ (List.mem_range.mpr (by omega))), qqc _⟩
theorem qvy (e : Int) : 32 <= fmF e /\ fmF e ≠ 127 /\ fmF e < 0x110000 := of_decide_eq_true (List.all_eq_true.mp (List.all_eq_true.mp qp0 _ (qec e)) _ (List.mem_range.mpr (by omega)))
theorem qq6 (e : Int) : (∀ c ∈ valF e, 32 <= c /\ c ≠ 127 /\ c < 0x110000) /\ (valF e).length <= 3 := by
 have h1 := r0x e
 have h2 := qy0 e
 have h3 := qx4 e
 have h4 := qvy e
 unfold valF
 rcases qhd e with h | h | h | h | h <;> rw [h] <;> refine ⟨?_, by simp⟩ <;> intro c hc <;> simp at hc
 ·rcases hc with rfl | rfl <;> omega
 ·rcases hc with rfl | rfl | rfl <;> omega
 ·subst hc; omega
 ·rcases hc with rfl | rfl <;> omega
 ·rcases hc with rfl | rfl | rfl <;> omega
theorem qhs (e : Int) : ∃ c, qau e = [c] /\ (c ∈ [97, 98, 99, 100, 65, 66, 67, 68]) := by
 unfold qau
 have h : (e % 4 + e / 128 % 2 * 4).toNat < 8 := by omega
 generalize (e % 4 + e / 128 % 2 * 4).toNat = j at h
 refine ⟨_, rfl, ?_⟩
 rw [List.getD_eq_getElem?_getD, List.getElem?_eq_getElem (by simpa using h)]
 exact List.getElem_mem _
theorem qh3 (e : Int) : ascN (qau e) := by
 obtain ⟨c, h, hc⟩ := qhs e
 rw [h]
 refine ⟨fun d hd => ?_, by simp⟩
 simp at hd hc
 omega
theorem qd4 (j : Nat) (h : j < 4) : ([V.ref 3, .ref 4, .ref 5, .ref 6] : List V)[j]? = some (.ref (3 + j)) := by
 rcases (by omega : j = 0 \/ j = 1 \/ j = 2 \/ j = 3) with h | h | h | h <;> subst h <;> rfl
theorem qgt : ∀ j, j < 4 -> (chs "abcd").getD j 0 = 97 + j := by decide +kernel
theorem qn9 : ∀ j, j < 8 -> (chs "abcdABCD").getD j 0 = [97, 98, 99, 100, 65, 66, 67, 68].getD j 0 := by decide +kernel
theorem qa1 : (chs "abcd").length = 4 /\ (chs "abcdABCD").length = 8 := by decide +kernel
theorem NetAt.step {es : List Int} {s : Ev.St} {e : Int} (h : NetAt es s) (o : O) :
  NetAt (es ++ [e]) ((((s.set (3 + frF e) (.list ((q32 (frF e) es).map V.str ++ [.str (valF e)]))) ++ [o]).set 1 (.list ((es.map hdrF).map hdV ++ [hdV (hdrF e)]))).set 2 (.list ((es.map q19).map q1d ++ [q1d (q19 e)]))) := by
 have hf : frF e < 4 := by unfold frF; omega
 have hl := h.len
 constructor
 ·rw [List.getElem?_set_ne (by decide), List.getElem?_set_self (by simp; omega)]
  simp
 ·rw [List.getElem?_set_self (by simp; omega)]
  simp
 ·intro j hj
  rw [List.getElem?_set_ne (by omega), List.getElem?_set_ne (by omega), List.getElem?_append_left (by simp; omega)]
  by_cases hjf : frF e = j
  ·subst hjf
   rw [List.getElem?_set_self (by omega)]
   unfold q32
   rw [List.filter_append, List.map_append, List.map_append]
   simp
  ·rw [List.getElem?_set_ne (by omega), h.vl j hj]
   unfold q32
   rw [List.filter_append, List.filter_cons_of_neg (by simpa using hjf), List.filter_nil, List.append_nil]
 ·simp; omega
noncomputable def r5c (st : Ev.St) (sc : List (Str × NameKind)) (xs : List V) (ρ : Fr) (s : Ev.St) : Prop :=
 ∃ (vars : List (Str × V)) (rest : List (Int × Nat)) (ns : List Int), xs = rest.map (fun p => .tup [.int p.2, .int p.1]) /\ ρ = ⟨sc, vars, fun _ => none⟩ /\ s = O.list (ns.map V.int) :: st /\ ns.length = 7 /\ (∀ v ∈ ns, 0 <= v) /\
  vars.lookup ("numbers" : Str) = some (.ref 0) /\ vars.lookup ("table" : Str) = some (.hd 1) /\ vars.lookup ("roads" : Str) = some (.ref 2) /\ vars.lookup ("values" : Str) = some (.lst [.ref 3, .ref 4, .ref 5, .ref 6])
noncomputable def NetI (n0 : Int) (es : List Int) (sc : List (Str × NameKind)) (xs : List V) (ρ : Fr) (s : Ev.St) : Prop :=
 ∃ (vars : List (Str × V)) (done rest : List Int) (l : List V), xs = rest.map V.int /\ ρ = ⟨sc, vars, fun _ => none⟩ /\ es = done ++ rest /\ NetAt done s /\ s[0]? = some (.list (.int n0 :: l)) /\ l.length = 6 /\ (∀ v ∈ rest, 0 <= v) /\ done.length <= 6 /\ es.length = 6 /\
  vars.lookup ("numbers" : Str) = some (.ref 0) /\ vars.lookup ("table" : Str) = some (.hd 1) /\ vars.lookup ("roads" : Str) = some (.ref 2) /\ vars.lookup ("values" : Str) = some (.lst [.ref 3, .ref 4, .ref 5, .ref 6])
theorem qt8 (l : List Int) (k : Nat) : ((l.map V.int).zipIdx k).map (fun x => V.tup [.int x.2, x.1]) = (l.zipIdx k).map fun p => V.tup [.int p.2, .int p.1] := by
 induction l generalizing k with
 | nil => rfl
 | cons a l ih => simp only [List.map_cons, List.zipIdx_cons, ih]
theorem r55 {n : Nat} {script : List Int} {Q : V -> Ev.St -> Prop} (hsl : script.length <= 63)
  (q : ∀ n0 es s, 0 <= n0 -> (∀ v ∈ es, 0 <= v) -> es.length = 6 -> NetAt es s -> Q (.tup [.int n0, .hd 1, .ref 2, .lst [.ref 3, .ref 4, .ref 5, .ref 6]]) s) :
  W ((ctxN P03 (n + 5)).call (.fn "_law_net") [.lst (script.map V.int)] []) [] Q := by
 refine c_fn (d := fnDs (stm 70)) (by kernel_rfl!) (by kernel_rfl!) (q20 [("script", .lst (script.map V.int))] (by kernel_rfl!) (by kernel_rfl!) ?_)
 conv => arg 1; arg 2; whnf
 walk_at "w"
 refine W.of (a := .hd 1) (s := [O.list [.int 46411, .int 4100, .int 2713, .int 38, .int 6844, .int 62275, .int 1406], O.list []]) (by kernel_rfl!) ?_
 walk_at "w"
 refine ⟨_, qbu (by kernel_rfl!) (qq0 (q34 (by kernel_rfl!) (q34 (by kernel_rfl!) (q34 (by kernel_rfl!) (q34 (by kernel_rfl!) qqj))))), ?_⟩
 refine qwg (by kernel_rfl!) ?_
 refine r2g (q27 (v := .ty "enumerate") (by kernel_rfl!) (by kernel_rfl!)) (by kernel_rfl!) (by kernel_rfl!) ?_
 walk_at "w"
 have hcap : (script.map V.int).length <= cap := by unfold cap; simp; omega
 refine qk0 (a := (script.take (min (60 : Int).toNat script.length)).map V.int) ?_ ?_
 ·unfold cut
  rw [if_neg (by omega)]
  show (some (0 : Int).toNat).bind (fun x => (some (min (60 : Int).toNat (script.map V.int).length)).bind fun y => some (((script.map V.int).take y).drop x)) = _
  show some (((script.map V.int).take _).drop 0) = _
  rw [List.length_map, List.drop_zero, List.map_take]
 have hl60' : (script.take (min (60 : Int).toNat script.length)).length <= 63 := Nat.le_trans (List.length_take_le _ _) (by omega)
 generalize script.take (min (60 : Int).toNat script.length) = l60 at *
 have hl60 : (l60.map V.int).length <= cap := by unfold cap; rw [List.length_map]; omega
 refine qbw (q0q hl60 (by kernel_rfl!) ?_)
 walk_at "w"
 refine ⟨_, rfl, ?_⟩
 rw [qt8]
 refine q6i (r5c [O.list [], O.list [], O.list [], O.list [], O.list [], O.list []] (fnDs (stm 70)).sc.names) ?_ ?_ _ ?_
 ·rintro ρ s ⟨vars, rest, ns, hx, rfl, rfl, hlen, hpos, v1, v2, v3, v4⟩
  show W (q09 _ _ _) _ _
  match ns, hlen with
  | n0 :: es, hlen =>
  have hlen' : es.length = 6 := by simpa using hlen
  walk_at "w"
  refine qiw (a := es.map V.int) rfl ?_ ?_
  ·unfold cut
   rw [if_neg (by unfold cap; simp; omega)]
   show (some (min (1 : Int).toNat ((n0 :: es).map V.int).length)).bind (fun x => (some ((((n0 :: es).map V.int).length : Int)).toNat).bind fun y => some ((((n0 :: es).map V.int).take y).drop x)) = _
   have e1 : min (1 : Int).toNat ((n0 :: es).map V.int).length = 1 := by simp
   rw [e1]
   show some ((((n0 :: es).map V.int).take ((((n0 :: es).map V.int).length : Int)).toNat).drop 1) = _
   rw [Int.toNat_natCast, List.take_length]; rfl
  refine qbw (q0q (by unfold cap; simp; omega) (by kernel_rfl!) ?_)
  walk_at "w"
  refine q6i (NetI n0 es (fnDs (stm 70)).sc.names) ?_ ?_ _ ?_
  ·rintro ρ s ⟨vars, done, rest, l, hx, rfl, hes, hN, hs0, hl6, -, -, -, v1, v2, v3, v4⟩
   have : rest = [] := by simpa using hx.symm
   subst this
   rw [List.append_nil] at hes
   subst hes
   show W (q09 _ _ _) _ _
   walk_at "w"
   refine qlz hs0 (by unfold cap; simp; omega) (by decide) (by simp) (v := .int n0) rfl ?_
   walk_at "w"
   exact q n0 es s (hpos n0 (by simp)) (fun v hv => hpos v (by simp [hv])) hlen' hN
  ·rintro x xs ρ s ⟨vars, done, rest, l, hx, rfl, hes, hN, hs0, hl6, hpr, hd6, he6, v1, v2, v3, v4⟩
   cases rest with
   | nil => cases hx
   | cons e rest =>
    rw [List.map_cons] at hx
    injection hx with hx1 hx2
    subst hx1
    have he := hpr e (by simp)
    have hfr : frF e < 4 := by unfold frF; omega
    have hto : toF e < 4 := by unfold toF; omega
    have hsl := hN.len
    walk_at "w"
    refine qah [0, 1, 2, 0, 3, 1, 0, 4] rfl (by kernel_rfl!) (by omega) (by simp; omega) ?_
    walk_at "w"
    refine qg8 ?_
    walk_at "w"
    refine q2f ?_
    walk_at "w"
    refine q2f ?_
    walk_at "w"
    refine q2f ?_
    refine q2w (by unfold cap; simp) ?_
    walk_at "w"
    refine q2f ?_
    walk_at "w"
    refine q2w (by have : (chs "F").length = 1 := (by decide +kernel); unfold cap; simp [this]) ?_
    walk_at "w"
    rw [show chs "" = [] by decide +kernel, show chs "F" = [70] by decide +kernel]
    show ∃ v, q1o s (.tup [.str [n1F e], .str [n1F e, n2F e], .str [], .str [bsF e], .str [n1F e, 70]]) (.int (q7u e)) = some v /\ _
    have hk := qax e
    refine q7w [[n1F e], [n1F e, n2F e], [], [bsF e], [n1F e, 70]] rfl (by kernel_rfl!) (by omega) (by simp; omega) ?_
    rw [Int.toNat_natCast]
    walk_at "w"
    have hfi : (e % 4).toNat = frF e := rfl
    refine q2i (v := .ref (3 + frF e)) (by decide) (by omega) (by simp; omega) (by rw [hfi]; exact qd4 _ hfr) ?_
    have hv3 := hN.vl (frF e) hfr
    walk_at "w"
    have hs1 : q6b e = [[n1F e], [n1F e, n2F e], [], [bsF e], [n1F e, 70]].getD (q7u e) [] := rfl
    rw [<- hs1]
    refine q77 (by kernel_rfl!) (by omega) (by rw [qa1.1]; omega) ?_
    rw [show (chs "abcd").getD (e / 4 % 4).toNat 0 = 97 + toF e from qgt (toF e) hto]
    walk_at "w"
    refine qpx (qec e) ?_
    have hval := qq6 e
    have hve : valF e = q6b e ++ [q4x (97 + toF e) (e / 256 / 432 % 12).toNat] := rfl
    refine q2w (by rw [<- hve]; unfold cap; omega) ?_
    rw [<- hve]
    walk_at "w"
    have hvl : (q32 (frF e) done).length <= 6 := by unfold q32; rw [List.length_map]; exact Nat.le_trans (List.length_filter_le _ _) hd6
    refine q8d hv3 (by unfold cap; rw [List.length_map]; omega) ?_
    walk_at "w"
    refine q77 (by kernel_rfl!) (by omega) (by rw [qa1.2]; omega) ?_
    rw [show [(chs "abcdABCD").getD (e % 4 + e / 128 % 2 * 4).toNat 0] = qau e by rw [qn9 _ (by omega)]; rfl]
    walk_at "w"
    refine q2i (v := .ref (3 + frF e)) (by decide) (by omega) (by simp; omega) (by rw [hfi]; exact qd4 _ hfr) ?_
    walk_at "w"
    refine qap (by rw [List.getElem?_set_self (by omega)]) (by unfold cap; rw [List.length_map]; omega) ?_
    walk_at "w"
    refine r1g (by rw [List.getElem?_set_ne (by omega)]; exact hN.hd) (by unfold cap; simp; omega) (qh3 e).clean (fun c hc => ⟨(hval.1 c hc).1, (hval.1 c hc).2.1⟩) (by unfold cap; omega) (by rw [List.all_eq_true]; exact fun c hc => decide_eq_true (hval.1 c hc).2.2) ?_
    walk_at "w"
    have hr2 : (((s.set (3 + frF e) (.list ((q32 (frF e) done).map V.str ++ [.str (valF e)]))) ++ [O.list [V.str (valF e)]]).set 1 (.list ((done.map hdrF).map hdV ++ [hdV (qau e, valF e)])))[2]? = some (.list ((done.map q19).map q1d)) := by
     rw [List.getElem?_set_ne (by decide), List.getElem?_append_left (by simp; omega), List.getElem?_set_ne (by omega)]
     exact hN.rd
    refine qkr hr2 ?_
    walk_at "w"
    rw [show chs "" = [] by decide +kernel, show chs "f" = [102] by decide +kernel]
    show ∃ v, q1o _ (.tup [.str [], .str [], .str [], .str [bsF e], .str [102]]) (.int (q7u e)) = some v /\ _
    refine q7w [[], [], [], [bsF e], [102]] rfl (by kernel_rfl!) (by omega) (by simp; omega) ?_
    rw [Int.toNat_natCast]
    have hm1 : q2s e = [[], [], [], [bsF e], [102]].getD (q7u e) [] := rfl
    rw [<- hm1]
    walk_at "w"
    have e1 : (V.tup [.int (e % 4), .int (e / 4 % 4), .str (q2s e)]) = q1d (q19 e) := by
     unfold q1d q19
     show _ = V.tup [.int ((frF e : Nat) : Int), .int ((toF e : Nat) : Int), .str (q2s e)]
     rw [show ((frF e : Nat) : Int) = e % 4 by unfold frF; omega, show ((toF e : Nat) : Int) = e / 4 % 4 by unfold toF; omega]
    rw [e1]
    refine q8d hr2 (by unfold cap; simp; omega) ?_
    walk_at "w"
    refine ⟨rfl, rfl, _, done ++ [e], rest, l, hx2, rfl, by rw [hes]; simp, hN.step _, ?_, hl6, fun v hv => hpr v (by simp [hv]), ?_, he6, by walk_at "look", by walk_at "look", by walk_at "look", by walk_at "look"⟩
    ·rw [List.getElem?_set_ne (by decide), List.getElem?_set_ne (by decide), List.getElem?_append_left (by simp; omega), List.getElem?_set_ne (by omega)]
     exact hs0
    ·rw [hes] at he6
     simp at he6 ⊢
     omega
  ·refine ⟨_, [], es, es.map V.int, rfl, rfl, rfl, ?_, rfl, by simpa using hlen', fun v hv => hpos v (by simp [hv]), by decide, hlen', v1, v2, v3, v4⟩
   constructor
   ·rfl
   ·rfl
   ·intro j hj
    rcases (by omega : j = 0 \/ j = 1 \/ j = 2 \/ j = 3) with h | h | h | h <;> subst h <;> rfl
   ·simp
 ·rintro x xs ρ s ⟨vars, rest, ns, hx, rfl, rfl, hlen, hpos, v1, v2, v3, v4⟩
  cases rest with
  | nil => cases hx
  | cons p rest =>
   rw [List.map_cons] at hx
   injection hx with hx1 hx2
   subst hx1
   obtain ⟨x, k⟩ := p
   show W (qna _ _ _ (.tup [.int (k : Int), .int x]) _) _ _
   walk_at "w"
   have hk : ((k : Int) % 7).toNat < ns.length := by omega
   refine qlz (v := .int (ns[((k : Int) % 7).toNat])) rfl (by unfold cap; simp; omega) (by omega) (by simp; omega) (by rw [List.getElem?_map, List.getElem?_eq_getElem hk]; rfl) ?_
   walk_at "w"
   refine qxr rfl (by unfold cap; simp; omega) (by omega) (by simp; omega) ?_
   walk_at "w"
   refine ⟨rfl, rfl, _, rest, ns.set ((k : Int) % 7).toNat (ns[((k : Int) % 7).toNat] + x % 10 ^ (12 : Int).toNat), hx2, rfl, ?_, by rw [List.length_set]; exact hlen, ?_, by walk_at "look", by walk_at "look", by walk_at "look", by walk_at "look"⟩
   ·rw [List.map_set]; rfl
   ·intro v hv
    rcases List.mem_or_eq_of_mem_set hv with hv | hv
    ·exact hpos v hv
    ·subst hv
     have h1 := hpos _ (List.getElem_mem hk)
     have h2 := Int.emod_nonneg x (show (10 : Int) ^ (12 : Int).toNat ≠ 0 by decide)
     omega
 ·exact ⟨_, l60.zipIdx 0, [46411, 4100, 2713, 38, 6844, 62275, 1406], rfl, rfl, rfl, rfl, by decide, q2e (by kernel_rfl!) (q2e (by kernel_rfl!) (q2e (by kernel_rfl!) q24)), q2e (by kernel_rfl!) (q2e (by kernel_rfl!) q24), q2e (by kernel_rfl!) q24, q24⟩
noncomputable def jn (s : List Nat) (p : List Nat) (ps : List (List Nat)) : List Nat := p ++ ps.flatMap fun q => s ++ q
theorem qf7 (s : List Nat) : ∀ (p : Str) (ps : List Str), (Str.join (S s) (p :: ps)).cps.toList = jn s p.cps.toList (ps.map fun q => q.cps.toList)
 | p, [] => by
  show p.cps.toList = p.cps.toList ++ []
  simp
 | p, q :: ps => by
  have ih := qf7 s q ps
  show (p ++ S s ++ Str.join (S s) (q :: ps)).cps.toList = _
  simp only [Str.cps_append, Array.toList_append]
  rw [ih]
  unfold jn
  simp [S]
theorem qot {x y : Str} {a b : List Nat} (h : x.cps.toList = a ++ y.cps.toList ++ b) : StrLaws.At x y x.length a.length := by
 refine ⟨?_, ?_⟩
 ·have := congrArg List.length h
  simp [Str.length] at this ⊢
  omega
 ·show (x.cps.extract a.length (a.length + y.length) == y.cps) = true
  rw [beq_iff_eq]
  apply Array.toList_inj.mp
  rw [Array.toList_extract, h]
  simp [Str.length, List.extract_eq_take_drop]
theorem qjt (w old new : List Nat) (hold : old ≠ []) : ((Txt.replace (S w) (S old) (S new)).cps.toList = w /\ ∀ a b, w ≠ a ++ old ++ b) \/
  ∃ p ps, ps ≠ [] /\ w = jn old p ps /\ (Txt.replace (S w) (S old) (S new)).cps.toList = jn new p ps := by
 have hlen : ((S old).length == 0) = false := by
  cases old with
  | nil => exact absurd rfl hold
  | cons a l => rfl
 rcases StrLaws.occ_head (S w) (S old) ((S w).length + 1) (by omega) with ⟨h0, hn⟩ | ⟨i, r, h0, -, -⟩
 ·refine .inl ⟨?_, fun a b h => ?_⟩
  ·unfold Txt.replace
   rw [h0]
   simp [S]
  ·exact hn a.length (qot (x := S w) (y := S old) (a := a) (b := b) (by simpa [S] using h))
 ·obtain ⟨f, hc⟩ := StrLaws.occ_chain (S w) (S old) ((S w).length + 1)
  refine .inr ?_
  have hj := StrLaws.join_partsFrom (S w) (S old) _ 0 f hc
  rw [StrLaws.sub_whole] at hj
  have hr : Txt.replace (S w) (S old) (S new) = Str.join (S new) (StrLaws.partsFrom (S w) (S old).length 0 (Builtin.Str.occurrences (S w) (S old) 0 (S w).length ((S w).length + 1))) := by
   unfold Txt.replace
   rw [hlen, Bool.false_and, Bool.or_false, if_neg (by rw [h0]; simp), StrLaws.glued_eq_join, StrLaws.partsBetween_eq]
  rw [hr]
  rw [h0] at hj ⊢
  obtain ⟨p, q, e⟩ := StrLaws.partsFrom_ne (S w) (S old).length (i + (S old).length) r
  have e2 : StrLaws.partsFrom (S w) (S old).length 0 (i :: r) = Builtin.Str.strSub (S w) 0 i :: p :: q := by
   show _ :: StrLaws.partsFrom (S w) (S old).length (i + (S old).length) r = _
   rw [e]
  rw [e2] at hj ⊢
  refine ⟨(Builtin.Str.strSub (S w) 0 i).cps.toList, (p :: q).map fun q => q.cps.toList, by simp, ?_, qf7 new _ _⟩
  rw [<- qf7, hj]
  simp [S]
noncomputable def ok16 (vs : List Nat) : Prop := ∀ v ∈ vs, v < 16
noncomputable def qew (cl : List Nat) (c : Nat) (vs : List Nat) : List Nat := if c = 126 then vs.map (15 - ·) else vs.map (cl.getD · 0)
noncomputable def semW (cl : List Nat) (w vs : List Nat) : List Nat := w.foldr (qew cl) vs
structure Kur (cl : List Nat) : Prop where
 lt : ∀ v, v < 16 -> cl.getD v 0 < 16
 kk : ∀ v, v < 16 -> cl.getD (cl.getD v 0) 0 = cl.getD v 0
 k7 : ∀ v, v < 16 -> cl.getD (15 - cl.getD (15 - cl.getD (15 - cl.getD v 0) 0) 0) 0 = cl.getD (15 - cl.getD v 0) 0
theorem qu2 {cl : List Nat} (h : Kur cl) {c : Nat} {vs : List Nat} (hv : ok16 vs) : ok16 (qew cl c vs) := by
 unfold qew
 split
 ·intro v hv'
  obtain ⟨u, hu, rfl⟩ := List.mem_map.mp hv'
  omega
 ·intro v hv'
  obtain ⟨u, hu, rfl⟩ := List.mem_map.mp hv'
  exact h.lt u (hv u hu)
theorem qge {cl : List Nat} (h : Kur cl) {vs : List Nat} (hv : ok16 vs) : ∀ w, ok16 (semW cl w vs)
 | [] => hv
 | c :: w => qu2 h (qge h hv w)
theorem q5b (cl : List Nat) (a b vs : List Nat) : semW cl (a ++ b) vs = semW cl a (semW cl b vs) := List.foldr_append ..
theorem qlb {f g : Nat -> Nat} {vs : List Nat} (h : ∀ v ∈ vs, f v = g v) : vs.map f = vs.map g := List.map_congr_left h
noncomputable def Same (cl : List Nat) (a b : List Nat) : Prop := ∀ vs, ok16 vs -> semW cl a vs = semW cl b vs
theorem qtf {cl : List Nat} (h : Kur cl) : Same cl [126, 126] [] := by
 intro vs hv
 show (vs.map (15 - ·)).map (15 - ·) = vs
 rw [List.map_map]
 have : vs.map ((15 - ·) ∘ (15 - ·)) = vs.map id := qlb fun v h => by have := hv v h; show 15 - (15 - v) = v; omega
 rw [this, List.map_id]
theorem qr7 {cl : List Nat} (h : Kur cl) : Same cl [107, 107] [107] := by
 intro vs hv
 show (vs.map (cl.getD · 0)).map (cl.getD · 0) = vs.map (cl.getD · 0)
 rw [List.map_map]
 exact qlb fun v hm => h.kk v (hv v hm)
theorem qto {cl : List Nat} (h : Kur cl) : Same cl [107, 126, 107, 126, 107, 126, 107] [107, 126, 107] := by
 intro vs hv
 show ((((((vs.map (cl.getD · 0)).map (15 - ·)).map (cl.getD · 0)).map (15 - ·)).map (cl.getD · 0)).map (15 - ·)).map (cl.getD · 0) = ((vs.map (cl.getD · 0)).map (15 - ·)).map (cl.getD · 0)
 simp only [List.map_map]
 exact qlb fun v hm => h.k7 v (hv v hm)
theorem qqp {cl : List Nat} (h : Kur cl) {a b : List Nat} (hs : Same cl a b) (p : List Nat) : ∀ ps, Same cl (jn a p ps) (jn b p ps) := by
 have e : ∀ ps : List (List Nat), Same cl (ps.flatMap fun q => a ++ q) (ps.flatMap fun q => b ++ q) := by
  intro ps
  induction ps with
  | nil => exact fun _ _ => rfl
  | cons q ps ih =>
   intro vs hv
   rw [List.flatMap_cons, List.flatMap_cons, q5b, q5b, q5b, q5b, ih vs hv]
   exact hs _ (qge h (qge h hv _) _)
 intro ps vs hv
 unfold jn
 rw [q5b, q5b, e ps vs hv]
theorem qp9 (s p : List Nat) (ps : List (List Nat)) : (jn s p ps).length = p.length + ps.length * s.length + (ps.map List.length).sum := by
 unfold jn
 rw [List.length_append]
 induction ps with
 | nil => simp
 | cons q ps ih =>
  rw [List.flatMap_cons, List.length_append, List.length_append, List.map_cons, List.sum_cons, List.length_cons, Nat.add_mul]
  omega
theorem qv4 {a b p : List Nat} (hb : wrd b) {ps : List (List Nat)} (h : wrd (jn a p ps)) : wrd (jn b p ps) := by
 intro c hc
 unfold jn at hc h
 rcases List.mem_append.mp hc with hc | hc
 ·exact h c (List.mem_append.mpr (.inl hc))
 ·obtain ⟨q, hq, hc⟩ := List.mem_flatMap.mp hc
  rcases List.mem_append.mp hc with hc | hc
  ·exact hb c hc
  ·exact h c (List.mem_append.mpr (.inr (List.mem_flatMap.mpr ⟨q, hq, List.mem_append.mpr (.inr hc)⟩)))
noncomputable def nooc (w old : List Nat) : Prop := ∀ a b, w ≠ a ++ old ++ b
theorem qj9 {w old new : List Nat} (hold : old ≠ []) (hln : new.length < old.length) (hnw : wrd new) (hw : wrd w) (hs : ∀ cl, Kur cl -> Same cl old new) :
  wrd (Txt.replace (S w) (S old) (S new)).cps.toList /\ (∀ cl, Kur cl -> Same cl w (Txt.replace (S w) (S old) (S new)).cps.toList) /\
   (((Txt.replace (S w) (S old) (S new)).cps.toList = w /\ nooc w old) \/ (Txt.replace (S w) (S old) (S new)).cps.toList.length < w.length) := by
 rcases qjt w old new hold with ⟨h1, h2⟩ | ⟨p, ps, hne, h1, h2⟩
 ·rw [h1]
  exact ⟨hw, fun _ _ _ _ => rfl, .inl ⟨rfl, h2⟩⟩
 ·rw [h2]
  subst h1
  refine ⟨qv4 hnw hw, fun cl h => qqp h (hs cl h) p ps, .inr ?_⟩
  rw [qp9, qp9]
  have h3 : 0 < ps.length := List.length_pos_iff.mpr hne
  have h4 : ps.length * new.length < ps.length * old.length := Nat.mul_lt_mul_of_pos_left hln h3
  omega
theorem qpy (x : Str) : S x.cps.toList = x := by
 obtain ⟨⟨l⟩⟩ := x
 rfl
theorem lit1 : ("~~" : Str) = S [126, 126] /\ ("" : Str) = S [] := ⟨by decide +kernel, by decide +kernel⟩
theorem lit2 : ("kk" : Str) = S [107, 107] /\ ("k" : Str) = S [107] := ⟨by decide +kernel, by decide +kernel⟩
theorem lit3 : ("k~k~k~k" : Str) = S [107, 126, 107, 126, 107, 126, 107] /\ ("k~k" : Str) = S [107, 126, 107] := ⟨by decide +kernel, by decide +kernel⟩
structure Flat (w : List Nat) : Prop where
 a : nooc w [126, 126]
 b : nooc w [107, 107]
 c : nooc w [107, 126, 107, 126, 107, 126, 107]
theorem r1u {w : List Nat} (hw : wrd w) (hl : w.length <= 100) : ∃ r, sh1 w = some r /\ wrd r /\ (∀ cl, Kur cl -> Same cl w r) /\ ((r = w /\ Flat w) \/ r.length < w.length) := by
 have h126 : wrd [] := fun c h => nomatch h
 have h107 : wrd [107] := by intro c h; simp at h; exact .inr h
 have h3 : wrd [107, 126, 107] := by intro c h; simp at h; omega
 obtain ⟨a1, a2, a3⟩ := qj9 (old := [126, 126]) (new := []) (by simp) (by simp) h126 hw fun cl h => qtf h
 rw [<- lit1.1, <- lit1.2] at a1 a2 a3
 have e1 := qpy (Txt.replace (S w) "~~" "")
 generalize hr1 : (Txt.replace (S w) "~~" "").cps.toList = r1 at a1 a2 a3 e1
 obtain ⟨b1, b2, b3⟩ := qj9 (old := [107, 107]) (new := [107]) (by simp) (by simp) h107 a1 fun cl h => qr7 h
 rw [<- lit2.1, <- lit2.2, e1] at b1 b2 b3
 have e2 := qpy (Txt.replace (Txt.replace (S w) "~~" "") "kk" "k")
 generalize hr2 : (Txt.replace (Txt.replace (S w) "~~" "") "kk" "k").cps.toList = r2 at b1 b2 b3 e2
 obtain ⟨c1, c2, c3⟩ := qj9 (old := [107, 126, 107, 126, 107, 126, 107]) (new := [107, 126, 107]) (by simp) (by simp) h3 b1 fun cl h => qto h
 rw [<- lit3.1, <- lit3.2, e2] at c1 c2 c3
 generalize hr3 : (Txt.replace (Txt.replace (Txt.replace (S w) "~~" "") "kk" "k") "k~k~k~k" "k~k").cps.toList = r3 at c1 c2 c3
 have l1 : r1.length <= w.length := by
  rcases a3 with h | h
  ·rw [h.1]; exact Nat.le_refl _
  ·omega
 have l2 : r2.length <= r1.length := by
  rcases b3 with h | h
  ·rw [h.1]; exact Nat.le_refl _
  ·omega
 have l3 : r3.length <= r2.length := by
  rcases c3 with h | h
  ·rw [h.1]; exact Nat.le_refl _
  ·omega
 refine ⟨r3, ?_, c1, fun cl h vs hv => (a2 cl h vs hv).trans ((b2 cl h vs hv).trans (c2 cl h vs hv)), ?_⟩
 ·unfold sh1
  rw [hr1, hr2, hr3, if_pos]
  refine ⟨by omega, by omega, by omega, ?_⟩
  rw [List.all_eq_true]
  intro c hc
  have := c1 c hc
  exact decide_eq_true (by omega)
 ·rcases a3 with ⟨h1, n1⟩ | h
  ·rcases b3 with ⟨h2, n2⟩ | h
   ·rcases c3 with ⟨h3, n3⟩ | h
    ·subst h1
     subst h2
     exact .inl ⟨h3, n1, n2, n3⟩
    ·exact .inr (by omega)
   ·exact .inr (by omega)
  ·exact .inr (by omega)
theorem qmo {w : List Nat} (h : sh1 w = some w) : ∀ n, shN n w = some w
 | 0 => rfl
 | n + 1 => by
  show (sh1 w).bind (shN n) = _
  rw [h]
  exact qmo h n
theorem qpl : ∀ (n : Nat) (w : List Nat), wrd w -> w.length <= n -> n <= 100 -> ∃ r, shN n w = some r /\ wrd r /\ Flat r /\ ∀ cl, Kur cl -> Same cl w r
 | 0, w, hw, hl, _ => by
  have : w = [] := List.eq_nil_of_length_eq_zero (by omega)
  subst this
  exact ⟨[], rfl, hw, ⟨fun a b h => by simp at h, fun a b h => by simp at h, fun a b h => by simp at h⟩, fun _ _ _ _ => rfl⟩
 | n + 1, w, hw, hl, hn => by
  obtain ⟨r, h1, h2, h3, h4⟩ := r1u hw (by omega)
  rcases h4 with ⟨rfl, hf⟩ | h4
  ·exact ⟨r, qmo h1 _, hw, hf, fun _ _ _ _ => rfl⟩
  ·obtain ⟨r', i1, i2, i3, i4⟩ := qpl n r h2 (by omega) (by omega)
   refine ⟨r', ?_, i2, i3, fun cl h vs hv => (h3 cl h vs hv).trans (i4 cl h vs hv)⟩
   show (sh1 w).bind (shN n) = _
   rw [h1]
   exact i1
noncomputable def qhb : List (List Nat) := [[], [107], [126, 107, 126], [107, 126, 107, 126], [126, 107, 126, 107], [107, 126, 107, 126, 107], [126, 107, 126, 107, 126, 107, 126]]
noncomputable def odd7 : List (List Nat) := [[126], [126, 107], [107, 126], [126, 107, 126, 107, 126], [107, 126, 107], [126, 107, 126, 107, 126, 107], [107, 126, 107, 126, 107, 126]]
noncomputable def ws14 : List (List Nat) := qhb ++ odd7
noncomputable def altL : Nat -> Nat -> List Nat
 | _, 0 => []
 | a, n + 1 => a :: altL (233 - a) n
theorem qbp {c : Nat} {w old : List Nat} (h : nooc (c :: w) old) : nooc w old := fun a b e => h (c :: a) b (by rw [e]; rfl)
theorem qq1 : ∀ (w : List Nat) (a : Nat), wrd (a :: w) -> nooc (a :: w) [126, 126] -> nooc (a :: w) [107, 107] -> a :: w = altL a (w.length + 1)
 | [], a, _, _, _ => rfl
 | b :: w, a, hw, h1, h2 => by
  have ha := hw a (by simp)
  have hb := hw b (by simp)
  have e : b = 233 - a := by
   rcases ha with rfl | rfl <;> rcases hb with rfl | rfl
   ·exact absurd rfl (h1 [] w)
   ·rfl
   ·rfl
   ·exact absurd rfl (h2 [] w)
  have ih := qq1 w b (fun c hc => hw c (by simp [hc])) (qbp h1) (qbp h2)
  show a :: b :: w = a :: altL (233 - a) (w.length + 1)
  rw [ih, e]
theorem qt3 {r : List Nat} (hw : wrd r) (h : Flat r) : r ∈ ws14 := by
 cases r with
 | nil => decide
 | cons a w =>
  have e := qq1 w a hw h.a h.b
  have hc := h.c
  rw [e] at hc ⊢
  generalize w.length = n at hc ⊢
  rcases hw a (by simp) with rfl | rfl
  ·rcases (show n = 0 \/ n = 1 \/ n = 2 \/ n = 3 \/ n = 4 \/ n = 5 \/ n = 6 \/ ∃ m, n = m + 7 from if h : n < 7 then by omega else .inr (.inr (.inr (.inr (.inr (.inr (.inr ⟨n - 7, by omega⟩))))))) with rfl | rfl | rfl | rfl | rfl | rfl | rfl | ⟨m, rfl⟩
   all_goals first | decide | exact absurd rfl (hc [126] (altL 126 m))
  ·rcases (show n = 0 \/ n = 1 \/ n = 2 \/ n = 3 \/ n = 4 \/ n = 5 \/ ∃ m, n = m + 6 from if h : n < 6 then by omega else .inr (.inr (.inr (.inr (.inr (.inr ⟨n - 6, by omega⟩)))))) with rfl | rfl | rfl | rfl | rfl | rfl | ⟨m, rfl⟩
   all_goals first | decide | exact absurd rfl (hc [] (altL 126 m))
theorem q6j {w : List Nat} (hw : wrd w) (hl : w.length <= 12) : ∃ r, shN 12 w = some r /\ r ∈ ws14 /\ ∀ cl, Kur cl -> Same cl w r := by
 obtain ⟨r, h1, h2, h3, h4⟩ := qpl 12 w hw hl (by decide)
 exact ⟨r, h1, qt3 h2 h3, h4⟩
noncomputable def q23 : List Nat -> Bool
 | a :: b :: _ => (a == 60 && (b == 60 || b == 61)) || (a == 62 && (b == 61 || b == 62)) || (a != 126 && a != 60 && a != 62 && a != 120 && a != 59 && decide (a < 128))
 | [a] => decide (a < 128)
 | [] => false
theorem qo3 : tkV.all (fun p => q23 p.1) = true := by decide +kernel
theorem qpt {s : List Nat} (h : q23 s = false) : qdk s = false := by
 unfold qdk
 rw [List.any_eq_false]
 intro p hp e
 have h1 := List.all_eq_true.mp qo3 p hp
 have h2 : p.1 = s := eq_of_beq e
 rw [h2, h] at h1
 cases h1
noncomputable def TT (l : List Nat) : Prop := (∀ j, q23 ((l.drop j).take 2) = false /\ q23 ((l.drop j).take 3) = false) /\ ∃ a r, l = a :: r /\ a ≠ 61 /\ a ≠ 62
theorem qgo {c : Nat} {l : List Nat} (hc : c = 126 \/ c = 120 \/ c = 59) (h : TT l) : TT (c :: l) := by
 refine ⟨fun j => ?_, c, l, rfl, by omega, by omega⟩
 cases j with
 | succ j => exact h.1 j
 | zero =>
  obtain ⟨a, r, rfl, -, -⟩ := h.2
  rcases hc with rfl | rfl | rfl <;> exact ⟨by cases r <;> simp [q23], by cases r <;> simp [q23]⟩
theorem qv1 {l : List Nat} (h : TT l) : TT (60 :: 62 :: l) := by
 refine ⟨fun j => ?_, 60, 62 :: l, rfl, by decide, by decide⟩
 obtain ⟨a, r, e, h1, h2⟩ := h.2
 match j with
 | j + 2 => exact h.1 j
 | 0 => subst e; exact ⟨by simp [q23], by simp [q23]⟩
 | 1 => subst e; exact ⟨by simp [q23, h1, h2], by cases r <;> simp [q23, h1, h2]⟩
theorem qur {b : Nat} (hb : 128 <= b) : TT [b] := by
 refine ⟨fun j => ?_, b, [], rfl, by omega, by omega⟩
 match j with
 | 0 => exact ⟨by simp [q23]; omega, by simp [q23]; omega⟩
 | j + 1 => exact ⟨by simp [q23], by simp [q23]⟩
theorem ql0 {l : List Nat} (h : TT l) : ∀ {w : List Nat}, wrd w -> TT (w.flatMap sgn ++ l)
 | [], _ => h
 | c :: w, hw => by
  have ih := ql0 h (w := w) fun d hd => hw d (by simp [hd])
  rw [List.flatMap_cons, List.append_assoc]
  rcases hw c (by simp) with rfl | rfl
  ·exact qgo (.inl rfl) ih
  ·exact qv1 ih
theorem qqq {w l : List Nat} (hw : wrd w) (h : TT l) : TT (q1t w ++ l) := by
 unfold q1t
 rw [List.append_assoc]
 exact ql0 (qgo (.inr (.inl rfl)) (qgo (.inr (.inr rfl)) h)) hw
theorem qgn {l : List Nat} (h : TT l) : ∀ {ws : List (List Nat)}, (∀ w ∈ ws, wrd w) -> TT (ws.flatMap q1t ++ l)
 | [], _ => h
 | w :: ws, hw => by
  rw [List.flatMap_cons, List.append_assoc]
  exact qqq (hw w (by simp)) (qgn h fun v hv => hw v (by simp [hv]))
noncomputable def numW (c : Nat) : List Int := if c = 126 then [31] else [20, 21]
noncomputable def rowW (w : List Nat) : List Int := w.flatMap numW ++ [256, 13]
noncomputable def rowZ (w : List Nat) : List Int := w.flatMap numW ++ [256, 255, 0]
theorem q3i : numC 126 = 31 /\ numC 60 = 20 /\ numC 62 = 21 /\ numC 120 = 256 /\ numC 59 = 13 := by decide +kernel
theorem qlr : (List.range 16).all (fun r => numC (besF r) == 255) = true := by decide +kernel
theorem qmn {w : List Nat} (hw : wrd w) : ((w.flatMap sgn).map numC) = w.flatMap numW := by
 induction w with
 | nil => rfl
 | cons c w ih =>
  rw [List.flatMap_cons, List.map_append, ih (fun d hd => hw d (by simp [hd])), List.flatMap_cons]
  congr 1
  rcases hw c (by simp) with rfl | rfl
  ·show [numC 126] = [31]; rw [q3i.1]
  ·show [numC 60, numC 62] = [20, 21]; rw [q3i.2.1, q3i.2.2.1]
theorem q7k {done : List (List Int)} : ∀ {l cur : List Int}, (∀ x ∈ l, x ≠ 13) -> l.foldl q2g (done, cur) = (done, cur ++ l)
 | [], cur, _ => by simp
 | x :: l, cur, h => by
  have hx := h x (by simp)
  rw [List.foldl_cons]
  have : q2g (done, cur) x = (done, cur ++ [x]) := by unfold q2g; rw [if_neg hx]
  rw [this, q7k fun y hy => h y (by simp [hy])]
  simp
theorem qk7 {w : List Nat} : ∀ x ∈ w.flatMap numW, x = 31 \/ x = 20 \/ x = 21 := by
 intro x hx
 obtain ⟨c, hc, hx⟩ := List.mem_flatMap.mp hx
 unfold numW at hx
 split at hx <;> simp at hx <;> omega
theorem qjm {done : List (List Int)} {w : List Nat} (hw : wrd w) : ((q1t w).map numC).foldl q2g (done, []) = (done ++ [rowW w], []) := by
 unfold q1t
 have e := q7k (done := done) (l := w.flatMap numW) (cur := []) (fun x hx => by have := qk7 x hx; omega)
 rw [List.map_append, qmn hw, List.foldl_append, e]
 show q2g (q2g (done, [] ++ w.flatMap numW) (numC 120)) (numC 59) = _
 rw [q3i.2.2.2.1, q3i.2.2.2.2]
 unfold rowW q2g
 simp
theorem q9j : ∀ {ws : List (List Nat)} {done : List (List Int)}, (∀ w ∈ ws, wrd w) -> ((ws.flatMap q1t).map numC).foldl q2g (done, []) = (done ++ ws.map rowW, [])
 | [], done, _ => by simp
 | w :: ws, done, hw => by
  rw [List.flatMap_cons, List.map_append, List.foldl_append, qjm (hw w (by simp)), q9j fun v hv => hw v (by simp [hv])]
  simp
theorem u_eq {ws : List (List Nat)} {w : List Nat} {b : Nat} : ((ws ++ [w]).flatMap q1t).dropLast ++ [b] = ws.flatMap q1t ++ (w.flatMap sgn ++ [120, b]) := by
 rw [List.flatMap_append]
 have : [w].flatMap q1t = (w.flatMap sgn ++ [120]) ++ [59] := by simp [q1t]
 rw [this, <- List.append_assoc, List.dropLast_concat]
 simp
theorem quk {ws : List (List Nat)} {w : List Nat} {r : Nat} (hr : r < 16) (hws : ∀ w ∈ ws, wrd w) (hw : wrd w) : qk4 (((ws ++ [w]).flatMap q1t).dropLast ++ [besF r]) = ws.map rowW ++ [rowZ w] := by
 have hb : numC (besF r) = 255 := eq_of_beq (List.all_eq_true.mp qlr r (List.mem_range.mpr hr))
 have e : (((((ws ++ [w]).flatMap q1t).dropLast ++ [besF r]).map numC ++ [0]).foldl q2g ([], [])) = (ws.map rowW, rowZ w) := by
  rw [u_eq, List.map_append, List.append_assoc, List.foldl_append, q9j hws, List.map_append, qmn hw, List.append_assoc, q7k]
  ·show ([] ++ ws.map rowW, [] ++ (w.flatMap numW ++ ([numC 120, numC (besF r)] ++ [0]))) = _
   rw [q3i.2.2.2.1, hb]
   simp [rowZ]
  ·intro x hx
   rcases List.mem_append.mp hx with hx | hx
   ·have := qk7 x hx; omega
   ·simp [q3i.2.2.2.1, hb] at hx; omega
 unfold qk4
 rw [e]
theorem qre {ws : List (List Nat)} {w : List Nat} {r : Nat} (hr : r < 16) (hws : ∀ w ∈ ws, wrd w) (hw : wrd w) : ∀ j, qdk (((((ws ++ [w]).flatMap q1t).dropLast ++ [besF r]).drop j).take 2) = false /\ qdk (((((ws ++ [w]).flatMap q1t).dropLast ++ [besF r]).drop j).take 3) = false := by
 have hb : 128 <= besF r := of_decide_eq_true (List.all_eq_true.mp qkc r (List.mem_range.mpr hr))
 have h : TT (((ws ++ [w]).flatMap q1t).dropLast ++ [besF r]) := by
  rw [u_eq]
  exact qgn (ql0 (qgo (.inr (.inl rfl)) (qur hb)) hw) hws
 intro j
 exact ⟨qpt (h.1 j).1, qpt (h.1 j).2⟩
theorem qpw {w : List Nat} : ∀ c ∈ w.flatMap sgn, c = 126 \/ c = 60 \/ c = 62 := by
 intro x hx
 obtain ⟨c, hc, hx⟩ := List.mem_flatMap.mp hx
 unfold sgn at hx
 split at hx <;> simp at hx <;> omega
theorem qs0 {ws : List (List Nat)} {w : List Nat} {r : Nat} (hr : r < 16) : ∀ c ∈ ((ws ++ [w]).flatMap q1t).dropLast ++ [besF r], c = 120 \/ (0 < numC c /\ numC c < 256) := by
 have hb : numC (besF r) = 255 := eq_of_beq (List.all_eq_true.mp qlr r (List.mem_range.mpr hr))
 have hp := q3i
 have hc : ∀ c, c = 126 \/ c = 60 \/ c = 62 \/ c = 120 \/ c = 59 -> c = 120 \/ (0 < numC c /\ numC c < 256) := by
  intro c h
  rcases h with rfl | rfl | rfl | rfl | rfl
  ·right; omega
  ·right; omega
  ·right; omega
  ·left; rfl
  ·right; omega
 intro c h
 rw [u_eq] at h
 rcases List.mem_append.mp h with h | h
 ·obtain ⟨v, hv, h⟩ := List.mem_flatMap.mp h
  unfold q1t at h
  rcases List.mem_append.mp h with h | h
  ·have := qpw c h; exact hc c (by omega)
  ·simp at h; exact hc c (by omega)
 ·rcases List.mem_append.mp h with h | h
  ·have := qpw c h; exact hc c (by omega)
  ·simp at h
   rcases h with h | h
   ·exact .inl h
   ·subst h; right; omega
noncomputable def bt (R : List Nat) (x y : Nat) : Bool := bit (R.getD x 0) y
theorem quz : ∀ a : Nat, a < 16 -> ∀ b : Nat, b < 16 -> ∀ y : Nat, y < 4 -> bit (a ||| b) y = (bit a y || bit b y) := by decide +kernel
theorem qb7 {R : List Nat} (h : msk R) {k x y : Nat} (hk : k < 4) (hx : x < 4) (hy : y < 4) : bt (warS R k) x y = (bt R x y || (bt R x k && bt R k y)) := by
 have e : (warS R k).getD x 0 = (bif bit (R.getD x 0) k then R.getD x 0 ||| R.getD k 0 else R.getD x 0) := by
  unfold warS
  have hx' : x < R.length := by rw [h.1]; exact hx
  simp only [List.getD_eq_getElem?_getD, List.getElem?_map, List.getElem?_eq_getElem hx']
  rfl
 unfold bt
 rw [e]
 cases hb : bit (R.getD x 0) k
 ·simp
 ·show bit (R.getD x 0 ||| R.getD k 0) y = _
  rw [quz _ (q1n h hx) _ (q1n h hk) y hy, Bool.true_and]
noncomputable def Thr (R : List Nat) (k : Nat) : Prop := ∀ j, j < k -> ∀ x, x < 4 -> ∀ z, z < 4 -> bt R x j = true -> bt R j z = true -> bt R x z = true
theorem q6m {R : List Nat} (h : msk R) {k : Nat} (hk : k < 4) (t : Thr R k) : Thr (warS R k) (k + 1) := by
 intro j hj x hx z hz h1 h2
 have hj4 : j < 4 := by omega
 rw [qb7 h hk hx hj4] at h1
 rw [qb7 h hk hj4 hz] at h2
 rw [qb7 h hk hx hz]
 have hor : ∀ {a b : Bool}, (a || b) = true -> a = true \/ b = true := fun {a b} h => (Bool.or_eq_true _ _).mp h
 have hand : ∀ {a b : Bool}, (a && b) = true -> a = true /\ b = true := fun {a b} h => (Bool.and_eq_true _ _).mp h
 rcases Nat.lt_or_ge j k with hjk | hjk
 ·rcases hor h1 with h1 | h1
  ·rcases hor h2 with h2 | h2
   ·rw [t j hjk x hx z hz h1 h2, Bool.true_or]
   ·obtain ⟨h2, h3⟩ := hand h2
    rw [t j hjk x hx k hk h1 h2, h3]; simp
  ·obtain ⟨h0, h1⟩ := hand h1
   rcases hor h2 with h2 | h2
   ·rw [h0, t j hjk k hk z hz h1 h2]; simp
   ·obtain ⟨h2, h3⟩ := hand h2
    rw [h0, h3]; simp
 ·have : j = k := by omega
  subst this
  have a1 : bt R x j = true := by rcases hor h1 with h1 | h1; exact h1; exact (hand h1).1
  have a2 : bt R j z = true := by rcases hor h2 with h2 | h2; exact h2; exact (hand h2).2
  rw [a1, a2]; simp
theorem qja (R : List Nat) : war R = warS (warS (warS (warS R 0) 1) 2) 3 := rfl
theorem qkl {R : List Nat} (h : msk R) : Thr (war R) 4 := by
 rw [qja]
 have h1 := q17 h (y := 0) (by decide)
 have h2 := q17 h1 (y := 1) (by decide)
 have h3 := q17 h2 (y := 2) (by decide)
 exact q6m h3 (by decide) (q6m h2 (by decide) (q6m h1 (by decide) (q6m h (by decide) (fun j hj => by omega))))
theorem q6t {R : List Nat} (h : msk R) {k x y : Nat} (hk : k < 4) (hx : x < 4) (hy : y < 4) (hb : bt R x y = true) : bt (warS R k) x y = true := by
 rw [qb7 h hk hx hy, hb, Bool.true_or]
theorem qf2 {R : List Nat} (h : msk R) {x y : Nat} (hx : x < 4) (hy : y < 4) (hb : bt R x y = true) : bt (war R) x y = true := by
 rw [qja]
 have h1 := q17 h (y := 0) (by decide)
 have h2 := q17 h1 (y := 1) (by decide)
 have h3 := q17 h2 (y := 2) (by decide)
 exact q6t h3 (by decide) hx hy (q6t h2 (by decide) hx hy (q6t h1 (by decide) hx hy (q6t h (by decide) hx hy hb)))
noncomputable def Cls (R : List Nat) (σ : Nat -> Prop) : Prop := ∀ x, x < 4 -> ∀ y, y < 4 -> σ x -> bt R x y = true -> σ y
theorem q6s {R : List Nat} (h : msk R) {σ : Nat -> Prop} {k : Nat} (hk : k < 4) (c : Cls R σ) : Cls (warS R k) σ := by
 intro x hx y hy hs hb
 rw [qb7 h hk hx hy] at hb
 rcases (Bool.or_eq_true _ _).mp hb with hb | hb
 ·exact c x hx y hy hs hb
 ·obtain ⟨h1, h2⟩ := (Bool.and_eq_true _ _).mp hb
  exact c k hk y hy (c x hx k hk hs h1) h2
theorem qud {R : List Nat} (h : msk R) {σ : Nat -> Prop} (c : Cls R σ) : Cls (war R) σ := by
 rw [qja]
 have h1 := q17 h (y := 0) (by decide)
 have h2 := q17 h1 (y := 1) (by decide)
 have h3 := q17 h2 (y := 2) (by decide)
 exact q6s h3 (by decide) (q6s h2 (by decide) (q6s h1 (by decide) (q6s h (by decide) c)))
noncomputable def hidF (rs : List Road) : List (List Nat) := (List.range 4).map fun j => (rs.filter fun r => r.1 == j && r.2.2 == []).map fun r => r.2.1
theorem qio {rs : List Road} {j t : Nat} (hj : j < 4) : t ∈ (hidF rs).getD j [] ↔ ((j, t, []) : Road) ∈ rs := by
 have e : (hidF rs).getD j [] = (rs.filter fun r => r.1 == j && r.2.2 == []).map fun r => r.2.1 := by
  unfold hidF
  rw [List.getD_eq_getElem?_getD, List.getElem?_map, List.getElem?_range hj]
  rfl
 rw [e]
 constructor
 ·intro h
  obtain ⟨r, hr, rfl⟩ := List.mem_map.mp h
  obtain ⟨h1, h2⟩ := List.mem_filter.mp hr
  obtain ⟨h3, h4⟩ := (Bool.and_eq_true _ _).mp h2
  obtain ⟨a, b, c⟩ := r
  have h5 : a = j := eq_of_beq h3
  have h6 : c = [] := eq_of_beq h4
  rw [<- h5, <- h6]; exact h1
 ·intro h
  exact List.mem_map.mpr ⟨(j, t, []), List.mem_filter.mpr ⟨h, by simp⟩, rfl⟩
theorem qtv : ∀ f0 f1 f2 f3 : Bool, ∀ y, y < 4 -> bit ((((([0, 1, 2, 3] : List Nat).zip [f0, f1, f2, f3]).filter (·.2)).map fun p => 2 ^ p.1).sum) y = [f0, f1, f2, f3].getD y false := by decide +kernel
theorem qnz (f : Nat -> Bool) {y : Nat} (hy : y < 4) : bit ((((List.range 4).filter f).map (2 ^ ·)).sum) y = f y := by
 have h := qtv (f 0) (f 1) (f 2) (f 3) y hy
 have e : (((([0, 1, 2, 3] : List Nat).zip [f 0, f 1, f 2, f 3]).filter (·.2)).map fun p => 2 ^ p.1) = ((List.range 4).filter f).map (2 ^ ·) := by
  show _ = (([0, 1, 2, 3] : List Nat).filter f).map (2 ^ ·)
  simp only [List.zip_cons_cons, List.zip_nil_right, List.filter]
  cases f 0 <;> cases f 1 <;> cases f 2 <;> cases f 3 <;> rfl
 rw [e] at h
 rw [h]
 rcases (by omega : y = 0 \/ y = 1 \/ y = 2 \/ y = 3) with h | h | h | h <;> subst h <;> rfl
theorem q6l {rs : List Road} {x y : Nat} (hx : x < 4) (hy : y < 4) : bt (q1e rs) x y = (y == x || decide (((x, y, []) : Road) ∈ rs)) := by
 unfold bt
 have e : (q1e rs).getD x 0 = (((List.range 4).filter fun y => y == x || decide (((x, y, []) : Road) ∈ rs)).map (2 ^ ·)).sum := by
  unfold q1e
  rw [List.getD_eq_getElem?_getD, List.getElem?_map, List.getElem?_range hx]
  rfl
 rw [e, qnz _ hy]
noncomputable def q4m (R : List Nat) (x : Nat) (line : List Int) : Prop := bnd line /\ ∀ v ∈ line, bt R x v.toNat = true
theorem qia {R : List Nat} {x : Nat} {line : List Int} {t : Int} (h : q4m R x line) (ht : 0 <= t /\ t < 4) (hb : bt R x t.toNat = true) : q4m R x (addA line t) := by
 unfold addA
 split
 ·exact h
 ·refine ⟨fun v hv => ?_, fun v hv => ?_⟩
  ·rcases List.mem_append.mp hv with hv | hv
   ·exact h.1 v hv
   ·simp at hv; subst hv; exact ht
  ·rcases List.mem_append.mp hv with hv | hv
   ·exact h.2 v hv
   ·simp at hv; subst hv; exact hb
theorem q7c {R : List Nat} {x : Nat} : ∀ {ts line : List Int}, q4m R x line -> (∀ t ∈ ts, (0 <= t /\ t < 4) /\ bt R x t.toNat = true) -> q4m R x (ts.foldl addA line)
 | [], _, h, _ => h
 | t :: ts, line, h, ht => q7c (ts := ts) (line := addA line t) (qia h (ht t (by simp)).1 (ht t (by simp)).2) fun u hu => ht u (by simp [hu])
section
variable {rs : List Road} (hrs : ∀ r ∈ rs, r.1 < 4 /\ r.2.1 < 4)
include hrs
theorem qnk {p t : Nat} (hp : p < 4) (h : t ∈ (hidF rs).getD p []) : t < 4 /\ bt (q1e rs) p t = true := by
 have h1 := (qio hp).mp h
 have h2 := (hrs _ h1).2
 exact ⟨h2, by rw [q6l hp h2, decide_eq_true h1, Bool.or_true]⟩
theorem qdr {x : Nat} (hx : x < 4) : ∀ {ps line : List Int}, q4m (war (q1e rs)) x line -> (∀ p ∈ ps, (0 <= p /\ p < 4) /\ bt (war (q1e rs)) x p.toNat = true) -> q4m (war (q1e rs)) x (ps.foldl (plF (hidF rs)) line)
 | [], _, h, _ => h
 | p :: ps, line, h, hp => by
  obtain ⟨h1, h2⟩ := hp p (by simp)
  refine qdr hx (ps := ps) (line := plF (hidF rs) line p) (q7c h fun t ht => ?_) fun u hu => hp u (by simp [hu])
  obtain ⟨u, hu, rfl⟩ := List.mem_map.mp ht
  obtain ⟨h3, h4⟩ := qnk hrs (by omega : p.toNat < 4) hu
  refine ⟨by omega, ?_⟩
  rw [Int.toNat_natCast]
  exact qkl (q15 rs) p.toNat (by omega) x hx u h3 h2 (qf2 (q15 rs) (by omega) h3 h4)
theorem q6z {x : Nat} (hx : x < 4) : ∀ {ns : List Nat} {line : List Int}, q4m (war (q1e rs)) x line -> q4m (war (q1e rs)) x (ns.foldl (q35 (hidF rs)) line)
 | [], _, h => h
 | n :: ns, line, h => by
  refine q6z hx (ns := ns) (line := q35 (hidF rs) line n) (qdr hrs hx h fun p hp => ?_)
  have hp' := List.mem_of_mem_drop (List.mem_of_mem_take hp)
  exact ⟨h.1 p hp', h.2 p hp'⟩
theorem qly {x : Nat} (hx : x < 4) : q4m (war (q1e rs)) x (q0n (hidF rs) x) := by
 refine q6z hrs hx ⟨fun v hv => by simp at hv; subst hv; omega, fun v hv => ?_⟩
 simp at hv; subst hv
 rw [Int.toNat_natCast]
 exact qf2 (q15 rs) hx hx (by rw [q6l hx hx]; simp)
end
theorem qft : ∀ (ts line : List Int), ∃ e, ts.foldl addA line = line ++ e /\ ∀ t ∈ ts, t ∈ ts.foldl addA line
 | [], line => ⟨[], by simp, fun t h => nomatch h⟩
 | t :: ts, line => by
  obtain ⟨e, h1, h2⟩ := qft ts (addA line t)
  have h3 : ∃ e', addA line t = line ++ e' /\ t ∈ addA line t := by
   unfold addA
   split
   ·rename_i h; exact ⟨[], by simp, h⟩
   ·exact ⟨[t], rfl, by simp⟩
  obtain ⟨e', h3, h4⟩ := h3
  rw [List.foldl_cons]
  refine ⟨e' ++ e, by rw [h1, h3]; simp, fun u hu => ?_⟩
  rcases List.mem_cons.mp hu with rfl | hu
  ·rw [h1]; exact List.mem_append.mpr (.inl h4)
  ·exact h2 u hu
theorem qgr (hid : List (List Nat)) (line : List Int) (n : Nat) : ∃ e, q35 hid line n = line ++ e /\ (∀ p, line[n]? = some p -> ∀ t ∈ hid.getD p.toNat [], (t : Int) ∈ q35 hid line n) /\ (line.length <= n -> q35 hid line n = line) := by
 rcases Nat.lt_or_ge n line.length with hn | hn
 ·have e1 : (line.drop n).take 1 = [line[n]] := by
   rw [List.drop_eq_getElem_cons hn]; rfl
  obtain ⟨e, h1, h2⟩ := qft ((hid.getD (line[n]).toNat []).map fun (v : Nat) => (v : Int)) line
  have e2 : q35 hid line n = ((hid.getD (line[n]).toNat []).map fun (v : Nat) => (v : Int)).foldl addA line := by
   unfold q35
   rw [e1]; rfl
  rw [e2]
  refine ⟨e, h1, fun p hp t ht => ?_, fun h => by omega⟩
  rw [List.getElem?_eq_getElem hn] at hp
  cases hp
  exact h2 _ (List.mem_map.mpr ⟨t, ht, rfl⟩)
 ·have e2 : q35 hid line n = line := by
   unfold q35
   rw [List.drop_eq_nil_of_le hn]; rfl
  rw [e2]
  exact ⟨[], by simp, fun p hp => (by rw [List.getElem?_eq_none hn] at hp; cases hp), fun _ => rfl⟩
noncomputable def Exp (hid : List (List Nat)) (n : Nat) (line : List Int) : Prop := ∀ i, i < n -> ∀ p, line[i]? = some p -> ∀ t ∈ hid.getD p.toNat [], (t : Int) ∈ line
theorem q6o {hid : List (List Nat)} {n : Nat} {line : List Int} (h : Exp hid n line) : Exp hid (n + 1) (q35 hid line n) := by
 obtain ⟨e, h1, h2, h3⟩ := qgr hid line n
 intro i hi p hp t ht
 rcases Nat.lt_or_ge i line.length with hil | hil
 ·have hp' : line[i]? = some p := by rw [h1, List.getElem?_append_left hil] at hp; exact hp
  rcases Nat.lt_or_ge i n with hin | hin
  ·rw [h1]; exact List.mem_append.mpr (.inl (h i hin p hp' t ht))
  ·have : i = n := by omega
   subst this
   exact h2 p hp' t ht
 ·rw [h3 (by omega), List.getElem?_eq_none hil] at hp
  cases hp
theorem qk1 (hid : List (List Nat)) (x : Nat) : Exp hid 4 (q0n hid x) := by
 have h0 : Exp hid 0 [(x : Int)] := fun i hi => by omega
 exact q6o (q6o (q6o (q6o h0)))
theorem qjk (hid : List (List Nat)) (x : Nat) : (x : Int) ∈ q0n hid x := by
 have h : ∀ (ns : List Nat) (line : List Int), (x : Int) ∈ line -> (x : Int) ∈ ns.foldl (q35 hid) line := by
  intro ns
  induction ns with
  | nil => exact fun _ h => h
  | cons n ns ih =>
   intro line h
   obtain ⟨e, h1, -, -⟩ := qgr hid line n
   exact ih _ (by rw [h1]; exact List.mem_append.mpr (.inl h))
 exact h _ _ (by simp)
theorem qkw {rs : List Road} (hrs : ∀ r ∈ rs, r.1 < 4 /\ r.2.1 < 4) {x y : Nat} (hx : x < 4) (hy : y < 4) (h : bt (war (q1e rs)) x y = true) : (y : Int) ∈ q0n (hidF rs) x := by
 have hb : ∀ l ∈ hidF rs, ∀ v ∈ l, v < 4 := by
  intro l hl v hv
  unfold hidF at hl
  obtain ⟨j, hj, rfl⟩ := List.mem_map.mp hl
  obtain ⟨r, hr, rfl⟩ := List.mem_map.mp hv
  exact (hrs r (List.mem_filter.mp hr).1).2
 have hok := qmi hb (List.range 4) [(x : Int)] (by simp) (fun v hv => by simp at hv; subst hv; omega)
 have hlen := q9z hok.1 hok.2
 have hc : Cls (q1e rs) fun z => (z : Int) ∈ q0n (hidF rs) x := by
  intro u hu v hv hs hbt
  rw [q6l hu hv] at hbt
  rcases (Bool.or_eq_true _ _).mp hbt with hbt | hbt
  ·have : v = u := eq_of_beq hbt
   rw [this]; exact hs
  ·obtain ⟨i, hi, he⟩ := List.mem_iff_getElem.mp hs
   have hlen' : (q0n (hidF rs) x).length <= 4 := hlen
   refine qk1 (hidF rs) x i (by omega) (u : Int) (by rw [List.getElem?_eq_getElem hi, he]) v ?_
   rw [Int.toNat_natCast]
   exact (qio hu).mpr (of_decide_eq_true hbt)
 exact qud (q15 rs) hc x hx y hy (qjk _ x) h
noncomputable def clR (R : List Nat) : List Nat := (List.range 16).map fun lit => (((List.range 4).filter fun x => (R.getD x 0 &&& lit) != 0).map (2 ^ ·)).sum
theorem qoa : ∀ a : Nat, a < 16 -> ∀ b : Nat, b < 16 -> ((a &&& b) != 0) = ((List.range 4).any fun y => bit a y && bit b y) := by decide +kernel
theorem qm1 : ∀ a : Nat, a < 16 -> ∀ y : Nat, y < 4 -> ((a : Int) / 2 ^ y % 2 != 0) = bit a y := by decide +kernel
theorem qg9 {R : List Nat} (h : msk R) : msk (war R) := qmb (List.range 4) R h (by simp)
theorem qw5 {rs : List Road} (hrs : ∀ r ∈ rs, r.1 < 4 /\ r.2.1 < 4) {x lit : Nat} (hx : x < 4) (hl : lit < 16) : hitB (q0n (hidF rs) x) lit = (((war (q1e rs)).getD x 0 &&& lit) != 0) := by
 rw [qoa _ (q1n (qg9 (q15 rs)) hx) _ hl, Bool.eq_iff_iff]
 unfold hitB
 rw [decide_eq_true_eq, List.any_eq_true]
 have hw := qly hrs hx
 constructor
 ·intro h
  obtain ⟨v, hv⟩ := List.exists_mem_of_ne_nil _ h
  obtain ⟨h1, h2⟩ := List.mem_filter.mp hv
  have hb := hw.1 v h1
  refine ⟨v.toNat, List.mem_range.mpr (by omega), ?_⟩
  rw [Bool.and_eq_true]
  refine ⟨hw.2 v h1, ?_⟩
  rw [<- qm1 lit hl _ (by omega)]
  exact h2
 ·rintro ⟨y, hy, hb⟩
  have hy4 : y < 4 := List.mem_range.mp hy
  obtain ⟨h1, h2⟩ := (Bool.and_eq_true _ _).mp hb
  have hm := qkw hrs hx hy4 h1
  have : (y : Int) ∈ (q0n (hidF rs) x).filter fun y => (lit : Int) / 2 ^ y.toNat % 2 != 0 := by
   refine List.mem_filter.mpr ⟨hm, ?_⟩
   rw [Int.toNat_natCast, qm1 lit hl y hy4]
   exact h2
  exact List.ne_nil_of_mem this
theorem qjv {rs : List Road} (hrs : ∀ r ∈ rs, r.1 < 4 /\ r.2.1 < 4) : q7f (hidF rs) = clR (war (q1e rs)) := by
 unfold q7f clR
 refine List.map_congr_left fun lit hl => ?_
 have hl16 : lit < 16 := List.mem_range.mp hl
 congr 2
 refine List.filter_congr fun x hx => ?_
 exact qw5 hrs (List.mem_range.mp hx) hl16
noncomputable def kurB (cl : List Nat) : Bool := (List.range 16).all fun v => decide (cl.getD v 0 < 16) && (cl.getD (cl.getD v 0) 0 == cl.getD v 0) && (cl.getD (15 - cl.getD (15 - cl.getD (15 - cl.getD v 0) 0) 0) 0 == cl.getD (15 - cl.getD v 0) 0)
noncomputable def dueN (R : List Nat) : List Nat := q3j R ++ (q3j R).map (7 + ·)
noncomputable def q2n (cl : List Nat) : List (List Nat) := ws14.map fun w => semW cl w (List.range 16)
noncomputable def qmh (R : List Nat) : Bool := (List.range 4).all fun x => bit (R.getD x 0) x && (List.range 4).all fun y => !bit (R.getD x 0) y || ((R.getD x 0 ||| R.getD y 0) == R.getD x 0)
noncomputable def L0 : List Nat := [1, 3, 5, 7, 9, 11, 13, 15]
noncomputable def L1 : List Nat := [2, 3, 6, 7, 10, 11, 14, 15]
noncomputable def L2 : List Nat := [4, 5, 6, 7, 12, 13, 14, 15]
noncomputable def L3 : List Nat := [8, 9, 10, 11, 12, 13, 14, 15]
noncomputable def all4 (f : List Nat -> Bool) : Bool := L0.all fun a => L1.all fun b => L2.all fun c => L3.all fun d => f [a, b, c, d]
structure Fin4 (R : List Nat) : Prop where
 kur : Kur (clR R)
 idx : ((q2n (clR R)).map fun c => (q2n (clR R)).idxOf c) = dueN R
noncomputable def chk (R : List Nat) : Bool := kurB (clR R) && ((q2n (clR R)).map fun c => (q2n (clR R)).idxOf c) == dueN R
noncomputable def row2 (a b : Nat) : Bool := L2.all fun c => L3.all fun d => !qmh [a, b, c, d] || chk [a, b, c, d]
theorem r3d : row2 1 2 = true := by decide +kernel
theorem r44 : row2 1 3 = true := by decide +kernel
theorem r5n : row2 1 6 = true := by decide +kernel
theorem r4d : row2 1 7 = true := by decide +kernel
theorem qz8 : row2 1 10 = true := by decide +kernel
theorem qwd : row2 1 11 = true := by decide +kernel
theorem r0z : row2 1 14 = true := by decide +kernel
theorem qv6 : row2 1 15 = true := by decide +kernel
theorem r3a : row2 3 2 = true := by decide +kernel
theorem r3k : row2 3 3 = true := by decide +kernel
theorem r3h : row2 3 6 = true := by decide +kernel
theorem r49 : row2 3 7 = true := by decide +kernel
theorem r0j : row2 3 10 = true := by decide +kernel
theorem qxv : row2 3 11 = true := by decide +kernel
theorem r0g : row2 3 14 = true := by decide +kernel
theorem r2e : row2 3 15 = true := by decide +kernel
theorem r3r : row2 5 2 = true := by decide +kernel
theorem r38 : row2 5 3 = true := by decide +kernel
theorem r3g : row2 5 6 = true := by decide +kernel
theorem r33 : row2 5 7 = true := by decide +kernel
theorem qyu : row2 5 10 = true := by decide +kernel
theorem qzh : row2 5 11 = true := by decide +kernel
theorem qxz : row2 5 14 = true := by decide +kernel
theorem qwi : row2 5 15 = true := by decide +kernel
theorem r5q : row2 7 2 = true := by decide +kernel
theorem r4y : row2 7 3 = true := by decide +kernel
theorem r32 : row2 7 6 = true := by decide +kernel
theorem r5j : row2 7 7 = true := by decide +kernel
theorem qz9 : row2 7 10 = true := by decide +kernel
theorem qxm : row2 7 11 = true := by decide +kernel
theorem r0s : row2 7 14 = true := by decide +kernel
theorem qwx : row2 7 15 = true := by decide +kernel
theorem r2p : row2 9 2 = true := by decide +kernel
theorem r3i : row2 9 3 = true := by decide +kernel
theorem r4q : row2 9 6 = true := by decide +kernel
theorem r3w : row2 9 7 = true := by decide +kernel
theorem qxl : row2 9 10 = true := by decide +kernel
theorem qvi : row2 9 11 = true := by decide +kernel
theorem qvd : row2 9 14 = true := by decide +kernel
theorem qyf : row2 9 15 = true := by decide +kernel
theorem qwb : row2 11 2 = true := by decide +kernel
theorem r1p : row2 11 3 = true := by decide +kernel
theorem quy : row2 11 6 = true := by decide +kernel
theorem qwp : row2 11 7 = true := by decide +kernel
theorem qtu : row2 11 10 = true := by decide +kernel
theorem qte : row2 11 11 = true := by decide +kernel
theorem qsh : row2 11 14 = true := by decide +kernel
theorem qt4 : row2 11 15 = true := by decide +kernel
theorem qwt : row2 13 2 = true := by decide +kernel
theorem r0m : row2 13 3 = true := by decide +kernel
theorem qyk : row2 13 6 = true := by decide +kernel
theorem qz4 : row2 13 7 = true := by decide +kernel
theorem qsv : row2 13 10 = true := by decide +kernel
theorem qtx : row2 13 11 = true := by decide +kernel
theorem qqv : row2 13 14 = true := by decide +kernel
theorem quu : row2 13 15 = true := by decide +kernel
theorem qxs : row2 15 2 = true := by decide +kernel
theorem r0t : row2 15 3 = true := by decide +kernel
theorem r1e : row2 15 6 = true := by decide +kernel
theorem qy2 : row2 15 7 = true := by decide +kernel
theorem qr3 : row2 15 10 = true := by decide +kernel
theorem qun : row2 15 11 = true := by decide +kernel
theorem qsf : row2 15 14 = true := by decide +kernel
theorem qu0 : row2 15 15 = true := by decide +kernel
theorem qsm : all4 (fun R => !qmh R || chk R) = true := by
 show (L0.all fun a => L1.all fun b => row2 a b) = true
 simp only [L0, L1, List.all_cons, List.all_nil, Bool.and_true, r3d, r44, r5n, r4d, qz8, qwd, r0z, qv6, r3a, r3k, r3h, r49, r0j, qxv, r0g, r2e, r3r, r38, r3g, r33, qyu, qzh, qxz, qwi, r5q, r4y, r32, r5j, qz9, qxm, r0s, qwx, r2p, r3i, r4q, r3w, qxl, qvi, qvd, qyf, qwb, r1p, quy, qwp, qtu, qte, qsh, qt4, qwt, r0m, qyk, qz4, qsv, qtx, qqv, quu, qxs, r0t, r1e, qy2, qr3, qun, qsf, qu0]
theorem qso {R : List Nat} (h : chk R = true) : Fin4 R := by
 unfold chk at h
 obtain ⟨h1, h2⟩ := (Bool.and_eq_true _ _).mp h
 have hk : ∀ v, v < 16 -> _ := fun v hv => List.all_eq_true.mp h1 v (List.mem_range.mpr hv)
 simp only [Bool.and_eq_true, decide_eq_true_eq, beq_iff_eq] at hk
 exact ⟨⟨fun v hv => (hk v hv).1.1, fun v hv => (hk v hv).1.2, fun v hv => (hk v hv).2⟩, eq_of_beq h2⟩
theorem qnj : (∀ a : Nat, a < 16 -> bit a 0 = true -> a ∈ L0) /\ (∀ a : Nat, a < 16 -> bit a 1 = true -> a ∈ L1) /\ (∀ a : Nat, a < 16 -> bit a 2 = true -> a ∈ L2) /\ (∀ a : Nat, a < 16 -> bit a 3 = true -> a ∈ L3) :=
 ⟨by decide +kernel, by decide +kernel, by decide +kernel, by decide +kernel⟩
theorem qxq : ∀ a : Nat, a < 16 -> ∀ b : Nat, b < 16 -> ((List.range 4).all fun z => !bit b z || bit a z) = true -> (a ||| b) = a := by decide +kernel
theorem qyc {R : List Nat} (hm : msk R) (hr : ∀ x, x < 4 -> bt R x x = true) (ht : Thr R 4) : Fin4 R := by
 have hp : qmh R = true := by
  unfold qmh
  rw [List.all_eq_true]
  intro x hx
  have hx4 := List.mem_range.mp hx
  rw [Bool.and_eq_true]
  refine ⟨hr x hx4, ?_⟩
  rw [List.all_eq_true]
  intro y hy
  have hy4 := List.mem_range.mp hy
  cases hb : bit (R.getD x 0) y
  ·rfl
  ·rw [Bool.not_true, Bool.false_or, beq_iff_eq]
   refine qxq _ (q1n hm hx4) _ (q1n hm hy4) ?_
   rw [List.all_eq_true]
   intro z hz
   have hz4 := List.mem_range.mp hz
   cases hc : bit (R.getD y 0) z
   ·rfl
   ·rw [Bool.not_true, Bool.false_or]
    exact ht y hy4 x hx4 z hz4 hb hc
 obtain ⟨hl, hlt⟩ := hm
 match R, hl with
 | [a, b, c, d], _ =>
  have h0 := qnj.1 a (hlt a (by simp)) (hr 0 (by decide))
  have h1 := qnj.2.1 b (hlt b (by simp)) (hr 1 (by decide))
  have h2 := qnj.2.2.1 c (hlt c (by simp)) (hr 2 (by decide))
  have h3 := qnj.2.2.2 d (hlt d (by simp)) (hr 3 (by decide))
  have h := List.all_eq_true.mp (List.all_eq_true.mp (List.all_eq_true.mp (List.all_eq_true.mp qsm a h0) b h1) c h2) d h3
  have h' : (!qmh [a, b, c, d] || chk [a, b, c, d]) = true := h
  rw [hp, Bool.not_true, Bool.false_or] at h'
  exact qso h'
theorem qw1 (rs : List Road) : Fin4 (war (q1e rs)) :=
 qyc (qg9 (q15 rs)) (fun x hx => qf2 (q15 rs) hx hx (by rw [q6l hx hx]; simp)) (qkl (q15 rs))
theorem r2c : ∀ a : Nat, a < 4 -> ∀ b : Nat, b < 2 -> ([[97, 98, 99, 100, 65, 66, 67, 68].getD (a + b * 4) 0].map lo1) = [97 + a] := by decide +kernel
theorem qp3 (e : Int) : (qau e).map lo1 = [97 + frF e] := by
 have h := r2c (frF e) (by unfold frF; omega) (e / 128 % 2).toNat (by omega)
 unfold qau
 rw [show (e % 4 + e / 128 % 2 * 4).toNat = frF e + (e / 128 % 2).toNat * 4 by unfold frF; omega]
 exact h
theorem qg6 (e : Int) : (valF e).all good = true /\ (valF e).flatMap q1a = q2s e ++ [97 + toF e] := by
 have hf := qdx (qec e) (e / 256 / 432)
 have h1 := q5j (e / 256)
 have h2 := q5j (e / 256 / 7)
 have h3 := qpu (e / 256 / 27)
 have h4 : good 70 = true /\ q1a 70 = [102] := ⟨qku.2.2, by unfold q1a; rw [qku.1, if_neg (by simp)]; exact qku.2.1⟩
 have key : (q6b e).all good = true /\ (q6b e).flatMap q1a = q2s e := by
  unfold q6b q2s n1F n2F bsF
  have hk := qax e
  generalize q7u e = j at hk
  rcases (by omega : j = 0 \/ j = 1 \/ j = 2 \/ j = 3 \/ j = 4) with h | h | h | h | h <;> subst h <;> simp [h1.1, h1.2, h2.1, h2.2, h3.1, h3.2, h4.1, h4.2]
 unfold valF fmF
 rw [List.all_append, List.flatMap_append, key.1, key.2]
 simp [hf.1, hf.2]
theorem qg2 (e : Int) : (q2s e).length <= 1 := by
 unfold q2s
 have hk := qax e
 generalize q7u e = j at hk
 rcases (by omega : j = 0 \/ j = 1 \/ j = 2 \/ j = 3 \/ j = 4) with h | h | h | h | h <;> subst h <;> simp
theorem qhf {st : Ev.St} {i : Nat} {l : List Road} (h : st[i]? = some (.list (l.map q1d))) : Ev.same [(i, .list (l.map q1d))] st = some ((), st) := by
 have e : ∀ l : List Road, q1x (l.map q1d) (l.map q1d) = true := by
  intro l
  induction l with
  | nil => rfl
  | cons a l ih =>
   show ((((a.1 : Int) == (a.1 : Int)) && (((a.2.1 : Int) == (a.2.1 : Int)) && ((a.2.2 == a.2.2) && true))) && q1x (l.map q1d) (l.map q1d)) = true
   rw [ih]; simp
 show ((st[i]?).map (·, st)).bind (fun p => (if q4j (.list (l.map q1d)) p.1 then Ev.same [] else bad) p.2) = _
 rw [h]
 show (if q4j (.list (l.map q1d)) (.list (l.map q1d)) = true then Ev.same [] else bad) st = _
 rw [if_pos (show q4j (.list (l.map q1d)) (.list (l.map q1d)) = true from e l)]
 rfl
theorem qk5 {st : Ev.St} {i : Nat} {l : List Nat} (h : st[i]? = some (.list (l.map V.ref))) : Ev.same [(i, .list (l.map V.ref))] st = some ((), st) := by
 have e : ∀ l : List Nat, q1x (l.map V.ref) (l.map V.ref) = true := by
  intro l
  induction l with
  | nil => rfl
  | cons a l ih =>
   show (((a == a)) && q1x (l.map V.ref) (l.map V.ref)) = true
   rw [ih]; simp
 show ((st[i]?).map (·, st)).bind (fun p => (if q4j (.list (l.map V.ref)) p.1 then Ev.same [] else bad) p.2) = _
 rw [h]
 show (if q4j (.list (l.map V.ref)) (.list (l.map V.ref)) = true then Ev.same [] else bad) st = _
 rw [if_pos (show q4j (.list (l.map V.ref)) (.list (l.map V.ref)) = true from e l)]
 rfl
noncomputable def strD (z : List Nat) : PyData := .str ⟨z.toArray⟩
theorem qfx {st : Ev.St} (m : Nat) : ∀ l : List (List Nat), ((l.map V.str).mapM (dat st (m + 1))) = some (l.map strD)
 | [] => rfl
 | i :: l => by
  rw [List.map_cons, List.mapM_cons, qfx m l]
  rfl
theorem q83 : ∀ l : List PyData, (∀ d ∈ l, PyData.eqv d d = true) -> PyData.eqvAll l l = true
 | [], _ => by rw [PyData.eqvAll]
 | d :: l, h => by rw [PyData.eqvAll, h d (by simp), q83 l fun e he => h e (by simp [he])]; rfl
theorem q3q {l : List PyData} (h : ∀ d ∈ l, PyData.eqv d d = true) : PyData.eqv (.list l) (.list l) = true := by rw [PyData.eqv]; exact q83 l h
theorem qa9 (l : List (List Nat)) : PyData.eqv (.list (l.map strD)) (.list (l.map strD)) = true := q3q fun d hd => by
 obtain ⟨z, _, rfl⟩ := List.mem_map.mp hd
 unfold strD
 rw [S_eq]; simp
theorem qoj (l : List Int) : PyData.eqv (.list (l.map PyData.int)) (.list (l.map PyData.int)) = true := q3q fun d hd => by
 obtain ⟨z, _, rfl⟩ := List.mem_map.mp hd
 rw [I_eq]; simp
theorem qmk {gd : Str -> Option (List (V × V))} {st : Ev.St} {a b : V} {d : PyData} {Q : Bool -> Prop} (ha : dat st 8 a = some d) (hb : dat st 8 b = some d) (hr : PyData.eqv d d = true) (q : Q false) : ∃ c, cmpV gd st .NotEq a b = some c /\ Q c := by
 refine ⟨false, ?_, q⟩
 show ((dat st 8 a).bind (fun x => (dat st 8 b).bind fun y => some (PyData.eqv x y))).map (!·) = _
 rw [ha, hb]
 show some (!PyData.eqv d d) = _
 rw [hr]; rfl
theorem qpa {gd : Str -> Option (List (V × V))} {st : Ev.St} {a b : V} {d : PyData} {Q : Bool -> Prop} (ha : dat st 8 a = some d) (hb : dat st 8 b = some d) (hr : PyData.eqv d d = true) (q : Q true) : ∃ c, cmpV gd st .Eq a b = some c /\ Q c := by
 refine ⟨true, ?_, q⟩
 show ((dat st 8 a).bind (fun x => (dat st 8 b).bind fun y => some (PyData.eqv x y))) = _
 rw [ha, hb]
 show some (PyData.eqv d d) = _
 rw [hr]
theorem qh1 {α β : Type} {f : α -> Option β} {g : α -> β} : ∀ l : List α, (∀ a ∈ l, f a = some (g a)) -> l.mapM f = some (l.map g)
 | [], _ => rfl
 | a :: l, h => by rw [List.mapM_cons, h a (by simp), qh1 l fun b hb => h b (by simp [hb])]; rfl
theorem r2l {st : Ev.St} {m : Nat} {l : List V} {g : V -> PyData} (h : ∀ a ∈ l, dat st m a = some (g a)) : dat st (m + 1) (.lst l) = some (.list (l.map g)) := by
 show (l.mapM (dat st m)).map PyData.list = _
 rw [qh1 l h]; rfl
theorem qf1 {st : Ev.St} {m i : Nat} {l : List V} (h : st[i]? = some (.list l)) : dat st (m + 1) (.ref i) = dat st (m + 1) (.lst l) := by
 show (match st[i]? with | some (O.list vs) => (vs.mapM (dat st m)).map PyData.list | _ => none) = _
 rw [h]; rfl
theorem q3p {st : Ev.St} {m : Nat} (l : List (List Nat)) : dat st (m + 2) (.lst (l.map V.str)) = some (.list (l.map strD)) := by
 show ((l.map V.str).mapM (dat st (m + 1))).map PyData.list = _
 rw [qfx]; rfl
theorem qh4 {st : Ev.St} {m : Nat} (l : List Int) : dat st (m + 2) (.lst (l.map V.int)) = some (.list (l.map PyData.int)) := by
 show ((l.map V.int).mapM (dat st (m + 1))).map PyData.list = _
 rw [q3u]; rfl
theorem m_st {ws : List (Nat × O)} {f : V -> EvM (List V)} {α : Type} (h : α -> V) (I : List α -> List V -> Ev.St -> Prop) (hs : ∀ a l acc s, I (a :: l) acc s -> W (f (h a)) s fun r s' => same ws s' = some ((), s') /\ I l (acc ++ r) s') :
  ∀ (l : List α) (acc : List V) (s : Ev.St), I l acc s -> W (mapE ws (l.map h) f) s fun r s' => I [] (acc ++ r) s'
 | [], acc, s, i => r2h (by rw [List.append_nil]; exact i)
 | a :: l, acc, s, i => by
  refine qpv ((hs a l acc s i).mono fun r s' h' => ?_)
  refine ⟨(), s', h'.1, (m_st h I hs l (acc ++ r) s' h'.2).mono fun r' s'' h'' => ?_⟩
  rw [<- List.append_assoc]; exact h''
theorem r4v {P : Prg} {n : Nat} {st : Ev.St} {Q : V -> Ev.St -> Prop} (q : Q (.hd st.length) (st ++ [O.list []])) : W ((ctxN P (n + 1)).call (.ty "Headers") [] []) st Q := ⟨_, _, rfl, q⟩
theorem qds {P : Prg} {n : Nat} {i : Int} {z : List Nat} {st : Ev.St} {Q : V -> Ev.St -> Prop} (h : 0 <= i /\ i < 1000000) (hz : txtV (chs (toString i)) = some (.str z)) (q : Q (.str z) st) : W ((ctxN P (n + 1)).call (.ty "str") [.int i] []) st Q := by
 show W (if 0 <= i /\ i < 1000000 then Ev.gt (txtV (chs (toString i))) else bad) st Q
 rw [if_pos h]
 exact W.gt hz q
theorem qrn {P : Prg} {n : Nat} {xs : List (List Nat)} {t : List Nat} {st : Ev.St} {Q : V -> Ev.St -> Prop} (hl : xs.length <= cap) (ht : t ∈ xs) (q : Q (.int (xs.idxOf t)) st) : W ((ctxN P (n + 1)).call (.m (.lst (xs.map V.str)) "index") [.str t] []) st Q := by
 have e1 : ∀ ys : List (List Nat), q28 (ys.map V.str) = some ys := by
  intro ys
  induction ys with
  | nil => rfl
  | cons y ys ih => show (q28 (ys.map V.str)).map (y :: ·) = _; rw [ih]; rfl
 show W (do
   let ys <- Ev.gt (q28 (xs.map V.str))
   if (xs.map V.str).length <= cap /\ t ∈ ys then pure (.int (ys.idxOf t)) else bad) st Q
 refine W.bind (W.gt (e1 xs) ?_)
 rw [if_pos ⟨by simpa using hl, ht⟩]
 exact W.pure q
noncomputable def strN (k : Nat) : List Nat := chs (toString (k : Int))
theorem qcs : ∀ k : Nat, k < 15 -> (strN k).all (fun c => decide (32 <= c /\ c < 127)) = true /\ (strN k).length <= 2 := by decide +kernel
theorem qui : ∀ j : Nat, j < 15 -> ∀ k : Nat, k < 15 -> strN j = strN k -> j = k := by decide +kernel
theorem q4e {k : Nat} (hk : k < 15) : txtV (chs (toString (k : Int))) = some (.str (strN k)) := by
 obtain ⟨h1, h2⟩ := qcs k hk
 show txtV (strN k) = _
 unfold txtV strV
 rw [if_pos, if_pos (by unfold cap; omega)]
 rw [List.all_eq_true] at h1 ⊢
 intro c hc
 have := of_decide_eq_true (h1 c hc)
 exact decide_eq_true (by omega)
noncomputable def qkz (n0 : Int) (k : Nat) : Nat := if n0 / 2 ^ k % 2 = 0 then 126 else 107
noncomputable def w15 (n0 : Int) : List Nat := (List.range 12).map (qkz n0)
theorem q4i (n0 : Int) : wrd (w15 n0) := by
 intro c hc
 obtain ⟨k, _, rfl⟩ := List.mem_map.mp hc
 unfold qkz
 split <;> simp
theorem q4n : ∀ w ∈ ws14, wrd w := by
 have h : ws14.all (fun w => w.all fun c => c == 126 || c == 107) = true := by decide
 intro w hw c hc
 have := List.all_eq_true.mp (List.all_eq_true.mp h w hw) c hc
 simpa using this
theorem qtg (n0 : Int) : room (ws14 ++ [w15 n0]) <= 20000 := by
 have h : ∀ (l : List (List Nat)) (w : List Nat), room (l ++ [w]) = room l + (3 * w.length + 2) := by
  intro l w
  induction l with
  | nil => simp [room]
  | cons a l ih => rw [List.cons_append]; unfold room; rw [ih]; omega
 rw [h]
 have : (w15 n0).length = 12 := by simp [w15]
 rw [this]
 decide
noncomputable def fst' (C : List (List Nat)) (k : Nat) : Nat := C.idxOf (C.getD k [])
theorem qlf {C : List (List Nat)} {k : Nat} (h : k < C.length) : C.getD k [] = C[k] := by rw [List.getD_eq_getElem?_getD, List.getElem?_eq_getElem h]; rfl
theorem qn3 {C : List (List Nat)} {c : List Nat} : ∀ {j : Nat}, C[j]? = some c -> C.idxOf c <= j := by
 induction C with
 | nil => intro j h; cases h
 | cons a C ih =>
  intro j h
  by_cases hac : a = c
  ·subst hac; rw [List.idxOf_cons_self]; exact Nat.zero_le _
  ·have e : (a :: C).idxOf c = C.idxOf c + 1 := by
    rw [List.idxOf_cons, show (a == c) = false from beq_eq_false_iff_ne.mpr hac]; rfl
   rw [e]
   cases j with
   | zero => simp at h; exact absurd h hac
   | succ j => have := ih (j := j) (by simpa using h); omega
theorem qqd {C : List (List Nat)} {j k : Nat} (hj : j < C.length) (h : C.getD j [] = C.getD k []) : fst' C k <= j := by
 unfold fst'
 rw [<- h, qlf hj]
 exact qn3 (List.getElem?_eq_getElem hj)
theorem qjp {C : List (List Nat)} {k : Nat} (hk : k < C.length) : fst' C k <= k := qqd hk rfl
theorem qps {C : List (List Nat)} {k : Nat} (hk : k < C.length) : C.getD (fst' C k) [] = C.getD k [] := by
 have h1 : fst' C k < C.length := Nat.lt_of_le_of_lt (qjp hk) hk
 rw [qlf h1]
 have := List.getElem_idxOf (xs := C) (x := C.getD k []) h1
 exact this
theorem qrg {C : List (List Nat)} {k : Nat} (hk : k < C.length) : fst' C (fst' C k) = fst' C k := by
 show C.idxOf (C.getD (fst' C k) []) = fst' C k
 rw [qps hk]; rfl
theorem qgp {C : List (List Nat)} {j k : Nat} (h : C.getD j [] = C.getD k []) : fst' C j = fst' C k := by unfold fst'; rw [h]
noncomputable def nmK (C : List (List Nat)) (k : Nat) : List Nat := if k % 2 = 1 then (C.getD k []).map up1 else C.getD k []
noncomputable def q3l (C : List (List Nat)) (k : Nat) : List (List Nat × List Nat) := ((List.range k).filter fun j => fst' C j == j).map fun j => (nmK C j, strN j)
noncomputable def cod (C : List (List Nat)) : Prop := ∀ c ∈ C, (∀ x ∈ c, 97 <= x /\ x < 113) /\ c.length <= 16
theorem qaw {C : List (List Nat)} (h : cod C) (k : Nat) : (∀ x ∈ C.getD k [], 97 <= x /\ x < 113) /\ (C.getD k []).length <= 16 := by
 rw [List.getD_eq_getElem?_getD]
 cases hk : C[k]? with
 | none => exact ⟨fun x hx => (nomatch hx), Nat.zero_le _⟩
 | some c => exact h c (List.mem_of_getElem? hk)
theorem qtl : ∀ x : Nat, x < 113 -> 97 <= x -> lo1 (up1 x) = x /\ lo1 x = x /\ 65 <= up1 x /\ up1 x < 97 := by decide +kernel
theorem qe6 {C : List (List Nat)} (h : cod C) (k : Nat) : (nmK C k).map lo1 = C.getD k [] := by
 have hc := (qaw h k).1
 unfold nmK
 split
 ·rw [List.map_map]
  conv => rhs; rw [<- List.map_id (C.getD k [])]
  exact List.map_congr_left fun x hx => by have := hc x hx; exact (qtl x this.2 this.1).1
 ·conv => rhs; rw [<- List.map_id (C.getD k [])]
  exact List.map_congr_left fun x hx => by have := hc x hx; exact (qtl x this.2 this.1).2.1
theorem qkf {C : List (List Nat)} (h : cod C) (k : Nat) : ascN (nmK C k) := by
 obtain ⟨h1, h2⟩ := qaw h k
 unfold nmK
 split
 ·refine ⟨fun x hx => ?_, by rw [List.length_map]; omega⟩
  obtain ⟨y, hy, rfl⟩ := List.mem_map.mp hx
  have := h1 y hy
  have := (qtl y this.2 this.1).2.2
  omega
 ·exact ⟨fun x hx => by have := h1 x hx; omega, by omega⟩
theorem qnv {C : List (List Nat)} (h : cod C) (k : Nat) : ∀ p ∈ q3l C k, ascN p.1 := by
 intro p hp
 unfold q3l at hp
 obtain ⟨j, _, rfl⟩ := List.mem_map.mp hp
 exact qkf h j
theorem qgs (C : List (List Nat)) (k : Nat) : (q3l C k).length <= k := by
 unfold q3l
 rw [List.length_map]
 exact Nat.le_trans (List.length_filter_le _ _) (by simp)
theorem qfy {C : List (List Nat)} (h : cod C) {k : Nat} (hk : k < C.length) : getV (q3l C k) (C.getD k []) = if fst' C k = k then V.none else V.str (strN (fst' C k)) := by
 unfold getV q3l
 rw [List.find?_map]
 have hp : ((fun p : List Nat × List Nat => decide (p.1.map lo1 = C.getD k [])) ∘ fun j => (nmK C j, strN j)) = fun j => decide (C.getD j [] = C.getD k []) := by
  funext j
  show decide ((nmK C j).map lo1 = C.getD k []) = _
  rw [qe6 h]
 rw [hp]
 by_cases hf : fst' C k = k
 ·rw [if_pos hf]
  have : ((List.range k).filter fun j => fst' C j == j).find? (fun j => decide (C.getD j [] = C.getD k [])) = none := by
   rw [List.find?_eq_none]
   intro j hj hd
   have hjk := List.mem_range.mp (List.mem_filter.mp hj).1
   have := qqd (C := C) (k := k) (by omega : j < C.length) (of_decide_eq_true hd)
   omega
  rw [this]; rfl
 ·rw [if_neg hf]
  have hlt : fst' C k < k := by have := qjp hk; omega
  have hmem : fst' C k ∈ (List.range k).filter fun j => fst' C j == j := List.mem_filter.mpr ⟨List.mem_range.mpr hlt, by rw [qrg hk]; simp⟩
  cases hfd : ((List.range k).filter fun j => fst' C j == j).find? (fun j => decide (C.getD j [] = C.getD k [])) with
  | none =>
   rw [List.find?_eq_none] at hfd
   exact absurd (decide_eq_true (qps hk)) (hfd _ hmem)
  | some j =>
   have h1 := List.find?_some hfd
   have h2 := List.mem_filter.mp (List.mem_of_find?_eq_some hfd)
   have h3 : fst' C j = j := eq_of_beq h2.2
   have h4 := qgp (of_decide_eq_true h1)
   have : j = fst' C k := by omega
   subst this
   rfl
theorem q80 (C : List (List Nat)) (k : Nat) : q3l C (k + 1) = if fst' C k = k then q3l C k ++ [(nmK C k, strN k)] else q3l C k := by
 unfold q3l
 rw [List.range_succ, List.filter_append, List.map_append]
 by_cases h : fst' C k = k
 ·rw [if_pos h, List.filter_cons_of_pos (by simpa using h)]; rfl
 ·rw [if_neg h, List.filter_cons_of_neg (by simpa using h)]; simp
noncomputable def cdW (cl w : List Nat) : List Nat := (semW cl w (List.range 16)).map (97 + ·)
theorem qkv {α β : Type} [BEq α] [LawfulBEq α] [BEq β] [LawfulBEq β] {f : α -> β} (hf : ∀ a b, f a = f b -> a = b) (x : α) : ∀ l : List α, (l.map f).idxOf (f x) = l.idxOf x
 | [] => rfl
 | a :: l => by
  rw [List.map_cons, List.idxOf_cons, List.idxOf_cons, qkv hf x l]
  have : (f a == f x) = (a == x) := by
   rw [Bool.eq_iff_iff, beq_iff_eq, beq_iff_eq]
   exact ⟨hf a x, fun e => by rw [e]⟩
  rw [this]
theorem ql1 : ∀ a b : List Nat, a.map (97 + ·) = b.map (97 + ·) -> a = b
 | [], [], _ => rfl
 | [], _ :: _, h => by cases h
 | _ :: _, [], h => by cases h
 | x :: a, y :: b, h => by
  rw [List.map_cons, List.map_cons] at h
  injection h with h1 h2
  rw [ql1 a b h2, show x = y by omega]
theorem qmg {C : List (List Nat)} {c : List Nat} (h : c ∈ C) (d : List (List Nat)) : (C ++ d).idxOf c = C.idxOf c := by
 rw [List.idxOf_append, if_pos h]
structure Told (C : List (List Nat)) (D : List Nat) (m : Nat) : Prop where
 len : C.length = 15
 dlen : D.length = 14
 m14 : m < 14
 cod : cod C
 dlt : ∀ k, k < 14 -> D.getD k 0 < 14
 idx : ∀ k, k < 14 -> fst' C k = D.getD k 0
 last : fst' C 14 = D.getD m 0
theorem qu6 {R : List Nat} (hF : Fin4 R) {w r : List Nat} (hr : r ∈ ws14) (hs : ∀ cl, Kur cl -> Same cl w r) : Told ((ws14 ++ [w]).map (cdW (clR R))) (dueN R) (ws14.idxOf r) := by
 have hm : ws14.idxOf r < 14 := List.idxOf_lt_length_of_mem hr
 have h16 : ok16 (List.range 16) := fun v hv => List.mem_range.mp hv
 have hI : ∀ k, k < 14 -> fst' ((ws14 ++ [w]).map (cdW (clR R))) k = (dueN R).getD k 0 := by
  intro k hk
  have hkl : k < ws14.length := hk
  have hg : ((ws14 ++ [w]).map (cdW (clR R))).getD k [] = cdW (clR R) ws14[k] := by
   rw [List.getD_eq_getElem?_getD, List.getElem?_map, List.getElem?_append_left hkl, List.getElem?_eq_getElem hkl]; rfl
  unfold fst'
  rw [hg, List.map_append, qmg (List.mem_map.mpr ⟨_, List.getElem_mem hkl, rfl⟩)]
  have e1 : ws14.map (cdW (clR R)) = (q2n (clR R)).map fun c => c.map (97 + ·) := by unfold q2n; rw [List.map_map]; rfl
  have e2 : cdW (clR R) ws14[k] = (semW (clR R) ws14[k] (List.range 16)).map (97 + ·) := rfl
  rw [e1, e2, qkv (f := fun c : List Nat => c.map (97 + ·)) ql1]
  rw [<- hF.idx, List.getD_eq_getElem?_getD, List.getElem?_map]
  have hc : (q2n (clR R))[k]? = some (semW (clR R) ws14[k] (List.range 16)) := by
   unfold q2n
   rw [List.getElem?_map, List.getElem?_eq_getElem hkl]; rfl
  rw [hc]; rfl
 have hlen : ((ws14 ++ [w]).map (cdW (clR R))).length = 15 := by simp [ws14, qhb, odd7]
 have hdl : (dueN R).length = 14 := by rw [<- hF.idx, List.length_map]; simp [q2n, ws14, qhb, odd7]
 refine ⟨hlen, hdl, hm, ?_, ?_, hI, ?_⟩
 ·intro c hc
  obtain ⟨v, _, rfl⟩ := List.mem_map.mp hc
  refine ⟨fun x hx => ?_, ?_⟩
  ·obtain ⟨y, hy, rfl⟩ := List.mem_map.mp hx
   have := qge hF.kur h16 v y hy
   omega
  ·have : ∀ v vs, (semW (clR R) v vs).length = vs.length := by
    intro v vs
    induction v with
    | nil => rfl
    | cons a v ih =>
     show (qew (clR R) a (semW (clR R) v vs)).length = _
     unfold qew
     split <;> rw [List.length_map, ih]
   unfold cdW
   rw [List.length_map, this]; simp
 ·intro k hk
  rw [<- hI k hk]
  have := qjp (C := (ws14 ++ [w]).map (cdW (clR R))) (k := k) (by omega)
  omega
 ·have hg : ((ws14 ++ [w]).map (cdW (clR R))).getD 14 [] = ((ws14 ++ [w]).map (cdW (clR R))).getD (ws14.idxOf r) [] := by
   have hkl : ws14.idxOf r < ws14.length := hm
   have e1 : ((ws14 ++ [w]).map (cdW (clR R))).getD (ws14.idxOf r) [] = cdW (clR R) r := by
    rw [List.getD_eq_getElem?_getD, List.getElem?_map, List.getElem?_append_left hkl, List.getElem?_eq_getElem hkl, List.getElem_idxOf hkl]; rfl
   have e2 : ((ws14 ++ [w]).map (cdW (clR R))).getD 14 [] = cdW (clR R) w := rfl
   rw [e1, e2]
   unfold cdW
   rw [hs _ hF.kur _ h16]
  rw [qgp hg]
  exact hI _ hm
noncomputable def q69 (j : Nat) (es : List Int) : List (List Nat) := (es.filter fun e => frF e == j).map fun e => q2s e ++ [97 + toF e]
theorem qrj (j : Nat) (es : List Int) : (q32 j es).map (fun v => v.flatMap q1a) = q69 j es := by
 unfold q32 q69
 rw [List.map_map]
 exact List.map_congr_left fun e _ => (qg6 e).2
noncomputable def nmC (j : Nat) : Nat := [97, 66, 99, 68].getD j 0
theorem qxj : ∀ j : Nat, j < 4 -> [nmC j].map lo1 = [97 + j] := by decide +kernel
theorem qv8 : ∀ j : Nat, j < 4 -> 32 <= nmC j /\ nmC j < 127 := by decide +kernel
theorem qp5 {j : Nat} (hj : j < 4) (es : List Int) : ((es.map hdrF).filter fun h => decide (h.1.map lo1 = [nmC j].map lo1)).map (fun h => V.str h.2) = (q32 j es).map V.str := by
 rw [List.filter_map, List.map_map]
 unfold q32
 rw [List.map_map]
 have : (es.filter ((fun h => decide (h.1.map lo1 = [nmC j].map lo1)) ∘ hdrF)) = es.filter fun e => frF e == j := by
  refine List.filter_congr fun e _ => ?_
  show decide ((qau e).map lo1 = [nmC j].map lo1) = _
  rw [qp3, qxj j hj, Bool.eq_iff_iff, decide_eq_true_eq, beq_iff_eq]
  constructor
  ·intro h; injection h with h; omega
  ·intro h; rw [h]
 rw [this]
 rfl
theorem qob (j : Nat) (es : List Int) : (q32 j es).length <= es.length := by unfold q32; rw [List.length_map]; exact List.length_filter_le _ _
theorem q4h {st : Ev.St} {m : Nat} {α : Type} (h : α -> V) (g : α -> PyData) (l : List α) (hh : ∀ a ∈ l, dat st m (h a) = some (g a)) : dat st (m + 1) (.lst (l.map h)) = some (.list (l.map g)) := by
 show ((l.map h).mapM (dat st m)).map PyData.list = _
 have : ∀ l : List α, (∀ a ∈ l, dat st m (h a) = some (g a)) -> (l.map h).mapM (dat st m) = some (l.map g) := by
  intro l
  induction l with
  | nil => exact fun _ => rfl
  | cons a l ih =>
   intro hh
   rw [List.map_cons, List.mapM_cons, hh a (by simp), ih fun b hb => hh b (by simp [hb])]; rfl
 rw [this l hh]; rfl
theorem qlv {j : Nat} (es : List Int) : (((es.map q19).filter fun r => r.1 == j).map fun r => V.str (r.2.2 ++ [97 + r.2.1])) = (q69 j es).map V.str := by
 rw [List.filter_map, List.map_map]
 unfold q69
 rw [List.map_map]
 rfl
theorem qfv (j : Nat) (es : List Int) : (q69 j es).length <= es.length := by unfold q69; rw [List.length_map]; exact List.length_filter_le _ _
theorem qro : [V.str (chs ""), V.str (chs "k"), V.str (chs "~k~"), V.str (chs "k~k~"), V.str (chs "~k~k"), V.str (chs "k~k~k"), V.str (chs "~k~k~k~")] = qhb.map V.str := by kernel_rfl!
theorem e14 : qhb.map V.str ++ odd7.map V.str = ws14.map V.str := by rw [<- List.map_append]; rfl
theorem e15 (w : List Nat) : ws14.map V.str ++ [V.str w] = (ws14 ++ [w]).map V.str := by rw [List.map_append]; rfl
theorem r1y (b : Int) (h : 0 <= b /\ b < 2) : (chs "~k").getD b.toNat 0 = if b = 0 then 126 else 107 := by
 rcases (by omega : b = 0 \/ b = 1) with h | h <;> subst h <;> decide +kernel
theorem r09 : (chs "~k").length = 2 := by decide +kernel
theorem q0o : ws14.length = 14 := by decide
theorem qfu {α : Type} (f : α -> Nat) : ∀ l : List α, (l.map fun k => [f k]).flatten = l.map f
 | [] => rfl
 | a :: l => by rw [List.map_cons, List.flatten_cons, qfu f l]; rfl
theorem q6k : ∀ w : List Nat, (w.flatMap numW).length <= 2 * w.length
 | [] => Nat.le_refl _
 | c :: w => by
  rw [List.flatMap_cons, List.length_append, List.length_cons]
  have := q6k w
  have : (numW c).length <= 2 := by unfold numW; split <;> simp
  omega
theorem qq7 (n0 : Int) : ∀ w ∈ ws14 ++ [w15 n0], w.length <= 12 := by
 have h : ws14.all (fun w => decide (w.length <= 12)) = true := by decide
 intro w hw
 rcases List.mem_append.mp hw with hw | hw
 ·exact of_decide_eq_true (List.all_eq_true.mp h w hw)
 ·simp at hw; subst hw; simp [w15]
noncomputable def q87 (row : List Int) : V := .lst (row.map V.int)
theorem r05 {α : Type} {l a : List α} {k : Nat} (hl : l.length <= cap) (ha : l.take k = a) : cut l .none (.int k) = some a := by
 subst ha
 unfold cut
 rw [if_neg (by omega)]
 show (some (0 : Int).toNat).bind (fun x => (some (if (k : Int) < 0 then ((k : Int) + l.length).toNat else min (k : Int).toNat l.length)).bind fun y => some ((l.take y).drop x)) = _
 rw [if_neg (by omega)]
 show some ((l.take (min (k : Int).toNat l.length)).drop 0) = _
 rw [List.drop_zero, Int.toNat_natCast]
 congr 1
 rw [List.take_eq_take_iff]
 omega
theorem qn2 {α : Type} {l : List α} {x : α} (hl : (l ++ [x]).length <= cap) : cut (l ++ [x]) .none (.int (-1)) = some l := by
 unfold cut
 rw [if_neg (by omega)]
 show (some (0 : Int).toNat).bind (fun x' => (some (((-1 : Int) + (l ++ [x]).length).toNat)).bind fun y => some (((l ++ [x]).take y).drop x')) = _
 have e1 : ((-1 : Int) + (l ++ [x]).length).toNat = l.length := by simp; omega
 rw [e1]
 show some (((l ++ [x]).take l.length).drop 0) = _
 simp
theorem qdw {α β : Type} : ∀ (a : List α) (b : List β), a.length = b.length -> (a.zip b).map Prod.fst = a
 | [], [], _ => rfl
 | x :: a, y :: b, h => by rw [List.zip_cons_cons, List.map_cons, qdw a b (by simpa using h)]
theorem qdz {α β : Type} : ∀ (a : List α) (b : List β), a.length = b.length -> (a.zip b).map Prod.snd = b
 | [], [], _ => rfl
 | x :: a, y :: b, h => by rw [List.zip_cons_cons, List.map_cons, qdz a b (by simpa using h)]
theorem RowsAt.zip {base st : Ev.St} {r : Nat} {refs : List Nat} {R : List (List Int)} (h : RowsAt base r refs R st) : ∀ p ∈ refs.zip R, st[p.1]? = some (.list (p.2.map V.int)) := by
 intro p hp
 obtain ⟨k, hk, he⟩ := List.mem_iff_getElem.mp hp
 have hk1 : k < refs.length := by simp at hk; omega
 have hk2 : k < R.length := by simp at hk; omega
 rw [List.getElem_zip] at he
 subst he
 exact h.rows k _ _ (List.getElem?_eq_getElem hk1) (List.getElem?_eq_getElem hk2)
theorem qo5 {base st : Ev.St} {r : Nat} {refs : List Nat} {R : List (List Int)} (h : RowsAt base r refs R st) : dat st 8 (.ref r) = some (.list (R.map fun row => .list (row.map PyData.int))) := by
 rw [qf1 h.out]
 have e1 : refs.map V.ref = (refs.zip R).map fun p => V.ref p.1 := by
  conv => lhs; rw [<- qdw refs R h.len]
  rw [List.map_map]; rfl
 have e2 : (R.map fun row => PyData.list (row.map PyData.int)) = (refs.zip R).map fun p => PyData.list (p.2.map PyData.int) := by
  conv => lhs; rw [<- qdz refs R h.len]
  rw [List.map_map]; rfl
 rw [e1, e2]
 exact q4h _ _ _ fun p hp => (qf1 (h.zip p hp)).trans (qh4 _)
theorem qgu (cl : List Nat) {w : List Nat} (hw : wrd w) (vs : List Nat) : (w.flatMap numW).foldr (fun x vs => q50 cl vs x) vs = semW cl w vs := by
 induction w with
 | nil => rfl
 | cons c w ih =>
  rw [List.flatMap_cons, List.foldr_append, ih fun d hd => hw d (by simp [hd])]
  rcases hw c (by simp) with rfl | rfl
  ·show q50 cl (semW cl w vs) 31 = qew cl 126 (semW cl w vs)
   rfl
  ·show q50 cl (q50 cl (semW cl w vs) 21) 20 = qew cl 107 (semW cl w vs)
   rfl
theorem qwc {cl w : List Nat} (hw : wrd w) : q4g cl (rowW w) = cdW cl w := by
 unfold q4g rowW cdW
 rw [List.foldl_reverse, List.foldr_append]
 have : List.foldr (fun x y => q50 cl y x) [] [256, 13] = List.range 16 := rfl
 rw [this, qgu cl hw]
theorem qvw {cl w : List Nat} (hw : wrd w) : q4g cl (rowZ w) = cdW cl w := by
 unfold q4g rowZ cdW
 rw [List.foldl_reverse, List.foldr_append]
 have : List.foldr (fun x y => q50 cl y x) [] [256, 255, 0] = List.range 16 := rfl
 rw [this, qgu cl hw]
theorem qjh (cl : List Nat) (n0 : Int) : (ws14.map rowW ++ [rowZ (w15 n0)]).map (fun row => V.str (q4g cl row)) = (ws14 ++ [w15 n0]).map fun w => V.str (cdW cl w) := by
 rw [List.map_append, List.map_append, List.map_map]
 have h1 : ws14.map ((fun row => V.str (q4g cl row)) ∘ rowW) = ws14.map fun w => V.str (cdW cl w) := List.map_congr_left fun w hw => by
  show V.str (q4g cl (rowW w)) = _
  rw [qwc (q4n w hw)]
 have h2 : [rowZ (w15 n0)].map (fun row => V.str (q4g cl row)) = [w15 n0].map fun w => V.str (cdW cl w) := by
  show [V.str (q4g cl (rowZ (w15 n0)))] = _
  rw [qvw (q4i n0)]; rfl
 rw [h1, h2]
theorem qml (R : List Nat) : ∀ n ∈ q3j R, n < 7 := by
 unfold q3j
 intro n hn
 split at hn
 ·simp at hn; omega
 split at hn
 ·simp at hn; omega
 split at hn
 ·split at hn <;> simp at hn <;> omega
 split at hn <;> simp at hn <;> omega
noncomputable def SamI (C : List (List Nat)) (i0 : Nat) (s0 : Ev.St) (l : List Nat) (acc : List V) (s : Ev.St) : Prop :=
 ∃ k, k <= 15 /\ l = List.range' k (15 - k) /\ acc = (List.range k).map (fun j => V.str (strN (fst' C j))) /\ s[i0]? = some (.list ((q3l C k).map hdV)) /\ ∀ i, i < i0 -> s[i]? = s0[i]?
theorem qj4 {C : List (List Nat)} (h : cod C) (k : Nat) : txtV (Txt.upper (S (C.getD k []))).cps.toList = some (.str ((C.getD k []).map up1)) :=
 r1s (fun c hc => by have := (qaw h k).1 c hc; omega) (by have := (qaw h k).2; unfold cap; omega)
theorem qkn {k : Nat} (hk : k < 15) : clean (strN k) := fun c hc => by
 have := of_decide_eq_true (List.all_eq_true.mp (qcs k hk).1 c hc)
 omega
theorem r17 {P : Prg} {n : Nat} {st : Ev.St} {l : List V} {Q : V -> Prop} (q : Q (.m (.lst l) "index")) : ∃ f, (ctxN P (n + 1)).meth st (.lst l) "index" = some f /\ Q f := ⟨_, rfl, q⟩
theorem r1j {n : Nat} {w r : List Nat} {st : Ev.St} {Q : V -> Ev.St -> Prop} (h : shN 12 w = some r) (q : Q (.str r) st) : W ((ctxN P03 (n + 1)).call (.fn "_law_short") [.str w] []) st Q := by
 refine W.of (a := .str r) (s := st) ?_ q
 show (gt ((shN 12 w).map V.str) : EvM V) st = _
 rw [h]; rfl
theorem qh2 {st : Ev.St} (m : Nat) (l : List (List Nat × List Nat)) : dat st (m + 3) (.lst (l.map hdV)) = some (.list (l.map fun p => .tuple [strD p.1, strD p.2])) :=
 q4h _ _ _ fun p _ => rfl
theorem qnc (l : List (List Nat × List Nat)) : PyData.eqv (.list (l.map fun p => PyData.tuple [strD p.1, strD p.2])) (.list (l.map fun p => PyData.tuple [strD p.1, strD p.2])) = true := q3q fun d hd => by
 obtain ⟨p, _, rfl⟩ := List.mem_map.mp hd
 unfold strD
 rw [PyData.eqv, PyData.eqvAll, PyData.eqvAll, PyData.eqvAll, S_eq, S_eq]
 simp
theorem qwe {C : List (List Nat)} {D : List Nat} {m : Nat} (h : Told C D m) : q3l C 15 = ((List.range 14).filter fun k => D.getD k 0 == k).map fun k => (nmK C k, strN k) := by
 have h14 : ¬ fst' C 14 = 14 := by rw [h.last]; have := h.dlt m h.m14; omega
 rw [q80, if_neg h14]
 unfold q3l
 congr 1
 exact List.filter_congr fun k hk => by rw [h.idx k (List.mem_range.mp hk)]
theorem r0r {C : List (List Nat)} {D : List Nat} {m : Nat} (h : Told C D m) : (List.range 15).map (fun j => strN (fst' C j)) = (D ++ [D.getD m 0]).map strN := by
 rw [List.range_succ, List.map_append, List.map_append]
 have e : (List.range 14).map (fun j => strN (fst' C j)) = D.map strN := by
  have hD : D = (List.range 14).map fun j => D.getD j 0 := by
   refine List.ext_getElem (by rw [h.dlen]; simp) fun i h1 h2 => ?_
   rw [List.getElem_map, List.getElem_range, List.getD_eq_getElem?_getD, List.getElem?_eq_getElem h1]; rfl
  conv => rhs; rw [hD]
  rw [List.map_map]
  exact List.map_congr_left fun j hj => by show strN (fst' C j) = _; rw [h.idx j (List.mem_range.mp hj)]; rfl
 rw [e]
 show _ ++ [strN (fst' C 14)] = _
 rw [h.last]; rfl
theorem qgg (es : List Int) : ∀ r ∈ es.map q19, r.1 < 4 /\ r.2.1 < 4 := by
 intro r hr
 obtain ⟨e, _, rfl⟩ := List.mem_map.mp hr
 refine ⟨?_, ?_⟩
 ·show frF e < 4
  unfold frF; omega
 ·show toF e < 4
  unfold toF; omega
theorem qqa {j : Nat} (hj : j < 4) (es : List Int) : (((es.filter fun e => frF e == j).filter fun e => q2s e == []).map fun e => V.int ((toF e : Nat) : Int)) = ((hidF (es.map q19)).getD j []).map fun (v : Nat) => V.int v := by
 have e : (hidF (es.map q19)).getD j [] = ((es.map q19).filter fun r => r.1 == j && r.2.2 == []).map fun r => r.2.1 := by
  unfold hidF
  rw [List.getD_eq_getElem?_getD, List.getElem?_map, List.getElem?_range hj]
  rfl
 rw [e, List.filter_map, List.map_map, List.map_map, List.filter_filter]
 have e2 : (es.filter fun e => (q2s e == []) && (frF e == j)) = es.filter ((fun r : Road => r.1 == j && r.2.2 == []) ∘ q19) := by
  refine List.filter_congr fun e _ => ?_
  show (q2s e == [] && frF e == j) = (frF e == j && q2s e == [])
  rw [Bool.and_comm]
 rw [e2]
 rfl
theorem qr8 (es : List Int) : ((List.range 4).map fun j => V.lst (((hidF (es.map q19)).getD j []).map fun (v : Nat) => V.int v)) = (hidF (es.map q19)).map fun l => V.lst (l.map fun (v : Nat) => V.int v) := by
 have e : (hidF (es.map q19)) = (List.range 4).map fun j => (hidF (es.map q19)).getD j [] := by
  generalize hH : hidF (es.map q19) = H
  have hl : H.length = 4 := by rw [<- hH]; simp [hidF]
  match H, hl with
  | [a, b, c, d], _ => rfl
 conv => rhs; rw [e]
 rw [List.map_map]; rfl
theorem qof {k : Nat} (hk : k < 4) {n : Nat} {st : Ev.St} {Q : V -> Ev.St -> Prop} (q : Q (.int (k : Int)) st) : W ((ctxN P03 (n + 1)).call (.m (.str (chs "abcd")) "index") [.str [97 + k]] []) st Q := by
 rcases (by omega : k = 0 \/ k = 1 \/ k = 2 \/ k = 3) with h | h | h | h <;> subst h <;> exact W.of (s := st) (by kernel_rfl!) q
theorem qqt (R : List Nat) : (clR R).length = 16 := by simp [clR]
theorem r1t (R : List Nat) : ∀ c ∈ clR R, c < 16 := by
 intro c hc
 unfold clR at hc
 obtain ⟨lit, _, rfl⟩ := List.mem_map.mp hc
 generalize (fun x => (R.getD x 0 &&& lit) != 0) = f
 show (((List.filter f [0, 1, 2, 3]).map (2 ^ ·)).sum) < 16
 simp only [List.filter]
 cases f 0 <;> cases f 1 <;> cases f 2 <;> cases f 3 <;> decide
theorem qxf {script : List Int} (hsl : script.length <= 63) : W ((ctxN P03 8).call (.fn "law") [.lst (script.map V.int)] []) [] fun v _ => v = .bool true := by
 refine c_fn (n := 7) (d := fnDs (stm 78)) (by kernel_rfl!) (by kernel_rfl!) (q20 [("script", .lst (script.map V.int))] (by kernel_rfl!) (by kernel_rfl!) ?_)
 conv => arg 1; arg 2; whnf
 walk_at "w"
 refine r55 (n := 2) hsl fun n0 es s h0 hes hlen hN => ?_
 walk_at "w"
 refine ⟨_, qi9 (qq0 (q34 (by kernel_rfl!) (q34 (by kernel_rfl!) (q34 (by kernel_rfl!) (q34 (by kernel_rfl!) qqj))))), ?_⟩
 walk_at "w"
 rw [show (chs "aBcD").map (fun c => V.str [c]) = (List.range 4).map fun j => V.str [nmC j] by kernel_rfl!]
 have hasc : ∀ h ∈ es.map hdrF, ascN h.1 := by
  intro h hh
  obtain ⟨e, _, rfl⟩ := List.mem_map.mp hh
  exact qh3 e
 refine q2a (fun j => V.str [nmC j]) (fun j => .lst ((q32 j es).map V.str)) rfl (List.range 4) (fun j hj => ?_) ?_
 ·have hj4 := List.mem_range.mp hj
  walk_at "w"
  refine qir hN.hd ⟨fun c hc => by simp at hc; subst hc; exact qv8 j hj4, by simp⟩ hasc (by simp; omega) ?_
  rw [qp5 hj4]
  exact ⟨rfl, rfl⟩
 refine q0q (by unfold cap; simp) (by kernel_rfl!) ?_
 walk_at "w"
 refine q2a (fun j => V.lst ((q32 j es).map V.str)) (fun j => .lst ((q69 j es).map V.str)) rfl (List.range 4) (fun j hj => ?_) ?_
 ·have hvl := qob j es
  walk_at "w"
  refine q2a V.str (fun v => .str (v.flatMap q1a)) rfl (q32 j es) (fun v hv => ?_) ?_
  ·walk_at "w"
   unfold q32 at hv
   obtain ⟨e, _, rfl⟩ := List.mem_map.mp hv
   refine qq3 (qg6 e).1 (by have := (qq6 e).2; omega) ?_
   exact ⟨rfl, rfl⟩
  ·refine q0q (by unfold cap; rw [List.length_map]; omega) (by kernel_rfl!) ?_
   rw [<- qrj j es, List.map_map]
   exact ⟨rfl, rfl⟩
 refine q0q (by unfold cap; simp) (by kernel_rfl!) ?_
 walk_at "w"
 refine qmk (d := .list ((List.range 4).map fun j => .list ((q32 j es).map strD))) (q4h _ _ _ fun j _ => q3p _) ?_ ?_ ?_
 ·show dat s 8 (.lst ((List.range 4).map fun j => V.ref (3 + j))) = _
  exact q4h _ _ _ fun j hj => (qf1 (hN.vl j (List.mem_range.mp hj))).trans (q3p _)
 ·refine q3q fun d hd => ?_
  obtain ⟨j, _, rfl⟩ := List.mem_map.mp hd
  exact qa9 _
 walk_at "w"
 refine q2a (fun (i : Nat) => V.int i) (fun j => .lst ((q69 j es).map V.str)) rfl (List.range 4) (fun j hj => ?_) ?_
 ·have hj4 := List.mem_range.mp hj
  have htl := qfv j es
  walk_at "w"
  refine qdc hN.rd ?_
  refine q0z q1d (fun r => r.1 == j) (fun r => .str (r.2.2 ++ [97 + r.2.1])) (qhf hN.rd) (es.map q19) (fun r hr => ?_) ?_
  ·obtain ⟨e, _, rfl⟩ := List.mem_map.mp hr
   have hto : toF e < 4 := by unfold toF; omega
   have hml := qg2 e
   walk_at "w"
   refine q9q (v := .int ((frF e : Nat) : Int)) (by unfold cap; simp) (by decide) (by simp) rfl ?_
   walk_at "w"
   by_cases hc : frF e = j
   ·rw [decide_eq_true (show ((frF e : Nat) : Int) = (j : Int) by rw [hc])]
    walk_at "w"
    refine q9q (v := .str (q2s e)) (by unfold cap; simp) (by decide) (by simp) rfl ?_
    walk_at "w"
    refine q9q (v := .int ((toF e : Nat) : Int)) (by unfold cap; simp) (by decide) (by simp) rfl ?_
    refine q77 (by kernel_rfl!) (by omega) (by rw [qa1.1]; omega) ?_
    rw [Int.toNat_natCast, qgt _ hto]
    refine q2w (by unfold cap; simp; omega) ?_
    exact ⟨by rw [show ((q19 e).1 == j) = true from beq_iff_eq.mpr hc]; rfl, rfl⟩
   ·rw [decide_eq_false (show ¬ ((frF e : Nat) : Int) = (j : Int) from fun h => hc (Int.ofNat_inj.mp h))]
    walk_at "w"
    exact ⟨by rw [show ((q19 e).1 == j) = false from beq_eq_false_iff_ne.mpr hc]; rfl, rfl⟩
  ·rw [qlv]
   refine q0q (by unfold cap; rw [List.length_map]; omega) (by kernel_rfl!) ?_
   exact ⟨rfl, rfl⟩
 refine q0q (by unfold cap; simp) (by kernel_rfl!) ?_
 refine qmk (d := .list ((List.range 4).map fun j => .list ((q69 j es).map strD))) (q4h _ _ _ fun j _ => q3p _) (q4h _ _ _ fun j _ => q3p _) ?_ ?_
 ·refine q3q fun d hd => ?_
  obtain ⟨j, _, rfl⟩ := List.mem_map.mp hd
  exact qa9 _
 walk_at "w"
 refine W.of (a := odd7.map V.str) (s := s) (by kernel_rfl!) ?_
 walk_at "w"
 rw [qro]
 refine q3a (by simp [qhb, odd7, cap]) ?_
 rw [e14]
 walk_at "w"
 refine q2a (fun (i : Nat) => V.int i) (fun k => .str [qkz n0 k]) rfl (List.range 12) (fun k hk => ?_) ?_
 ·have hk12 := List.mem_range.mp hk
  walk_at "w"
  refine q9k (by omega) ?_
  walk_at "w"
  rw [bitAnd_m1, Int.toNat_natCast]
  have hb : 0 <= n0 / 2 ^ k % 2 /\ n0 / 2 ^ k % 2 < 2 := by omega
  refine q77 (by kernel_rfl!) hb.1 (by rw [r09]; omega) ?_
  rw [r1y _ hb]
  exact ⟨rfl, rfl⟩
 refine q0q (by unfold cap; simp) (by kernel_rfl!) ?_
 walk_at "w"
 have hw15 : ((List.range 12).map fun k => [qkz n0 k]).flatten = w15 n0 := qfu _ _
 refine qgy (xs := (List.range 12).map fun k => [qkz n0 k]) (by rw [List.map_map]; rfl) (by rw [hw15]; unfold cap; simp [w15]) ?_ ?_
 ·rw [hw15, List.all_eq_true]
  intro c hc
  have := q4i n0 c hc
  exact decide_eq_true (by omega)
 rw [hw15]
 walk_at "w"
 refine q3a (by unfold cap; simp [q0o]) ?_
 rw [e15]
 walk_at "w"
 refine r1a (fun w hw => ?_) (by simp) (qtg n0) fun t hT htl => ?_
 ·rcases List.mem_append.mp hw with hw | hw
  ·exact q4n w hw
  ·simp at hw; subst hw; exact q4i n0
 walk_at "w"
 have hr16 : (n0 / 4096 % 16).toNat < 16 := by omega
 refine qq3 hT.1 (by omega) ?_
 rw [hT.2]
 walk_at "w"
 have hul : ((((ws14 ++ [w15 n0]).flatMap q1t).dropLast ++ [besF (n0 / 4096 % 16).toNat]) : List Nat).length <= 30000 := by
  have := (qa3 hT.1).1
  rw [hT.2] at this
  omega
 refine r12 hul (qre hr16 q4n (q4i n0)) (qs0 hr16) fun r refs s1 hR => ?_
 rw [quk hr16 q4n (q4i n0)] at hR
 walk_at "w"
 refine q2a V.str (fun w => q87 (rowW w)) rfl (ws14 ++ [w15 n0]) (fun w hw => ?_) ?_
 ·have hwl := qq7 n0 w hw
  have hww : wrd w := by
   rcases List.mem_append.mp hw with hw | hw
   ·exact q4n w hw
   ·simp at hw; subst hw; exact q4i n0
  have hnl := q6k w
  walk_at "w"
  refine qke (fun c => V.str [c]) (fun c => (numW c).map V.int) rfl w (fun c hc => ?_) ?_
  ·walk_at "w"
   rcases hww c hc with h | h
   ·subst h
    walk_at "w"
    refine q2a V.int V.int rfl [31] (fun n hn => ?_) ⟨rfl, rfl⟩
    walk_at "w"
    exact ⟨rfl, rfl⟩
   ·subst h
    walk_at "w"
    refine q2a V.int V.int rfl [20, 21] (fun n hn => ?_) ⟨rfl, rfl⟩
    walk_at "w"
    exact ⟨rfl, rfl⟩
  ·rw [<- List.map_flatMap]
   refine q0q (by unfold cap; rw [List.length_map]; omega) (by kernel_rfl!) ?_
   walk_at "w"
   refine q3a (by unfold cap; rw [List.length_append, List.length_map]; show _ + 2 <= 65536; omega) ?_
   exact ⟨by unfold q87 rowW; rw [List.map_append]; rfl, rfl⟩
 refine q0q (by unfold cap; simp [q0o]) (by kernel_rfl!) ?_
 walk_at "w"
 refine qk0 (r05 (k := 14) (a := ws14.map fun w => q87 (rowW w)) (by unfold cap; simp [q0o]) (by rw [List.map_append]; exact List.take_left' (by simp [q0o]))) ?_
 refine qbw (q0q (by unfold cap; simp [q0o]) (by kernel_rfl!) ?_)
 walk_at "w"
 refine q2i (v := q87 (rowW (w15 n0))) (by unfold cap; simp [q0o]) (by decide) (by simp [q0o]) (by
  rw [List.map_append, List.getElem?_append_right (by simp [q0o])]
  simp [q0o]) ?_
 have hnl := q6k (w15 n0)
 have hwl : (w15 n0).length = 12 := by simp [w15]
 have ez : q87 (rowW (w15 n0)) = .lst (((w15 n0).flatMap numW ++ [256]).map V.int ++ [V.int 13]) := by unfold q87 rowW; simp
 rw [ez]
 walk_at "w"
 refine qk0 (qn2 (by rw [List.length_append, List.length_map, List.length_append]; show _ + 1 + 1 <= 65536; omega)) ?_
 refine qbw (q0q (by unfold cap; rw [List.length_map, List.length_append]; show _ + 1 <= 65536; omega) (by kernel_rfl!) ?_)
 walk_at "w"
 refine q3a (by unfold cap; rw [List.length_append, List.length_map, List.length_append]; show _ + 1 + 2 <= 65536; omega) ?_
 have ez2 : V.lst (((w15 n0).flatMap numW ++ [256]).map V.int ++ [V.int 255, V.int 0]) = q87 (rowZ (w15 n0)) := by unfold q87 rowZ; simp
 rw [ez2]
 walk_at "w"
 refine q3a (by unfold cap; simp [q0o]) ?_
 have ez3 : (ws14.map fun w => q87 (rowW w)) ++ [q87 (rowZ (w15 n0))] = (ws14.map rowW ++ [rowZ (w15 n0)]).map q87 := by rw [List.map_append, List.map_map]; rfl
 rw [ez3]
 refine qmk (d := .list ((ws14.map rowW ++ [rowZ (w15 n0)]).map fun row => .list (row.map PyData.int))) (qo5 hR) (q4h _ _ _ fun row _ => qh4 _) ?_ ?_
 ·refine q3q fun d hd => ?_
  obtain ⟨row, _, rfl⟩ := List.mem_map.mp hd
  exact qoj _
 walk_at "w"
 refine q2a (fun j => V.lst ((q69 j es).map V.str)) (fun j => V.lst (((hidF (es.map q19)).getD j []).map fun (v : Nat) => V.int v)) rfl (List.range 4) (fun j hj => ?_) ?_
 ·have hj4 := List.mem_range.mp hj
  have htl := qfv j es
  walk_at "w"
  rw [show (q69 j es).map V.str = (es.filter fun e => frF e == j).map fun e => V.str (q2s e ++ [97 + toF e]) by unfold q69; rw [List.map_map]; rfl]
  refine q0z (fun e => V.str (q2s e ++ [97 + toF e])) (fun e => q2s e == []) (fun e => V.int ((toF e : Nat) : Int)) rfl (es.filter fun e => frF e == j) (fun e he => ?_) ?_
  ·have hml := qg2 e
   have hto : toF e < 4 := by unfold toF; omega
   walk_at "w"
   refine qn6 (by unfold cap; rw [List.length_append]; show _ + 1 <= 65536; omega) ?_
   walk_at "w"
   cases hm : q2s e with
   | nil =>
    rw [List.nil_append]
    walk_at "w"
    refine qof hto ?_
    exact ⟨rfl, rfl⟩
   | cons x l =>
    rw [decide_eq_false (by simp; omega)]
    walk_at "w"
    exact ⟨rfl, rfl⟩
  ·rw [qqa hj4]
   have : ((hidF (es.map q19)).getD j []).length <= es.length := by
    have h := congrArg List.length (qqa hj4 es)
    rw [List.length_map, List.length_map] at h
    rw [<- h]
    exact Nat.le_trans (List.length_filter_le _ _) (List.length_filter_le _ _)
   refine q0q (by unfold cap; rw [List.length_map]; omega) (by kernel_rfl!) ?_
   exact ⟨rfl, rfl⟩
 rw [qr8]
 have hhl : (hidF (es.map q19)).length = 4 := by simp [hidF]
 refine q0q (by unfold cap; rw [List.length_map, hhl]; decide) (by kernel_rfl!) ?_
 walk_at "w"
 refine qnq hhl ?_ fun s2 hs2 hsl2 => ?_
 ·intro l hl v hv
  unfold hidF at hl
  obtain ⟨j, _, rfl⟩ := List.mem_map.mp hl
  obtain ⟨r, hr, rfl⟩ := List.mem_map.mp hv
  exact (qgg es r (List.mem_filter.mp hr).1).2
 rw [qjv (qgg es)]
 have hF := qw1 (es.map q19)
 have hfs : q8f (war (q1e (es.map q19))) = q8f (war (q1e (es.map q19))) := rfl
 generalize hRR : war (q1e (es.map q19)) = RR at hF hfs
 have hcl1 := qqt RR
 have hcl2 := r1t RR
 have hsz := hR.size
 have hlt : ∀ {i : Nat} {o : O}, s1[i]? = some o -> i < s1.length := fun {i o} h => by
  rcases Nat.lt_or_ge i s1.length with h' | h'
  ·exact h'
  ·rw [List.getElem?_eq_none h'] at h; cases h
 have hkp : ∀ {i : Nat} {o : O}, s1[i]? = some o -> s2[i]? = some o := fun {i o} h => by rw [hs2 i (hlt h)]; exact h
 walk_at "w"
 refine qdc (hkp hR.out) ?_
 have ezip : refs.map V.ref = (refs.zip (ws14.map rowW ++ [rowZ (w15 n0)])).map fun p => V.ref p.1 := by
  conv => lhs; rw [<- qdw refs _ hR.len]
  rw [List.map_map]; rfl
 have esame := qk5 (hkp hR.out)
 rw [ezip] at esame ⊢
 refine q2a (fun p => V.ref p.1) (fun p => V.str (q4g (clR RR) p.2)) esame (refs.zip (ws14.map rowW ++ [rowZ (w15 n0)])) (fun p hp => ?_) ?_
 ·have hrow : p.2.length <= 30000 := by
   have h2 : p.2 ∈ ws14.map rowW ++ [rowZ (w15 n0)] := (List.of_mem_zip hp).2
   rcases List.mem_append.mp h2 with h2 | h2
   ·obtain ⟨w, hw, e⟩ := List.mem_map.mp h2
    rw [<- e]
    have := qq7 n0 w (List.mem_append.mpr (.inl hw))
    have := q6k w
    unfold rowW; rw [List.length_append]; show _ + 2 <= 30000; omega
   ·have e : p.2 = rowZ (w15 n0) := by simpa using h2
    rw [e]
    unfold rowZ; rw [List.length_append]; show _ + 3 <= 30000; omega
  walk_at "w"
  refine qwl (hkp (hR.zip p hp)) hrow hcl1 hcl2 ?_
  exact ⟨rfl, rfl⟩
 have ecod : ((refs.zip (ws14.map rowW ++ [rowZ (w15 n0)])).map fun p => V.str (q4g (clR RR) p.2)) = (ws14 ++ [w15 n0]).map fun w => V.str (cdW (clR RR) w) := by
  have e1 : ((refs.zip (ws14.map rowW ++ [rowZ (w15 n0)])).map fun p => V.str (q4g (clR RR) p.2)) = (ws14.map rowW ++ [rowZ (w15 n0)]).map fun row => V.str (q4g (clR RR) row) := by
   conv => rhs; rw [<- qdz refs _ hR.len]
   rw [List.map_map]; rfl
  rw [e1, qjh]
 rw [ecod]
 refine q0q (by unfold cap; simp [q0o]) (by kernel_rfl!) ?_
 walk_at "w"
 refine r4v ?_
 walk_at "w"
 obtain ⟨w, hsh, hw14, hsame⟩ := q6j (q4i n0) (show (w15 n0).length <= 12 by simp [w15])
 have hT' := qu6 hF hw14 hsame
 have ecd : (ws14 ++ [w15 n0]).map (fun w => V.str (cdW (clR RR) w)) = ((ws14 ++ [w15 n0]).map (cdW (clR RR))).map V.str := by rw [List.map_map]; rfl
 rw [ecd]
 have eml : (ws14 ++ [w15 n0]).idxOf w = ws14.idxOf w := qmg hw14 _
 generalize hC : (ws14 ++ [w15 n0]).map (cdW (clR RR)) = C at hT' ⊢
 generalize hD : dueN RR = D at hT'
 generalize hm : ws14.idxOf w = m at hT' eml
 have hget : ∀ k, k < 15 -> (C.map V.str)[k]? = some (.str (C.getD k [])) := by
  intro k hk
  rw [List.getElem?_map, List.getD_eq_getElem?_getD, List.getElem?_eq_getElem (by rw [hT'.len]; exact hk)]; rfl
 refine (m_st (fun (i : Nat) => V.int i) (SamI C s2.length s2) ?_ (List.range 15) [] _ ⟨0, by decide, by rw [List.range_eq_range'], rfl, ?_, fun i hi => by rw [List.getElem?_append_left hi]⟩).mono ?_
 ·rintro a l acc s' ⟨k, hk, hl, hacc, hst, hpre⟩
  have hk15 : k < 15 := by
   rcases Nat.lt_or_ge k 15 with h | h
   ·exact h
   ·rw [show 15 - k = 0 by omega] at hl; cases hl
  rw [show 15 - k = (14 - k) + 1 by omega, List.range'_succ] at hl
  injection hl with hl1 hl2
  subst hl1
  have hln := qgs C a
  have hq1 : ∀ v, getV (q3l C a) ((nmK C a).map lo1) = .str v -> fst' C a ≠ a /\ v = strN (fst' C a) := by
   intro v hv
   rw [qe6 hT'.cod, qfy hT'.cod (by rw [hT'.len]; exact hk15)] at hv
   split at hv
   ·cases hv
   ·rename_i hne; cases hv; exact ⟨hne, rfl⟩
  have hq2 : getV (q3l C a) ((nmK C a).map lo1) = .none -> fst' C a = a := by
   intro hv
   rw [qe6 hT'.cod, qfy hT'.cod (by rw [hT'.len]; exact hk15)] at hv
   split at hv
   ·rename_i he; exact he
   ·cases hv
  have hfin : W ((ctxN P03 7).call (.m (.hd s2.length) "setdefault") [.str (nmK C a), .str (strN a)] []) s' fun r s'' => Ev.same [] s'' = some ((), s'') /\ SamI C s2.length s2 l (acc ++ [r]) s'' := by
   refine r24 (n := 3) hst (qkf hT'.cod a) (qkn hk15) (qnv hT'.cod a) (by omega) ?_ ?_
   ·intro v hv
    obtain ⟨hne, rfl⟩ := hq1 v hv
    refine ⟨rfl, a + 1, by omega, by rw [hl2]; congr 1; omega, ?_, ?_, hpre⟩
    ·rw [hacc, List.range_succ, List.map_append]; rfl
    ·rw [q80, if_neg hne]; exact hst
   ·intro hv
    have he := hq2 hv
    have hlt' : s2.length < s'.length := by
     rcases Nat.lt_or_ge s2.length s'.length with h' | h'
     ·exact h'
     ·rw [List.getElem?_eq_none h'] at hst; cases hst
    refine ⟨rfl, a + 1, by omega, by rw [hl2]; congr 1; omega, ?_, ?_, ?_⟩
    ·rw [hacc, List.range_succ, List.map_append]
     show _ = _ ++ [V.str (strN (fst' C a))]
     rw [he]
    ·rw [q80, if_pos he, List.getElem?_set_self hlt']
    ·intro i hi
     rw [List.getElem?_set_ne (by omega)]; exact hpre i hi
  walk_at "w"
  by_cases hpar : a % 2 = 1
  ·rw [show ((a : Int) % 2 != 0) = true by rw [bne_iff_ne]; omega]
   walk_at "w"
   refine q2i (by unfold cap; rw [List.length_map, hT'.len]; decide) (by omega) (by rw [List.length_map, hT'.len]; omega) (by rw [Int.toNat_natCast]; exact hget a hk15) ?_
   walk_at "w"
   refine qes (qj4 hT'.cod a) ?_
   walk_at "w"
   refine qds (by omega) (q4e hk15) ?_
   walk_at "w"
   have en : nmK C a = (C.getD a []).map up1 := by unfold nmK; rw [if_pos hpar]
   rw [en] at hfin
   exact hfin
  ·rw [show ((a : Int) % 2 != 0) = false by rw [bne_eq_false_iff_eq]; omega]
   walk_at "w"
   refine q2i (by unfold cap; rw [List.length_map, hT'.len]; decide) (by omega) (by rw [List.length_map, hT'.len]; omega) (by rw [Int.toNat_natCast]; exact hget a hk15) ?_
   walk_at "w"
   refine qds (by omega) (q4e hk15) ?_
   walk_at "w"
   have en : nmK C a = C.getD a [] := by unfold nmK; rw [if_neg hpar]
   rw [en] at hfin
   exact hfin
 ·rw [List.getElem?_append_right (Nat.le_refl _)]
  simp [q3l]
 rintro acc s3 ⟨k, hk, hl, hacc, hst, hpre⟩
 have hk15 : k = 15 := by
  have := congrArg List.length hl
  simp at this
  omega
 subst hk15
 rw [List.nil_append] at hacc
 subst hacc
 refine q0q (by unfold cap; simp) (by kernel_rfl!) ?_
 walk_at "w"
 have hrd3 : s3[2]? = some (.list ((es.map q19).map q1d)) := by
  have h2l : 2 < s.length := by have := hN.len; omega
  have h2 : s2[2]? = some (.list ((es.map q19).map q1d)) := hkp (by rw [hR.pre 2 h2l]; exact hN.rd)
  rw [hpre 2 (by
   rcases Nat.lt_or_ge 2 s2.length with h' | h'
   ·exact h'
   ·rw [List.getElem?_eq_none h'] at h2; cases h2)]
  exact h2
 refine qod hrd3 ?_
 rw [hRR]
 unfold q8f
 walk_at "w"
 have hf7 := qml RR
 have hfl : (q3j RR).length = 7 := by
  have := hT'.dlen
  rw [<- hD] at this
  unfold dueN at this
  rw [List.length_append, List.length_map] at this
  omega
 refine q2a (fun (v : Nat) => V.int v) (fun v => V.str (strN v)) rfl (q3j RR) (fun v hv => ?_) ?_
 ·have := hf7 v hv
  walk_at "w"
  refine qds (by omega) (q4e (by omega)) ?_
  exact ⟨rfl, rfl⟩
 refine q0q (by unfold cap; rw [List.length_map]; omega) (by kernel_rfl!) ?_
 walk_at "w"
 refine q2a (fun (v : Nat) => V.int v) (fun v => V.str (strN (7 + v))) rfl (q3j RR) (fun v hv => ?_) ?_
 ·have := hf7 v hv
  walk_at "w"
  rw [show (7 : Int) + (v : Int) = ((7 + v : Nat) : Int) by omega]
  refine qds (by omega) (q4e (by omega)) ?_
  exact ⟨rfl, rfl⟩
 refine q0q (by unfold cap; rw [List.length_map]; omega) (by kernel_rfl!) ?_
 walk_at "w"
 refine q3a (by unfold cap; rw [List.length_append, List.length_map, List.length_map]; omega) ?_
 have edue : ((q3j RR).map fun v => V.str (strN v)) ++ ((q3j RR).map fun v => V.str (strN (7 + v))) = (D.map strN).map V.str := by
  rw [<- hD]
  unfold dueN
  rw [List.map_append, List.map_append, List.map_map, List.map_map, List.map_map]; rfl
 rw [edue]
 have hdue : ∀ k, k < 14 -> ((D.map strN).map V.str)[k]? = some (.str (strN (D.getD k 0))) := by
  intro k hk
  rw [List.getElem?_map, List.getElem?_map, List.getD_eq_getElem?_getD, List.getElem?_eq_getElem (by rw [hT'.dlen]; exact hk)]; rfl
 walk_at "w"
 refine q0z (fun (i : Nat) => V.int i) (fun k => D.getD k 0 == k) (fun k => hdV (nmK C k, strN k)) rfl (List.range 14) (fun k hk => ?_) ?_
 ·have hk14 := List.mem_range.mp hk
  have hdl := hT'.dlt k hk14
  walk_at "w"
  refine q2i (by unfold cap; rw [List.length_map, List.length_map, hT'.dlen]; decide) (by omega) (by rw [List.length_map, List.length_map, hT'.dlen]; omega) (by rw [Int.toNat_natCast]; exact hdue k hk14) ?_
  walk_at "w"
  refine qds (by omega) (q4e (by omega)) ?_
  walk_at "w"
  by_cases hc : D.getD k 0 = k
  ·rw [decide_eq_true (show strN (D.getD k 0) = strN k by rw [hc]), show (D.getD k 0 == k) = true from beq_iff_eq.mpr hc]
   walk_at "w"
   by_cases hpar : k % 2 = 1
   ·rw [show ((k : Int) % 2 != 0) = true by rw [bne_iff_ne]; omega]
    walk_at "w"
    refine q2i (by unfold cap; rw [List.length_map, hT'.len]; decide) (by omega) (by rw [List.length_map, hT'.len]; omega) (by rw [Int.toNat_natCast]; exact hget k (by omega)) ?_
    walk_at "w"
    refine qes (qj4 hT'.cod k) ?_
    walk_at "w"
    refine qds (by omega) (q4e (by omega)) ?_
    walk_at "w"
    have en : nmK C k = (C.getD k []).map up1 := by unfold nmK; rw [if_pos hpar]
    rw [en]
    exact ⟨rfl, rfl⟩
   ·rw [show ((k : Int) % 2 != 0) = false by rw [bne_eq_false_iff_eq]; omega]
    walk_at "w"
    refine q2i (by unfold cap; rw [List.length_map, hT'.len]; decide) (by omega) (by rw [List.length_map, hT'.len]; omega) (by rw [Int.toNat_natCast]; exact hget k (by omega)) ?_
    walk_at "w"
    refine qds (by omega) (q4e (by omega)) ?_
    walk_at "w"
    have en : nmK C k = C.getD k [] := by unfold nmK; rw [if_neg hpar]
    rw [en]
    exact ⟨rfl, rfl⟩
  ·rw [decide_eq_false (show ¬ strN (D.getD k 0) = strN k from fun e => hc (qui _ (by omega) _ (by omega) e)), show (D.getD k 0 == k) = false from beq_eq_false_iff_ne.mpr hc]
   walk_at "w"
   exact ⟨rfl, rfl⟩
 have hll : ((List.range 14).filter fun k => D.getD k 0 == k).length <= 14 := Nat.le_trans (List.length_filter_le _ _) (by simp)
 refine q0q (by unfold cap; rw [List.length_map]; omega) (by kernel_rfl!) ?_
 walk_at "w"
 refine r17 ?_
 walk_at "w"
 have hw15e : ((ws14 ++ [w15 n0]).map V.str)[14]? = some (.str (w15 n0)) := by
  rw [List.getElem?_map, List.getElem?_append_right (by rw [q0o]; exact Nat.le_refl _), q0o]; rfl
 refine q2i (by unfold cap; simp [q0o]) (by decide) (by simp [q0o]) hw15e ?_
 walk_at "w"
 refine r1j hsh ?_
 walk_at "w"
 refine qrn (by unfold cap; simp [q0o]) (List.mem_append.mpr (.inl hw14)) ?_
 rw [eml]
 refine q2i (by unfold cap; rw [List.length_map, List.length_map, hT'.dlen]; decide) (by omega) (by rw [List.length_map, List.length_map, hT'.dlen]; have := hT'.m14; omega) (by rw [Int.toNat_natCast]; exact hdue m hT'.m14) ?_
 walk_at "w"
 refine q3a (by unfold cap; rw [List.length_append, List.length_map, List.length_map, hT'.dlen]; show 14 + 1 <= 65536; decide) ?_
 have esm1 : (List.range 15).map (fun j => V.str (strN (fst' C j))) = ((List.range 15).map fun j => strN (fst' C j)).map V.str := by rw [List.map_map]; rfl
 have esm2 : (D.map strN).map V.str ++ [V.str (strN (D.getD m 0))] = ((D ++ [D.getD m 0]).map strN).map V.str := by rw [List.map_append, List.map_append]; rfl
 rw [esm1, esm2, r0r hT']
 refine qpa (q3p _) (q3p _) (qa9 _) ?_
 walk_at "w"
 refine qrs hst (by rw [List.length_map]; have := qgs C 15; unfold cap; omega) ?_
 walk_at "w"
 have ela : ((List.range 14).filter fun k => D.getD k 0 == k).map (fun k => hdV (nmK C k, strN k)) = (q3l C 15).map hdV := by rw [qwe hT', List.map_map]; rfl
 rw [ela]
 refine qpa (qh2 5 _) (qh2 5 _) (qnc _) ?_
 rfl
theorem T3 : ∀ script : List Int, script.length <= 63 -> ∃ st', (ctxN P03 8).call (.fn "law") [.lst (script.map .int)] [] [] = some (.bool true, st') := by
 intro script h
 obtain ⟨v, s, h1, h2⟩ := qxf h
 subst h2
 exact ⟨s, h1⟩
end Mt
theorem PySem.Challenge.cw_kl0260_03_holds : PySem.Challenge.rw_kl0260_03.Holds :=
 Mine.qow (Mine.qx5 Mt.T3)
