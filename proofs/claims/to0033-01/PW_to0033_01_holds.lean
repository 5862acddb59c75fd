import PyProof.Rows.All
import Wide.All
import OpenK.AllK
import Wide.FinOn
import Lean
import PySem.Challenge.RW_to0033_01
set_option Elab.async false
section
open PySem PySem.W PyProof.Rows
set_option Elab.async false
set_option maxRecDepth 100000
set_option linter.unusedVariables false
namespace Mine
noncomputable section
theorem twin_made : (PySem.Challenge.pw_to0033_01.main.body.length == 28) = true := by k_qdec
noncomputable abbrev pw : Program := PySem.W.Fast.tw14109796993401267578
theorem pw_eq : PySem.Challenge.pw_to0033_01 = pw := PySem.W.Fast.te14109796993401267578
noncomputable def fD (i : Nat) (g : Addr) (pm cd : Value) (b : Addr) : Data := match pw.main.body[i]? with
  | some (.FunctionDef name args body _ _ _ scope _ _ _) => .func { name := name, qualname := name, params := args, body := .stmts body, scope := scope, globals := g, closure := [], defaults := .none, kwdefaults := .none, pyModule := pm, code := cd, builtins := b }
  | _ => .plain
noncomputable def envM : Env := { scope := pw.main.scope, locals := mainNs, globals := mainNs, cells := [], code := .ref 30, frame := some 31 }
noncomputable def cE : Code := .body (behindTheImports pw) envM
noncomputable abbrev p0 : Pos := ⟨0,0,0,0⟩
noncomputable abbrev BB : List Frame := [topFrame p0]
end
end Mine
end
section
open PySem PySem.W PyProof.Rows
set_option Elab.async false
set_option linter.unusedVariables false
namespace Mine
noncomputable section
variable {w : World} {α β : Type}
noncomputable abbrev GO (w : World) (n : Nat) (s : Shared) (t : Thread) : Option (Shared × Thread) := segGo treeTable pw w 28 (some (.ref 6)) 1 n s t
theorem go_add : ∀ {n m : Nat} {s s' : Shared} {t t' : Thread} {r}, GO w n s t = some (s', t') → GO w m s' t' = r → GO w (n + m) s t = r
  | 0, m, s, s', t, t', r, h, k => by
    obtain ⟨rfl, rfl⟩ : s = s' ∧ t = t' := by simpa [segGo] using h
    rw [Nat.zero_add]; exact k
  | n + 1, m, s, s', t, t', r, h, k => by
    rw [show n + 1 + m = n + m + 1 by omega]
    unfold GO segGo at h ⊢
    cases he : endAt 1 t with
    | some f => rw [he] at h; cases h
    | none =>
      rw [he] at h
      cases hk : stepOk 28 (some (.ref 6)) t with
      | false => rw [hk] at h; cases h
      | true =>
        rw [hk] at h
        cases hs : step (denote treeTable) pw w s t with
        | halt o s₂ => rw [hs] at h; cases h
        | go s₂ t₂ => rw [hs] at h; exact go_add h k

noncomputable def Sg (w : World) (n : Nat) (t : Sem α) (s : Shared) (a : α) (s' : Shared) : Prop :=
  ∀ (K : α → Sem Fin) (H : Value → Sem Fin) (gd : Bool → Bool) (lv : List Value → List Value) (p : Pos), ∃ p', GO w n s ⟨t.wrap K H gd lv, cE, p, BB⟩ = some (s', ⟨K a, cE, p', BB⟩)

theorem Sg.pure {a : α} {s : Shared} : Sg w 0 (pure a) s a s := fun K H gd lv p => ⟨p, rfl⟩
theorem Sg.of_eq {n : Nat} {t t' : Sem α} {s s' : Shared} {a : α} (e : t = t') (h : Sg w n t' s a s') : Sg w n t s a s' := e ▸ h
theorem Sg.cast {n n' : Nat} {t : Sem α} {s s' : Shared} {a : α} (h : Sg w n t s a s') (e : n = n') : Sg w n' t s a s' := e ▸ h
theorem Sg.bind {n k : Nat} {m : Sem α} {f : α → Sem β} {s s1 s2 : Shared} {a : α} {b : β} (h1 : Sg w n m s a s1) (h2 : Sg w k (f a) s1 b s2) : Sg w (n + k) (m >>= f) s b s2 := by
  intro K H gd lv p
  rw [Sem.bind_eq_wrap', Sem.wrap_wrap]
  obtain ⟨p1, e1⟩ := h1 (fun a => (f a).wrap K H gd lv) (fun e => (Sem.raise e : Sem β).wrap K H gd lv) (fun g => gd (id g)) (fun l => lv (id l)) p
  obtain ⟨p2, e2⟩ := h2 K H gd lv p1
  exact ⟨p2, go_add e1 e2⟩
theorem Sg.keep {n : Nat} {m : Sem α} {vs : List Value} {s s' : Shared} {a : α} (h : Sg w n m s a s') : Sg w n (m.keep vs) s a s' := by
  intro K H gd lv p
  rw [Sem.keep_eq_wrap, Sem.wrap_wrap]
  exact h _ _ _ _ p
theorem Sg.holding {n : Nat} {m : Sem α} {vs : List Value} {s s' : Shared} {a : α} (h : Sg w n m s a s') : Sg w n (holding vs m) s a s' := by
  unfold PySem.holding
  split
  · exact h
  · exact h.keep
theorem Sg.onRaise {n : Nat} {m : Sem α} {k : Value → Sem Unit} {s s' : Shared} {a : α} (h : Sg w n m s a s') : Sg w n (m.onRaise k) s a s' := by
  intro K H gd lv p
  rw [Sem.onRaise_eq_wrap, Sem.wrap_wrap]
  exact h _ _ _ _ p
theorem Sg.rule {tag : String} {s : Shared} : Sg w 1 (rule tag) s () s := by obtain ⟨h, g, d, t, o⟩ := s; exact fun K H gd lv p => ⟨p, rfl⟩
theorem Sg.standAt {q : Pos} {s : Shared} : Sg w 1 (standAt q) s () s := by obtain ⟨h, g, d, t, o⟩ := s; exact fun K H gd lv p => ⟨q, rfl⟩
theorem Sg.fresh {s : Shared} : Sg w 1 fresh s s.toks { s with toks := s.toks + 1 } := by obtain ⟨h, g, d, t, o⟩ := s; exact fun K H gd lv p => ⟨p, rfl⟩
theorem Sg.mkInt {s : Shared} {i : Int} : Sg w 1 (mkInt i) s (.int i s.toks) { s with toks := s.toks + 1 } := by obtain ⟨h, g, d, t, os⟩ := s; exact fun K H gd lv p => ⟨p, rfl⟩
theorem Sg.mkText {s : Shared} {x : Str} : Sg w 1 (mkText x) s (.str x s.toks) { s with toks := s.toks + 1 } := by obtain ⟨h, g, d, t, os⟩ := s; exact fun K H gd lv p => ⟨p, rfl⟩
theorem Sg.alloc {s : Shared} {o : Obj} : Sg w 1 (alloc o) s s.heap.objs.size { s with heap := s.heap.push o } := by obtain ⟨h, g, d, t, os⟩ := s; exact fun K H gd lv p => ⟨p, rfl⟩
theorem Sg.loadPart {s : Shared} {a : Addr} {q : Option Value} {o : Obj} (h : s.heap.get? a = some o) : Sg w 1 (loadPart a q) s o s := by
  obtain ⟨hp, g, d, t, os⟩ := s
  intro K H gd lv p
  refine ⟨p, ?_⟩
  show (match step (denote treeTable) pw w ⟨hp, g, d, t, os⟩ ⟨.load a q (fun o => K o), cE, p, BB⟩ with | .go s' t' => some (s', t') | .halt _ _ => none) = _
  simp only [step, h]
theorem Sg.load {s : Shared} {a : Addr} {o : Obj} (h : s.heap.get? a = some o) : Sg w 1 (load a) s o s := Sg.loadPart h
theorem Sg.updatePart {s : Shared} {a : Addr} {q : Option Value} {f : Obj → Obj} {o : Obj} (h : s.heap.get? a = some o) (ha : 28 ≤ a) : Sg w 1 (updatePart a q f) s () { s with heap := s.heap.update a f } := by
  obtain ⟨hp, g, d, t, os⟩ := s
  intro K H gd lv p
  refine ⟨p, ?_⟩
  have hb : Nat.ble 28 a = true := Nat.ble_eq_true_of_le ha
  show (match stepOk 28 (some (.ref 6)) ⟨.update a q f (fun o => K ()), cE, p, BB⟩ with | false => none | true => match step (denote treeTable) pw w ⟨hp, g, d, t, os⟩ ⟨.update a q f (fun o => K ()), cE, p, BB⟩ with | .go s' t' => some (s', t') | .halt _ _ => none) = _
  have hk : stepOk 28 (some (.ref 6)) ⟨.update a q f (fun o => K ()), cE, p, BB⟩ = true := by
    unfold stepOk
    show (_ && (Nat.ble 28 a || _ || _ || _)) = true
    rw [hb]
    rfl
  rw [hk]
  have h' : hp.get? a = some o := h
  simp only [step, h', Option.isSome_some, if_true]
end
end Mine
end
section
open PySem PySem.W PyProof.Rows
set_option Elab.async false
set_option linter.unusedVariables false
set_option maxRecDepth 100000
namespace Mine
noncomputable section
theorem hash_goF (w : World) (k : Int) (t : Tok) (h : Heap) (d : Drawn) (tk : Nat) (os : OsState) (K : Int → Sem Fin) (H : Value → Sem Fin) (gd : Bool → Bool) (lv : List Value → List Value) (p : Pos)
  : GO (w.withFollow "special-get-raises" false) 5 ⟨h, ⟨[]⟩, d, tk, os⟩ ⟨(pyHash (.int k t)).wrap K H gd lv, cE, p, BB⟩ = some (⟨h, ⟨[]⟩, d, tk + 1, os⟩, ⟨(pyHashByItsType.reduced (rawHash k)).wrap K H gd lv, cE, p, BB⟩) := by
  unfold GO
  rw [PySem.W.Fast.te3277212676724774461, PySem.W.Fast.te14364793385576792824]
  kernel_rfl
theorem hash_goT (w : World) (k : Int) (t : Tok) (h : Heap) (d : Drawn) (tk : Nat) (os : OsState) (K : Int → Sem Fin) (H : Value → Sem Fin) (gd : Bool → Bool) (lv : List Value → List Value) (p : Pos)
  : GO (w.withFollow "special-get-raises" true) 5 ⟨h, ⟨[]⟩, d, tk, os⟩ ⟨(pyHash (.int k t)).wrap K H gd lv, cE, p, BB⟩ = some (⟨h, ⟨[]⟩, d, tk + 1, os⟩, ⟨(pyHashByItsType.reduced (rawHash k)).wrap K H gd lv, cE, p, BB⟩) := by
  unfold GO
  rw [PySem.W.Fast.te3277212676724774461, PySem.W.Fast.te14364793385576792824]
  kernel_rfl
theorem hash_go (w : World) (k : Int) (t : Tok) (h : Heap) (d : Drawn) (tk : Nat) (os : OsState) (K : Int → Sem Fin) (H : Value → Sem Fin) (gd : Bool → Bool) (lv : List Value → List Value) (p : Pos)
  : GO w 5 ⟨h, ⟨[]⟩, d, tk, os⟩ ⟨(pyHash (.int k t)).wrap K H gd lv, cE, p, BB⟩ = some (⟨h, ⟨[]⟩, d, tk + 1, os⟩, ⟨(pyHashByItsType.reduced (rawHash k)).wrap K H gd lv, cE, p, BB⟩) :=
  byRow2 "special-get-raises" (P := fun w => GO w 5 ⟨h, ⟨[]⟩, d, tk, os⟩ ⟨(pyHash (.int k t)).wrap K H gd lv, cE, p, BB⟩ = some (⟨h, ⟨[]⟩, d, tk + 1, os⟩, ⟨(pyHashByItsType.reduced (rawHash k)).wrap K H gd lv, cE, p, BB⟩))
    (fun w => hash_goF w k t h d tk os K H gd lv p) (fun w => hash_goT w k t h d tk os K H gd lv p) w

theorem raw_is {k : Int} (h0 : 0 ≤ k) (h1 : k < 2 ^ 60) : rawHash k = k := by
  have hn : ¬ k < 0 := by omega
  have e2 : ((k.natAbs : Int) % ((2 ^ 61 - 1 : Nat) : Int)) = k := by
    have e1 : (k.natAbs : Int) = k := by omega
    rw [e1]; exact Int.emod_eq_of_lt h0 (by omega)
  unfold rawHash
  dsimp only
  rw [if_neg hn]
  have e3 : ((k.natAbs % (2 ^ 61 - 1 : Nat) : Nat) : Int) = k := by rw [Int.natCast_emod]; exact e2
  first
    | rw [e2, if_neg (by rw [beq_iff_eq]; omega)]
    | rw [e3, if_neg (by rw [beq_iff_eq]; omega)]
theorem reduced_is {k : Int} (h0 : 0 ≤ k) (h1 : k < 2 ^ 60) : pyHashByItsType.reduced k = pure k := by
  unfold pyHashByItsType.reduced
  rw [if_pos (by rw [Bool.and_eq_true, decide_eq_true_eq, decide_eq_true_eq]; constructor <;> omega)]
  rw [if_neg (by rw [beq_iff_eq]; omega)]
variable {w : World}
noncomputable abbrev St (h : Heap) (tk : Nat) (os : OsState) : Shared := ⟨h, ⟨[]⟩, {}, tk, os⟩
theorem Sg.hash {k : Int} {t : Tok} {h : Heap} {tk : Nat} {os : OsState} (h0 : 0 ≤ k) (h1 : k < 2 ^ 60) : Sg w 5 (pyHash (.int k t)) (St h tk os) k (St h (tk + 1) os) := by
  intro K H gd lv p
  refine ⟨p, ?_⟩
  rw [hash_go, raw_is h0 h1, reduced_is h0 h1]
  rfl

noncomputable def dObj (es : List DictEntry) : Obj := ⟨.type "dict", none, .dict es.toArray es.length, #[]⟩
noncomputable def Fresh (h : Int) (es : List DictEntry) : Prop := ∀ e ∈ es, e.hash ≠ h
theorem places_none {h : Int} {es : List DictEntry} (f : Fresh h es) : placesWithHash es.toArray.size (fun i => es.toArray[i]?.map (·.hash)) h = [] := by
  unfold placesWithHash
  rw [List.filter_eq_nil_iff]
  intro i hi
  show ¬ (((es.toArray[i]?).map (·.hash)) == some h) = true
  rw [List.getElem?_toArray]
  cases e : es[i]? with
  | none => simp
  | some x =>
    have := f x (List.mem_of_getElem? e)
    simpa using this
theorem Sg.find {d : Addr} {k : Int} {t : Tok} {s : Shared} {es : List DictEntry} (ho : s.heap.get? d = some (dObj es)) (f : Fresh k es) : Sg w 1 (dictFind d (.int k t) k) s none s := by
  unfold dictFind
  refine Sg.holding ?_
  refine Sg.cast (n := 1 + 0) (Sg.bind (a := es.toArray) (s1 := s) ?_ ?_) rfl
  · unfold dictEntries
    refine Sg.cast (n := 1 + 0) (Sg.bind (Sg.loadPart ho) ?_) rfl
    exact Sg.pure
  · have pn := places_none f
    simp only [pn, List.filterMap_nil]
    rw [if_pos (by rfl)]
    unfold dictWalkPlain
    exact Sg.of_eq (by rfl) (Sg.pure (a := none))
end
end Mine
end
section
open PySem PySem.W PyProof.Rows
set_option Elab.async false
set_option linter.unusedVariables false
set_option maxRecDepth 100000
namespace Mine
noncomputable section
noncomputable def HD (b : Heap) (xs : List Obj) : Heap := ⟨b.objs ++ xs.toArray, b.life⟩
theorem HD_nil (b : Heap) : HD b [] = b := by
  unfold HD; obtain ⟨o, l⟩ := b; simp
theorem HD_size (b : Heap) (xs : List Obj) : (HD b xs).objs.size = b.objs.size + xs.length := by simp [HD]
theorem HD_push (b : Heap) (xs : List Obj) (o : Obj) : (HD b xs).push o = HD b (xs ++ [o]) := by
  show Heap.mk _ _ = Heap.mk _ _
  congr 1
  apply Array.ext'
  simp
theorem HD_get {b : Heap} {xs : List Obj} {i : Nat} {es : List DictEntry} (h : xs[i]? = some (dObj es)) : (HD b xs).get? (b.objs.size + i) = some (dObj es) := by
  unfold Heap.get? HD
  have e : (b.objs ++ xs.toArray)[b.objs.size + i]? = some (dObj es) := by
    rw [Array.getElem?_append_right (by omega)]
    simpa using h
  show (match (b.objs ++ xs.toArray)[b.objs.size + i]? with | some ⟨_, _, .freed, _⟩ => none | o => o) = _
  rw [e]
  rfl
theorem HD_upd {b : Heap} {xs : List Obj} {i : Nat} {o : Obj} {f : Obj → Obj} (h : xs[i]? = some o) : (HD b xs).update (b.objs.size + i) f = HD b (xs.set i (f o)) := by
  show Heap.mk _ _ = Heap.mk _ _
  congr 1
  apply Array.ext_getElem?
  intro j
  rw [Array.getElem?_modify]
  show (if b.objs.size + i = j then ((b.objs ++ xs.toArray)[j]?).map f else (b.objs ++ xs.toArray)[j]?) = (b.objs ++ (xs.set i (f o)).toArray)[j]?
  by_cases hj : j < b.objs.size
  · rw [Array.getElem?_append_left hj, Array.getElem?_append_left hj, if_neg (by omega)]
  · rw [Array.getElem?_append_right (by omega), Array.getElem?_append_right (by omega), List.getElem?_toArray, List.getElem?_toArray, List.getElem?_set]
    have hl : i < xs.length := by
      rw [List.getElem?_eq_some_iff] at h
      exact h.1
    by_cases e : b.objs.size + i = j
    · subst e
      have : b.objs.size + i - b.objs.size = i := by omega
      rw [if_pos rfl, this, h, if_pos rfl, if_pos hl]; rfl
    · rw [if_neg e, if_neg (by omega)]
theorem map_dObj (es : List DictEntry) (e : DictEntry) : Obj.mapDictKeys (·.push e) (dObj es) = dObj (es ++ [e]) := by
  unfold dObj Obj.mapDictKeys
  simp
variable {w : World}
theorem Sg.keys {b : Heap} {xs : List Obj} {i : Nat} {es : List DictEntry} {e : DictEntry} {q : Option Value} {tk : Nat} {os : OsState} (hb : 28 ≤ b.objs.size) (h : xs[i]? = some (dObj es)) (hl : es.length ≤ 2000) :
    Sg w 3 (updateDictKeys (b.objs.size + i) (·.push e) q) (St (HD b xs) tk os) () (St (HD b (xs.set i (dObj (es ++ [e])))) tk os) := by
  unfold updateDictKeys
  refine Sg.cast (n := 1 + 2) (Sg.bind (Sg.loadPart (s := St (HD b xs) tk os) (HD_get h)) ?_) rfl
  show Sg w 2 (PySem.updatePart (b.objs.size + i) q (Obj.mapDictKeys (·.push e)) >>= fun _ => lookBehind (b.objs.size + i) q) _ _ _
  refine Sg.cast (n := 1 + 1) (Sg.bind (Sg.updatePart (s := St (HD b xs) tk os) (a := b.objs.size + i) (HD_get h) (Nat.le_trans hb (Nat.le_add_right _ _))) ?_) rfl
  show Sg w 1 _ (St ((HD b xs).update (b.objs.size + i) (Obj.mapDictKeys (·.push e))) tk os) _ _
  rw [HD_upd h, map_dObj]
  unfold lookBehind
  have hi : i < xs.length := by
    rw [List.getElem?_eq_some_iff] at h; exact h.1
  have g : (xs.set i (dObj (es ++ [e])))[i]? = some (dObj (es ++ [e])) := by rw [List.getElem?_set, if_pos rfl, if_pos hi]
  refine Sg.cast (n := 1 + 0) (Sg.bind (Sg.loadPart (s := St (HD b (xs.set i (dObj (es ++ [e])))) tk os) (HD_get g)) ?_) rfl
  have hp : (dObj (es ++ [e])).data.pastItsLine = none := by
    show (if _ > _ then _ else _) = _
    rw [if_neg]
    simp [sizeLine]
    omega
  rw [hp]
  exact Sg.pure
theorem Sg.set {b : Heap} {xs : List Obj} {i : Nat} {es : List DictEntry} {k : Int} {t : Tok} {v : Value} {tk : Nat} {os : OsState} (hb : 28 ≤ b.objs.size) (h : xs[i]? = some (dObj es)) (hl : es.length ≤ 2000)
    (h0 : 0 ≤ k) (h1 : k < 2 ^ 60) (f : Fresh k es) :
    Sg w 10 (dictSet (b.objs.size + i) (.int k t) v) (St (HD b xs) tk os) () (St (HD b (xs.set i (dObj (es ++ [⟨k, .int k t, v⟩])))) (tk + 1) os) := by
  unfold dictSet
  refine Sg.holding (Sg.cast (n := 5 + 5) (Sg.bind (Sg.hash h0 h1) ?_) rfl)
  unfold dictSetHashed
  refine Sg.holding (Sg.cast (n := 1 + 4) (Sg.bind (Sg.find (s := St (HD b xs) (tk + 1) os) (HD_get h) f) ?_) rfl)
  exact Sg.cast (n := 1 + 3) (Sg.bind Sg.rule (Sg.keys hb h hl)) rfl
theorem Sg.put {b : Heap} {xs : List Obj} {i : Nat} {es : List DictEntry} {k : Int} {t : Tok} {v : Value} {tk : Nat} {os : OsState} (hb : 28 ≤ b.objs.size) (h : xs[i]? = some (dObj es)) (hl : es.length ≤ 2000)
    (f : Fresh k es) :
    Sg w 4 (dictPut (b.objs.size + i) k (.int k t) v) (St (HD b xs) tk os) () (St (HD b (xs.set i (dObj (es ++ [⟨k, .int k t, v⟩])))) tk os) := by
  unfold dictPut
  exact Sg.cast (n := 1 + 3) (Sg.bind (Sg.find (s := St (HD b xs) tk os) (HD_get h) f) (Sg.keys hb h hl)) rfl
end
end Mine
end
section
open PySem PySem.W PyProof.Rows
set_option Elab.async false
set_option linter.unusedVariables false
set_option maxRecDepth 100000
namespace Mine
noncomputable section
variable {w : World}
noncomputable def prs (pos : Pos) (kvs : List (Int × Str)) : List (Sem Value × Sem Value) := kvs.map fun q => (mkInt q.1, do let x ← mkText q.2; standAt pos; pure x)
noncomputable def entL : List (Int × Str) → Tok → List DictEntry
  | [], _ => []
  | q :: r, t => ⟨q.1, .int q.1 t, .str q.2 (t + 1)⟩ :: entL r (t + 3)
noncomputable def Asc : Int → List Int → Prop
  | _, [] => True
  | m, k :: r => m < k ∧ k < 2 ^ 60 ∧ Asc k r
noncomputable def Le (m : Int) (es : List DictEntry) : Prop := ∀ e ∈ es, e.hash ≤ m
theorem Le.fresh {m k : Int} {es : List DictEntry} (h : Le m es) (hk : m < k) : Fresh k es := fun e he q => by have := h e he; omega
theorem Le.snoc {m k : Int} {es : List DictEntry} {e : DictEntry} (h : Le m es) (hk : m < k) (he : e.hash = k) : Le k (es ++ [e]) := fun x hx => by
  rcases List.mem_append.mp hx with q | q
  · have := h x q; omega
  · rw [List.mem_singleton] at q; subst q; omega
theorem set_get {xs : List Obj} {i : Nat} {o o' : Obj} (h : xs[i]? = some o) : (xs.set i o')[i]? = some o' := by
  have hi : i < xs.length := by rw [List.getElem?_eq_some_iff] at h; exact h.1
  rw [List.getElem?_set, if_pos rfl, if_pos hi]
theorem sg_long {b : Heap} {i : Nat} {pos : Pos} {os : OsState} (hb : 28 ≤ b.objs.size) : ∀ (kvs : List (Int × Str)) (xs : List Obj) (es : List DictEntry) (m : Int) (tk : Nat), xs[i]? = some (dObj es) → es.length + kvs.length ≤ 2000 → -1 ≤ m → Le m es → Asc m (kvs.map (·.1)) →
    Sg w (13 * kvs.length) (forIn (prs pos kvs) PUnit.unit fun x (_ : PUnit) => do
        let kv ← x.1
        let vv ← holding [kv] x.2
        holding [kv, vv] (dictSet (b.objs.size + i) kv vv)
        pure (ForInStep.yield PUnit.unit)) (St (HD b xs) tk os) PUnit.unit (St (HD b (xs.set i (dObj (es ++ entL kvs tk)))) (tk + 3 * kvs.length) os)
  | [], xs, es, m, tk, h, hl, hm, hle, ha => by
    have e : xs.set i (dObj (es ++ entL [] tk)) = xs := by
      rw [entL, List.append_nil]
      exact List.ext_getElem? fun j => by
        rw [List.getElem?_set]
        by_cases q : i = j
        · subst q
          have hi : i < xs.length := by rw [List.getElem?_eq_some_iff] at h; exact h.1
          rw [if_pos rfl, if_pos hi, h]
        · rw [if_neg q]
    rw [e]
    exact Sg.pure
  | q :: r, xs, es, m, tk, h, hl, hm, hle, ha => by
    obtain ⟨k, x⟩ := q
    obtain ⟨a1, a2, a3⟩ := ha
    rw [List.length_cons] at hl
    rw [prs, List.map_cons, List.forIn_cons]
    refine Sg.cast (n := 13 + 13 * r.length) (Sg.bind (a := ForInStep.yield PUnit.unit) (s1 := St (HD b (xs.set i (dObj (es ++ [⟨k, .int k tk, .str x (tk + 1)⟩])))) (tk + 3) os) ?_ ?_) (by rw [List.length_cons]; omega)
    · refine Sg.cast (n := 1 + 12) (Sg.bind Sg.mkInt ?_) rfl
      refine Sg.cast (n := 2 + 10) (Sg.bind (Sg.holding (Sg.cast (n := 1 + 1) (Sg.bind Sg.mkText (Sg.cast (n := 1 + 0) (Sg.bind Sg.standAt Sg.pure) rfl)) rfl)) ?_) rfl
      exact Sg.cast (n := 10 + 0) (Sg.bind (Sg.holding (Sg.set (tk := tk + 1 + 1) hb h (by omega) (by dsimp only at a1; omega) a2 (hle.fresh a1))) Sg.pure) rfl
    · have g := set_get (o' := dObj (es ++ [⟨k, .int k tk, .str x (tk + 1)⟩])) h
      have z := sg_long hb (pos := pos) (os := os) r _ (es ++ [⟨k, .int k tk, .str x (tk + 1)⟩]) k (tk + 3) g (by simp; omega) (by dsimp only at a1; omega) (hle.snoc a1 rfl) a3
      rw [List.set_set, List.append_assoc] at z
      have e : tk + 3 + 3 * r.length = tk + 3 * (r.length + 1) := by omega
      rw [e] at z
      exact z
theorem forIn_pair {β : Type} (l : List (Sem Value × Sem Value)) (g : Sem Value → Sem Value → Sem (ForInStep PUnit)) : (forIn l PUnit.unit fun x (_ : PUnit) => match x with | (k, v) => g k v) = forIn l PUnit.unit fun x (_ : PUnit) => g x.1 x.2 := rfl
theorem sg_subLong {b : Heap} {xs : List Obj} {pos : Pos} {os : OsState} {kvs : List (Int × Str)} {tk : Nat} (hb : 28 ≤ b.objs.size) (hl : kvs.length = 17) (ha : Asc (-1) (kvs.map (·.1))) :
    Sg w 223 (subDict (prs pos kvs)) (St (HD b xs) tk os) (b.objs.size + xs.length) (St (HD b (xs ++ [dObj (entL kvs tk)])) (tk + 51) os) := by
  unfold subDict
  refine Sg.cast (n := 1 + 222) (Sg.bind (a := b.objs.size + xs.length) (s1 := St (HD b (xs ++ [dObj []])) tk os) ?_ ?_) rfl
  · have := Sg.alloc (w := w) (s := St (HD b xs) tk os) (o := { cls := .type "dict", data := .dict #[] })
    rw [show (St (HD b xs) tk os).heap.objs.size = b.objs.size + xs.length from HD_size b xs, show (St (HD b xs) tk os).heap.push { cls := .type "dict", data := .dict #[] } = HD b (xs ++ [dObj []]) from HD_push b xs _] at this
    exact this
  · refine Sg.cast (n := 222 + 0) (Sg.bind (a := ()) (Sg.holding ?_) Sg.pure) rfl
    have hn : ¬ (prs pos kvs).length ≤ 15 := by rw [prs, List.length_map]; omega
    rw [if_neg hn]
    refine Sg.cast (n := 1 + 221) (Sg.bind Sg.rule ?_) rfl
    refine Sg.cast (n := 221 + 0) (Sg.bind (a := PUnit.unit) ?_ Sg.pure) rfl
    have z := sg_long (w := w) (i := xs.length) (pos := pos) (os := os) hb kvs (xs ++ [dObj []]) [] (-1) tk (by simp) (by simp; omega) (by omega) (fun _ h => nomatch h) ha
    have e : (xs ++ [dObj []]).set xs.length (dObj ([] ++ entL kvs tk)) = xs ++ [dObj (entL kvs tk)] := by simp
    rw [hl, e] at z
    exact z

noncomputable def entS : List (Int × Str) → Tok → List DictEntry
  | [], _ => []
  | q :: r, t => ⟨q.1, .int q.1 t, .str q.2 (t + 1)⟩ :: entS r (t + 2)
noncomputable def valS : List (Int × Str) → Tok → List (Value × Value)
  | [], _ => []
  | q :: r, t => (.int q.1 t, .str q.2 (t + 1)) :: valS r (t + 2)
theorem sg_evalPairs {h : Heap} {pos : Pos} {os : OsState} : ∀ (kvs : List (Int × Str)) (tk : Nat), Sg w (3 * kvs.length) (evalPairs (prs pos kvs)) (St h tk os) (valS kvs tk) (St h (tk + 2 * kvs.length) os)
  | [], tk => Sg.pure
  | q :: r, tk => by
    rw [prs, List.map_cons, evalPairs]
    refine Sg.cast (n := 1 + (2 + 3 * r.length)) (Sg.bind Sg.mkInt ?_) (by rw [List.length_cons]; omega)
    refine Sg.bind (Sg.holding (Sg.cast (n := 1 + 1) (Sg.bind Sg.mkText (Sg.cast (n := 1 + 0) (Sg.bind Sg.standAt Sg.pure) rfl)) rfl)) ?_
    refine Sg.cast (n := 3 * r.length + 0) (Sg.bind (Sg.holding (sg_evalPairs r (tk + 1 + 1))) ?_) rfl
    rw [List.length_cons, show tk + 1 + 1 + 2 * r.length = tk + 2 * (r.length + 1) by omega]
    exact Sg.pure
theorem sg_store {b : Heap} {i : Nat} {os : OsState} (hb : 28 ≤ b.objs.size) : ∀ (kvs : List (Int × Str)) (xs : List Obj) (es : List DictEntry) (m : Int) (t tk : Nat), xs[i]? = some (dObj es) → es.length + kvs.length ≤ 2000 → -1 ≤ m → Le m es → Asc m (kvs.map (·.1)) →
    Sg w (10 * kvs.length) (forIn (valS kvs t) PUnit.unit fun x (_ : PUnit) => do
        dictSet (b.objs.size + i) x.1 x.2
        pure (ForInStep.yield PUnit.unit)) (St (HD b xs) tk os) PUnit.unit (St (HD b (xs.set i (dObj (es ++ entS kvs t)))) (tk + kvs.length) os)
  | [], xs, es, m, t, tk, h, hl, hm, hle, ha => by
    have e : xs.set i (dObj (es ++ entS [] t)) = xs := by
      rw [entS, List.append_nil]
      exact List.ext_getElem? fun j => by
        rw [List.getElem?_set]
        by_cases q : i = j
        · subst q
          have hi : i < xs.length := by rw [List.getElem?_eq_some_iff] at h; exact h.1
          rw [if_pos rfl, if_pos hi, h]
        · rw [if_neg q]
    rw [e]
    exact Sg.pure
  | q :: r, xs, es, m, t, tk, h, hl, hm, hle, ha => by
    obtain ⟨k, x⟩ := q
    obtain ⟨a1, a2, a3⟩ := ha
    rw [List.length_cons] at hl
    rw [valS, List.forIn_cons]
    refine Sg.cast (n := 10 + 10 * r.length) (Sg.bind (a := ForInStep.yield PUnit.unit) (s1 := St (HD b (xs.set i (dObj (es ++ [⟨k, .int k t, .str x (t + 1)⟩])))) (tk + 1) os) ?_ ?_) (by rw [List.length_cons]; omega)
    · exact Sg.cast (n := 10 + 0) (Sg.bind (a := ()) (Sg.set hb h (by omega) (by dsimp only at a1; omega) a2 (hle.fresh a1)) Sg.pure) rfl
    · have g := set_get (o' := dObj (es ++ [⟨k, .int k t, .str x (t + 1)⟩])) h
      have z := sg_store hb (os := os) r _ (es ++ [⟨k, .int k t, .str x (t + 1)⟩]) k (t + 2) (tk + 1) g (by simp; omega) (by dsimp only at a1; omega) (hle.snoc a1 rfl) a3
      rw [List.set_set, List.append_assoc] at z
      have e : tk + 1 + r.length = tk + (r.length + 1) := by omega
      rw [e] at z
      exact z
theorem sg_subShort {b : Heap} {xs : List Obj} {pos : Pos} {os : OsState} {kvs : List (Int × Str)} {tk : Nat} (hb : 28 ≤ b.objs.size) (hl : kvs.length = 4) (ha : Asc (-1) (kvs.map (·.1))) :
    Sg w 53 (subDict (prs pos kvs)) (St (HD b xs) tk os) (b.objs.size + xs.length) (St (HD b (xs ++ [dObj (entS kvs tk)])) (tk + 12) os) := by
  unfold subDict
  refine Sg.cast (n := 1 + 52) (Sg.bind (a := b.objs.size + xs.length) (s1 := St (HD b (xs ++ [dObj []])) tk os) ?_ ?_) rfl
  · have := Sg.alloc (w := w) (s := St (HD b xs) tk os) (o := { cls := .type "dict", data := .dict #[] })
    rw [show (St (HD b xs) tk os).heap.objs.size = b.objs.size + xs.length from HD_size b xs, show (St (HD b xs) tk os).heap.push { cls := .type "dict", data := .dict #[] } = HD b (xs ++ [dObj []]) from HD_push b xs _] at this
    exact this
  · refine Sg.cast (n := 52 + 0) (Sg.bind (a := ()) (Sg.holding ?_) Sg.pure) rfl
    have hn : (prs pos kvs).length ≤ 15 := by rw [prs, List.length_map]; omega
    rw [if_pos hn]
    have y := sg_evalPairs (w := w) (h := HD b (xs ++ [dObj []])) (pos := pos) (os := os) kvs tk
    rw [hl] at y
    refine Sg.cast (n := 12 + 40) (Sg.bind y ?_) rfl
    refine Sg.holding ?_
    refine Sg.cast (n := 40 + 0) (Sg.bind (a := PUnit.unit) ?_ Sg.pure) rfl
    have z := sg_store (w := w) (i := xs.length) (os := os) hb kvs (xs ++ [dObj []]) [] (-1) tk (tk + 8) (by simp) (by simp; omega) (by omega) (fun _ h => nomatch h) ha
    have e : (xs ++ [dObj []]).set xs.length (dObj ([] ++ entS kvs tk)) = xs ++ [dObj (entS kvs tk)] := by simp
    rw [hl, e] at z
    exact z

noncomputable def mkE (x : Int × Tok × Value) : DictEntry := ⟨x.1, .int x.1 x.2.1, x.2.2⟩
theorem sg_mergeLoop {b : Heap} {i j : Nat} {os : OsState} {tk : Nat} (hb : 28 ≤ b.objs.size) (hij : i ≠ j) (all : List DictEntry) (hall : all.length ≤ 1000) : ∀ (l : List (Int × Tok × Value)) (done : List DictEntry) (xs : List Obj) (es : List DictEntry) (m : Int), all = done ++ l.map mkE →
    xs[i]? = some (dObj es) → xs[j]? = some (dObj all) → es.length + l.length ≤ 2000 → Le m es → Asc m (l.map (·.1)) →
    Sg w (6 * l.length) (forIn (List.range' done.length l.length) PUnit.unit fun n (_ : PUnit) => do
        let es' ← dictEntries (b.objs.size + j)
        match es'[n]? with
        | some e => do
          holding [e.key, e.val] (dictPut (b.objs.size + i) e.hash e.key e.val)
          let ep ← dictEpoch (b.objs.size + j)
          if (ep != all.length) = true then do
              unsupported "dict.changed-during-merge"
              pure (ForInStep.yield PUnit.unit)
            else pure (ForInStep.yield PUnit.unit)
        | x => do
          unsupported "dict.changed-during-merge"
          pure (ForInStep.yield PUnit.unit)) (St (HD b xs) tk os) PUnit.unit (St (HD b (xs.set i (dObj (es ++ l.map mkE)))) tk os)
  | [], done, xs, es, m, he, h, hj, hl, hle, ha => by
    have e : xs.set i (dObj (es ++ [])) = xs := by
      rw [List.append_nil]
      exact List.ext_getElem? fun j => by
        rw [List.getElem?_set]
        by_cases q : i = j
        · subst q
          have hi : i < xs.length := by rw [List.getElem?_eq_some_iff] at h; exact h.1
          rw [if_pos rfl, if_pos hi, h]
        · rw [if_neg q]
    rw [List.map_nil, e]
    exact Sg.pure
  | q :: r, done, xs, es, m, he, h, hj, hl, hle, ha => by
    obtain ⟨k, t, v⟩ := q
    obtain ⟨a1, a2, a3⟩ := ha
    rw [List.length_cons] at hl
    rw [List.length_cons, List.range'_succ, List.forIn_cons]
    have hje : (xs.set i (dObj (es ++ [mkE (k, t, v)])))[j]? = some (dObj all) := by rw [List.getElem?_set, if_neg hij]; exact hj
    refine Sg.cast (n := 6 + 6 * r.length) (Sg.bind (a := ForInStep.yield PUnit.unit) (s1 := St (HD b (xs.set i (dObj (es ++ [mkE (k, t, v)])))) tk os) ?_ ?_) (by omega)
    · refine Sg.cast (n := 1 + 5) (Sg.bind (a := all.toArray) (s1 := St (HD b xs) tk os) ?_ ?_) rfl
      · unfold dictEntries
        exact Sg.cast (n := 1 + 0) (Sg.bind (Sg.loadPart (s := St (HD b xs) tk os) (HD_get hj)) Sg.pure) rfl
      · have e : all.toArray[done.length]? = some (mkE (k, t, v)) := by
          rw [List.getElem?_toArray, he]; simp
        rw [e]
        refine Sg.cast (n := 4 + 1) (Sg.bind (a := ()) (Sg.holding (Sg.put hb h (by omega) (hle.fresh a1))) ?_) rfl
        refine Sg.cast (n := 1 + 0) (Sg.bind (a := all.length) (s1 := St (HD b (xs.set i (dObj (es ++ [mkE (k, t, v)])))) tk os) ?_ ?_) rfl
        · unfold dictEpoch
          exact Sg.cast (n := 1 + 0) (Sg.bind (Sg.loadPart (s := St (HD b (xs.set i (dObj (es ++ [mkE (k, t, v)])))) tk os) (HD_get hje)) Sg.pure) rfl
        · rw [if_neg (by simp)]
          exact Sg.pure
    · have g := set_get (o' := dObj (es ++ [mkE (k, t, v)])) h
      have z := sg_mergeLoop hb hij (os := os) (tk := tk) all hall r (done ++ [mkE (k, t, v)]) _ (es ++ [mkE (k, t, v)]) k (by rw [he]; simp) g hje (by simp; omega) (hle.snoc a1 rfl) a3
      rw [List.set_set, List.append_assoc, List.length_append] at z
      exact z
end
end Mine
end
section
open PySem PySem.W PyProof.Rows
set_option Elab.async false
set_option linter.unusedVariables false
set_option maxRecDepth 100000
namespace Mine
noncomputable section
variable {w : World}
theorem sg_typeOf {s : Shared} {a : Addr} {o : Obj} {T : String} (h : s.heap.get? a = some o) (hc : o.cls = .type T) : Sg w 1 (typeOf (.ref a)) s (.type T) s := by
  simp only [typeOf]
  refine Sg.cast (n := 1 + 0) (Sg.bind (Sg.loadPart h) ?_) rfl
  rw [hc]
  exact Sg.pure
theorem sg_merge {b : Heap} {j : Nat} {os : OsState} {tk : Nat} {l : List (Int × Tok × Value)} {xs : List Obj} {es : List DictEntry} {m : Int} (hb : 28 ≤ b.objs.size) (hj0 : 0 ≠ j)
    (h : xs[0]? = some (dObj es)) (hj : xs[j]? = some (dObj (l.map mkE))) (hne : es ≠ []) (hl : es.length + l.length ≤ 1000) (hle : Le m es) (ha : Asc m (l.map (·.1))) :
    Sg w (5 + 6 * l.length) (mergeMapping b.objs.size (.ref (b.objs.size + j)) false) (St (HD b xs) tk os) () (St (HD b (xs.set 0 (dObj (es ++ l.map mkE)))) tk os) := by
  have hjg : (St (HD b xs) tk os).heap.get? (b.objs.size + j) = some (dObj (l.map mkE)) := HD_get hj
  have h0g : (St (HD b xs) tk os).heap.get? b.objs.size = some (dObj es) := by have := HD_get (b := b) h; rwa [Nat.add_zero] at this
  unfold mergeMapping
  refine Sg.cast (n := 1 + (4 + 6 * l.length)) (Sg.bind (a := true) (s1 := St (HD b xs) tk os) ?_ ?_) (by omega)
  · simp only [isInstance]
    refine Sg.cast (n := 1 + 0) (Sg.bind (sg_typeOf hjg rfl) ?_) rfl
    rw [isSubtype_dict_dict]
    exact Sg.pure
  · rw [if_pos rfl]
    refine Sg.cast (n := 1 + (3 + 6 * l.length)) (Sg.bind (a := some (.builtin "dict.__iter__")) (s1 := St (HD b xs) tk os) ?_ ?_) (by omega)
    · simp only [specialOf]
      refine Sg.cast (n := 1 + 0) (Sg.bind (sg_typeOf hjg rfl) ?_) rfl
      rw [show (Str.ofString "__iter__") = ("__iter__" : Str) from rfl, F.slot_dict_iter.lookup]
      exact Sg.pure
    · have eb : (some (Value.builtin "dict.__iter__") == some (Value.builtin "dict.__iter__")) = true := by rfl
      rw [eb]
      show Sg w (3 + 6 * l.length) _ _ _ _
      refine Sg.cast (n := 0 + (3 + 6 * l.length)) (Sg.bind (a := true) (Sg.pure) ?_) (by omega)
      dsimp only
      have hs : ((b.objs.size + j) == sysModules) = false := by
        rw [beq_eq_false_iff_ne]
        unfold sysModules
        omega
      rw [hs]
      show Sg w (3 + 6 * l.length) (dictEntries b.objs.size >>= _) _ _ _
      refine Sg.cast (n := 1 + (2 + 6 * l.length)) (Sg.bind (a := es.toArray) (s1 := St (HD b xs) tk os) ?_ ?_) (by omega)
      · unfold dictEntries
        exact Sg.cast (n := 1 + 0) (Sg.bind (Sg.loadPart h0g) Sg.pure) rfl
      · have hem : es.toArray.isEmpty = false := by
          cases es with
          | nil => exact absurd rfl hne
          | cons => rfl
        rw [hem]
        show Sg w (2 + 6 * l.length) (dictEntries (b.objs.size + j) >>= _) _ _ _
        refine Sg.cast (n := 1 + (1 + 6 * l.length)) (Sg.bind (a := (l.map mkE).toArray) (s1 := St (HD b xs) tk os) ?_ ?_) (by omega)
        · unfold dictEntries
          exact Sg.cast (n := 1 + 0) (Sg.bind (Sg.loadPart hjg) Sg.pure) rfl
        · refine Sg.cast (n := 1 + (6 * l.length + 0)) (Sg.bind (a := (l.map mkE).length) (s1 := St (HD b xs) tk os) ?_ ?_) (by omega)
          · unfold dictEpoch
            exact Sg.cast (n := 1 + 0) (Sg.bind (Sg.loadPart hjg) Sg.pure) rfl
          · refine Sg.bind (a := PUnit.unit) ?_ Sg.pure
            have z := sg_mergeLoop (w := w) (os := os) (tk := tk) (i := 0) (j := j) hb hj0 (l.map mkE) (by rw [List.length_map]; omega) l [] xs es m rfl h hj (by omega) hle ha
            rw [List.range_eq_range', show (l.map mkE).toArray.size = l.length by simp]
            exact z
end
end Mine
end
section
open PySem PySem.W PyProof.Rows
set_option Elab.async false
set_option linter.unusedVariables false
set_option maxRecDepth 100000
namespace Mine
noncomputable section
variable {w : World}
noncomputable abbrev PR := List (Sem Value × Sem Value)
noncomputable def disp (flush : PR → Option Addr → Sem (Option Addr)) : PR → Option Addr → PR → Sem (Option Addr × PR)
  | [], main, run => pure (main, run)
  | p :: r, main, run => if ((run ++ [p]).length == 17) = true then flush (run ++ [p]) main >>= fun m => disp flush r m [] else disp flush r main (run ++ [p])
theorem disp_fill (flush : PR → Option Addr → Sem (Option Addr)) (main : Option Addr) (rest : PR) : ∀ (l run : PR), run.length + l.length < 17 → disp flush (l ++ rest) main run = disp flush rest main (run ++ l)
  | [], run, _ => by rw [List.nil_append, List.append_nil]
  | p :: r, run, h => by
    rw [List.length_cons] at h
    rw [List.cons_append, disp, if_neg (by rw [beq_iff_eq, List.length_append, List.length_singleton]; omega), disp_fill flush main rest r (run ++ [p]) (by rw [List.length_append, List.length_singleton]; omega), List.append_assoc]
    rfl
theorem disp_chunk (flush : PR → Option Addr → Sem (Option Addr)) (main : Option Addr) (rest l : PR) (h : l.length = 17) : disp flush (l ++ rest) main [] = flush l main >>= fun m => disp flush rest m [] := by
  obtain ⟨a, x, rfl⟩ : ∃ a x, l = a ++ [x] := ⟨l.dropLast, l.getLast (by intro e; rw [e] at h; cases h), (List.dropLast_concat_getLast _).symm⟩
  rw [List.length_append, List.length_singleton] at h
  rw [List.append_assoc, disp_fill flush main _ a [] (by rw [List.length_nil]; omega), List.nil_append, List.cons_append, List.nil_append, disp, if_pos (by rw [beq_iff_eq, List.length_append, List.length_singleton]; exact h)]
theorem forIn_disp (flush : PR → Option Addr → Sem (Option Addr)) (f : Option (Sem Value) × Sem Value → (Option Addr × PR) → Sem (ForInStep (Option Addr × PR)))
    (hf : ∀ (p : Sem Value × Sem Value) main run, f (some p.1, p.2) (main, run) = if ((run ++ [p]).length == 17) = true then flush (run ++ [p]) main >>= fun m => pure (ForInStep.yield (m, [])) else pure (ForInStep.yield (main, run ++ [p]))) :
    ∀ (ps : PR) (main : Option Addr) (run : PR), (forIn (ps.map fun p => ((some p.1 : Option (Sem Value)), p.2)) (main, run) f : Sem (Option Addr × PR)) = disp flush ps main run
  | [], main, run => rfl
  | p :: r, main, run => by
    rw [List.map_cons, List.forIn_cons, disp, hf]
    by_cases h : ((run ++ [p]).length == 17) = true
    · rw [if_pos h, if_pos h, Sem.bind_eq_wrap', Sem.bind_eq_wrap', Sem.wrap_wrap, Sem.bind_eq_wrap']
      refine Sem.wrap_congr _ _ _ (fun m => ?_) fun _ => rfl
      exact forIn_disp flush f hf r m []
    · rw [if_neg h, if_neg h]
      exact forIn_disp flush f hf r main (run ++ [p])
theorem display_eq (ps : PR) : ∃ flush : PR → Option Addr → Sem (Option Addr),
    (∀ p r, flush (p :: r) none = subDict (p :: r) >>= fun d => pure (some d)) ∧
    (∀ p r d, flush (p :: r) (some d) = holding [.ref d] (subDict (p :: r)) >>= fun sub =>
      ((holding [.ref d, .ref sub] (mergeMapping d (.ref sub) false)).onRaise fun x => do let _ ← holding [.ref d, x] (runValue (.builtin "proto.let_go" {}))) >>= fun _ => pure (some d)) ∧
    dictDisplay (ps.map fun p => (some p.1, p.2)) = disp flush ps none [] >>= fun x => flush x.2 x.1 >>= fun m => match m with | some d => pure (.ref d) | none => newDict := by
  unfold dictDisplay
  extract_lets flush main run
  refine ⟨flush, fun p r => rfl, fun p r d => rfl, ?_⟩
  rw [forIn_disp flush _ (fun p main run => ?_) ps main run]
  · rfl
  · rfl

noncomputable def tripL : List (Int × Str) → Tok → List (Int × Tok × Value)
  | [], _ => []
  | q :: r, t => (q.1, t, .str q.2 (t + 1)) :: tripL r (t + 3)
theorem tripL_mk : ∀ (kvs : List (Int × Str)) (t : Tok), (tripL kvs t).map mkE = entL kvs t
  | [], _ => rfl
  | q :: r, t => by rw [tripL, List.map_cons, tripL_mk r, entL]; rfl
theorem tripL_keys : ∀ (kvs : List (Int × Str)) (t : Tok), (tripL kvs t).map (·.1) = kvs.map (·.1)
  | [], _ => rfl
  | q :: r, t => by rw [tripL, List.map_cons, tripL_keys r, List.map_cons]
theorem tripL_len : ∀ (kvs : List (Int × Str)) (t : Tok), (tripL kvs t).length = kvs.length
  | [], _ => rfl
  | q :: r, t => by rw [tripL, List.length_cons, tripL_len r, List.length_cons]
noncomputable def tripS : List (Int × Str) → Tok → List (Int × Tok × Value)
  | [], _ => []
  | q :: r, t => (q.1, t, .str q.2 (t + 1)) :: tripS r (t + 2)
theorem tripS_mk : ∀ (kvs : List (Int × Str)) (t : Tok), (tripS kvs t).map mkE = entS kvs t
  | [], _ => rfl
  | q :: r, t => by rw [tripS, List.map_cons, tripS_mk r, entS]; rfl
theorem tripS_keys : ∀ (kvs : List (Int × Str)) (t : Tok), (tripS kvs t).map (·.1) = kvs.map (·.1)
  | [], _ => rfl
  | q :: r, t => by rw [tripS, List.map_cons, tripS_keys r, List.map_cons]
theorem tripS_len : ∀ (kvs : List (Int × Str)) (t : Tok), (tripS kvs t).length = kvs.length
  | [], _ => rfl
  | q :: r, t => by rw [tripS, List.length_cons, tripS_len r, List.length_cons]

theorem Asc.weak : ∀ {m m' : Int} {l : List Int}, m' ≤ m → Asc m l → Asc m' l
  | _, _, [], _, _ => trivial
  | m, m', k :: r, h, ⟨a, b, c⟩ => ⟨by omega, b, c⟩
theorem Asc.split : ∀ {m : Int} {a b : List Int}, Asc m (a ++ b) → Asc m a ∧ ∃ m', m ≤ m' ∧ (∀ k ∈ a, k ≤ m') ∧ Asc m' b
  | m, [], b, h => ⟨trivial, m, Int.le_refl _, (fun _ q => nomatch q), h⟩
  | m, k :: r, b, ⟨h1, h2, h3⟩ => by
    obtain ⟨z, m', l, q, y⟩ := Asc.split h3
    exact ⟨⟨h1, h2, z⟩, m', by omega, fun x hx => by
      rcases List.mem_cons.mp hx with e | e
      · omega
      · exact q x e, y⟩
theorem entL_le {m : Int} : ∀ {kvs : List (Int × Str)} {t : Tok}, (∀ k ∈ kvs.map (·.1), k ≤ m) → Le m (entL kvs t)
  | [], _, _ => fun _ h => nomatch h
  | q :: r, t, h => fun e he => by
    rcases List.mem_cons.mp he with z | z
    · subst z; exact h q.1 (.head _)
    · exact entL_le (fun k hk => h k (.tail _ hk)) e z
theorem entL_len : ∀ (kvs : List (Int × Str)) (t : Tok), (entL kvs t).length = kvs.length
  | [], _ => rfl
  | q :: r, t => by rw [entL, List.length_cons, entL_len r, List.length_cons]
theorem prs_len (pos : Pos) (kvs : List (Int × Str)) : (prs pos kvs).length = kvs.length := by rw [prs, List.length_map]
theorem prs_app (pos : Pos) (a b : List (Int × Str)) : prs pos (a ++ b) = prs pos a ++ prs pos b := by rw [prs, List.map_append]; rfl
theorem prs_cons {pos : Pos} {kvs : List (Int × Str)} (h : kvs ≠ []) : ∃ p r, prs pos kvs = p :: r := by
  cases kvs with
  | nil => exact absurd rfl h
  | cons q r => exact ⟨_, _, rfl⟩

/-- what the chunks leave: the great dict's rows, the small dicts, the tokens -/
noncomputable def acc : List DictEntry × List Obj × Tok → List (List (Int × Str)) → List DictEntry × List Obj × Tok
  | x, [] => x
  | (es, subs, t), c :: r => acc (es ++ entL c t, subs ++ [dObj (entL c t)], t + 51) r
noncomputable def accS (x : List DictEntry × List Obj × Tok) (l : List (Int × Str)) : List DictEntry × List Obj × Tok := (x.1 ++ entS l x.2.2, x.2.1 ++ [dObj (entS l x.2.2)], x.2.2 + 12)

section
variable {flush : PR → Option Addr → Sem (Option Addr)}
variable (f2 : ∀ p r d, flush (p :: r) (some d) = holding [.ref d] (subDict (p :: r)) >>= fun sub =>
      ((holding [.ref d, .ref sub] (mergeMapping d (.ref sub) false)).onRaise fun x => do let _ ← holding [.ref d, x] (runValue (.builtin "proto.let_go" {}))) >>= fun _ => pure (some d))
include f2
theorem sg_flushL {b : Heap} {pos : Pos} {os : OsState} {c : List (Int × Str)} {tk : Nat} {es : List DictEntry} {subs : List Obj} {m : Int} (hb : 28 ≤ b.objs.size) (hc : c.length = 17) (hne : es ≠ []) (hl : es.length ≤ 900) (hm : -1 ≤ m) (hle : Le m es) (ha : Asc m (c.map (·.1))) :
    Sg w 330 (flush (prs pos c) (some b.objs.size)) (St (HD b (dObj es :: subs)) tk os) (some b.objs.size) (St (HD b (dObj (es ++ entL c tk) :: (subs ++ [dObj (entL c tk)]))) (tk + 51) os) := by
  obtain ⟨p, r, e⟩ := prs_cons (pos := pos) (kvs := c) (by intro q; rw [q] at hc; cases hc)
  rw [e, f2, ← e]
  refine Sg.cast (n := 223 + 107) (Sg.bind (Sg.holding (sg_subLong hb hc (ha.weak hm))) ?_) rfl
  have z := sg_merge (w := w) (b := b) (j := (dObj es :: subs).length) (os := os) (tk := tk + 51) (l := tripL c tk) (xs := (dObj es :: subs) ++ [dObj (entL c tk)]) (es := es) (m := m) hb (by simp) (by simp) (by rw [tripL_mk]; simp) hne (by rw [tripL_len]; omega) hle (by rw [tripL_keys]; exact ha)
  rw [tripL_mk, tripL_len, hc] at z
  exact Sg.cast (n := 107 + 0) (Sg.bind (a := ()) (Sg.onRaise (Sg.holding z)) Sg.pure) rfl
theorem sg_flushS {b : Heap} {pos : Pos} {os : OsState} {c : List (Int × Str)} {tk : Nat} {es : List DictEntry} {subs : List Obj} {m : Int} (hb : 28 ≤ b.objs.size) (hc : c.length = 4) (hne : es ≠ []) (hl : es.length ≤ 900) (hm : -1 ≤ m) (hle : Le m es) (ha : Asc m (c.map (·.1))) :
    Sg w 82 (flush (prs pos c) (some b.objs.size)) (St (HD b (dObj es :: subs)) tk os) (some b.objs.size) (St (HD b (dObj (es ++ entS c tk) :: (subs ++ [dObj (entS c tk)]))) (tk + 12) os) := by
  obtain ⟨p, r, e⟩ := prs_cons (pos := pos) (kvs := c) (by intro q; rw [q] at hc; cases hc)
  rw [e, f2, ← e]
  refine Sg.cast (n := 53 + 29) (Sg.bind (Sg.holding (sg_subShort hb hc (ha.weak hm))) ?_) rfl
  have z := sg_merge (w := w) (b := b) (j := (dObj es :: subs).length) (os := os) (tk := tk + 12) (l := tripS c tk) (xs := (dObj es :: subs) ++ [dObj (entS c tk)]) (es := es) (m := m) hb (by simp) (by simp) (by rw [tripS_mk]; simp) hne (by rw [tripS_len]; omega) hle (by rw [tripS_keys]; exact ha)
  rw [tripS_mk, tripS_len, hc] at z
  exact Sg.cast (n := 29 + 0) (Sg.bind (a := ()) (Sg.onRaise (Sg.holding z)) Sg.pure) rfl
theorem sg_chunks {b : Heap} {pos : Pos} {os : OsState} {last : List (Int × Str)} (hb : 28 ≤ b.objs.size) (hlast : last.length = 4) : ∀ (cs : List (List (Int × Str))) (tk : Nat) (es : List DictEntry) (subs : List Obj) (m : Int), (∀ c ∈ cs, c.length = 17) → es ≠ [] → es.length + 17 * cs.length ≤ 900 → -1 ≤ m → Le m es → Asc m ((cs.flatten ++ last).map (·.1)) →
    Sg w (330 * cs.length + 82) (disp flush (prs pos (cs.flatten ++ last)) (some b.objs.size) [] >>= fun x => flush x.2 x.1) (St (HD b (dObj es :: subs)) tk os) (some b.objs.size)
      (St (HD b (dObj (accS (acc (es, subs, tk) cs) last).1 :: (accS (acc (es, subs, tk) cs) last).2.1)) (accS (acc (es, subs, tk) cs) last).2.2 os)
  | [], tk, es, subs, m, hc, hne, hl, hm, hle, ha => by
    rw [List.flatten_nil, List.nil_append] at ha ⊢
    have e := disp_fill flush (some b.objs.size) [] (prs pos last) [] (by rw [prs_len, hlast, List.length_nil]; omega)
    rw [List.append_nil] at e
    rw [e, disp]
    exact sg_flushS f2 hb hlast hne (by simpa using hl) hm hle ha
  | c :: r, tk, es, subs, m, hc, hne, hl, hm, hle, ha => by
    rw [List.flatten_cons, List.append_assoc] at ha ⊢
    rw [List.map_append] at ha
    obtain ⟨a1, m', l1, l2, a2⟩ := ha.split
    have hc1 := hc c (.head _)
    rw [List.length_cons] at hl
    rw [prs_app, disp_chunk _ _ _ _ (by rw [prs_len]; exact hc1)]
    have z := sg_chunks (pos := pos) (os := os) hb hlast r (tk + 51) (es ++ entL c tk) (subs ++ [dObj (entL c tk)]) m' (fun x hx => hc x (.tail _ hx)) (by intro q; exact hne (List.append_eq_nil_iff.mp q).1) (by rw [List.length_append, entL_len]; omega) (by omega) (fun x hx => by
      rcases List.mem_append.mp hx with q | q
      · have := hle x q; omega
      · exact entL_le l2 x q) a2
    refine Sg.cast (n := 330 + (330 * r.length + 82)) (Sg.of_eq (t' := flush (prs pos c) (some b.objs.size) >>= fun mm => disp flush (prs pos (r.flatten ++ last)) mm [] >>= fun x => flush x.2 x.1) ?_ (Sg.bind (sg_flushL f2 hb hc1 hne (by omega) hm hle a1) z)) (by rw [List.length_cons]; omega)
    exact bind_assoc _ _ _
end
end
end Mine
end
section
open PySem PySem.W PyProof.Rows
set_option Elab.async false
set_option linter.unusedVariables false
set_option maxRecDepth 100000
namespace Mine
noncomputable section
variable {w : World}
theorem sg_display {b : Heap} {pos : Pos} {os : OsState} {c0 last : List (Int × Str)} {cs : List (List (Int × Str))} {tk : Nat} (hb : 28 ≤ b.objs.size) (h0 : c0.length = 17) (hlast : last.length = 4) (hc : ∀ c ∈ cs, c.length = 17) (hl : 17 * cs.length ≤ 800)
    (ha : Asc (-1) ((c0 ++ (cs.flatten ++ last)).map (·.1))) :
    Sg w (223 + (330 * cs.length + 82)) (dictDisplay ((prs pos (c0 ++ (cs.flatten ++ last))).map fun p => (some p.1, p.2))) (St b tk os) (.ref b.objs.size)
      (St (HD b (dObj (accS (acc (entL c0 tk, [], tk + 51) cs) last).1 :: (accS (acc (entL c0 tk, [], tk + 51) cs) last).2.1)) (accS (acc (entL c0 tk, [], tk + 51) cs) last).2.2 os) := by
  obtain ⟨flush, f1, f2, e⟩ := display_eq (prs pos (c0 ++ (cs.flatten ++ last)))
  rw [e, prs_app, disp_chunk _ _ _ _ (by rw [prs_len]; exact h0)]
  obtain ⟨p, r, e0⟩ := prs_cons (pos := pos) (kvs := c0) (by intro q; rw [q] at h0; cases h0)
  rw [List.map_append] at ha
  obtain ⟨a1, m', l1, l2, a2⟩ := ha.split
  have z0 := sg_subLong (w := w) (b := b) (xs := []) (pos := pos) (os := os) (tk := tk) hb h0 a1
  rw [HD_nil, List.nil_append, List.length_nil, Nat.add_zero] at z0
  have z := sg_chunks (w := w) f2 (pos := pos) (os := os) hb hlast cs (tk + 51) (entL c0 tk) [] m' hc (by intro q; have := entL_len c0 tk; rw [q, h0] at this; cases this) (by rw [entL_len, h0]; omega) (by omega) (entL_le l2) a2
  refine Sg.of_eq (t' := (flush (prs pos c0) none >>= fun mm => (disp flush (prs pos (cs.flatten ++ last)) mm [] >>= fun x => flush x.2 x.1)) >>= fun m => match m with | some d => pure (.ref d) | none => newDict) ?_ ?_
  · simp only [bind_assoc] <;> rfl
  · refine Sg.cast (n := (223 + (330 * cs.length + 82)) + 0) (Sg.bind (a := some b.objs.size) ?_ Sg.pure) (by omega)
    refine Sg.bind (a := some b.objs.size) (s1 := St (HD b [dObj (entL c0 tk)]) (tk + 51) os) ?_ z
    rw [e0, f1, ← e0]
    exact Sg.cast (n := 223 + 0) (Sg.bind z0 Sg.pure) rfl

noncomputable def kvsOf : List (Option Expr) → List Expr → List (Int × Str)
  | some (.Constant (.int k) _ _) :: r, .Constant (.str x) _ _ :: r' => (k, x) :: kvsOf r r'
  | _, _ => []
noncomputable def kvsOk : List (Option Expr) → List Expr → Bool
  | some (.Constant (.int _) _ _) :: r, .Constant (.str _) _ _ :: r' => kvsOk r r'
  | [], [] => true
  | _, _ => false
theorem items_eq (pos : Pos) (env : Env) : ∀ (ks : List (Option Expr)) (vs : List Expr), kvsOk ks vs = true →
    (evalEachOpt ks env).zip ((evalEach vs env).map fun v => do let x ← v; standAt pos; pure x) = (prs pos (kvsOf ks vs)).map fun p => (some p.1, p.2)
  | ks, vs, h => by
    unfold kvsOk at h
    split at h
    · rename_i k _ _ r x _ _ r'
      rw [kvsOf, prs, List.map_cons, List.map_cons, evalEachOpt, evalEach, List.map_cons, List.zip_cons_cons, items_eq pos env r r' h]
      rfl
    · rfl
    · cases h
noncomputable def ascB : Int → List Int → Bool
  | _, [] => true
  | m, k :: r => decide (m < k) && decide (k < 2 ^ 60) && ascB k r
theorem asc_of : ∀ {m : Int} {l : List Int}, ascB m l = true → Asc m l
  | _, [], _ => trivial
  | m, k :: r, h => by
    rw [ascB, Bool.and_eq_true, Bool.and_eq_true, decide_eq_true_eq, decide_eq_true_eq] at h
    exact ⟨h.1.1, h.1.2, asc_of h.2⟩
noncomputable def chunks : Nat → List (Int × Str) → List (List (Int × Str))
  | 0, _ => []
  | n + 1, l => l.take 17 :: chunks n (l.drop 17)

noncomputable def bD : List Stmt := ((behindTheImports pw).drop 17).take 1
noncomputable def dParts : List (Option Expr) × List Expr × Pos × Pos × Str × Pos := match bD with
  | [.Assign [.Name x tp] (.Dict ks vs dp) ap] => (ks, vs, dp, ap, x, tp)
  | _ => ([], [], default, default, default, default)
noncomputable abbrev dKs : List (Option Expr) := dParts.1
noncomputable abbrev dVs : List Expr := dParts.2.1
noncomputable abbrev dDp : Pos := dParts.2.2.1
noncomputable abbrev dAp : Pos := dParts.2.2.2.1
noncomputable abbrev dNm : Str := dParts.2.2.2.2.1
noncomputable abbrev dTp : Pos := dParts.2.2.2.2.2
theorem bD_eq : bD = [.Assign [.Name dNm dTp] (.Dict dKs dVs dDp) dAp] := by kernel_rfl
theorem dOk : kvsOk dKs dVs = true := by kernel_rfl
noncomputable def kvs : List (Int × Str) := kvsOf dKs dVs
noncomputable def c0 : List (Int × Str) := kvs.take 17
noncomputable def cs : List (List (Int × Str)) := chunks 37 (kvs.drop 17)
noncomputable def last : List (Int × Str) := kvs.drop 646
theorem kvs_eq : kvs = c0 ++ (cs.flatten ++ last) := by kernel_rfl
theorem c0_len : c0.length = 17 := by kernel_rfl
theorem last_len : last.length = 4 := by kernel_rfl
theorem cs_len : cs.length = 37 := by kernel_rfl
theorem cs_all : (cs.all fun c => c.length == 17) = true := by kernel_rfl
theorem kvs_asc : ascB (-1) (kvs.map (·.1)) = true := by kernel_rfl
noncomputable def dAcc : List DictEntry × List Obj × Tok := accS (acc (entL c0 477, [], 477 + 51) cs) last
noncomputable def dObjs : List Obj := dObj dAcc.1 :: dAcc.2.1
theorem dToks : dAcc.2.2 = 2427 := by kernel_rfl
noncomputable def oD (i : Nat) (P : Params) : Obj := dObjs.getD i default
theorem sg_dict {b : Heap} {os : OsState} (hb : b.objs.size = 109) : Sg w 12515 (dictDisplay ((evalEachOpt dKs envM).zip ((evalEach dVs envM).map fun v => do let x ← v; standAt dDp; pure x))) (St b 477 os) (.ref 109) (St (HD b dObjs) 2427 os) := by
  rw [items_eq dDp envM dKs dVs dOk]
  have z := sg_display (w := w) (b := b) (pos := dDp) (os := os) (c0 := c0) (last := last) (cs := cs) (tk := 477) (by omega) c0_len last_len (fun c hc => beq_iff_eq.mp (List.all_eq_true.mp cs_all c hc)) (by rw [cs_len]; decide) (by rw [← kvs_eq]; exact asc_of kvs_asc)
  rw [← kvs_eq, cs_len] at z
  have e : dAcc.2.2 = 2427 := dToks
  rw [hb] at z
  unfold dAcc at e
  rw [e] at z
  exact z
end
end Mine
end
section
open PySem PySem.W PyProof.Rows
set_option Elab.async false
set_option linter.unusedVariables false
set_option maxRecDepth 100000
namespace Mine
noncomputable section
noncomputable def o0 (P : Params) : Obj := ⟨.type "dict", none, .dict ⟨[⟨PyData.keyHash P ⟨⟨[95, 95, 110, 97, 109, 101, 95, 95]⟩⟩, .str ⟨⟨[95, 95, 110, 97, 109, 101, 95, 95]⟩⟩ 1, .str ⟨⟨[98, 117, 105, 108, 116, 105, 110, 115]⟩⟩ 160⟩, ⟨PyData.keyHash P ⟨⟨[95, 95, 100, 111, 99, 95, 95]⟩⟩, .str ⟨⟨[95, 95, 100, 111, 99, 95, 95]⟩⟩ 2, .builtin "builtins.__doc__:str#opaque"⟩, ⟨PyData.keyHash P ⟨⟨[95, 95, 112, 97, 99, 107, 97, 103, 101, 95, 95]⟩⟩, .str ⟨⟨[95, 95, 112, 97, 99, 107, 97, 103, 101, 95, 95]⟩⟩ 3, .builtin "builtins.__package__:str#opaque"⟩, ⟨PyData.keyHash P ⟨⟨[95, 95, 108, 111, 97, 100, 101, 114, 95, 95]⟩⟩, .str ⟨⟨[95, 95, 108, 111, 97, 100, 101, 114, 95, 95]⟩⟩ 4, .builtin "builtins.__loader__:shared#opaque"⟩, ⟨PyData.keyHash P ⟨⟨[95, 95, 115, 112, 101, 99, 95, 95]⟩⟩, .str ⟨⟨[95, 95, 115, 112, 101, 99, 95, 95]⟩⟩ 5, .builtin "builtins.__spec__#opaque"⟩, ⟨PyData.keyHash P ⟨⟨[95, 95, 98, 117, 105, 108, 100, 95, 99, 108, 97, 115, 115, 95, 95]⟩⟩, .str ⟨⟨[95, 95, 98, 117, 105, 108, 100, 95, 99, 108, 97, 115, 115, 95, 95]⟩⟩ 6, .builtin "__build_class__"⟩, ⟨PyData.keyHash P ⟨⟨[95, 95, 105, 109, 112, 111, 114, 116, 95, 95]⟩⟩, .str ⟨⟨[95, 95, 105, 109, 112, 111, 114, 116, 95, 95]⟩⟩ 7, .builtin "__import__"⟩, ⟨PyData.keyHash P ⟨⟨[97, 98, 115]⟩⟩, .str ⟨⟨[97, 98, 115]⟩⟩ 8, .builtin "abs"⟩, ⟨PyData.keyHash P ⟨⟨[97, 108, 108]⟩⟩, .str ⟨⟨[97, 108, 108]⟩⟩ 9, .builtin "all"⟩, ⟨PyData.keyHash P ⟨⟨[97, 110, 121]⟩⟩, .str ⟨⟨[97, 110, 121]⟩⟩ 10, .builtin "any"⟩, ⟨PyData.keyHash P ⟨⟨[97, 115, 99, 105, 105]⟩⟩, .str ⟨⟨[97, 115, 99, 105, 105]⟩⟩ 11, .builtin "ascii"⟩, ⟨PyData.keyHash P ⟨⟨[98, 105, 110]⟩⟩, .str ⟨⟨[98, 105, 110]⟩⟩ 12, .builtin "bin"⟩, ⟨PyData.keyHash P ⟨⟨[98, 114, 101, 97, 107, 112, 111, 105, 110, 116]⟩⟩, .str ⟨⟨[98, 114, 101, 97, 107, 112, 111, 105, 110, 116]⟩⟩ 13, .builtin "breakpoint"⟩, ⟨PyData.keyHash P ⟨⟨[99, 97, 108, 108, 97, 98, 108, 101]⟩⟩, .str ⟨⟨[99, 97, 108, 108, 97, 98, 108, 101]⟩⟩ 14, .builtin "callable"⟩, ⟨PyData.keyHash P ⟨⟨[99, 104, 114]⟩⟩, .str ⟨⟨[99, 104, 114]⟩⟩ 15, .builtin "chr"⟩, ⟨PyData.keyHash P ⟨⟨[99, 111, 109, 112, 105, 108, 101]⟩⟩, .str ⟨⟨[99, 111, 109, 112, 105, 108, 101]⟩⟩ 16, .builtin "compile"⟩, ⟨PyData.keyHash P ⟨⟨[100, 101, 108, 97, 116, 116, 114]⟩⟩, .str ⟨⟨[100, 101, 108, 97, 116, 116, 114]⟩⟩ 17, .builtin "delattr"⟩, ⟨PyData.keyHash P ⟨⟨[100, 105, 114]⟩⟩, .str ⟨⟨[100, 105, 114]⟩⟩ 18, .builtin "dir"⟩, ⟨PyData.keyHash P ⟨⟨[100, 105, 118, 109, 111, 100]⟩⟩, .str ⟨⟨[100, 105, 118, 109, 111, 100]⟩⟩ 19, .builtin "divmod"⟩, ⟨PyData.keyHash P ⟨⟨[101, 118, 97, 108]⟩⟩, .str ⟨⟨[101, 118, 97, 108]⟩⟩ 20, .builtin "eval"⟩, ⟨PyData.keyHash P ⟨⟨[101, 120, 101, 99]⟩⟩, .str ⟨⟨[101, 120, 101, 99]⟩⟩ 21, .builtin "exec"⟩, ⟨PyData.keyHash P ⟨⟨[102, 111, 114, 109, 97, 116]⟩⟩, .str ⟨⟨[102, 111, 114, 109, 97, 116]⟩⟩ 22, .builtin "format"⟩, ⟨PyData.keyHash P ⟨⟨[103, 101, 116, 97, 116, 116, 114]⟩⟩, .str ⟨⟨[103, 101, 116, 97, 116, 116, 114]⟩⟩ 23, .builtin "getattr"⟩, ⟨PyData.keyHash P ⟨⟨[103, 108, 111, 98, 97, 108, 115]⟩⟩, .str ⟨⟨[103, 108, 111, 98, 97, 108, 115]⟩⟩ 24, .builtin "globals"⟩, ⟨PyData.keyHash P ⟨⟨[104, 97, 115, 97, 116, 116, 114]⟩⟩, .str ⟨⟨[104, 97, 115, 97, 116, 116, 114]⟩⟩ 25, .builtin "hasattr"⟩, ⟨PyData.keyHash P ⟨⟨[104, 97, 115, 104]⟩⟩, .str ⟨⟨[104, 97, 115, 104]⟩⟩ 26, .builtin "hash"⟩, ⟨PyData.keyHash P ⟨⟨[104, 101, 120]⟩⟩, .str ⟨⟨[104, 101, 120]⟩⟩ 27, .builtin "hex"⟩, ⟨PyData.keyHash P ⟨⟨[105, 100]⟩⟩, .str ⟨⟨[105, 100]⟩⟩ 28, .builtin "id"⟩, ⟨PyData.keyHash P ⟨⟨[105, 110, 112, 117, 116]⟩⟩, .str ⟨⟨[105, 110, 112, 117, 116]⟩⟩ 29, .builtin "input"⟩, ⟨PyData.keyHash P ⟨⟨[105, 115, 105, 110, 115, 116, 97, 110, 99, 101]⟩⟩, .str ⟨⟨[105, 115, 105, 110, 115, 116, 97, 110, 99, 101]⟩⟩ 30, .builtin "isinstance"⟩, ⟨PyData.keyHash P ⟨⟨[105, 115, 115, 117, 98, 99, 108, 97, 115, 115]⟩⟩, .str ⟨⟨[105, 115, 115, 117, 98, 99, 108, 97, 115, 115]⟩⟩ 31, .builtin "issubclass"⟩, ⟨PyData.keyHash P ⟨⟨[105, 116, 101, 114]⟩⟩, .str ⟨⟨[105, 116, 101, 114]⟩⟩ 32, .builtin "iter"⟩, ⟨PyData.keyHash P ⟨⟨[97, 105, 116, 101, 114]⟩⟩, .str ⟨⟨[97, 105, 116, 101, 114]⟩⟩ 33, .builtin "aiter"⟩, ⟨PyData.keyHash P ⟨⟨[108, 101, 110]⟩⟩, .str ⟨⟨[108, 101, 110]⟩⟩ 34, .builtin "len"⟩, ⟨PyData.keyHash P ⟨⟨[108, 111, 99, 97, 108, 115]⟩⟩, .str ⟨⟨[108, 111, 99, 97, 108, 115]⟩⟩ 35, .builtin "locals"⟩, ⟨PyData.keyHash P ⟨⟨[109, 97, 120]⟩⟩, .str ⟨⟨[109, 97, 120]⟩⟩ 36, .builtin "max"⟩, ⟨PyData.keyHash P ⟨⟨[109, 105, 110]⟩⟩, .str ⟨⟨[109, 105, 110]⟩⟩ 37, .builtin "min"⟩, ⟨PyData.keyHash P ⟨⟨[110, 101, 120, 116]⟩⟩, .str ⟨⟨[110, 101, 120, 116]⟩⟩ 38, .builtin "next"⟩, ⟨PyData.keyHash P ⟨⟨[97, 110, 101, 120, 116]⟩⟩, .str ⟨⟨[97, 110, 101, 120, 116]⟩⟩ 39, .builtin "anext"⟩, ⟨PyData.keyHash P ⟨⟨[111, 99, 116]⟩⟩, .str ⟨⟨[111, 99, 116]⟩⟩ 40, .builtin "oct"⟩, ⟨PyData.keyHash P ⟨⟨[111, 114, 100]⟩⟩, .str ⟨⟨[111, 114, 100]⟩⟩ 41, .builtin "ord"⟩, ⟨PyData.keyHash P ⟨⟨[112, 111, 119]⟩⟩, .str ⟨⟨[112, 111, 119]⟩⟩ 42, .builtin "pow"⟩, ⟨PyData.keyHash P ⟨⟨[112, 114, 105, 110, 116]⟩⟩, .str ⟨⟨[112, 114, 105, 110, 116]⟩⟩ 43, .builtin "print"⟩, ⟨PyData.keyHash P ⟨⟨[114, 101, 112, 114]⟩⟩, .str ⟨⟨[114, 101, 112, 114]⟩⟩ 44, .builtin "repr"⟩, ⟨PyData.keyHash P ⟨⟨[114, 111, 117, 110, 100]⟩⟩, .str ⟨⟨[114, 111, 117, 110, 100]⟩⟩ 45, .builtin "round"⟩, ⟨PyData.keyHash P ⟨⟨[115, 101, 116, 97, 116, 116, 114]⟩⟩, .str ⟨⟨[115, 101, 116, 97, 116, 116, 114]⟩⟩ 46, .builtin "setattr"⟩, ⟨PyData.keyHash P ⟨⟨[115, 111, 114, 116, 101, 100]⟩⟩, .str ⟨⟨[115, 111, 114, 116, 101, 100]⟩⟩ 47, .builtin "sorted"⟩, ⟨PyData.keyHash P ⟨⟨[115, 117, 109]⟩⟩, .str ⟨⟨[115, 117, 109]⟩⟩ 48, .builtin "sum"⟩, ⟨PyData.keyHash P ⟨⟨[118, 97, 114, 115]⟩⟩, .str ⟨⟨[118, 97, 114, 115]⟩⟩ 49, .builtin "vars"⟩, ⟨PyData.keyHash P ⟨⟨[78, 111, 110, 101]⟩⟩, .str ⟨⟨[78, 111, 110, 101]⟩⟩ 50, .none⟩, ⟨PyData.keyHash P ⟨⟨[69, 108, 108, 105, 112, 115, 105, 115]⟩⟩, .str ⟨⟨[69, 108, 108, 105, 112, 115, 105, 115]⟩⟩ 51, .ellipsis⟩, ⟨PyData.keyHash P ⟨⟨[78, 111, 116, 73, 109, 112, 108, 101, 109, 101, 110, 116, 101, 100]⟩⟩, .str ⟨⟨[78, 111, 116, 73, 109, 112, 108, 101, 109, 101, 110, 116, 101, 100]⟩⟩ 52, .notImplemented⟩, ⟨PyData.keyHash P ⟨⟨[70, 97, 108, 115, 101]⟩⟩, .str ⟨⟨[70, 97, 108, 115, 101]⟩⟩ 53, .bool false⟩, ⟨PyData.keyHash P ⟨⟨[84, 114, 117, 101]⟩⟩, .str ⟨⟨[84, 114, 117, 101]⟩⟩ 54, .bool true⟩, ⟨PyData.keyHash P ⟨⟨[98, 111, 111, 108]⟩⟩, .str ⟨⟨[98, 111, 111, 108]⟩⟩ 55, .type "bool"⟩, ⟨PyData.keyHash P ⟨⟨[109, 101, 109, 111, 114, 121, 118, 105, 101, 119]⟩⟩, .str ⟨⟨[109, 101, 109, 111, 114, 121, 118, 105, 101, 119]⟩⟩ 56, .type "memoryview"⟩, ⟨PyData.keyHash P ⟨⟨[98, 121, 116, 101, 97, 114, 114, 97, 121]⟩⟩, .str ⟨⟨[98, 121, 116, 101, 97, 114, 114, 97, 121]⟩⟩ 57, .type "bytearray"⟩, ⟨PyData.keyHash P ⟨⟨[98, 121, 116, 101, 115]⟩⟩, .str ⟨⟨[98, 121, 116, 101, 115]⟩⟩ 58, .type "bytes"⟩, ⟨PyData.keyHash P ⟨⟨[99, 108, 97, 115, 115, 109, 101, 116, 104, 111, 100]⟩⟩, .str ⟨⟨[99, 108, 97, 115, 115, 109, 101, 116, 104, 111, 100]⟩⟩ 59, .type "classmethod"⟩, ⟨PyData.keyHash P ⟨⟨[99, 111, 109, 112, 108, 101, 120]⟩⟩, .str ⟨⟨[99, 111, 109, 112, 108, 101, 120]⟩⟩ 60, .type "complex"⟩, ⟨PyData.keyHash P ⟨⟨[100, 105, 99, 116]⟩⟩, .str ⟨⟨[100, 105, 99, 116]⟩⟩ 61, .type "dict"⟩, ⟨PyData.keyHash P ⟨⟨[101, 110, 117, 109, 101, 114, 97, 116, 101]⟩⟩, .str ⟨⟨[101, 110, 117, 109, 101, 114, 97, 116, 101]⟩⟩ 62, .type "enumerate"⟩, ⟨PyData.keyHash P ⟨⟨[102, 105, 108, 116, 101, 114]⟩⟩, .str ⟨⟨[102, 105, 108, 116, 101, 114]⟩⟩ 63, .type "filter"⟩, ⟨PyData.keyHash P ⟨⟨[102, 108, 111, 97, 116]⟩⟩, .str ⟨⟨[102, 108, 111, 97, 116]⟩⟩ 64, .type "float"⟩, ⟨PyData.keyHash P ⟨⟨[102, 114, 111, 122, 101, 110, 115, 101, 116]⟩⟩, .str ⟨⟨[102, 114, 111, 122, 101, 110, 115, 101, 116]⟩⟩ 65, .type "frozenset"⟩, ⟨PyData.keyHash P ⟨⟨[112, 114, 111, 112, 101, 114, 116, 121]⟩⟩, .str ⟨⟨[112, 114, 111, 112, 101, 114, 116, 121]⟩⟩ 66, .type "property"⟩, ⟨PyData.keyHash P ⟨⟨[105, 110, 116]⟩⟩, .str ⟨⟨[105, 110, 116]⟩⟩ 67, .type "int"⟩, ⟨PyData.keyHash P ⟨⟨[108, 105, 115, 116]⟩⟩, .str ⟨⟨[108, 105, 115, 116]⟩⟩ 68, .type "list"⟩, ⟨PyData.keyHash P ⟨⟨[109, 97, 112]⟩⟩, .str ⟨⟨[109, 97, 112]⟩⟩ 69, .type "map"⟩, ⟨PyData.keyHash P ⟨⟨[111, 98, 106, 101, 99, 116]⟩⟩, .str ⟨⟨[111, 98, 106, 101, 99, 116]⟩⟩ 70, .type "object"⟩, ⟨PyData.keyHash P ⟨⟨[114, 97, 110, 103, 101]⟩⟩, .str ⟨⟨[114, 97, 110, 103, 101]⟩⟩ 71, .type "range"⟩, ⟨PyData.keyHash P ⟨⟨[114, 101, 118, 101, 114, 115, 101, 100]⟩⟩, .str ⟨⟨[114, 101, 118, 101, 114, 115, 101, 100]⟩⟩ 72, .type "reversed"⟩, ⟨PyData.keyHash P ⟨⟨[115, 101, 116]⟩⟩, .str ⟨⟨[115, 101, 116]⟩⟩ 73, .type "set"⟩, ⟨PyData.keyHash P ⟨⟨[115, 108, 105, 99, 101]⟩⟩, .str ⟨⟨[115, 108, 105, 99, 101]⟩⟩ 74, .type "slice"⟩, ⟨PyData.keyHash P ⟨⟨[115, 116, 97, 116, 105, 99, 109, 101, 116, 104, 111, 100]⟩⟩, .str ⟨⟨[115, 116, 97, 116, 105, 99, 109, 101, 116, 104, 111, 100]⟩⟩ 75, .type "staticmethod"⟩, ⟨PyData.keyHash P ⟨⟨[115, 116, 114]⟩⟩, .str ⟨⟨[115, 116, 114]⟩⟩ 76, .type "str"⟩, ⟨PyData.keyHash P ⟨⟨[115, 117, 112, 101, 114]⟩⟩, .str ⟨⟨[115, 117, 112, 101, 114]⟩⟩ 77, .type "super"⟩, ⟨PyData.keyHash P ⟨⟨[116, 117, 112, 108, 101]⟩⟩, .str ⟨⟨[116, 117, 112, 108, 101]⟩⟩ 78, .type "tuple"⟩, ⟨PyData.keyHash P ⟨⟨[116, 121, 112, 101]⟩⟩, .str ⟨⟨[116, 121, 112, 101]⟩⟩ 79, .type "type"⟩, ⟨PyData.keyHash P ⟨⟨[122, 105, 112]⟩⟩, .str ⟨⟨[122, 105, 112]⟩⟩ 80, .type "zip"⟩, ⟨PyData.keyHash P ⟨⟨[95, 95, 100, 101, 98, 117, 103, 95, 95]⟩⟩, .str ⟨⟨[95, 95, 100, 101, 98, 117, 103, 95, 95]⟩⟩ 81, .bool true⟩, ⟨PyData.keyHash P ⟨⟨[66, 97, 115, 101, 69, 120, 99, 101, 112, 116, 105, 111, 110]⟩⟩, .str ⟨⟨[66, 97, 115, 101, 69, 120, 99, 101, 112, 116, 105, 111, 110]⟩⟩ 82, .type "BaseException"⟩, ⟨PyData.keyHash P ⟨⟨[66, 97, 115, 101, 69, 120, 99, 101, 112, 116, 105, 111, 110, 71, 114, 111, 117, 112]⟩⟩, .str ⟨⟨[66, 97, 115, 101, 69, 120, 99, 101, 112, 116, 105, 111, 110, 71, 114, 111, 117, 112]⟩⟩ 83, .type "BaseExceptionGroup"⟩, ⟨PyData.keyHash P ⟨⟨[69, 120, 99, 101, 112, 116, 105, 111, 110]⟩⟩, .str ⟨⟨[69, 120, 99, 101, 112, 116, 105, 111, 110]⟩⟩ 84, .type "Exception"⟩, ⟨PyData.keyHash P ⟨⟨[71, 101, 110, 101, 114, 97, 116, 111, 114, 69, 120, 105, 116]⟩⟩, .str ⟨⟨[71, 101, 110, 101, 114, 97, 116, 111, 114, 69, 120, 105, 116]⟩⟩ 85, .type "GeneratorExit"⟩, ⟨PyData.keyHash P ⟨⟨[75, 101, 121, 98, 111, 97, 114, 100, 73, 110, 116, 101, 114, 114, 117, 112, 116]⟩⟩, .str ⟨⟨[75, 101, 121, 98, 111, 97, 114, 100, 73, 110, 116, 101, 114, 114, 117, 112, 116]⟩⟩ 86, .type "KeyboardInterrupt"⟩, ⟨PyData.keyHash P ⟨⟨[83, 121, 115, 116, 101, 109, 69, 120, 105, 116]⟩⟩, .str ⟨⟨[83, 121, 115, 116, 101, 109, 69, 120, 105, 116]⟩⟩ 87, .type "SystemExit"⟩, ⟨PyData.keyHash P ⟨⟨[65, 114, 105, 116, 104, 109, 101, 116, 105, 99, 69, 114, 114, 111, 114]⟩⟩, .str ⟨⟨[65, 114, 105, 116, 104, 109, 101, 116, 105, 99, 69, 114, 114, 111, 114]⟩⟩ 88, .type "ArithmeticError"⟩, ⟨PyData.keyHash P ⟨⟨[65, 115, 115, 101, 114, 116, 105, 111, 110, 69, 114, 114, 111, 114]⟩⟩, .str ⟨⟨[65, 115, 115, 101, 114, 116, 105, 111, 110, 69, 114, 114, 111, 114]⟩⟩ 89, .type "AssertionError"⟩, ⟨PyData.keyHash P ⟨⟨[65, 116, 116, 114, 105, 98, 117, 116, 101, 69, 114, 114, 111, 114]⟩⟩, .str ⟨⟨[65, 116, 116, 114, 105, 98, 117, 116, 101, 69, 114, 114, 111, 114]⟩⟩ 90, .type "AttributeError"⟩, ⟨PyData.keyHash P ⟨⟨[66, 117, 102, 102, 101, 114, 69, 114, 114, 111, 114]⟩⟩, .str ⟨⟨[66, 117, 102, 102, 101, 114, 69, 114, 114, 111, 114]⟩⟩ 91, .type "BufferError"⟩, ⟨PyData.keyHash P ⟨⟨[69, 79, 70, 69, 114, 114, 111, 114]⟩⟩, .str ⟨⟨[69, 79, 70, 69, 114, 114, 111, 114]⟩⟩ 92, .type "EOFError"⟩, ⟨PyData.keyHash P ⟨⟨[73, 109, 112, 111, 114, 116, 69, 114, 114, 111, 114]⟩⟩, .str ⟨⟨[73, 109, 112, 111, 114, 116, 69, 114, 114, 111, 114]⟩⟩ 93, .type "ImportError"⟩, ⟨PyData.keyHash P ⟨⟨[76, 111, 111, 107, 117, 112, 69, 114, 114, 111, 114]⟩⟩, .str ⟨⟨[76, 111, 111, 107, 117, 112, 69, 114, 114, 111, 114]⟩⟩ 94, .type "LookupError"⟩, ⟨PyData.keyHash P ⟨⟨[77, 101, 109, 111, 114, 121, 69, 114, 114, 111, 114]⟩⟩, .str ⟨⟨[77, 101, 109, 111, 114, 121, 69, 114, 114, 111, 114]⟩⟩ 95, .type "MemoryError"⟩, ⟨PyData.keyHash P ⟨⟨[78, 97, 109, 101, 69, 114, 114, 111, 114]⟩⟩, .str ⟨⟨[78, 97, 109, 101, 69, 114, 114, 111, 114]⟩⟩ 96, .type "NameError"⟩, ⟨PyData.keyHash P ⟨⟨[79, 83, 69, 114, 114, 111, 114]⟩⟩, .str ⟨⟨[79, 83, 69, 114, 114, 111, 114]⟩⟩ 97, .type "OSError"⟩, ⟨PyData.keyHash P ⟨⟨[82, 101, 102, 101, 114, 101, 110, 99, 101, 69, 114, 114, 111, 114]⟩⟩, .str ⟨⟨[82, 101, 102, 101, 114, 101, 110, 99, 101, 69, 114, 114, 111, 114]⟩⟩ 98, .type "ReferenceError"⟩, ⟨PyData.keyHash P ⟨⟨[82, 117, 110, 116, 105, 109, 101, 69, 114, 114, 111, 114]⟩⟩, .str ⟨⟨[82, 117, 110, 116, 105, 109, 101, 69, 114, 114, 111, 114]⟩⟩ 99, .type "RuntimeError"⟩, ⟨PyData.keyHash P ⟨⟨[83, 116, 111, 112, 65, 115, 121, 110, 99, 73, 116, 101, 114, 97, 116, 105, 111, 110]⟩⟩, .str ⟨⟨[83, 116, 111, 112, 65, 115, 121, 110, 99, 73, 116, 101, 114, 97, 116, 105, 111, 110]⟩⟩ 100, .type "StopAsyncIteration"⟩, ⟨PyData.keyHash P ⟨⟨[83, 116, 111, 112, 73, 116, 101, 114, 97, 116, 105, 111, 110]⟩⟩, .str ⟨⟨[83, 116, 111, 112, 73, 116, 101, 114, 97, 116, 105, 111, 110]⟩⟩ 101, .type "StopIteration"⟩, ⟨PyData.keyHash P ⟨⟨[83, 121, 110, 116, 97, 120, 69, 114, 114, 111, 114]⟩⟩, .str ⟨⟨[83, 121, 110, 116, 97, 120, 69, 114, 114, 111, 114]⟩⟩ 102, .type "SyntaxError"⟩, ⟨PyData.keyHash P ⟨⟨[83, 121, 115, 116, 101, 109, 69, 114, 114, 111, 114]⟩⟩, .str ⟨⟨[83, 121, 115, 116, 101, 109, 69, 114, 114, 111, 114]⟩⟩ 103, .type "SystemError"⟩, ⟨PyData.keyHash P ⟨⟨[84, 121, 112, 101, 69, 114, 114, 111, 114]⟩⟩, .str ⟨⟨[84, 121, 112, 101, 69, 114, 114, 111, 114]⟩⟩ 104, .type "TypeError"⟩, ⟨PyData.keyHash P ⟨⟨[86, 97, 108, 117, 101, 69, 114, 114, 111, 114]⟩⟩, .str ⟨⟨[86, 97, 108, 117, 101, 69, 114, 114, 111, 114]⟩⟩ 105, .type "ValueError"⟩, ⟨PyData.keyHash P ⟨⟨[87, 97, 114, 110, 105, 110, 103]⟩⟩, .str ⟨⟨[87, 97, 114, 110, 105, 110, 103]⟩⟩ 106, .type "Warning"⟩, ⟨PyData.keyHash P ⟨⟨[70, 108, 111, 97, 116, 105, 110, 103, 80, 111, 105, 110, 116, 69, 114, 114, 111, 114]⟩⟩, .str ⟨⟨[70, 108, 111, 97, 116, 105, 110, 103, 80, 111, 105, 110, 116, 69, 114, 114, 111, 114]⟩⟩ 107, .type "FloatingPointError"⟩, ⟨PyData.keyHash P ⟨⟨[79, 118, 101, 114, 102, 108, 111, 119, 69, 114, 114, 111, 114]⟩⟩, .str ⟨⟨[79, 118, 101, 114, 102, 108, 111, 119, 69, 114, 114, 111, 114]⟩⟩ 108, .type "OverflowError"⟩, ⟨PyData.keyHash P ⟨⟨[90, 101, 114, 111, 68, 105, 118, 105, 115, 105, 111, 110, 69, 114, 114, 111, 114]⟩⟩, .str ⟨⟨[90, 101, 114, 111, 68, 105, 118, 105, 115, 105, 111, 110, 69, 114, 114, 111, 114]⟩⟩ 109, .type "ZeroDivisionError"⟩, ⟨PyData.keyHash P ⟨⟨[66, 121, 116, 101, 115, 87, 97, 114, 110, 105, 110, 103]⟩⟩, .str ⟨⟨[66, 121, 116, 101, 115, 87, 97, 114, 110, 105, 110, 103]⟩⟩ 110, .type "BytesWarning"⟩, ⟨PyData.keyHash P ⟨⟨[68, 101, 112, 114, 101, 99, 97, 116, 105, 111, 110, 87, 97, 114, 110, 105, 110, 103]⟩⟩, .str ⟨⟨[68, 101, 112, 114, 101, 99, 97, 116, 105, 111, 110, 87, 97, 114, 110, 105, 110, 103]⟩⟩ 111, .type "DeprecationWarning"⟩, ⟨PyData.keyHash P ⟨⟨[69, 110, 99, 111, 100, 105, 110, 103, 87, 97, 114, 110, 105, 110, 103]⟩⟩, .str ⟨⟨[69, 110, 99, 111, 100, 105, 110, 103, 87, 97, 114, 110, 105, 110, 103]⟩⟩ 112, .type "EncodingWarning"⟩, ⟨PyData.keyHash P ⟨⟨[70, 117, 116, 117, 114, 101, 87, 97, 114, 110, 105, 110, 103]⟩⟩, .str ⟨⟨[70, 117, 116, 117, 114, 101, 87, 97, 114, 110, 105, 110, 103]⟩⟩ 113, .type "FutureWarning"⟩, ⟨PyData.keyHash P ⟨⟨[73, 109, 112, 111, 114, 116, 87, 97, 114, 110, 105, 110, 103]⟩⟩, .str ⟨⟨[73, 109, 112, 111, 114, 116, 87, 97, 114, 110, 105, 110, 103]⟩⟩ 114, .type "ImportWarning"⟩, ⟨PyData.keyHash P ⟨⟨[80, 101, 110, 100, 105, 110, 103, 68, 101, 112, 114, 101, 99, 97, 116, 105, 111, 110, 87, 97, 114, 110, 105, 110, 103]⟩⟩, .str ⟨⟨[80, 101, 110, 100, 105, 110, 103, 68, 101, 112, 114, 101, 99, 97, 116, 105, 111, 110, 87, 97, 114, 110, 105, 110, 103]⟩⟩ 115, .type "PendingDeprecationWarning"⟩, ⟨PyData.keyHash P ⟨⟨[82, 101, 115, 111, 117, 114, 99, 101, 87, 97, 114, 110, 105, 110, 103]⟩⟩, .str ⟨⟨[82, 101, 115, 111, 117, 114, 99, 101, 87, 97, 114, 110, 105, 110, 103]⟩⟩ 116, .type "ResourceWarning"⟩, ⟨PyData.keyHash P ⟨⟨[82, 117, 110, 116, 105, 109, 101, 87, 97, 114, 110, 105, 110, 103]⟩⟩, .str ⟨⟨[82, 117, 110, 116, 105, 109, 101, 87, 97, 114, 110, 105, 110, 103]⟩⟩ 117, .type "RuntimeWarning"⟩, ⟨PyData.keyHash P ⟨⟨[83, 121, 110, 116, 97, 120, 87, 97, 114, 110, 105, 110, 103]⟩⟩, .str ⟨⟨[83, 121, 110, 116, 97, 120, 87, 97, 114, 110, 105, 110, 103]⟩⟩ 118, .type "SyntaxWarning"⟩, ⟨PyData.keyHash P ⟨⟨[85, 110, 105, 99, 111, 100, 101, 87, 97, 114, 110, 105, 110, 103]⟩⟩, .str ⟨⟨[85, 110, 105, 99, 111, 100, 101, 87, 97, 114, 110, 105, 110, 103]⟩⟩ 119, .type "UnicodeWarning"⟩, ⟨PyData.keyHash P ⟨⟨[85, 115, 101, 114, 87, 97, 114, 110, 105, 110, 103]⟩⟩, .str ⟨⟨[85, 115, 101, 114, 87, 97, 114, 110, 105, 110, 103]⟩⟩ 120, .type "UserWarning"⟩, ⟨PyData.keyHash P ⟨⟨[66, 108, 111, 99, 107, 105, 110, 103, 73, 79, 69, 114, 114, 111, 114]⟩⟩, .str ⟨⟨[66, 108, 111, 99, 107, 105, 110, 103, 73, 79, 69, 114, 114, 111, 114]⟩⟩ 121, .type "BlockingIOError"⟩, ⟨PyData.keyHash P ⟨⟨[67, 104, 105, 108, 100, 80, 114, 111, 99, 101, 115, 115, 69, 114, 114, 111, 114]⟩⟩, .str ⟨⟨[67, 104, 105, 108, 100, 80, 114, 111, 99, 101, 115, 115, 69, 114, 114, 111, 114]⟩⟩ 122, .type "ChildProcessError"⟩, ⟨PyData.keyHash P ⟨⟨[67, 111, 110, 110, 101, 99, 116, 105, 111, 110, 69, 114, 114, 111, 114]⟩⟩, .str ⟨⟨[67, 111, 110, 110, 101, 99, 116, 105, 111, 110, 69, 114, 114, 111, 114]⟩⟩ 123, .type "ConnectionError"⟩, ⟨PyData.keyHash P ⟨⟨[70, 105, 108, 101, 69, 120, 105, 115, 116, 115, 69, 114, 114, 111, 114]⟩⟩, .str ⟨⟨[70, 105, 108, 101, 69, 120, 105, 115, 116, 115, 69, 114, 114, 111, 114]⟩⟩ 124, .type "FileExistsError"⟩, ⟨PyData.keyHash P ⟨⟨[70, 105, 108, 101, 78, 111, 116, 70, 111, 117, 110, 100, 69, 114, 114, 111, 114]⟩⟩, .str ⟨⟨[70, 105, 108, 101, 78, 111, 116, 70, 111, 117, 110, 100, 69, 114, 114, 111, 114]⟩⟩ 125, .type "FileNotFoundError"⟩, ⟨PyData.keyHash P ⟨⟨[73, 110, 116, 101, 114, 114, 117, 112, 116, 101, 100, 69, 114, 114, 111, 114]⟩⟩, .str ⟨⟨[73, 110, 116, 101, 114, 114, 117, 112, 116, 101, 100, 69, 114, 114, 111, 114]⟩⟩ 126, .type "InterruptedError"⟩, ⟨PyData.keyHash P ⟨⟨[73, 115, 65, 68, 105, 114, 101, 99, 116, 111, 114, 121, 69, 114, 114, 111, 114]⟩⟩, .str ⟨⟨[73, 115, 65, 68, 105, 114, 101, 99, 116, 111, 114, 121, 69, 114, 114, 111, 114]⟩⟩ 127, .type "IsADirectoryError"⟩, ⟨PyData.keyHash P ⟨⟨[78, 111, 116, 65, 68, 105, 114, 101, 99, 116, 111, 114, 121, 69, 114, 114, 111, 114]⟩⟩, .str ⟨⟨[78, 111, 116, 65, 68, 105, 114, 101, 99, 116, 111, 114, 121, 69, 114, 114, 111, 114]⟩⟩ 128, .type "NotADirectoryError"⟩, ⟨PyData.keyHash P ⟨⟨[80, 101, 114, 109, 105, 115, 115, 105, 111, 110, 69, 114, 114, 111, 114]⟩⟩, .str ⟨⟨[80, 101, 114, 109, 105, 115, 115, 105, 111, 110, 69, 114, 114, 111, 114]⟩⟩ 129, .type "PermissionError"⟩, ⟨PyData.keyHash P ⟨⟨[80, 114, 111, 99, 101, 115, 115, 76, 111, 111, 107, 117, 112, 69, 114, 114, 111, 114]⟩⟩, .str ⟨⟨[80, 114, 111, 99, 101, 115, 115, 76, 111, 111, 107, 117, 112, 69, 114, 114, 111, 114]⟩⟩ 130, .type "ProcessLookupError"⟩, ⟨PyData.keyHash P ⟨⟨[84, 105, 109, 101, 111, 117, 116, 69, 114, 114, 111, 114]⟩⟩, .str ⟨⟨[84, 105, 109, 101, 111, 117, 116, 69, 114, 114, 111, 114]⟩⟩ 131, .type "TimeoutError"⟩, ⟨PyData.keyHash P ⟨⟨[73, 110, 100, 101, 110, 116, 97, 116, 105, 111, 110, 69, 114, 114, 111, 114]⟩⟩, .str ⟨⟨[73, 110, 100, 101, 110, 116, 97, 116, 105, 111, 110, 69, 114, 114, 111, 114]⟩⟩ 132, .type "IndentationError"⟩, ⟨PyData.keyHash P ⟨⟨[95, 73, 110, 99, 111, 109, 112, 108, 101, 116, 101, 73, 110, 112, 117, 116, 69, 114, 114, 111, 114]⟩⟩, .str ⟨⟨[95, 73, 110, 99, 111, 109, 112, 108, 101, 116, 101, 73, 110, 112, 117, 116, 69, 114, 114, 111, 114]⟩⟩ 133, .type "_IncompleteInputError"⟩, ⟨PyData.keyHash P ⟨⟨[73, 110, 100, 101, 120, 69, 114, 114, 111, 114]⟩⟩, .str ⟨⟨[73, 110, 100, 101, 120, 69, 114, 114, 111, 114]⟩⟩ 134, .type "IndexError"⟩, ⟨PyData.keyHash P ⟨⟨[75, 101, 121, 69, 114, 114, 111, 114]⟩⟩, .str ⟨⟨[75, 101, 121, 69, 114, 114, 111, 114]⟩⟩ 135, .type "KeyError"⟩, ⟨PyData.keyHash P ⟨⟨[77, 111, 100, 117, 108, 101, 78, 111, 116, 70, 111, 117, 110, 100, 69, 114, 114, 111, 114]⟩⟩, .str ⟨⟨[77, 111, 100, 117, 108, 101, 78, 111, 116, 70, 111, 117, 110, 100, 69, 114, 114, 111, 114]⟩⟩ 136, .type "ModuleNotFoundError"⟩, ⟨PyData.keyHash P ⟨⟨[78, 111, 116, 73, 109, 112, 108, 101, 109, 101, 110, 116, 101, 100, 69, 114, 114, 111, 114]⟩⟩, .str ⟨⟨[78, 111, 116, 73, 109, 112, 108, 101, 109, 101, 110, 116, 101, 100, 69, 114, 114, 111, 114]⟩⟩ 137, .type "NotImplementedError"⟩, ⟨PyData.keyHash P ⟨⟨[80, 121, 116, 104, 111, 110, 70, 105, 110, 97, 108, 105, 122, 97, 116, 105, 111, 110, 69, 114, 114, 111, 114]⟩⟩, .str ⟨⟨[80, 121, 116, 104, 111, 110, 70, 105, 110, 97, 108, 105, 122, 97, 116, 105, 111, 110, 69, 114, 114, 111, 114]⟩⟩ 138, .type "PythonFinalizationError"⟩, ⟨PyData.keyHash P ⟨⟨[82, 101, 99, 117, 114, 115, 105, 111, 110, 69, 114, 114, 111, 114]⟩⟩, .str ⟨⟨[82, 101, 99, 117, 114, 115, 105, 111, 110, 69, 114, 114, 111, 114]⟩⟩ 139, .type "RecursionError"⟩, ⟨PyData.keyHash P ⟨⟨[85, 110, 98, 111, 117, 110, 100, 76, 111, 99, 97, 108, 69, 114, 114, 111, 114]⟩⟩, .str ⟨⟨[85, 110, 98, 111, 117, 110, 100, 76, 111, 99, 97, 108, 69, 114, 114, 111, 114]⟩⟩ 140, .type "UnboundLocalError"⟩, ⟨PyData.keyHash P ⟨⟨[85, 110, 105, 99, 111, 100, 101, 69, 114, 114, 111, 114]⟩⟩, .str ⟨⟨[85, 110, 105, 99, 111, 100, 101, 69, 114, 114, 111, 114]⟩⟩ 141, .type "UnicodeError"⟩, ⟨PyData.keyHash P ⟨⟨[66, 114, 111, 107, 101, 110, 80, 105, 112, 101, 69, 114, 114, 111, 114]⟩⟩, .str ⟨⟨[66, 114, 111, 107, 101, 110, 80, 105, 112, 101, 69, 114, 114, 111, 114]⟩⟩ 142, .type "BrokenPipeError"⟩, ⟨PyData.keyHash P ⟨⟨[67, 111, 110, 110, 101, 99, 116, 105, 111, 110, 65, 98, 111, 114, 116, 101, 100, 69, 114, 114, 111, 114]⟩⟩, .str ⟨⟨[67, 111, 110, 110, 101, 99, 116, 105, 111, 110, 65, 98, 111, 114, 116, 101, 100, 69, 114, 114, 111, 114]⟩⟩ 143, .type "ConnectionAbortedError"⟩, ⟨PyData.keyHash P ⟨⟨[67, 111, 110, 110, 101, 99, 116, 105, 111, 110, 82, 101, 102, 117, 115, 101, 100, 69, 114, 114, 111, 114]⟩⟩, .str ⟨⟨[67, 111, 110, 110, 101, 99, 116, 105, 111, 110, 82, 101, 102, 117, 115, 101, 100, 69, 114, 114, 111, 114]⟩⟩ 144, .type "ConnectionRefusedError"⟩, ⟨PyData.keyHash P ⟨⟨[67, 111, 110, 110, 101, 99, 116, 105, 111, 110, 82, 101, 115, 101, 116, 69, 114, 114, 111, 114]⟩⟩, .str ⟨⟨[67, 111, 110, 110, 101, 99, 116, 105, 111, 110, 82, 101, 115, 101, 116, 69, 114, 114, 111, 114]⟩⟩ 145, .type "ConnectionResetError"⟩, ⟨PyData.keyHash P ⟨⟨[84, 97, 98, 69, 114, 114, 111, 114]⟩⟩, .str ⟨⟨[84, 97, 98, 69, 114, 114, 111, 114]⟩⟩ 146, .type "TabError"⟩, ⟨PyData.keyHash P ⟨⟨[85, 110, 105, 99, 111, 100, 101, 68, 101, 99, 111, 100, 101, 69, 114, 114, 111, 114]⟩⟩, .str ⟨⟨[85, 110, 105, 99, 111, 100, 101, 68, 101, 99, 111, 100, 101, 69, 114, 114, 111, 114]⟩⟩ 147, .type "UnicodeDecodeError"⟩, ⟨PyData.keyHash P ⟨⟨[85, 110, 105, 99, 111, 100, 101, 69, 110, 99, 111, 100, 101, 69, 114, 114, 111, 114]⟩⟩, .str ⟨⟨[85, 110, 105, 99, 111, 100, 101, 69, 110, 99, 111, 100, 101, 69, 114, 114, 111, 114]⟩⟩ 148, .type "UnicodeEncodeError"⟩, ⟨PyData.keyHash P ⟨⟨[85, 110, 105, 99, 111, 100, 101, 84, 114, 97, 110, 115, 108, 97, 116, 101, 69, 114, 114, 111, 114]⟩⟩, .str ⟨⟨[85, 110, 105, 99, 111, 100, 101, 84, 114, 97, 110, 115, 108, 97, 116, 101, 69, 114, 114, 111, 114]⟩⟩ 149, .type "UnicodeTranslateError"⟩, ⟨PyData.keyHash P ⟨⟨[69, 120, 99, 101, 112, 116, 105, 111, 110, 71, 114, 111, 117, 112]⟩⟩, .str ⟨⟨[69, 120, 99, 101, 112, 116, 105, 111, 110, 71, 114, 111, 117, 112]⟩⟩ 150, .type "ExceptionGroup"⟩, ⟨PyData.keyHash P ⟨⟨[69, 110, 118, 105, 114, 111, 110, 109, 101, 110, 116, 69, 114, 114, 111, 114]⟩⟩, .str ⟨⟨[69, 110, 118, 105, 114, 111, 110, 109, 101, 110, 116, 69, 114, 114, 111, 114]⟩⟩ 151, .type "OSError"⟩, ⟨PyData.keyHash P ⟨⟨[73, 79, 69, 114, 114, 111, 114]⟩⟩, .str ⟨⟨[73, 79, 69, 114, 114, 111, 114]⟩⟩ 152, .type "OSError"⟩, ⟨PyData.keyHash P ⟨⟨[111, 112, 101, 110]⟩⟩, .str ⟨⟨[111, 112, 101, 110]⟩⟩ 153, .builtin "open"⟩, ⟨PyData.keyHash P ⟨⟨[113, 117, 105, 116]⟩⟩, .str ⟨⟨[113, 117, 105, 116]⟩⟩ 154, .builtin "builtins.quit#opaque"⟩, ⟨PyData.keyHash P ⟨⟨[101, 120, 105, 116]⟩⟩, .str ⟨⟨[101, 120, 105, 116]⟩⟩ 155, .builtin "builtins.exit#opaque"⟩, ⟨PyData.keyHash P ⟨⟨[99, 111, 112, 121, 114, 105, 103, 104, 116]⟩⟩, .str ⟨⟨[99, 111, 112, 121, 114, 105, 103, 104, 116]⟩⟩ 156, .builtin "builtins.copyright#opaque"⟩, ⟨PyData.keyHash P ⟨⟨[99, 114, 101, 100, 105, 116, 115]⟩⟩, .str ⟨⟨[99, 114, 101, 100, 105, 116, 115]⟩⟩ 157, .builtin "builtins.credits#opaque"⟩, ⟨PyData.keyHash P ⟨⟨[108, 105, 99, 101, 110, 115, 101]⟩⟩, .str ⟨⟨[108, 105, 99, 101, 110, 115, 101]⟩⟩ 158, .builtin "builtins.license#opaque"⟩, ⟨PyData.keyHash P ⟨⟨[104, 101, 108, 112]⟩⟩, .str ⟨⟨[104, 101, 108, 112]⟩⟩ 159, .builtin "builtins.help#opaque"⟩]⟩ 159, ⟨[]⟩⟩
noncomputable def o1 (P : Params) : Obj := ⟨.type "dict", none, .dict ⟨[⟨PyData.keyHash P ⟨⟨[98, 117, 105, 108, 116, 105, 110, 115]⟩⟩, .str ⟨⟨[98, 117, 105, 108, 116, 105, 110, 115]⟩⟩ 162, .ref 4⟩, ⟨PyData.keyHash P ⟨⟨[95, 95, 109, 97, 105, 110, 95, 95]⟩⟩, .str ⟨⟨[95, 95, 109, 97, 105, 110, 95, 95]⟩⟩ 163, .ref 5⟩, ⟨PyData.keyHash P ⟨⟨[95, 115, 114, 101]⟩⟩, .str ⟨⟨[95, 115, 114, 101]⟩⟩ 244, .ref 12⟩]⟩ 3, ⟨[]⟩⟩
noncomputable def o2 (P : Params) : Obj := ⟨.none, none, .dict ⟨[⟨PyData.keyHash P ⟨⟨[105, 109, 112, 111, 114, 116, 46, 108, 111, 97, 100, 101, 100, 46, 95, 115, 114, 101]⟩⟩, .str ⟨⟨[105, 109, 112, 111, 114, 116, 46, 108, 111, 97, 100, 101, 100, 46, 95, 115, 114, 101]⟩⟩ 183, .bool true⟩, ⟨PyData.keyHash P ⟨⟨[99, 108, 97, 115, 115, 46, 95, 102, 114, 111, 122, 101, 110, 95, 105, 109, 112, 111, 114, 116, 108, 105, 98, 46, 66, 117, 105, 108, 116, 105, 110, 73, 109, 112, 111, 114, 116, 101, 114]⟩⟩, .str ⟨⟨[99, 108, 97, 115, 115, 46, 95, 102, 114, 111, 122, 101, 110, 95, 105, 109, 112, 111, 114, 116, 108, 105, 98, 46, 66, 117, 105, 108, 116, 105, 110, 73, 109, 112, 111, 114, 116, 101, 114]⟩⟩ 185, .ref 14⟩, ⟨PyData.keyHash P ⟨⟨[119, 97, 116, 99, 104, 101, 100, 46, 105, 109, 112, 111, 114, 116]⟩⟩, .str ⟨⟨[119, 97, 116, 99, 104, 101, 100, 46, 105, 109, 112, 111, 114, 116]⟩⟩ 206, .ref 18⟩, ⟨PyData.keyHash P ⟨⟨[99, 108, 97, 115, 115, 46, 95, 102, 114, 111, 122, 101, 110, 95, 105, 109, 112, 111, 114, 116, 108, 105, 98, 46, 77, 111, 100, 117, 108, 101, 83, 112, 101, 99]⟩⟩, .str ⟨⟨[99, 108, 97, 115, 115, 46, 95, 102, 114, 111, 122, 101, 110, 95, 105, 109, 112, 111, 114, 116, 108, 105, 98, 46, 77, 111, 100, 117, 108, 101, 83, 112, 101, 99]⟩⟩ 216, .ref 22⟩, ⟨PyData.keyHash P ⟨⟨[115, 121, 115, 46, 109, 111, 100, 117, 108, 101, 115, 46, 98, 111, 111, 107, 101, 100, 45, 101, 112, 111, 99, 104]⟩⟩, .str ⟨⟨[115, 121, 115, 46, 109, 111, 100, 117, 108, 101, 115, 46, 98, 111, 111, 107, 101, 100, 45, 101, 112, 111, 99, 104]⟩⟩ 245, .int 3 0⟩, ⟨PyData.keyHash P ⟨⟨[105, 109, 112, 111, 114, 116, 46, 108, 97, 116, 101, 114, 45, 108, 97, 105, 100, 46, 95, 115, 114, 101]⟩⟩, .str ⟨⟨[105, 109, 112, 111, 114, 116, 46, 108, 97, 116, 101, 114, 45, 108, 97, 105, 100, 46, 95, 115, 114, 101]⟩⟩ 270, .bool true⟩, ⟨PyData.keyHash P ⟨⟨[119, 97, 116, 99, 104, 101, 100, 46, 108, 105, 98, 114, 97, 114, 121]⟩⟩, .str ⟨⟨[119, 97, 116, 99, 104, 101, 100, 46, 108, 105, 98, 114, 97, 114, 121]⟩⟩ 272, .ref 27⟩, ⟨PyData.keyHash P ⟨⟨[119, 97, 116, 99, 104, 101, 100, 46, 108, 105, 98, 114, 97, 114, 121, 45, 111, 98, 106, 101, 99, 116, 115]⟩⟩, .str ⟨⟨[119, 97, 116, 99, 104, 101, 100, 46, 108, 105, 98, 114, 97, 114, 121, 45, 111, 98, 106, 101, 99, 116, 115]⟩⟩ 0, .str ⟨⟨[12]⟩⟩ 0⟩, ⟨PyData.keyHash P ⟨⟨[119, 97, 116, 99, 104, 101, 100, 46, 108, 105, 98, 114, 97, 114, 121, 45, 100, 101, 101, 112, 46, 95, 115, 114, 101]⟩⟩, .str ⟨⟨[119, 97, 116, 99, 104, 101, 100, 46, 108, 105, 98, 114, 97, 114, 121, 45, 100, 101, 101, 112, 46, 95, 115, 114, 101]⟩⟩ 273, .str ⟨⟨[4, 0, 0, 11, 4, 0, 0, 11, 4, 0, 0, 3, 4, 0, 0, 11, 8, 4, 100, 105, 99, 116, 2]⟩⟩ 0⟩]⟩ 9, ⟨[]⟩⟩
noncomputable def o4 (P : Params) : Obj := ⟨.type "module", (some 0), .plain, ⟨[]⟩⟩
noncomputable def o5 (P : Params) : Obj := ⟨.type "module", (some 3), .plain, ⟨[]⟩⟩
noncomputable def o6 (P : Params) : Obj := ⟨.type "dict", none, .dict ⟨[]⟩ 0, ⟨[]⟩⟩
noncomputable def o7 (P : Params) : Obj := ⟨.type "tuple", none, .seq ⟨[]⟩ 0, ⟨[]⟩⟩
noncomputable def o8 (P : Params) : Obj := ⟨.none, none, .fields ⟨[]⟩, ⟨[]⟩⟩
noncomputable def o9 (P : Params) : Obj := ⟨.type "code", none, .fields ⟨[.str ⟨⟨[60, 109, 111, 100, 117, 108, 101, 62]⟩⟩ 176, .str ⟨⟨[60, 109, 111, 100, 117, 108, 101, 62]⟩⟩ 177, .str ⟨⟨[47, 99, 108, 97, 105, 109, 47, 99, 117, 116, 46, 112, 121]⟩⟩ 178, .int 1 0, .int 0 0, .int 0 0, .int 0 0, .int 0 0, .ref 7, .bool false, .int 175 0, .ref 8, .none, .none, .none, .none, .int 179 0, .int 1 0, .str ⟨⟨[47, 99, 108, 97, 105, 109, 47, 99, 117, 116, 46, 112, 121]⟩⟩ 180]⟩, ⟨[]⟩⟩
noncomputable def o10 (P : Params) : Obj := ⟨.type "frame", none, .plain, ⟨[(some (.ref 9)), (some (.ref 3)), (some (.ref 3)), none, (some (.str ⟨⟨[95, 95, 109, 97, 105, 110, 95, 95]⟩⟩ 164)), none, (some (.ref 0))]⟩⟩
noncomputable def o11 (P : Params) : Obj := ⟨.type "dict", none, .dict ⟨[⟨PyData.keyHash P ⟨⟨[95, 95, 110, 97, 109, 101, 95, 95]⟩⟩, .str ⟨⟨[95, 95, 110, 97, 109, 101, 95, 95]⟩⟩ 247, .str ⟨⟨[95, 115, 114, 101]⟩⟩ 246⟩, ⟨PyData.keyHash P ⟨⟨[95, 95, 100, 111, 99, 95, 95]⟩⟩, .str ⟨⟨[95, 95, 100, 111, 99, 95, 95]⟩⟩ 248, .none⟩, ⟨PyData.keyHash P ⟨⟨[95, 95, 112, 97, 99, 107, 97, 103, 101, 95, 95]⟩⟩, .str ⟨⟨[95, 95, 112, 97, 99, 107, 97, 103, 101, 95, 95]⟩⟩ 250, .str ⟨⟨[]⟩⟩ 249⟩, ⟨PyData.keyHash P ⟨⟨[95, 95, 108, 111, 97, 100, 101, 114, 95, 95]⟩⟩, .str ⟨⟨[95, 95, 108, 111, 97, 100, 101, 114, 95, 95]⟩⟩ 251, .builtin "off-the-table:_sre.__loader__:shared#opaque"⟩, ⟨PyData.keyHash P ⟨⟨[95, 95, 115, 112, 101, 99, 95, 95]⟩⟩, .str ⟨⟨[95, 95, 115, 112, 101, 99, 95, 95]⟩⟩ 252, .builtin "off-the-table:_sre.__spec__:shared#opaque"⟩, ⟨PyData.keyHash P ⟨⟨[99, 111, 109, 112, 105, 108, 101]⟩⟩, .str ⟨⟨[99, 111, 109, 112, 105, 108, 101]⟩⟩ 253, .builtin "_sre.compile"⟩, ⟨PyData.keyHash P ⟨⟨[116, 101, 109, 112, 108, 97, 116, 101]⟩⟩, .str ⟨⟨[116, 101, 109, 112, 108, 97, 116, 101]⟩⟩ 254, .builtin "off-the-table:_sre.template:shared#opaque"⟩, ⟨PyData.keyHash P ⟨⟨[103, 101, 116, 99, 111, 100, 101, 115, 105, 122, 101]⟩⟩, .str ⟨⟨[103, 101, 116, 99, 111, 100, 101, 115, 105, 122, 101]⟩⟩ 255, .builtin "off-the-table:_sre.getcodesize:shared#opaque"⟩, ⟨PyData.keyHash P ⟨⟨[97, 115, 99, 105, 105, 95, 105, 115, 99, 97, 115, 101, 100]⟩⟩, .str ⟨⟨[97, 115, 99, 105, 105, 95, 105, 115, 99, 97, 115, 101, 100]⟩⟩ 256, .builtin "off-the-table:_sre.ascii_iscased:shared#opaque"⟩, ⟨PyData.keyHash P ⟨⟨[117, 110, 105, 99, 111, 100, 101, 95, 105, 115, 99, 97, 115, 101, 100]⟩⟩, .str ⟨⟨[117, 110, 105, 99, 111, 100, 101, 95, 105, 115, 99, 97, 115, 101, 100]⟩⟩ 257, .builtin "off-the-table:_sre.unicode_iscased:shared#opaque"⟩, ⟨PyData.keyHash P ⟨⟨[97, 115, 99, 105, 105, 95, 116, 111, 108, 111, 119, 101, 114]⟩⟩, .str ⟨⟨[97, 115, 99, 105, 105, 95, 116, 111, 108, 111, 119, 101, 114]⟩⟩ 258, .builtin "off-the-table:_sre.ascii_tolower:shared#opaque"⟩, ⟨PyData.keyHash P ⟨⟨[117, 110, 105, 99, 111, 100, 101, 95, 116, 111, 108, 111, 119, 101, 114]⟩⟩, .str ⟨⟨[117, 110, 105, 99, 111, 100, 101, 95, 116, 111, 108, 111, 119, 101, 114]⟩⟩ 259, .builtin "off-the-table:_sre.unicode_tolower:shared#opaque"⟩, ⟨PyData.keyHash P ⟨⟨[77, 65, 71, 73, 67]⟩⟩, .str ⟨⟨[77, 65, 71, 73, 67]⟩⟩ 261, .int 20230612 260⟩, ⟨PyData.keyHash P ⟨⟨[67, 79, 68, 69, 83, 73, 90, 69]⟩⟩, .str ⟨⟨[67, 79, 68, 69, 83, 73, 90, 69]⟩⟩ 263, .int 4 262⟩, ⟨PyData.keyHash P ⟨⟨[77, 65, 88, 82, 69, 80, 69, 65, 84]⟩⟩, .str ⟨⟨[77, 65, 88, 82, 69, 80, 69, 65, 84]⟩⟩ 265, .int 4294967295 264⟩, ⟨PyData.keyHash P ⟨⟨[77, 65, 88, 71, 82, 79, 85, 80, 83]⟩⟩, .str ⟨⟨[77, 65, 88, 71, 82, 79, 85, 80, 83]⟩⟩ 267, .int 1073741823 266⟩, ⟨PyData.keyHash P ⟨⟨[99, 111, 112, 121, 114, 105, 103, 104, 116]⟩⟩, .str ⟨⟨[99, 111, 112, 121, 114, 105, 103, 104, 116]⟩⟩ 269, .str ⟨⟨[32, 83, 82, 69, 32, 50, 46, 50, 46, 50, 32, 67, 111, 112, 121, 114, 105, 103, 104, 116, 32, 40, 99, 41, 32, 49, 57, 57, 55, 45, 50, 48, 48, 50, 32, 98, 121, 32, 83, 101, 99, 114, 101, 116, 32, 76, 97, 98, 115, 32, 65, 66, 32]⟩⟩ 268⟩]⟩ 17, ⟨[]⟩⟩
noncomputable def o12 (P : Params) : Obj := ⟨.type "module", (some 11), .plain, ⟨[]⟩⟩
noncomputable def o13 (P : Params) : Obj := ⟨.type "dict", none, .dict ⟨[⟨PyData.keyHash P ⟨⟨[95, 95, 109, 111, 100, 117, 108, 101, 95, 95]⟩⟩, .str ⟨⟨[95, 95, 109, 111, 100, 117, 108, 101, 95, 95]⟩⟩ 189, .str ⟨⟨[95, 102, 114, 111, 122, 101, 110, 95, 105, 109, 112, 111, 114, 116, 108, 105, 98]⟩⟩ 186⟩, ⟨PyData.keyHash P ⟨⟨[95, 95, 102, 105, 114, 115, 116, 108, 105, 110, 101, 110, 111, 95, 95]⟩⟩, .str ⟨⟨[95, 95, 102, 105, 114, 115, 116, 108, 105, 110, 101, 110, 111, 95, 95]⟩⟩ 190, .int 971 187⟩, ⟨PyData.keyHash P ⟨⟨[95, 95, 100, 111, 99, 95, 95]⟩⟩, .str ⟨⟨[95, 95, 100, 111, 99, 95, 95]⟩⟩ 191, .builtin "_frozen_importlib.BuiltinImporter.__doc__:str#opaque"⟩, ⟨PyData.keyHash P ⟨⟨[95, 79, 82, 73, 71, 73, 78]⟩⟩, .str ⟨⟨[95, 79, 82, 73, 71, 73, 78]⟩⟩ 192, .str ⟨⟨[98, 117, 105, 108, 116, 45, 105, 110]⟩⟩ 188⟩, ⟨PyData.keyHash P ⟨⟨[102, 105, 110, 100, 95, 115, 112, 101, 99]⟩⟩, .str ⟨⟨[102, 105, 110, 100, 95, 115, 112, 101, 99]⟩⟩ 193, .builtin "_frozen_importlib.BuiltinImporter.find_spec#opaque"⟩, ⟨PyData.keyHash P ⟨⟨[99, 114, 101, 97, 116, 101, 95, 109, 111, 100, 117, 108, 101]⟩⟩, .str ⟨⟨[99, 114, 101, 97, 116, 101, 95, 109, 111, 100, 117, 108, 101]⟩⟩ 194, .builtin "_frozen_importlib.BuiltinImporter.create_module#opaque"⟩, ⟨PyData.keyHash P ⟨⟨[101, 120, 101, 99, 95, 109, 111, 100, 117, 108, 101]⟩⟩, .str ⟨⟨[101, 120, 101, 99, 95, 109, 111, 100, 117, 108, 101]⟩⟩ 195, .builtin "_frozen_importlib.BuiltinImporter.exec_module#opaque"⟩, ⟨PyData.keyHash P ⟨⟨[103, 101, 116, 95, 99, 111, 100, 101]⟩⟩, .str ⟨⟨[103, 101, 116, 95, 99, 111, 100, 101]⟩⟩ 196, .builtin "_frozen_importlib.BuiltinImporter.get_code#opaque"⟩, ⟨PyData.keyHash P ⟨⟨[103, 101, 116, 95, 115, 111, 117, 114, 99, 101]⟩⟩, .str ⟨⟨[103, 101, 116, 95, 115, 111, 117, 114, 99, 101]⟩⟩ 197, .builtin "_frozen_importlib.BuiltinImporter.get_source#opaque"⟩, ⟨PyData.keyHash P ⟨⟨[105, 115, 95, 112, 97, 99, 107, 97, 103, 101]⟩⟩, .str ⟨⟨[105, 115, 95, 112, 97, 99, 107, 97, 103, 101]⟩⟩ 198, .builtin "_frozen_importlib.BuiltinImporter.is_package#opaque"⟩, ⟨PyData.keyHash P ⟨⟨[108, 111, 97, 100, 95, 109, 111, 100, 117, 108, 101]⟩⟩, .str ⟨⟨[108, 111, 97, 100, 95, 109, 111, 100, 117, 108, 101]⟩⟩ 199, .builtin "_frozen_importlib.BuiltinImporter.load_module#opaque"⟩, ⟨PyData.keyHash P ⟨⟨[95, 95, 115, 116, 97, 116, 105, 99, 95, 97, 116, 116, 114, 105, 98, 117, 116, 101, 115, 95, 95]⟩⟩, .str ⟨⟨[95, 95, 115, 116, 97, 116, 105, 99, 95, 97, 116, 116, 114, 105, 98, 117, 116, 101, 115, 95, 95]⟩⟩ 200, .ref 15⟩, ⟨PyData.keyHash P ⟨⟨[95, 95, 100, 105, 99, 116, 95, 95]⟩⟩, .str ⟨⟨[95, 95, 100, 105, 99, 116, 95, 95]⟩⟩ 202, .ref 16⟩, ⟨PyData.keyHash P ⟨⟨[95, 95, 119, 101, 97, 107, 114, 101, 102, 95, 95]⟩⟩, .str ⟨⟨[95, 95, 119, 101, 97, 107, 114, 101, 102, 95, 95]⟩⟩ 204, .ref 17⟩]⟩ 14, ⟨[]⟩⟩
noncomputable def o14 (P : Params) : Obj := ⟨.type "type", none, .cls ⟨⟨⟨[66, 117, 105, 108, 116, 105, 110, 73, 109, 112, 111, 114, 116, 101, 114]⟩⟩, [.type "object"], [.ref 14, .type "object"], 13, ⟨⟨[66, 117, 105, 108, 116, 105, 110, 73, 109, 112, 111, 114, 116, 101, 114]⟩⟩, true, [], [], false, none, false⟩, ⟨[]⟩⟩
noncomputable def o15 (P : Params) : Obj := ⟨.type "tuple", none, .seq ⟨[]⟩ 0, ⟨[]⟩⟩
noncomputable def o16 (P : Params) : Obj := ⟨.type "getset_descriptor", none, .fields ⟨[.str ⟨⟨[95, 95, 100, 105, 99, 116, 95, 95]⟩⟩ 201, .ref 14, .builtin "function.__dict__", .builtin "function.__dict__#set"]⟩, ⟨[]⟩⟩
noncomputable def o17 (P : Params) : Obj := ⟨.type "getset_descriptor", none, .fields ⟨[.str ⟨⟨[95, 95, 119, 101, 97, 107, 114, 101, 102, 95, 95]⟩⟩ 203, .ref 14, .builtin "ExceptionGroup.__weakref__", .none]⟩, ⟨[]⟩⟩
noncomputable def o18 (P : Params) : Obj := ⟨.none, none, .seq ⟨[.int 13 0, .str ⟨⟨[6, 189, 10, 95, 95, 109, 111, 100, 117, 108, 101, 95, 95, 6, 186, 17, 95, 102, 114, 111, 122, 101, 110, 95, 105, 109, 112, 111, 114, 116, 108, 105, 98, 6, 190, 15, 95, 95, 102, 105, 114, 115, 116, 108, 105, 110, 101, 110, 111, 95, 95, 4, 187, 0, 971, 6, 191, 7, 95, 95, 100, 111, 99, 95, 95, 9, 52, 95, 102, 114, 111, 122, 101, 110, 95, 105, 109, 112, 111, 114, 116, 108, 105, 98, 46, 66, 117, 105, 108, 116, 105, 110, 73, 109, 112, 111, 114, 116, 101, 114, 46, 95, 95, 100, 111, 99, 95, 95, 58, 115, 116, 114, 35, 111, 112, 97, 113, 117, 101, 6, 192, 7, 95, 79, 82, 73, 71, 73, 78, 6, 188, 8, 98, 117, 105, 108, 116, 45, 105, 110, 6, 193, 9, 102, 105, 110, 100, 95, 115, 112, 101, 99, 9, 50, 95, 102, 114, 111, 122, 101, 110, 95, 105, 109, 112, 111, 114, 116, 108, 105, 98, 46, 66, 117, 105, 108, 116, 105, 110, 73, 109, 112, 111, 114, 116, 101, 114, 46, 102, 105, 110, 100, 95, 115, 112, 101, 99, 35, 111, 112, 97, 113, 117, 101, 6, 194, 13, 99, 114, 101, 97, 116, 101, 95, 109, 111, 100, 117, 108, 101, 9, 54, 95, 102, 114, 111, 122, 101, 110, 95, 105, 109, 112, 111, 114, 116, 108, 105, 98, 46, 66, 117, 105, 108, 116, 105, 110, 73, 109, 112, 111, 114, 116, 101, 114, 46, 99, 114, 101, 97, 116, 101, 95, 109, 111, 100, 117, 108, 101, 35, 111, 112, 97, 113, 117, 101, 6, 195, 11, 101, 120, 101, 99, 95, 109, 111, 100, 117, 108, 101, 9, 52, 95, 102, 114, 111, 122, 101, 110, 95, 105, 109, 112, 111, 114, 116, 108, 105, 98, 46, 66, 117, 105, 108, 116, 105, 110, 73, 109, 112, 111, 114, 116, 101, 114, 46, 101, 120, 101, 99, 95, 109, 111, 100, 117, 108, 101, 35, 111, 112, 97, 113, 117, 101, 6, 196, 8, 103, 101, 116, 95, 99, 111, 100, 101, 9, 49, 95, 102, 114, 111, 122, 101, 110, 95, 105, 109, 112, 111, 114, 116, 108, 105, 98, 46, 66, 117, 105, 108, 116, 105, 110, 73, 109, 112, 111, 114, 116, 101, 114, 46, 103, 101, 116, 95, 99, 111, 100, 101, 35, 111, 112, 97, 113, 117, 101, 6, 197, 10, 103, 101, 116, 95, 115, 111, 117, 114, 99, 101, 9, 51, 95, 102, 114, 111, 122, 101, 110, 95, 105, 109, 112, 111, 114, 116, 108, 105, 98, 46, 66, 117, 105, 108, 116, 105, 110, 73, 109, 112, 111, 114, 116, 101, 114, 46, 103, 101, 116, 95, 115, 111, 117, 114, 99, 101, 35, 111, 112, 97, 113, 117, 101, 6, 198, 10, 105, 115, 95, 112, 97, 99, 107, 97, 103, 101, 9, 51, 95, 102, 114, 111, 122, 101, 110, 95, 105, 109, 112, 111, 114, 116, 108, 105, 98, 46, 66, 117, 105, 108, 116, 105, 110, 73, 109, 112, 111, 114, 116, 101, 114, 46, 105, 115, 95, 112, 97, 99, 107, 97, 103, 101, 35, 111, 112, 97, 113, 117, 101, 6, 199, 11, 108, 111, 97, 100, 95, 109, 111, 100, 117, 108, 101, 9, 52, 95, 102, 114, 111, 122, 101, 110, 95, 105, 109, 112, 111, 114, 116, 108, 105, 98, 46, 66, 117, 105, 108, 116, 105, 110, 73, 109, 112, 111, 114, 116, 101, 114, 46, 108, 111, 97, 100, 95, 109, 111, 100, 117, 108, 101, 35, 111, 112, 97, 113, 117, 101, 6, 200, 21, 95, 95, 115, 116, 97, 116, 105, 99, 95, 97, 116, 116, 114, 105, 98, 117, 116, 101, 115, 95, 95, 4, 0, 0, 15, 6, 202, 8, 95, 95, 100, 105, 99, 116, 95, 95, 4, 0, 0, 16, 6, 204, 11, 95, 95, 119, 101, 97, 107, 114, 101, 102, 95, 95, 4, 0, 0, 17]⟩⟩ 0, .bool true, .bool true, .str ⟨⟨[]⟩⟩ 205, .int 21 0, .str ⟨⟨[6, 227, 10, 95, 95, 109, 111, 100, 117, 108, 101, 95, 95, 6, 217, 17, 95, 102, 114, 111, 122, 101, 110, 95, 105, 109, 112, 111, 114, 116, 108, 105, 98, 6, 228, 15, 95, 95, 102, 105, 114, 115, 116, 108, 105, 110, 101, 110, 111, 95, 95, 4, 218, 0, 562, 6, 229, 7, 95, 95, 100, 111, 99, 95, 95, 9, 47, 95, 102, 114, 111, 122, 101, 110, 95, 105, 109, 112, 111, 114, 116, 108, 105, 98, 46, 77, 111, 100, 117, 108, 101, 83, 112, 101, 99, 46, 95, 95, 100, 111, 99, 95, 95, 58, 115, 116, 114, 35, 111, 112, 97, 113, 117, 101, 6, 230, 8, 95, 95, 105, 110, 105, 116, 95, 95, 9, 44, 95, 102, 114, 111, 122, 101, 110, 95, 105, 109, 112, 111, 114, 116, 108, 105, 98, 46, 77, 111, 100, 117, 108, 101, 83, 112, 101, 99, 46, 95, 95, 105, 110, 105, 116, 95, 95, 35, 111, 112, 97, 113, 117, 101, 6, 231, 8, 95, 95, 114, 101, 112, 114, 95, 95, 9, 44, 95, 102, 114, 111, 122, 101, 110, 95, 105, 109, 112, 111, 114, 116, 108, 105, 98, 46, 77, 111, 100, 117, 108, 101, 83, 112, 101, 99, 46, 95, 95, 114, 101, 112, 114, 95, 95, 35, 111, 112, 97, 113, 117, 101, 6, 232, 6, 95, 95, 101, 113, 95, 95, 9, 42, 95, 102, 114, 111, 122, 101, 110, 95, 105, 109, 112, 111, 114, 116, 108, 105, 98, 46, 77, 111, 100, 117, 108, 101, 83, 112, 101, 99, 46, 95, 95, 101, 113, 95, 95, 35, 111, 112, 97, 113, 117, 101, 6, 233, 6, 99, 97, 99, 104, 101, 100, 9, 42, 95, 102, 114, 111, 122, 101, 110, 95, 105, 109, 112, 111, 114, 116, 108, 105, 98, 46, 77, 111, 100, 117, 108, 101, 83, 112, 101, 99, 46, 99, 97, 99, 104, 101, 100, 35, 111, 112, 97, 113, 117, 101, 6, 234, 6, 112, 97, 114, 101, 110, 116, 9, 42, 95, 102, 114, 111, 122, 101, 110, 95, 105, 109, 112, 111, 114, 116, 108, 105, 98, 46, 77, 111, 100, 117, 108, 101, 83, 112, 101, 99, 46, 112, 97, 114, 101, 110, 116, 35, 111, 112, 97, 113, 117, 101, 6, 235, 12, 104, 97, 115, 95, 108, 111, 99, 97, 116, 105, 111, 110, 9, 48, 95, 102, 114, 111, 122, 101, 110, 95, 105, 109, 112, 111, 114, 116, 108, 105, 98, 46, 77, 111, 100, 117, 108, 101, 83, 112, 101, 99, 46, 104, 97, 115, 95, 108, 111, 99, 97, 116, 105, 111, 110, 35, 111, 112, 97, 113, 117, 101, 6, 236, 21, 95, 95, 115, 116, 97, 116, 105, 99, 95, 97, 116, 116, 114, 105, 98, 117, 116, 101, 115, 95, 95, 4, 0, 0, 23, 6, 238, 8, 95, 95, 100, 105, 99, 116, 95, 95, 4, 0, 0, 24, 6, 240, 11, 95, 95, 119, 101, 97, 107, 114, 101, 102, 95, 95, 4, 0, 0, 25, 6, 241, 8, 95, 95, 104, 97, 115, 104, 95, 95, 0]⟩⟩ 0, .bool true, .bool true, .str ⟨⟨[]⟩⟩ 242]⟩ 1, ⟨[]⟩⟩
noncomputable def o19 (P : Params) : Obj := ⟨.type "list", none, .seq ⟨[]⟩ 0, ⟨[]⟩⟩
noncomputable def o20 (P : Params) : Obj := ⟨.type "dict", none, .dict ⟨[⟨PyData.keyHash P ⟨⟨[110, 97, 109, 101]⟩⟩, .str ⟨⟨[110, 97, 109, 101]⟩⟩ 208, .str ⟨⟨[95, 115, 114, 101]⟩⟩ 207⟩, ⟨PyData.keyHash P ⟨⟨[108, 111, 97, 100, 101, 114]⟩⟩, .str ⟨⟨[108, 111, 97, 100, 101, 114]⟩⟩ 209, .ref 14⟩, ⟨PyData.keyHash P ⟨⟨[111, 114, 105, 103, 105, 110]⟩⟩, .str ⟨⟨[111, 114, 105, 103, 105, 110]⟩⟩ 210, .str ⟨⟨[98, 117, 105, 108, 116, 45, 105, 110]⟩⟩ 184⟩, ⟨PyData.keyHash P ⟨⟨[108, 111, 97, 100, 101, 114, 95, 115, 116, 97, 116, 101]⟩⟩, .str ⟨⟨[108, 111, 97, 100, 101, 114, 95, 115, 116, 97, 116, 101]⟩⟩ 211, .none⟩, ⟨PyData.keyHash P ⟨⟨[115, 117, 98, 109, 111, 100, 117, 108, 101, 95, 115, 101, 97, 114, 99, 104, 95, 108, 111, 99, 97, 116, 105, 111, 110, 115]⟩⟩, .str ⟨⟨[115, 117, 98, 109, 111, 100, 117, 108, 101, 95, 115, 101, 97, 114, 99, 104, 95, 108, 111, 99, 97, 116, 105, 111, 110, 115]⟩⟩ 212, .none⟩, ⟨PyData.keyHash P ⟨⟨[95, 117, 110, 105, 110, 105, 116, 105, 97, 108, 105, 122, 101, 100, 95, 115, 117, 98, 109, 111, 100, 117, 108, 101, 115]⟩⟩, .str ⟨⟨[95, 117, 110, 105, 110, 105, 116, 105, 97, 108, 105, 122, 101, 100, 95, 115, 117, 98, 109, 111, 100, 117, 108, 101, 115]⟩⟩ 213, .ref 19⟩, ⟨PyData.keyHash P ⟨⟨[95, 115, 101, 116, 95, 102, 105, 108, 101, 97, 116, 116, 114]⟩⟩, .str ⟨⟨[95, 115, 101, 116, 95, 102, 105, 108, 101, 97, 116, 116, 114]⟩⟩ 214, .bool false⟩, ⟨PyData.keyHash P ⟨⟨[95, 99, 97, 99, 104, 101, 100]⟩⟩, .str ⟨⟨[95, 99, 97, 99, 104, 101, 100]⟩⟩ 215, .none⟩, ⟨PyData.keyHash P ⟨⟨[95, 105, 110, 105, 116, 105, 97, 108, 105, 122, 105, 110, 103]⟩⟩, .str ⟨⟨[95, 105, 110, 105, 116, 105, 97, 108, 105, 122, 105, 110, 103]⟩⟩ 243, .bool false⟩]⟩ 9, ⟨[]⟩⟩
noncomputable def o21 (P : Params) : Obj := ⟨.type "dict", none, .dict ⟨[⟨PyData.keyHash P ⟨⟨[95, 95, 109, 111, 100, 117, 108, 101, 95, 95]⟩⟩, .str ⟨⟨[95, 95, 109, 111, 100, 117, 108, 101, 95, 95]⟩⟩ 227, .str ⟨⟨[95, 102, 114, 111, 122, 101, 110, 95, 105, 109, 112, 111, 114, 116, 108, 105, 98]⟩⟩ 217⟩, ⟨PyData.keyHash P ⟨⟨[95, 95, 102, 105, 114, 115, 116, 108, 105, 110, 101, 110, 111, 95, 95]⟩⟩, .str ⟨⟨[95, 95, 102, 105, 114, 115, 116, 108, 105, 110, 101, 110, 111, 95, 95]⟩⟩ 228, .int 562 218⟩, ⟨PyData.keyHash P ⟨⟨[95, 95, 100, 111, 99, 95, 95]⟩⟩, .str ⟨⟨[95, 95, 100, 111, 99, 95, 95]⟩⟩ 229, .builtin "_frozen_importlib.ModuleSpec.__doc__:str#opaque"⟩, ⟨PyData.keyHash P ⟨⟨[95, 95, 105, 110, 105, 116, 95, 95]⟩⟩, .str ⟨⟨[95, 95, 105, 110, 105, 116, 95, 95]⟩⟩ 230, .builtin "_frozen_importlib.ModuleSpec.__init__#opaque"⟩, ⟨PyData.keyHash P ⟨⟨[95, 95, 114, 101, 112, 114, 95, 95]⟩⟩, .str ⟨⟨[95, 95, 114, 101, 112, 114, 95, 95]⟩⟩ 231, .builtin "_frozen_importlib.ModuleSpec.__repr__#opaque"⟩, ⟨PyData.keyHash P ⟨⟨[95, 95, 101, 113, 95, 95]⟩⟩, .str ⟨⟨[95, 95, 101, 113, 95, 95]⟩⟩ 232, .builtin "_frozen_importlib.ModuleSpec.__eq__#opaque"⟩, ⟨PyData.keyHash P ⟨⟨[99, 97, 99, 104, 101, 100]⟩⟩, .str ⟨⟨[99, 97, 99, 104, 101, 100]⟩⟩ 233, .builtin "_frozen_importlib.ModuleSpec.cached#opaque"⟩, ⟨PyData.keyHash P ⟨⟨[112, 97, 114, 101, 110, 116]⟩⟩, .str ⟨⟨[112, 97, 114, 101, 110, 116]⟩⟩ 234, .builtin "_frozen_importlib.ModuleSpec.parent#opaque"⟩, ⟨PyData.keyHash P ⟨⟨[104, 97, 115, 95, 108, 111, 99, 97, 116, 105, 111, 110]⟩⟩, .str ⟨⟨[104, 97, 115, 95, 108, 111, 99, 97, 116, 105, 111, 110]⟩⟩ 235, .builtin "_frozen_importlib.ModuleSpec.has_location#opaque"⟩, ⟨PyData.keyHash P ⟨⟨[95, 95, 115, 116, 97, 116, 105, 99, 95, 97, 116, 116, 114, 105, 98, 117, 116, 101, 115, 95, 95]⟩⟩, .str ⟨⟨[95, 95, 115, 116, 97, 116, 105, 99, 95, 97, 116, 116, 114, 105, 98, 117, 116, 101, 115, 95, 95]⟩⟩ 236, .ref 23⟩, ⟨PyData.keyHash P ⟨⟨[95, 95, 100, 105, 99, 116, 95, 95]⟩⟩, .str ⟨⟨[95, 95, 100, 105, 99, 116, 95, 95]⟩⟩ 238, .ref 24⟩, ⟨PyData.keyHash P ⟨⟨[95, 95, 119, 101, 97, 107, 114, 101, 102, 95, 95]⟩⟩, .str ⟨⟨[95, 95, 119, 101, 97, 107, 114, 101, 102, 95, 95]⟩⟩ 240, .ref 25⟩, ⟨PyData.keyHash P ⟨⟨[95, 95, 104, 97, 115, 104, 95, 95]⟩⟩, .str ⟨⟨[95, 95, 104, 97, 115, 104, 95, 95]⟩⟩ 241, .none⟩]⟩ 13, ⟨[]⟩⟩
noncomputable def o22 (P : Params) : Obj := ⟨.type "type", none, .cls ⟨⟨⟨[77, 111, 100, 117, 108, 101, 83, 112, 101, 99]⟩⟩, [.type "object"], [.ref 22, .type "object"], 21, ⟨⟨[77, 111, 100, 117, 108, 101, 83, 112, 101, 99]⟩⟩, true, [], [], false, none, false⟩, ⟨[]⟩⟩
noncomputable def o23 (P : Params) : Obj := ⟨.type "tuple", none, .seq ⟨[.str ⟨⟨[95, 99, 97, 99, 104, 101, 100]⟩⟩ 219, .str ⟨⟨[95, 115, 101, 116, 95, 102, 105, 108, 101, 97, 116, 116, 114]⟩⟩ 220, .str ⟨⟨[95, 117, 110, 105, 110, 105, 116, 105, 97, 108, 105, 122, 101, 100, 95, 115, 117, 98, 109, 111, 100, 117, 108, 101, 115]⟩⟩ 221, .str ⟨⟨[108, 111, 97, 100, 101, 114]⟩⟩ 222, .str ⟨⟨[108, 111, 97, 100, 101, 114, 95, 115, 116, 97, 116, 101]⟩⟩ 223, .str ⟨⟨[110, 97, 109, 101]⟩⟩ 224, .str ⟨⟨[111, 114, 105, 103, 105, 110]⟩⟩ 225, .str ⟨⟨[115, 117, 98, 109, 111, 100, 117, 108, 101, 95, 115, 101, 97, 114, 99, 104, 95, 108, 111, 99, 97, 116, 105, 111, 110, 115]⟩⟩ 226]⟩ 0, ⟨[]⟩⟩
noncomputable def o24 (P : Params) : Obj := ⟨.type "getset_descriptor", none, .fields ⟨[.str ⟨⟨[95, 95, 100, 105, 99, 116, 95, 95]⟩⟩ 237, .ref 22, .builtin "function.__dict__", .builtin "function.__dict__#set"]⟩, ⟨[]⟩⟩
noncomputable def o25 (P : Params) : Obj := ⟨.type "getset_descriptor", none, .fields ⟨[.str ⟨⟨[95, 95, 119, 101, 97, 107, 114, 101, 102, 95, 95]⟩⟩ 239, .ref 22, .builtin "ExceptionGroup.__weakref__", .none]⟩, ⟨[]⟩⟩
noncomputable def o26 (P : Params) : Obj := ⟨.ref 22, (some 20), .plain, ⟨[]⟩⟩
noncomputable def o27 (P : Params) : Obj := ⟨.none, none, .seq ⟨[.int 11 0, .str ⟨⟨[6, 247, 8, 95, 95, 110, 97, 109, 101, 95, 95, 6, 246, 4, 95, 115, 114, 101, 6, 248, 7, 95, 95, 100, 111, 99, 95, 95, 0, 6, 250, 11, 95, 95, 112, 97, 99, 107, 97, 103, 101, 95, 95, 6, 249, 0, 6, 251, 10, 95, 95, 108, 111, 97, 100, 101, 114, 95, 95, 4, 0, 0, 14, 6, 252, 8, 95, 95, 115, 112, 101, 99, 95, 95, 4, 0, 0, 26, 6, 253, 7, 99, 111, 109, 112, 105, 108, 101, 9, 12, 95, 115, 114, 101, 46, 99, 111, 109, 112, 105, 108, 101, 6, 254, 8, 116, 101, 109, 112, 108, 97, 116, 101, 9, 13, 95, 115, 114, 101, 46, 116, 101, 109, 112, 108, 97, 116, 101, 6, 255, 11, 103, 101, 116, 99, 111, 100, 101, 115, 105, 122, 101, 9, 16, 95, 115, 114, 101, 46, 103, 101, 116, 99, 111, 100, 101, 115, 105, 122, 101, 6, 256, 13, 97, 115, 99, 105, 105, 95, 105, 115, 99, 97, 115, 101, 100, 9, 18, 95, 115, 114, 101, 46, 97, 115, 99, 105, 105, 95, 105, 115, 99, 97, 115, 101, 100, 6, 257, 15, 117, 110, 105, 99, 111, 100, 101, 95, 105, 115, 99, 97, 115, 101, 100, 9, 20, 95, 115, 114, 101, 46, 117, 110, 105, 99, 111, 100, 101, 95, 105, 115, 99, 97, 115, 101, 100, 6, 258, 13, 97, 115, 99, 105, 105, 95, 116, 111, 108, 111, 119, 101, 114, 9, 18, 95, 115, 114, 101, 46, 97, 115, 99, 105, 105, 95, 116, 111, 108, 111, 119, 101, 114, 6, 259, 15, 117, 110, 105, 99, 111, 100, 101, 95, 116, 111, 108, 111, 119, 101, 114, 9, 20, 95, 115, 114, 101, 46, 117, 110, 105, 99, 111, 100, 101, 95, 116, 111, 108, 111, 119, 101, 114, 6, 261, 5, 77, 65, 71, 73, 67, 4, 260, 0, 20230612, 6, 263, 8, 67, 79, 68, 69, 83, 73, 90, 69, 4, 262, 0, 4, 6, 265, 9, 77, 65, 88, 82, 69, 80, 69, 65, 84, 4, 264, 0, 4294967295, 6, 267, 9, 77, 65, 88, 71, 82, 79, 85, 80, 83, 4, 266, 0, 1073741823, 6, 269, 9, 99, 111, 112, 121, 114, 105, 103, 104, 116, 6, 268, 53, 32, 83, 82, 69, 32, 50, 46, 50, 46, 50, 32, 67, 111, 112, 121, 114, 105, 103, 104, 116, 32, 40, 99, 41, 32, 49, 57, 57, 55, 45, 50, 48, 48, 50, 32, 98, 121, 32, 83, 101, 99, 114, 101, 116, 32, 76, 97, 98, 115, 32, 65, 66, 32]⟩⟩ 0, .bool true, .bool false, .str ⟨⟨[95, 115, 114, 101]⟩⟩ 271]⟩ 0, ⟨[]⟩⟩
noncomputable def o28 (P : Params) : Obj := ⟨.type "tuple", none, .seq ⟨[]⟩ 0, ⟨[]⟩⟩
noncomputable def o30 (P : Params) : Obj := ⟨.type "code", none, .fields ⟨[.str ⟨⟨[60, 109, 111, 100, 117, 108, 101, 62]⟩⟩ 277, .str ⟨⟨[60, 109, 111, 100, 117, 108, 101, 62]⟩⟩ 278, .str ⟨⟨[47, 99, 108, 97, 105, 109, 47, 99, 117, 116, 46, 112, 121]⟩⟩ 279, .int 1 0, .int 0 0, .int 0 0, .int 0 0, .int 0 0, .ref 28, .bool false, .int 276 0, .ref 29, .none, .none, .none, .none, .int 280 0, .int 1 0, .str ⟨⟨[47, 99, 108, 97, 105, 109, 47, 99, 117, 116, 46, 112, 121]⟩⟩ 281]⟩, ⟨[]⟩⟩
noncomputable def o31 (P : Params) : Obj := ⟨.type "frame", none, .plain, ⟨[(some (.ref 30)), (some (.ref 3)), (some (.ref 3)), none, (some (.str ⟨⟨[95, 95, 109, 97, 105, 110, 95, 95]⟩⟩ 164)), none, (some (.ref 0))]⟩⟩
noncomputable def o32 (P : Params) : Obj := ⟨.type "tuple", none, .seq ⟨[]⟩ 0, ⟨[]⟩⟩
noncomputable def o33 (P : Params) : Obj := ⟨.none, none, .fields ⟨[]⟩, ⟨[]⟩⟩
noncomputable def o34 (P : Params) : Obj := ⟨.type "tuple", none, .seq ⟨[.str ⟨⟨[103, 114, 111, 117, 112, 105, 110, 103]⟩⟩ 289, .str ⟨⟨[108, 97, 115, 116, 95, 105, 110, 116, 101, 114, 118, 97, 108]⟩⟩ 290, .str ⟨⟨[105, 110, 116, 101, 114, 118, 97, 108]⟩⟩ 291]⟩ 0, ⟨[]⟩⟩
noncomputable def o35 (P : Params) : Obj := ⟨.type "tuple", none, .seq ⟨[]⟩ 0, ⟨[]⟩⟩
noncomputable def o36 (P : Params) : Obj := ⟨.none, none, (fD 3 0 (.none) (.none) 0), ⟨[]⟩⟩
noncomputable def o37 (P : Params) : Obj := ⟨.type "code", none, .fields ⟨[.str ⟨⟨[95, 103, 114, 111, 117, 112, 105, 110, 103, 95, 105, 110, 116, 101, 114, 118, 97, 108, 115]⟩⟩ 286, .str ⟨⟨[95, 103, 114, 111, 117, 112, 105, 110, 103, 95, 105, 110, 116, 101, 114, 118, 97, 108, 115]⟩⟩ 287, .str ⟨⟨[47, 99, 108, 97, 105, 109, 47, 99, 117, 116, 46, 112, 121]⟩⟩ 288, .int 4 0, .int 1 0, .int 0 0, .int 0 0, .int 35 0, .ref 32, .bool true, .int 276 0, .ref 33, .none, .ref 34, .ref 35, .ref 36, .int 292 0, .int 4 0, .str ⟨⟨[47, 99, 108, 97, 105, 109, 47, 99, 117, 116, 46, 112, 121]⟩⟩ 293]⟩, ⟨[]⟩⟩
noncomputable def o38 (P : Params) : Obj := ⟨.type "function", none, (fD 3 3 (.str ⟨⟨[99, 112, 121, 51, 49, 51, 46, 108, 111, 99, 97, 108, 101]⟩⟩ 282) (.ref 37) 0), ⟨[]⟩⟩
noncomputable def o39 (P : Params) : Obj := ⟨.type "tuple", none, .seq ⟨[]⟩ 0, ⟨[]⟩⟩
noncomputable def o40 (P : Params) : Obj := ⟨.none, none, .fields ⟨[]⟩, ⟨[]⟩⟩
noncomputable def o41 (P : Params) : Obj := ⟨.type "tuple", none, .seq ⟨[.str ⟨⟨[115]⟩⟩ 298, .str ⟨⟨[97, 109, 111, 117, 110, 116]⟩⟩ 299, .str ⟨⟨[108, 112, 111, 115]⟩⟩ 300, .str ⟨⟨[114, 112, 111, 115]⟩⟩ 301]⟩ 0, ⟨[]⟩⟩
noncomputable def o42 (P : Params) : Obj := ⟨.type "tuple", none, .seq ⟨[]⟩ 0, ⟨[]⟩⟩
noncomputable def o43 (P : Params) : Obj := ⟨.none, none, (fD 4 0 (.none) (.none) 0), ⟨[]⟩⟩
noncomputable def o44 (P : Params) : Obj := ⟨.type "code", none, .fields ⟨[.str ⟨⟨[95, 115, 116, 114, 105, 112, 95, 112, 97, 100, 100, 105, 110, 103]⟩⟩ 295, .str ⟨⟨[95, 115, 116, 114, 105, 112, 95, 112, 97, 100, 100, 105, 110, 103]⟩⟩ 296, .str ⟨⟨[47, 99, 108, 97, 105, 109, 47, 99, 117, 116, 46, 112, 121]⟩⟩ 297, .int 16 0, .int 2 0, .int 0 0, .int 0 0, .int 3 0, .ref 39, .bool true, .int 276 0, .ref 40, .none, .ref 41, .ref 42, .ref 43, .int 302 0, .int 16 0, .str ⟨⟨[47, 99, 108, 97, 105, 109, 47, 99, 117, 116, 46, 112, 121]⟩⟩ 303]⟩, ⟨[]⟩⟩
noncomputable def o45 (P : Params) : Obj := ⟨.type "function", none, (fD 4 3 (.str ⟨⟨[99, 112, 121, 51, 49, 51, 46, 108, 111, 99, 97, 108, 101]⟩⟩ 282) (.ref 44) 0), ⟨[]⟩⟩
noncomputable def o46 (P : Params) : Obj := ⟨.type "tuple", none, .seq ⟨[]⟩ 0, ⟨[]⟩⟩
noncomputable def o47 (P : Params) : Obj := ⟨.none, none, .fields ⟨[]⟩, ⟨[]⟩⟩
noncomputable def o48 (P : Params) : Obj := ⟨.type "tuple", none, .seq ⟨[.str ⟨⟨[97]⟩⟩ 310, .str ⟨⟨[98]⟩⟩ 311]⟩ 0, ⟨[]⟩⟩
noncomputable def o49 (P : Params) : Obj := ⟨.type "tuple", none, .seq ⟨[]⟩ 0, ⟨[]⟩⟩
noncomputable def o50 (P : Params) : Obj := ⟨.none, none, (fD 6 0 (.none) (.none) 0), ⟨[]⟩⟩
noncomputable def o51 (P : Params) : Obj := ⟨.type "code", none, .fields ⟨[.str ⟨⟨[102, 108, 111, 111, 114, 100, 105, 118]⟩⟩ 307, .str ⟨⟨[102, 108, 111, 111, 114, 100, 105, 118]⟩⟩ 308, .str ⟨⟨[47, 99, 108, 97, 105, 109, 47, 99, 117, 116, 46, 112, 121]⟩⟩ 309, .int 27 0, .int 2 0, .int 0 0, .int 0 0, .int 3 0, .ref 46, .bool true, .int 276 0, .ref 47, .none, .ref 48, .ref 49, .ref 50, .int 312 0, .int 27 0, .str ⟨⟨[47, 99, 108, 97, 105, 109, 47, 99, 117, 116, 46, 112, 121]⟩⟩ 313]⟩, ⟨[]⟩⟩
noncomputable def o52 (P : Params) : Obj := ⟨.type "function", none, (fD 6 3 (.str ⟨⟨[99, 112, 121, 51, 49, 51, 46, 111, 112, 101, 114, 97, 116, 111, 114]⟩⟩ 305) (.ref 51) 0), ⟨[]⟩⟩
noncomputable def o53 (P : Params) : Obj := ⟨.type "tuple", none, .seq ⟨[]⟩ 0, ⟨[]⟩⟩
noncomputable def o54 (P : Params) : Obj := ⟨.none, none, .fields ⟨[]⟩, ⟨[]⟩⟩
noncomputable def o55 (P : Params) : Obj := ⟨.type "tuple", none, .seq ⟨[.str ⟨⟨[97]⟩⟩ 318, .str ⟨⟨[98]⟩⟩ 319]⟩ 0, ⟨[]⟩⟩
noncomputable def o56 (P : Params) : Obj := ⟨.type "tuple", none, .seq ⟨[]⟩ 0, ⟨[]⟩⟩
noncomputable def o57 (P : Params) : Obj := ⟨.none, none, (fD 7 0 (.none) (.none) 0), ⟨[]⟩⟩
noncomputable def o58 (P : Params) : Obj := ⟨.type "code", none, .fields ⟨[.str ⟨⟨[109, 111, 100]⟩⟩ 315, .str ⟨⟨[109, 111, 100]⟩⟩ 316, .str ⟨⟨[47, 99, 108, 97, 105, 109, 47, 99, 117, 116, 46, 112, 121]⟩⟩ 317, .int 29 0, .int 2 0, .int 0 0, .int 0 0, .int 3 0, .ref 53, .bool true, .int 276 0, .ref 54, .none, .ref 55, .ref 56, .ref 57, .int 320 0, .int 29 0, .str ⟨⟨[47, 99, 108, 97, 105, 109, 47, 99, 117, 116, 46, 112, 121]⟩⟩ 321]⟩, ⟨[]⟩⟩
noncomputable def o59 (P : Params) : Obj := ⟨.type "function", none, (fD 7 3 (.str ⟨⟨[99, 112, 121, 51, 49, 51, 46, 111, 112, 101, 114, 97, 116, 111, 114]⟩⟩ 305) (.ref 58) 0), ⟨[]⟩⟩
noncomputable def o60 (P : Params) : Obj := ⟨.type "tuple", none, .seq ⟨[]⟩ 0, ⟨[]⟩⟩
noncomputable def o61 (P : Params) : Obj := ⟨.none, none, .fields ⟨[]⟩, ⟨[]⟩⟩
noncomputable def o62 (P : Params) : Obj := ⟨.type "tuple", none, .seq ⟨[.str ⟨⟨[97]⟩⟩ 326, .str ⟨⟨[98]⟩⟩ 327]⟩ 0, ⟨[]⟩⟩
noncomputable def o63 (P : Params) : Obj := ⟨.type "tuple", none, .seq ⟨[]⟩ 0, ⟨[]⟩⟩
noncomputable def o64 (P : Params) : Obj := ⟨.none, none, (fD 8 0 (.none) (.none) 0), ⟨[]⟩⟩
noncomputable def o65 (P : Params) : Obj := ⟨.type "code", none, .fields ⟨[.str ⟨⟨[109, 117, 108]⟩⟩ 323, .str ⟨⟨[109, 117, 108]⟩⟩ 324, .str ⟨⟨[47, 99, 108, 97, 105, 109, 47, 99, 117, 116, 46, 112, 121]⟩⟩ 325, .int 31 0, .int 2 0, .int 0 0, .int 0 0, .int 3 0, .ref 60, .bool true, .int 276 0, .ref 61, .none, .ref 62, .ref 63, .ref 64, .int 328 0, .int 31 0, .str ⟨⟨[47, 99, 108, 97, 105, 109, 47, 99, 117, 116, 46, 112, 121]⟩⟩ 329]⟩, ⟨[]⟩⟩
noncomputable def o66 (P : Params) : Obj := ⟨.type "function", none, (fD 8 3 (.str ⟨⟨[99, 112, 121, 51, 49, 51, 46, 111, 112, 101, 114, 97, 116, 111, 114]⟩⟩ 305) (.ref 65) 0), ⟨[]⟩⟩
noncomputable def o67 (P : Params) : Obj := ⟨.type "tuple", none, .seq ⟨[]⟩ 0, ⟨[]⟩⟩
noncomputable def o68 (P : Params) : Obj := ⟨.none, none, .fields ⟨[]⟩, ⟨[]⟩⟩
noncomputable def o69 (P : Params) : Obj := ⟨.type "tuple", none, .seq ⟨[.str ⟨⟨[97]⟩⟩ 334, .str ⟨⟨[98]⟩⟩ 335]⟩ 0, ⟨[]⟩⟩
noncomputable def o70 (P : Params) : Obj := ⟨.type "tuple", none, .seq ⟨[]⟩ 0, ⟨[]⟩⟩
noncomputable def o71 (P : Params) : Obj := ⟨.none, none, (fD 9 0 (.none) (.none) 0), ⟨[]⟩⟩
noncomputable def o72 (P : Params) : Obj := ⟨.type "code", none, .fields ⟨[.str ⟨⟨[115, 117, 98]⟩⟩ 331, .str ⟨⟨[115, 117, 98]⟩⟩ 332, .str ⟨⟨[47, 99, 108, 97, 105, 109, 47, 99, 117, 116, 46, 112, 121]⟩⟩ 333, .int 33 0, .int 2 0, .int 0 0, .int 0 0, .int 3 0, .ref 67, .bool true, .int 276 0, .ref 68, .none, .ref 69, .ref 70, .ref 71, .int 336 0, .int 33 0, .str ⟨⟨[47, 99, 108, 97, 105, 109, 47, 99, 117, 116, 46, 112, 121]⟩⟩ 337]⟩, ⟨[]⟩⟩
noncomputable def o73 (P : Params) : Obj := ⟨.type "function", none, (fD 9 3 (.str ⟨⟨[99, 112, 121, 51, 49, 51, 46, 111, 112, 101, 114, 97, 116, 111, 114]⟩⟩ 305) (.ref 72) 0), ⟨[]⟩⟩
noncomputable def o74 (P : Params) : Obj := ⟨.type "list", none, .seq ⟨[.int 14 344, .int 4 345, .int 0 346, .int 1 347, .int 1 348, .int 6 349, .int 1 350, .int 16 351, .int 46 352, .int 1 353]⟩ 0, ⟨[]⟩⟩
noncomputable def o75 (P : Params) : Obj := ⟨.type "dict", none, .dict ⟨[]⟩ 0, ⟨[]⟩⟩
noncomputable def o76 (P : Params) : Obj := ⟨.type "tuple", none, .seq ⟨[.none]⟩ 0, ⟨[]⟩⟩
noncomputable def o77 (P : Params) : Obj := ⟨.type "tuple", none, .seq ⟨[.int 14 0, .int 4 0, .int 0 0, .int 1 0, .int 1 0, .int 6 0, .int 1 0, .int 16 0, .int 46 0, .int 1 0]⟩ 0, ⟨[]⟩⟩
noncomputable def o78 (P : Params) : Obj := ⟨.type "re.Pattern", none, .fields ⟨[.str ⟨⟨[40, 63, 109, 41, 94, 92, 46]⟩⟩ 342, .int 40 355, .int 0 0, .none, .none, .ref 77, .int 0 0]⟩, ⟨[]⟩⟩
noncomputable def o79 (P : Params) : Obj := ⟨.type "list", none, .seq ⟨[.int 14 360, .int 9 361, .int 4 362, .int 1 363, .int 2 364, .int 16 365, .int 10 366, .int 16 367, .int 13 368, .int 0 369, .int 7 370, .int 7 371, .int 16 372, .int 13 373, .int 16 374, .int 10 375, .int 15 376, .int 18 377, .int 5 378, .int 16 379, .int 10 380, .int 15 381, .int 13 382, .int 11 383, .int 16 384, .int 13 385, .int 5 386, .int 5 387, .int 0 388, .int 16 389, .int 10 390, .int 1 391, .int 15 392, .int 2 393, .int 0 394, .int 1 395]⟩ 0, ⟨[]⟩⟩
noncomputable def o80 (P : Params) : Obj := ⟨.type "dict", none, .dict ⟨[]⟩ 0, ⟨[]⟩⟩
noncomputable def o81 (P : Params) : Obj := ⟨.type "tuple", none, .seq ⟨[.none]⟩ 0, ⟨[]⟩⟩
noncomputable def o82 (P : Params) : Obj := ⟨.type "tuple", none, .seq ⟨[.int 14 0, .int 9 0, .int 4 0, .int 1 0, .int 2 0, .int 16 0, .int 10 0, .int 16 0, .int 13 0, .int 0 0, .int 7 0, .int 7 0, .int 16 0, .int 13 0, .int 16 0, .int 10 0, .int 15 0, .int 18 0, .int 5 0, .int 16 0, .int 10 0, .int 15 0, .int 13 0, .int 11 0, .int 16 0, .int 13 0, .int 5 0, .int 5 0, .int 0 0, .int 16 0, .int 10 0, .int 1 0, .int 15 0, .int 2 0, .int 0 0, .int 1 0]⟩ 0, ⟨[]⟩⟩
noncomputable def o83 (P : Params) : Obj := ⟨.type "re.Pattern", none, .fields ⟨[.str ⟨⟨[40, 63, 58, 92, 114, 92, 110, 124, 92, 110, 124, 92, 114, 40, 63, 33, 92, 110, 41, 41]⟩⟩ 358, .int 32 397, .int 0 0, .none, .none, .ref 82, .int 0 0]⟩, ⟨[]⟩⟩
noncomputable def o84 (P : Params) : Obj := ⟨.type "tuple", none, .seq ⟨[]⟩ 0, ⟨[]⟩⟩
noncomputable def o85 (P : Params) : Obj := ⟨.none, none, .fields ⟨[]⟩, ⟨[]⟩⟩
noncomputable def o86 (P : Params) : Obj := ⟨.type "tuple", none, .seq ⟨[.str ⟨⟨[100, 97, 116, 97]⟩⟩ 404]⟩ 0, ⟨[]⟩⟩
noncomputable def o87 (P : Params) : Obj := ⟨.type "tuple", none, .seq ⟨[]⟩ 0, ⟨[]⟩⟩
noncomputable def o88 (P : Params) : Obj := ⟨.none, none, (fD 14 0 (.none) (.none) 0), ⟨[]⟩⟩
noncomputable def o89 (P : Params) : Obj := ⟨.type "code", none, .fields ⟨[.str ⟨⟨[113, 117, 111, 116, 101, 100, 97, 116, 97]⟩⟩ 401, .str ⟨⟨[113, 117, 111, 116, 101, 100, 97, 116, 97]⟩⟩ 402, .str ⟨⟨[47, 99, 108, 97, 105, 109, 47, 99, 117, 116, 46, 112, 121]⟩⟩ 403, .int 39 0, .int 1 0, .int 0 0, .int 0 0, .int 3 0, .ref 84, .bool true, .int 276 0, .ref 85, .none, .ref 86, .ref 87, .ref 88, .int 405 0, .int 39 0, .str ⟨⟨[47, 99, 108, 97, 105, 109, 47, 99, 117, 116, 46, 112, 121]⟩⟩ 406]⟩, ⟨[]⟩⟩
noncomputable def o90 (P : Params) : Obj := ⟨.type "function", none, (fD 14 3 (.str ⟨⟨[99, 112, 121, 51, 49, 51, 46, 115, 109, 116, 112, 108, 105, 98]⟩⟩ 339) (.ref 89) 0), ⟨[]⟩⟩
noncomputable def o91 (P : Params) : Obj := ⟨.type "list", none, .seq ⟨[.int 173 410, .int 847 411, .int 6150 412, .int 6155 413, .int 6156 414, .int 6157 415, .int 8203 416, .int 8204 417, .int 8205 418, .int 8288 419, .int 65279 420]⟩ 0, ⟨[]⟩⟩
noncomputable def o92 (P : Params) : Obj := ⟨.type "range", none, .fields ⟨[.int 65024 421, .int 65040 422, .int 1 423]⟩, ⟨[]⟩⟩
noncomputable def o93 (P : Params) : Obj := ⟨.type "list", none, .seq ⟨[.int 65024 426, .int 65025 427, .int 65026 428, .int 65027 429, .int 65028 430, .int 65029 431, .int 65030 432, .int 65031 433, .int 65032 434, .int 65033 435, .int 65034 436, .int 65035 437, .int 65036 438, .int 65037 439, .int 65038 440, .int 65039 441]⟩ 18, ⟨[]⟩⟩
noncomputable def o94 (P : Params) : Obj := ⟨.type "range_iterator", none, .fields ⟨[.int 65040 0, .int 0 0, .int 1 0]⟩, ⟨[]⟩⟩
noncomputable def o95 (P : Params) : Obj := ⟨.type "tuple", none, .seq ⟨[]⟩ 0, ⟨[]⟩⟩
noncomputable def o96 (P : Params) : Obj := ⟨.type "StopIteration", none, .fields ⟨[.ref 95, .none, .none, .none, .bool false, .none]⟩, ⟨[]⟩⟩
noncomputable def o97 (P : Params) : Obj := ⟨.type "list", none, .seq ⟨[.int 173 410, .int 847 411, .int 6150 412, .int 6155 413, .int 6156 414, .int 6157 415, .int 8203 416, .int 8204 417, .int 8205 418, .int 8288 419, .int 65279 420, .int 65024 426, .int 65025 427, .int 65026 428, .int 65027 429, .int 65028 430, .int 65029 431, .int 65030 432, .int 65031 433, .int 65032 434, .int 65033 435, .int 65034 436, .int 65035 437, .int 65036 438, .int 65037 439, .int 65038 440, .int 65039 441]⟩ 0, ⟨[]⟩⟩
noncomputable def o98 (P : Params) : Obj := ⟨.type "set", none, .set ⟨[(65024, .int 65024 426), (65025, .int 65025 427), (65026, .int 65026 428), (65027, .int 65027 429), (65028, .int 65028 430), (65029, .int 65029 431), (6150, .int 6150 412), (65030, .int 65030 432), (65031, .int 65031 433), (65032, .int 65032 434), (65033, .int 65033 435), (6155, .int 6155 413), (6156, .int 6156 414), (6157, .int 6157 415), (8203, .int 8203 416), (8204, .int 8204 417), (8205, .int 8205 418), (65034, .int 65034 436), (65035, .int 65035 437), (65036, .int 65036 438), (65037, .int 65037 439), (65038, .int 65038 440), (65039, .int 65039 441), (173, .int 173 410), (847, .int 847 411), (8288, .int 8288 419), (65279, .int 65279 420)]⟩ 29 ⟨127, ⟨[0, 1, 2, 3, 4, 5, 6, 7, 8, 9, 10, 11, 12, 13, 14, 15, 16, 17, 18, 19, 20, 21, 22, 45, 79, 96, 127]⟩, ⟨[]⟩, 0, !(P.followText "set-order"), 2, true⟩, ⟨[]⟩⟩
noncomputable def o99 (P : Params) : Obj := ⟨.type "list_iterator", none, .fields ⟨[.none, .int 27 0]⟩, ⟨[]⟩⟩
noncomputable def o100 (P : Params) : Obj := ⟨.type "tuple", none, .seq ⟨[]⟩ 0, ⟨[]⟩⟩
noncomputable def o101 (P : Params) : Obj := ⟨.type "StopIteration", none, .fields ⟨[.ref 100, .none, .none, .none, .bool false, .none]⟩, ⟨[]⟩⟩
noncomputable def o102 (P : Params) : Obj := ⟨.type "tuple", none, .seq ⟨[]⟩ 0, ⟨[]⟩⟩
noncomputable def o103 (P : Params) : Obj := ⟨.none, none, .fields ⟨[]⟩, ⟨[]⟩⟩
noncomputable def o104 (P : Params) : Obj := ⟨.type "tuple", none, .seq ⟨[.str ⟨⟨[99, 111, 100, 101]⟩⟩ 473]⟩ 0, ⟨[]⟩⟩
noncomputable def o105 (P : Params) : Obj := ⟨.type "tuple", none, .seq ⟨[]⟩ 0, ⟨[]⟩⟩
noncomputable def o106 (P : Params) : Obj := ⟨.none, none, (fD 17 0 (.none) (.none) 0), ⟨[]⟩⟩
noncomputable def o107 (P : Params) : Obj := ⟨.type "code", none, .fields ⟨[.str ⟨⟨[105, 110, 95, 116, 97, 98, 108, 101, 95, 98, 49]⟩⟩ 470, .str ⟨⟨[105, 110, 95, 116, 97, 98, 108, 101, 95, 98, 49]⟩⟩ 471, .str ⟨⟨[47, 99, 108, 97, 105, 109, 47, 99, 117, 116, 46, 112, 121]⟩⟩ 472, .int 43 0, .int 1 0, .int 0 0, .int 0 0, .int 3 0, .ref 102, .bool true, .int 276 0, .ref 103, .none, .ref 104, .ref 105, .ref 106, .int 474 0, .int 43 0, .str ⟨⟨[47, 99, 108, 97, 105, 109, 47, 99, 117, 116, 46, 112, 121]⟩⟩ 475]⟩, ⟨[]⟩⟩
noncomputable def o108 (P : Params) : Obj := ⟨.type "function", none, (fD 17 3 (.str ⟨⟨[99, 112, 121, 51, 49, 51, 46, 115, 116, 114, 105, 110, 103, 112, 114, 101, 112]⟩⟩ 408) (.ref 107) 0), ⟨[]⟩⟩
noncomputable def o148 (P : Params) : Obj := ⟨.type "tuple", none, .seq ⟨[]⟩ 0, ⟨[]⟩⟩
noncomputable def o149 (P : Params) : Obj := ⟨.none, none, .fields ⟨[]⟩, ⟨[]⟩⟩
noncomputable def o150 (P : Params) : Obj := ⟨.type "tuple", none, .seq ⟨[.str ⟨⟨[99, 111, 100, 101]⟩⟩ 2431, .str ⟨⟨[114]⟩⟩ 2432]⟩ 0, ⟨[]⟩⟩
noncomputable def o151 (P : Params) : Obj := ⟨.type "tuple", none, .seq ⟨[]⟩ 0, ⟨[]⟩⟩
noncomputable def o152 (P : Params) : Obj := ⟨.none, none, (fD 19 0 (.none) (.none) 0), ⟨[]⟩⟩
noncomputable def o153 (P : Params) : Obj := ⟨.type "code", none, .fields ⟨[.str ⟨⟨[109, 97, 112, 95, 116, 97, 98, 108, 101, 95, 98, 51]⟩⟩ 2428, .str ⟨⟨[109, 97, 112, 95, 116, 97, 98, 108, 101, 95, 98, 51]⟩⟩ 2429, .str ⟨⟨[47, 99, 108, 97, 105, 109, 47, 99, 117, 116, 46, 112, 121]⟩⟩ 2430, .int 46 0, .int 1 0, .int 0 0, .int 0 0, .int 3 0, .ref 148, .bool true, .int 276 0, .ref 149, .none, .ref 150, .ref 151, .ref 152, .int 2433 0, .int 46 0, .str ⟨⟨[47, 99, 108, 97, 105, 109, 47, 99, 117, 116, 46, 112, 121]⟩⟩ 2434]⟩, ⟨[]⟩⟩
noncomputable def o154 (P : Params) : Obj := ⟨.type "function", none, (fD 19 3 (.str ⟨⟨[99, 112, 121, 51, 49, 51, 46, 115, 116, 114, 105, 110, 103, 112, 114, 101, 112]⟩⟩ 408) (.ref 153) 0), ⟨[]⟩⟩
noncomputable def o155 (P : Params) : Obj := ⟨.type "tuple", none, .seq ⟨[]⟩ 0, ⟨[]⟩⟩
noncomputable def o156 (P : Params) : Obj := ⟨.none, none, .fields ⟨[]⟩, ⟨[]⟩⟩
noncomputable def o157 (P : Params) : Obj := ⟨.type "tuple", none, .seq ⟨[.str ⟨⟨[98, 97, 115, 101]⟩⟩ 2441, .str ⟨⟨[112, 114, 105, 109, 101]⟩⟩ 2442, .str ⟨⟨[112, 111, 119, 101, 114]⟩⟩ 2443, .str ⟨⟨[108, 97, 112]⟩⟩ 2444]⟩ 0, ⟨[]⟩⟩
noncomputable def o158 (P : Params) : Obj := ⟨.type "tuple", none, .seq ⟨[]⟩ 0, ⟨[]⟩⟩
noncomputable def o159 (P : Params) : Obj := ⟨.none, none, (fD 21 0 (.none) (.none) 0), ⟨[]⟩⟩
noncomputable def o160 (P : Params) : Obj := ⟨.type "code", none, .fields ⟨[.str ⟨⟨[95, 108, 97, 119, 95, 108, 97, 112]⟩⟩ 2438, .str ⟨⟨[95, 108, 97, 119, 95, 108, 97, 112]⟩⟩ 2439, .str ⟨⟨[47, 99, 108, 97, 105, 109, 47, 99, 117, 116, 46, 112, 121]⟩⟩ 2440, .int 52 0, .int 2 0, .int 0 0, .int 0 0, .int 3 0, .ref 155, .bool true, .int 276 0, .ref 156, .none, .ref 157, .ref 158, .ref 159, .int 2445 0, .int 52 0, .str ⟨⟨[47, 99, 108, 97, 105, 109, 47, 99, 117, 116, 46, 112, 121]⟩⟩ 2446]⟩, ⟨[]⟩⟩
noncomputable def o161 (P : Params) : Obj := ⟨.type "function", none, (fD 21 3 (.str ⟨⟨[108, 97, 119, 95, 116, 111, 48, 48, 51, 51, 95, 48, 49]⟩⟩ 2436) (.ref 160) 0), ⟨[]⟩⟩
noncomputable def o162 (P : Params) : Obj := ⟨.type "tuple", none, .seq ⟨[]⟩ 0, ⟨[]⟩⟩
noncomputable def o163 (P : Params) : Obj := ⟨.none, none, .fields ⟨[]⟩, ⟨[]⟩⟩
noncomputable def o164 (P : Params) : Obj := ⟨.type "tuple", none, .seq ⟨[.str ⟨⟨[110, 117, 109, 98, 101, 114]⟩⟩ 2451, .str ⟨⟨[98, 97, 115, 101]⟩⟩ 2452, .str ⟨⟨[112, 114, 105, 109, 101]⟩⟩ 2453, .str ⟨⟨[108, 111, 111, 107]⟩⟩ 2454, .str ⟨⟨[104, 101, 97, 100, 115]⟩⟩ 2455, .str ⟨⟨[116, 121, 112, 101, 100]⟩⟩ 2456, .str ⟨⟨[112, 108, 97, 99, 101]⟩⟩ 2457, .str ⟨⟨[119, 105, 100, 101]⟩⟩ 2458, .str ⟨⟨[102, 105, 103, 117, 114, 101]⟩⟩ 2459]⟩ 0, ⟨[]⟩⟩
noncomputable def o165 (P : Params) : Obj := ⟨.type "tuple", none, .seq ⟨[]⟩ 0, ⟨[]⟩⟩
noncomputable def o166 (P : Params) : Obj := ⟨.none, none, (fD 22 0 (.none) (.none) 0), ⟨[]⟩⟩
noncomputable def o167 (P : Params) : Obj := ⟨.type "code", none, .fields ⟨[.str ⟨⟨[95, 108, 97, 119, 95, 116, 121, 112, 101, 100]⟩⟩ 2448, .str ⟨⟨[95, 108, 97, 119, 95, 116, 121, 112, 101, 100]⟩⟩ 2449, .str ⟨⟨[47, 99, 108, 97, 105, 109, 47, 99, 117, 116, 46, 112, 121]⟩⟩ 2450, .int 59 0, .int 4 0, .int 0 0, .int 0 0, .int 3 0, .ref 162, .bool true, .int 276 0, .ref 163, .none, .ref 164, .ref 165, .ref 166, .int 2460 0, .int 59 0, .str ⟨⟨[47, 99, 108, 97, 105, 109, 47, 99, 117, 116, 46, 112, 121]⟩⟩ 2461]⟩, ⟨[]⟩⟩
noncomputable def o168 (P : Params) : Obj := ⟨.type "function", none, (fD 22 3 (.str ⟨⟨[108, 97, 119, 95, 116, 111, 48, 48, 51, 51, 95, 48, 49]⟩⟩ 2436) (.ref 167) 0), ⟨[]⟩⟩
noncomputable def o169 (P : Params) : Obj := ⟨.type "tuple", none, .seq ⟨[]⟩ 0, ⟨[]⟩⟩
noncomputable def o170 (P : Params) : Obj := ⟨.none, none, .fields ⟨[]⟩, ⟨[]⟩⟩
noncomputable def o171 (P : Params) : Obj := ⟨.none, none, (fD 23 0 (.none) (.none) 0), ⟨[]⟩⟩
noncomputable def o172 (P : Params) : Obj := ⟨.type "code", none, .fields ⟨[.str ⟨⟨[95, 108, 97, 119, 95, 108, 105, 110, 101]⟩⟩ 2463, .str ⟨⟨[95, 108, 97, 119, 95, 108, 105, 110, 101]⟩⟩ 2464, .str ⟨⟨[47, 99, 108, 97, 105, 109, 47, 99, 117, 116, 46, 112, 121]⟩⟩ 2465, .int 68 0, .int 2 0, .int 0 0, .int 0 0, .int 3 0, .ref 169, .bool true, .int 276 0, .ref 170, .none, .none, .none, .ref 171, .int 2466 0, .int 68 0, .str ⟨⟨[47, 99, 108, 97, 105, 109, 47, 99, 117, 116, 46, 112, 121]⟩⟩ 2467]⟩, ⟨[]⟩⟩
noncomputable def o173 (P : Params) : Obj := ⟨.type "function", none, (fD 23 3 (.str ⟨⟨[108, 97, 119, 95, 116, 111, 48, 48, 51, 51, 95, 48, 49]⟩⟩ 2436) (.ref 172) 0), ⟨[]⟩⟩
noncomputable def o174 (P : Params) : Obj := ⟨.type "tuple", none, .seq ⟨[]⟩ 0, ⟨[]⟩⟩
noncomputable def o175 (P : Params) : Obj := ⟨.none, none, .fields ⟨[]⟩, ⟨[]⟩⟩
noncomputable def o176 (P : Params) : Obj := ⟨.type "tuple", none, .seq ⟨[.str ⟨⟨[110, 117, 109, 98, 101, 114]⟩⟩ 2472, .str ⟨⟨[98, 97, 115, 101]⟩⟩ 2473, .str ⟨⟨[112, 114, 105, 109, 101]⟩⟩ 2474, .str ⟨⟨[108, 101, 118, 101, 108]⟩⟩ 2475, .str ⟨⟨[115, 104, 111, 114, 116]⟩⟩ 2476, .str ⟨⟨[112, 108, 97, 99, 101]⟩⟩ 2477, .str ⟨⟨[102, 105, 103, 117, 114, 101]⟩⟩ 2478]⟩ 0, ⟨[]⟩⟩
noncomputable def o177 (P : Params) : Obj := ⟨.type "tuple", none, .seq ⟨[]⟩ 0, ⟨[]⟩⟩
noncomputable def o178 (P : Params) : Obj := ⟨.none, none, (fD 24 0 (.none) (.none) 0), ⟨[]⟩⟩
noncomputable def o179 (P : Params) : Obj := ⟨.type "code", none, .fields ⟨[.str ⟨⟨[95, 108, 97, 119, 95, 115, 104, 111, 114, 116]⟩⟩ 2469, .str ⟨⟨[95, 108, 97, 119, 95, 115, 104, 111, 114, 116]⟩⟩ 2470, .str ⟨⟨[47, 99, 108, 97, 105, 109, 47, 99, 117, 116, 46, 112, 121]⟩⟩ 2471, .int 75 0, .int 3 0, .int 0 0, .int 0 0, .int 3 0, .ref 174, .bool true, .int 276 0, .ref 175, .none, .ref 176, .ref 177, .ref 178, .int 2479 0, .int 75 0, .str ⟨⟨[47, 99, 108, 97, 105, 109, 47, 99, 117, 116, 46, 112, 121]⟩⟩ 2480]⟩, ⟨[]⟩⟩
noncomputable def o180 (P : Params) : Obj := ⟨.type "function", none, (fD 24 3 (.str ⟨⟨[108, 97, 119, 95, 116, 111, 48, 48, 51, 51, 95, 48, 49]⟩⟩ 2436) (.ref 179) 0), ⟨[]⟩⟩
noncomputable def o181 (P : Params) : Obj := ⟨.type "tuple", none, .seq ⟨[]⟩ 0, ⟨[]⟩⟩
noncomputable def o182 (P : Params) : Obj := ⟨.none, none, .fields ⟨[]⟩, ⟨[]⟩⟩
noncomputable def o183 (P : Params) : Obj := ⟨.type "tuple", none, .seq ⟨[.str ⟨⟨[100, 111, 116, 115]⟩⟩ 2485, .str ⟨⟨[119, 105, 100, 101]⟩⟩ 2486, .str ⟨⟨[114, 117, 108, 101, 114]⟩⟩ 2487, .str ⟨⟨[109, 97, 105, 108]⟩⟩ 2488, .str ⟨⟨[115, 105, 122, 101]⟩⟩ 2489]⟩ 0, ⟨[]⟩⟩
noncomputable def o184 (P : Params) : Obj := ⟨.type "tuple", none, .seq ⟨[]⟩ 0, ⟨[]⟩⟩
noncomputable def o185 (P : Params) : Obj := ⟨.none, none, (fD 25 0 (.none) (.none) 0), ⟨[]⟩⟩
noncomputable def o186 (P : Params) : Obj := ⟨.type "code", none, .fields ⟨[.str ⟨⟨[95, 108, 97, 119, 95, 114, 111, 119, 115]⟩⟩ 2482, .str ⟨⟨[95, 108, 97, 119, 95, 114, 111, 119, 115]⟩⟩ 2483, .str ⟨⟨[47, 99, 108, 97, 105, 109, 47, 99, 117, 116, 46, 112, 121]⟩⟩ 2484, .int 82 0, .int 2 0, .int 0 0, .int 0 0, .int 3 0, .ref 181, .bool true, .int 276 0, .ref 182, .none, .ref 183, .ref 184, .ref 185, .int 2490 0, .int 82 0, .str ⟨⟨[47, 99, 108, 97, 105, 109, 47, 99, 117, 116, 46, 112, 121]⟩⟩ 2491]⟩, ⟨[]⟩⟩
noncomputable def o187 (P : Params) : Obj := ⟨.type "function", none, (fD 25 3 (.str ⟨⟨[108, 97, 119, 95, 116, 111, 48, 48, 51, 51, 95, 48, 49]⟩⟩ 2436) (.ref 186) 0), ⟨[]⟩⟩
noncomputable def o188 (P : Params) : Obj := ⟨.type "tuple", none, .seq ⟨[]⟩ 0, ⟨[]⟩⟩
noncomputable def o189 (P : Params) : Obj := ⟨.none, none, .fields ⟨[]⟩, ⟨[]⟩⟩
noncomputable def o190 (P : Params) : Obj := ⟨.type "tuple", none, .seq ⟨[.str ⟨⟨[112, 114, 105, 109, 101]⟩⟩ 2496, .str ⟨⟨[99, 111, 117, 110, 116]⟩⟩ 2497, .str ⟨⟨[115, 105, 100, 101]⟩⟩ 2498, .str ⟨⟨[100, 111, 116, 115]⟩⟩ 2499, .str ⟨⟨[119, 105, 100, 101]⟩⟩ 2500, .str ⟨⟨[104, 105, 103, 104]⟩⟩ 2501]⟩ 0, ⟨[]⟩⟩
noncomputable def o191 (P : Params) : Obj := ⟨.type "tuple", none, .seq ⟨[]⟩ 0, ⟨[]⟩⟩
noncomputable def o192 (P : Params) : Obj := ⟨.none, none, (fD 26 0 (.none) (.none) 0), ⟨[]⟩⟩
noncomputable def o193 (P : Params) : Obj := ⟨.type "code", none, .fields ⟨[.str ⟨⟨[95, 108, 97, 119, 95, 99, 108, 97, 115, 115, 101, 115]⟩⟩ 2493, .str ⟨⟨[95, 108, 97, 119, 95, 99, 108, 97, 115, 115, 101, 115]⟩⟩ 2494, .str ⟨⟨[47, 99, 108, 97, 105, 109, 47, 99, 117, 116, 46, 112, 121]⟩⟩ 2495, .int 90 0, .int 1 0, .int 0 0, .int 0 0, .int 3 0, .ref 188, .bool true, .int 276 0, .ref 189, .none, .ref 190, .ref 191, .ref 192, .int 2502 0, .int 90 0, .str ⟨⟨[47, 99, 108, 97, 105, 109, 47, 99, 117, 116, 46, 112, 121]⟩⟩ 2503]⟩, ⟨[]⟩⟩
noncomputable def o194 (P : Params) : Obj := ⟨.type "function", none, (fD 26 3 (.str ⟨⟨[108, 97, 119, 95, 116, 111, 48, 48, 51, 51, 95, 48, 49]⟩⟩ 2436) (.ref 193) 0), ⟨[]⟩⟩
noncomputable def o195 (P : Params) : Obj := ⟨.type "tuple", none, .seq ⟨[]⟩ 0, ⟨[]⟩⟩
noncomputable def o196 (P : Params) : Obj := ⟨.none, none, .fields ⟨[]⟩, ⟨[]⟩⟩
noncomputable def o197 (P : Params) : Obj := ⟨.none, none, (fD 27 0 (.none) (.none) 0), ⟨[]⟩⟩
noncomputable def o198 (P : Params) : Obj := ⟨.type "code", none, .fields ⟨[.str ⟨⟨[108, 97, 119]⟩⟩ 2505, .str ⟨⟨[108, 97, 119]⟩⟩ 2506, .str ⟨⟨[47, 99, 108, 97, 105, 109, 47, 99, 117, 116, 46, 112, 121]⟩⟩ 2507, .int 102 0, .int 1 0, .int 0 0, .int 0 0, .int 3 0, .ref 195, .bool true, .int 276 0, .ref 196, .none, .none, .none, .ref 197, .int 2508 0, .int 102 0, .str ⟨⟨[47, 99, 108, 97, 105, 109, 47, 99, 117, 116, 46, 112, 121]⟩⟩ 2509]⟩, ⟨[]⟩⟩
noncomputable def o199 (P : Params) : Obj := ⟨.type "function", none, (fD 27 3 (.str ⟨⟨[108, 97, 119, 95, 116, 111, 48, 48, 51, 51, 95, 48, 49]⟩⟩ 2436) (.ref 198) 0), ⟨[]⟩⟩
noncomputable def o3Z (P : Params) : Obj := ⟨.type "dict", none, .dict ⟨[⟨PyData.keyHash P ⟨⟨[95, 95, 110, 97, 109, 101, 95, 95]⟩⟩, .str ⟨⟨[95, 95, 110, 97, 109, 101, 95, 95]⟩⟩ 165, .str ⟨⟨[95, 95, 109, 97, 105, 110, 95, 95]⟩⟩ 164⟩, ⟨PyData.keyHash P ⟨⟨[95, 95, 100, 111, 99, 95, 95]⟩⟩, .str ⟨⟨[95, 95, 100, 111, 99, 95, 95]⟩⟩ 166, .none⟩, ⟨PyData.keyHash P ⟨⟨[95, 95, 112, 97, 99, 107, 97, 103, 101, 95, 95]⟩⟩, .str ⟨⟨[95, 95, 112, 97, 99, 107, 97, 103, 101, 95, 95]⟩⟩ 167, .none⟩, ⟨PyData.keyHash P ⟨⟨[95, 95, 108, 111, 97, 100, 101, 114, 95, 95]⟩⟩, .str ⟨⟨[95, 95, 108, 111, 97, 100, 101, 114, 95, 95]⟩⟩ 168, .builtin "__main__.__loader__#opaque"⟩, ⟨PyData.keyHash P ⟨⟨[95, 95, 115, 112, 101, 99, 95, 95]⟩⟩, .str ⟨⟨[95, 95, 115, 112, 101, 99, 95, 95]⟩⟩ 169, .none⟩, ⟨PyData.keyHash P ⟨⟨[95, 95, 97, 110, 110, 111, 116, 97, 116, 105, 111, 110, 115, 95, 95]⟩⟩, .str ⟨⟨[95, 95, 97, 110, 110, 111, 116, 97, 116, 105, 111, 110, 115, 95, 95]⟩⟩ 170, .ref 6⟩, ⟨PyData.keyHash P ⟨⟨[95, 95, 98, 117, 105, 108, 116, 105, 110, 115, 95, 95]⟩⟩, .str ⟨⟨[95, 95, 98, 117, 105, 108, 116, 105, 110, 115, 95, 95]⟩⟩ 171, .ref 4⟩, ⟨PyData.keyHash P ⟨⟨[95, 95, 102, 105, 108, 101, 95, 95]⟩⟩, .str ⟨⟨[95, 95, 102, 105, 108, 101, 95, 95]⟩⟩ 173, .str ⟨⟨[47, 99, 108, 97, 105, 109, 47, 99, 117, 116, 46, 112, 121]⟩⟩ 172⟩, ⟨PyData.keyHash P ⟨⟨[95, 95, 99, 97, 99, 104, 101, 100, 95, 95]⟩⟩, .str ⟨⟨[95, 95, 99, 97, 99, 104, 101, 100, 95, 95]⟩⟩ 174, .none⟩, ⟨PyData.keyHash P ⟨⟨[95, 115, 114, 101]⟩⟩, .str ⟨⟨[95, 115, 114, 101]⟩⟩ 275, .ref 12⟩]⟩ 10, ⟨[]⟩⟩
noncomputable def o3A (P : Params) : Obj := ⟨.type "dict", none, .dict ⟨[⟨PyData.keyHash P ⟨⟨[95, 95, 110, 97, 109, 101, 95, 95]⟩⟩, .str ⟨⟨[95, 95, 110, 97, 109, 101, 95, 95]⟩⟩ 165, .str ⟨⟨[99, 112, 121, 51, 49, 51, 46, 115, 116, 114, 105, 110, 103, 112, 114, 101, 112]⟩⟩ 408⟩, ⟨PyData.keyHash P ⟨⟨[95, 95, 100, 111, 99, 95, 95]⟩⟩, .str ⟨⟨[95, 95, 100, 111, 99, 95, 95]⟩⟩ 166, .none⟩, ⟨PyData.keyHash P ⟨⟨[95, 95, 112, 97, 99, 107, 97, 103, 101, 95, 95]⟩⟩, .str ⟨⟨[95, 95, 112, 97, 99, 107, 97, 103, 101, 95, 95]⟩⟩ 167, .none⟩, ⟨PyData.keyHash P ⟨⟨[95, 95, 108, 111, 97, 100, 101, 114, 95, 95]⟩⟩, .str ⟨⟨[95, 95, 108, 111, 97, 100, 101, 114, 95, 95]⟩⟩ 168, .builtin "__main__.__loader__#opaque"⟩, ⟨PyData.keyHash P ⟨⟨[95, 95, 115, 112, 101, 99, 95, 95]⟩⟩, .str ⟨⟨[95, 95, 115, 112, 101, 99, 95, 95]⟩⟩ 169, .none⟩, ⟨PyData.keyHash P ⟨⟨[95, 95, 97, 110, 110, 111, 116, 97, 116, 105, 111, 110, 115, 95, 95]⟩⟩, .str ⟨⟨[95, 95, 97, 110, 110, 111, 116, 97, 116, 105, 111, 110, 115, 95, 95]⟩⟩ 170, .ref 6⟩, ⟨PyData.keyHash P ⟨⟨[95, 95, 98, 117, 105, 108, 116, 105, 110, 115, 95, 95]⟩⟩, .str ⟨⟨[95, 95, 98, 117, 105, 108, 116, 105, 110, 115, 95, 95]⟩⟩ 171, .ref 4⟩, ⟨PyData.keyHash P ⟨⟨[95, 95, 102, 105, 108, 101, 95, 95]⟩⟩, .str ⟨⟨[95, 95, 102, 105, 108, 101, 95, 95]⟩⟩ 173, .str ⟨⟨[47, 99, 108, 97, 105, 109, 47, 99, 117, 116, 46, 112, 121]⟩⟩ 172⟩, ⟨PyData.keyHash P ⟨⟨[95, 95, 99, 97, 99, 104, 101, 100, 95, 95]⟩⟩, .str ⟨⟨[95, 95, 99, 97, 99, 104, 101, 100, 95, 95]⟩⟩ 174, .none⟩, ⟨PyData.keyHash P ⟨⟨[95, 115, 114, 101]⟩⟩, .str ⟨⟨[95, 115, 114, 101]⟩⟩ 275, .ref 12⟩, ⟨PyData.keyHash P ⟨⟨[67, 72, 65, 82, 95, 77, 65, 88]⟩⟩, .str ⟨⟨[67, 72, 65, 82, 95, 77, 65, 88]⟩⟩ 285, .int 127 284⟩, ⟨PyData.keyHash P ⟨⟨[95, 103, 114, 111, 117, 112, 105, 110, 103, 95, 105, 110, 116, 101, 114, 118, 97, 108, 115]⟩⟩, .str ⟨⟨[95, 103, 114, 111, 117, 112, 105, 110, 103, 95, 105, 110, 116, 101, 114, 118, 97, 108, 115]⟩⟩ 294, .ref 38⟩, ⟨PyData.keyHash P ⟨⟨[95, 115, 116, 114, 105, 112, 95, 112, 97, 100, 100, 105, 110, 103]⟩⟩, .str ⟨⟨[95, 115, 116, 114, 105, 112, 95, 112, 97, 100, 100, 105, 110, 103]⟩⟩ 304, .ref 45⟩, ⟨PyData.keyHash P ⟨⟨[102, 108, 111, 111, 114, 100, 105, 118]⟩⟩, .str ⟨⟨[102, 108, 111, 111, 114, 100, 105, 118]⟩⟩ 314, .ref 52⟩, ⟨PyData.keyHash P ⟨⟨[109, 111, 100]⟩⟩, .str ⟨⟨[109, 111, 100]⟩⟩ 322, .ref 59⟩, ⟨PyData.keyHash P ⟨⟨[109, 117, 108]⟩⟩, .str ⟨⟨[109, 117, 108]⟩⟩ 330, .ref 66⟩, ⟨PyData.keyHash P ⟨⟨[115, 117, 98]⟩⟩, .str ⟨⟨[115, 117, 98]⟩⟩ 338, .ref 73⟩, ⟨PyData.keyHash P ⟨⟨[95, 116, 119, 105, 110, 95, 114, 101, 95, 49]⟩⟩, .str ⟨⟨[95, 116, 119, 105, 110, 95, 114, 101, 95, 49]⟩⟩ 356, .ref 78⟩, ⟨PyData.keyHash P ⟨⟨[95, 116, 119, 105, 110, 95, 114, 101, 95, 50]⟩⟩, .str ⟨⟨[95, 116, 119, 105, 110, 95, 114, 101, 95, 50]⟩⟩ 398, .ref 83⟩, ⟨PyData.keyHash P ⟨⟨[67, 82, 76, 70]⟩⟩, .str ⟨⟨[67, 82, 76, 70]⟩⟩ 400, .str ⟨⟨[13, 10]⟩⟩ 399⟩, ⟨PyData.keyHash P ⟨⟨[113, 117, 111, 116, 101, 100, 97, 116, 97]⟩⟩, .str ⟨⟨[113, 117, 111, 116, 101, 100, 97, 116, 97]⟩⟩ 407, .ref 90⟩]⟩ 21, ⟨[]⟩⟩
noncomputable def o29A (P : Params) : Obj := ⟨.none, none, .fields ⟨[.int 4 0, .int 0 0, .ref 37, .int 16 0, .int 0 0, .ref 44, .int 27 0, .int 0 0, .ref 51, .int 29 0, .int 0 0, .ref 58, .int 31 0, .int 0 0, .ref 65, .int 33 0, .int 0 0, .ref 72, .int 39 0, .int 0 0, .ref 89]⟩, ⟨[]⟩⟩
noncomputable def o3B (P : Params) : Obj := ⟨.type "dict", none, .dict ⟨[⟨PyData.keyHash P ⟨⟨[95, 95, 110, 97, 109, 101, 95, 95]⟩⟩, .str ⟨⟨[95, 95, 110, 97, 109, 101, 95, 95]⟩⟩ 165, .str ⟨⟨[99, 112, 121, 51, 49, 51, 46, 115, 116, 114, 105, 110, 103, 112, 114, 101, 112]⟩⟩ 408⟩, ⟨PyData.keyHash P ⟨⟨[95, 95, 100, 111, 99, 95, 95]⟩⟩, .str ⟨⟨[95, 95, 100, 111, 99, 95, 95]⟩⟩ 166, .none⟩, ⟨PyData.keyHash P ⟨⟨[95, 95, 112, 97, 99, 107, 97, 103, 101, 95, 95]⟩⟩, .str ⟨⟨[95, 95, 112, 97, 99, 107, 97, 103, 101, 95, 95]⟩⟩ 167, .none⟩, ⟨PyData.keyHash P ⟨⟨[95, 95, 108, 111, 97, 100, 101, 114, 95, 95]⟩⟩, .str ⟨⟨[95, 95, 108, 111, 97, 100, 101, 114, 95, 95]⟩⟩ 168, .builtin "__main__.__loader__#opaque"⟩, ⟨PyData.keyHash P ⟨⟨[95, 95, 115, 112, 101, 99, 95, 95]⟩⟩, .str ⟨⟨[95, 95, 115, 112, 101, 99, 95, 95]⟩⟩ 169, .none⟩, ⟨PyData.keyHash P ⟨⟨[95, 95, 97, 110, 110, 111, 116, 97, 116, 105, 111, 110, 115, 95, 95]⟩⟩, .str ⟨⟨[95, 95, 97, 110, 110, 111, 116, 97, 116, 105, 111, 110, 115, 95, 95]⟩⟩ 170, .ref 6⟩, ⟨PyData.keyHash P ⟨⟨[95, 95, 98, 117, 105, 108, 116, 105, 110, 115, 95, 95]⟩⟩, .str ⟨⟨[95, 95, 98, 117, 105, 108, 116, 105, 110, 115, 95, 95]⟩⟩ 171, .ref 4⟩, ⟨PyData.keyHash P ⟨⟨[95, 95, 102, 105, 108, 101, 95, 95]⟩⟩, .str ⟨⟨[95, 95, 102, 105, 108, 101, 95, 95]⟩⟩ 173, .str ⟨⟨[47, 99, 108, 97, 105, 109, 47, 99, 117, 116, 46, 112, 121]⟩⟩ 172⟩, ⟨PyData.keyHash P ⟨⟨[95, 95, 99, 97, 99, 104, 101, 100, 95, 95]⟩⟩, .str ⟨⟨[95, 95, 99, 97, 99, 104, 101, 100, 95, 95]⟩⟩ 174, .none⟩, ⟨PyData.keyHash P ⟨⟨[95, 115, 114, 101]⟩⟩, .str ⟨⟨[95, 115, 114, 101]⟩⟩ 275, .ref 12⟩, ⟨PyData.keyHash P ⟨⟨[67, 72, 65, 82, 95, 77, 65, 88]⟩⟩, .str ⟨⟨[67, 72, 65, 82, 95, 77, 65, 88]⟩⟩ 285, .int 127 284⟩, ⟨PyData.keyHash P ⟨⟨[95, 103, 114, 111, 117, 112, 105, 110, 103, 95, 105, 110, 116, 101, 114, 118, 97, 108, 115]⟩⟩, .str ⟨⟨[95, 103, 114, 111, 117, 112, 105, 110, 103, 95, 105, 110, 116, 101, 114, 118, 97, 108, 115]⟩⟩ 294, .ref 38⟩, ⟨PyData.keyHash P ⟨⟨[95, 115, 116, 114, 105, 112, 95, 112, 97, 100, 100, 105, 110, 103]⟩⟩, .str ⟨⟨[95, 115, 116, 114, 105, 112, 95, 112, 97, 100, 100, 105, 110, 103]⟩⟩ 304, .ref 45⟩, ⟨PyData.keyHash P ⟨⟨[102, 108, 111, 111, 114, 100, 105, 118]⟩⟩, .str ⟨⟨[102, 108, 111, 111, 114, 100, 105, 118]⟩⟩ 314, .ref 52⟩, ⟨PyData.keyHash P ⟨⟨[109, 111, 100]⟩⟩, .str ⟨⟨[109, 111, 100]⟩⟩ 322, .ref 59⟩, ⟨PyData.keyHash P ⟨⟨[109, 117, 108]⟩⟩, .str ⟨⟨[109, 117, 108]⟩⟩ 330, .ref 66⟩, ⟨PyData.keyHash P ⟨⟨[115, 117, 98]⟩⟩, .str ⟨⟨[115, 117, 98]⟩⟩ 338, .ref 73⟩, ⟨PyData.keyHash P ⟨⟨[95, 116, 119, 105, 110, 95, 114, 101, 95, 49]⟩⟩, .str ⟨⟨[95, 116, 119, 105, 110, 95, 114, 101, 95, 49]⟩⟩ 356, .ref 78⟩, ⟨PyData.keyHash P ⟨⟨[95, 116, 119, 105, 110, 95, 114, 101, 95, 50]⟩⟩, .str ⟨⟨[95, 116, 119, 105, 110, 95, 114, 101, 95, 50]⟩⟩ 398, .ref 83⟩, ⟨PyData.keyHash P ⟨⟨[67, 82, 76, 70]⟩⟩, .str ⟨⟨[67, 82, 76, 70]⟩⟩ 400, .str ⟨⟨[13, 10]⟩⟩ 399⟩, ⟨PyData.keyHash P ⟨⟨[113, 117, 111, 116, 101, 100, 97, 116, 97]⟩⟩, .str ⟨⟨[113, 117, 111, 116, 101, 100, 97, 116, 97]⟩⟩ 407, .ref 90⟩, ⟨PyData.keyHash P ⟨⟨[98, 49, 95, 115, 101, 116]⟩⟩, .str ⟨⟨[98, 49, 95, 115, 101, 116]⟩⟩ 469, .ref 98⟩]⟩ 22, ⟨[]⟩⟩
noncomputable def o29B (P : Params) : Obj := ⟨.none, none, .fields ⟨[.int 4 0, .int 0 0, .ref 37, .int 16 0, .int 0 0, .ref 44, .int 27 0, .int 0 0, .ref 51, .int 29 0, .int 0 0, .ref 58, .int 31 0, .int 0 0, .ref 65, .int 33 0, .int 0 0, .ref 72, .int 39 0, .int 0 0, .ref 89]⟩, ⟨[]⟩⟩
noncomputable def o3C (P : Params) : Obj := ⟨.type "dict", none, .dict ⟨[⟨PyData.keyHash P ⟨⟨[95, 95, 110, 97, 109, 101, 95, 95]⟩⟩, .str ⟨⟨[95, 95, 110, 97, 109, 101, 95, 95]⟩⟩ 165, .str ⟨⟨[99, 112, 121, 51, 49, 51, 46, 115, 116, 114, 105, 110, 103, 112, 114, 101, 112]⟩⟩ 408⟩, ⟨PyData.keyHash P ⟨⟨[95, 95, 100, 111, 99, 95, 95]⟩⟩, .str ⟨⟨[95, 95, 100, 111, 99, 95, 95]⟩⟩ 166, .none⟩, ⟨PyData.keyHash P ⟨⟨[95, 95, 112, 97, 99, 107, 97, 103, 101, 95, 95]⟩⟩, .str ⟨⟨[95, 95, 112, 97, 99, 107, 97, 103, 101, 95, 95]⟩⟩ 167, .none⟩, ⟨PyData.keyHash P ⟨⟨[95, 95, 108, 111, 97, 100, 101, 114, 95, 95]⟩⟩, .str ⟨⟨[95, 95, 108, 111, 97, 100, 101, 114, 95, 95]⟩⟩ 168, .builtin "__main__.__loader__#opaque"⟩, ⟨PyData.keyHash P ⟨⟨[95, 95, 115, 112, 101, 99, 95, 95]⟩⟩, .str ⟨⟨[95, 95, 115, 112, 101, 99, 95, 95]⟩⟩ 169, .none⟩, ⟨PyData.keyHash P ⟨⟨[95, 95, 97, 110, 110, 111, 116, 97, 116, 105, 111, 110, 115, 95, 95]⟩⟩, .str ⟨⟨[95, 95, 97, 110, 110, 111, 116, 97, 116, 105, 111, 110, 115, 95, 95]⟩⟩ 170, .ref 6⟩, ⟨PyData.keyHash P ⟨⟨[95, 95, 98, 117, 105, 108, 116, 105, 110, 115, 95, 95]⟩⟩, .str ⟨⟨[95, 95, 98, 117, 105, 108, 116, 105, 110, 115, 95, 95]⟩⟩ 171, .ref 4⟩, ⟨PyData.keyHash P ⟨⟨[95, 95, 102, 105, 108, 101, 95, 95]⟩⟩, .str ⟨⟨[95, 95, 102, 105, 108, 101, 95, 95]⟩⟩ 173, .str ⟨⟨[47, 99, 108, 97, 105, 109, 47, 99, 117, 116, 46, 112, 121]⟩⟩ 172⟩, ⟨PyData.keyHash P ⟨⟨[95, 95, 99, 97, 99, 104, 101, 100, 95, 95]⟩⟩, .str ⟨⟨[95, 95, 99, 97, 99, 104, 101, 100, 95, 95]⟩⟩ 174, .none⟩, ⟨PyData.keyHash P ⟨⟨[95, 115, 114, 101]⟩⟩, .str ⟨⟨[95, 115, 114, 101]⟩⟩ 275, .ref 12⟩, ⟨PyData.keyHash P ⟨⟨[67, 72, 65, 82, 95, 77, 65, 88]⟩⟩, .str ⟨⟨[67, 72, 65, 82, 95, 77, 65, 88]⟩⟩ 285, .int 127 284⟩, ⟨PyData.keyHash P ⟨⟨[95, 103, 114, 111, 117, 112, 105, 110, 103, 95, 105, 110, 116, 101, 114, 118, 97, 108, 115]⟩⟩, .str ⟨⟨[95, 103, 114, 111, 117, 112, 105, 110, 103, 95, 105, 110, 116, 101, 114, 118, 97, 108, 115]⟩⟩ 294, .ref 38⟩, ⟨PyData.keyHash P ⟨⟨[95, 115, 116, 114, 105, 112, 95, 112, 97, 100, 100, 105, 110, 103]⟩⟩, .str ⟨⟨[95, 115, 116, 114, 105, 112, 95, 112, 97, 100, 100, 105, 110, 103]⟩⟩ 304, .ref 45⟩, ⟨PyData.keyHash P ⟨⟨[102, 108, 111, 111, 114, 100, 105, 118]⟩⟩, .str ⟨⟨[102, 108, 111, 111, 114, 100, 105, 118]⟩⟩ 314, .ref 52⟩, ⟨PyData.keyHash P ⟨⟨[109, 111, 100]⟩⟩, .str ⟨⟨[109, 111, 100]⟩⟩ 322, .ref 59⟩, ⟨PyData.keyHash P ⟨⟨[109, 117, 108]⟩⟩, .str ⟨⟨[109, 117, 108]⟩⟩ 330, .ref 66⟩, ⟨PyData.keyHash P ⟨⟨[115, 117, 98]⟩⟩, .str ⟨⟨[115, 117, 98]⟩⟩ 338, .ref 73⟩, ⟨PyData.keyHash P ⟨⟨[95, 116, 119, 105, 110, 95, 114, 101, 95, 49]⟩⟩, .str ⟨⟨[95, 116, 119, 105, 110, 95, 114, 101, 95, 49]⟩⟩ 356, .ref 78⟩, ⟨PyData.keyHash P ⟨⟨[95, 116, 119, 105, 110, 95, 114, 101, 95, 50]⟩⟩, .str ⟨⟨[95, 116, 119, 105, 110, 95, 114, 101, 95, 50]⟩⟩ 398, .ref 83⟩, ⟨PyData.keyHash P ⟨⟨[67, 82, 76, 70]⟩⟩, .str ⟨⟨[67, 82, 76, 70]⟩⟩ 400, .str ⟨⟨[13, 10]⟩⟩ 399⟩, ⟨PyData.keyHash P ⟨⟨[113, 117, 111, 116, 101, 100, 97, 116, 97]⟩⟩, .str ⟨⟨[113, 117, 111, 116, 101, 100, 97, 116, 97]⟩⟩ 407, .ref 90⟩, ⟨PyData.keyHash P ⟨⟨[98, 49, 95, 115, 101, 116]⟩⟩, .str ⟨⟨[98, 49, 95, 115, 101, 116]⟩⟩ 469, .ref 98⟩, ⟨PyData.keyHash P ⟨⟨[105, 110, 95, 116, 97, 98, 108, 101, 95, 98, 49]⟩⟩, .str ⟨⟨[105, 110, 95, 116, 97, 98, 108, 101, 95, 98, 49]⟩⟩ 476, .ref 108⟩]⟩ 23, ⟨[]⟩⟩
noncomputable def o29C (P : Params) : Obj := ⟨.none, none, .fields ⟨[.int 4 0, .int 0 0, .ref 37, .int 16 0, .int 0 0, .ref 44, .int 27 0, .int 0 0, .ref 51, .int 29 0, .int 0 0, .ref 58, .int 31 0, .int 0 0, .ref 65, .int 33 0, .int 0 0, .ref 72, .int 39 0, .int 0 0, .ref 89, .int 43 0, .int 0 0, .ref 107]⟩, ⟨[]⟩⟩
noncomputable def o3D (P : Params) : Obj := ⟨.type "dict", none, .dict ⟨[⟨PyData.keyHash P ⟨⟨[95, 95, 110, 97, 109, 101, 95, 95]⟩⟩, .str ⟨⟨[95, 95, 110, 97, 109, 101, 95, 95]⟩⟩ 165, .str ⟨⟨[99, 112, 121, 51, 49, 51, 46, 115, 116, 114, 105, 110, 103, 112, 114, 101, 112]⟩⟩ 408⟩, ⟨PyData.keyHash P ⟨⟨[95, 95, 100, 111, 99, 95, 95]⟩⟩, .str ⟨⟨[95, 95, 100, 111, 99, 95, 95]⟩⟩ 166, .none⟩, ⟨PyData.keyHash P ⟨⟨[95, 95, 112, 97, 99, 107, 97, 103, 101, 95, 95]⟩⟩, .str ⟨⟨[95, 95, 112, 97, 99, 107, 97, 103, 101, 95, 95]⟩⟩ 167, .none⟩, ⟨PyData.keyHash P ⟨⟨[95, 95, 108, 111, 97, 100, 101, 114, 95, 95]⟩⟩, .str ⟨⟨[95, 95, 108, 111, 97, 100, 101, 114, 95, 95]⟩⟩ 168, .builtin "__main__.__loader__#opaque"⟩, ⟨PyData.keyHash P ⟨⟨[95, 95, 115, 112, 101, 99, 95, 95]⟩⟩, .str ⟨⟨[95, 95, 115, 112, 101, 99, 95, 95]⟩⟩ 169, .none⟩, ⟨PyData.keyHash P ⟨⟨[95, 95, 97, 110, 110, 111, 116, 97, 116, 105, 111, 110, 115, 95, 95]⟩⟩, .str ⟨⟨[95, 95, 97, 110, 110, 111, 116, 97, 116, 105, 111, 110, 115, 95, 95]⟩⟩ 170, .ref 6⟩, ⟨PyData.keyHash P ⟨⟨[95, 95, 98, 117, 105, 108, 116, 105, 110, 115, 95, 95]⟩⟩, .str ⟨⟨[95, 95, 98, 117, 105, 108, 116, 105, 110, 115, 95, 95]⟩⟩ 171, .ref 4⟩, ⟨PyData.keyHash P ⟨⟨[95, 95, 102, 105, 108, 101, 95, 95]⟩⟩, .str ⟨⟨[95, 95, 102, 105, 108, 101, 95, 95]⟩⟩ 173, .str ⟨⟨[47, 99, 108, 97, 105, 109, 47, 99, 117, 116, 46, 112, 121]⟩⟩ 172⟩, ⟨PyData.keyHash P ⟨⟨[95, 95, 99, 97, 99, 104, 101, 100, 95, 95]⟩⟩, .str ⟨⟨[95, 95, 99, 97, 99, 104, 101, 100, 95, 95]⟩⟩ 174, .none⟩, ⟨PyData.keyHash P ⟨⟨[95, 115, 114, 101]⟩⟩, .str ⟨⟨[95, 115, 114, 101]⟩⟩ 275, .ref 12⟩, ⟨PyData.keyHash P ⟨⟨[67, 72, 65, 82, 95, 77, 65, 88]⟩⟩, .str ⟨⟨[67, 72, 65, 82, 95, 77, 65, 88]⟩⟩ 285, .int 127 284⟩, ⟨PyData.keyHash P ⟨⟨[95, 103, 114, 111, 117, 112, 105, 110, 103, 95, 105, 110, 116, 101, 114, 118, 97, 108, 115]⟩⟩, .str ⟨⟨[95, 103, 114, 111, 117, 112, 105, 110, 103, 95, 105, 110, 116, 101, 114, 118, 97, 108, 115]⟩⟩ 294, .ref 38⟩, ⟨PyData.keyHash P ⟨⟨[95, 115, 116, 114, 105, 112, 95, 112, 97, 100, 100, 105, 110, 103]⟩⟩, .str ⟨⟨[95, 115, 116, 114, 105, 112, 95, 112, 97, 100, 100, 105, 110, 103]⟩⟩ 304, .ref 45⟩, ⟨PyData.keyHash P ⟨⟨[102, 108, 111, 111, 114, 100, 105, 118]⟩⟩, .str ⟨⟨[102, 108, 111, 111, 114, 100, 105, 118]⟩⟩ 314, .ref 52⟩, ⟨PyData.keyHash P ⟨⟨[109, 111, 100]⟩⟩, .str ⟨⟨[109, 111, 100]⟩⟩ 322, .ref 59⟩, ⟨PyData.keyHash P ⟨⟨[109, 117, 108]⟩⟩, .str ⟨⟨[109, 117, 108]⟩⟩ 330, .ref 66⟩, ⟨PyData.keyHash P ⟨⟨[115, 117, 98]⟩⟩, .str ⟨⟨[115, 117, 98]⟩⟩ 338, .ref 73⟩, ⟨PyData.keyHash P ⟨⟨[95, 116, 119, 105, 110, 95, 114, 101, 95, 49]⟩⟩, .str ⟨⟨[95, 116, 119, 105, 110, 95, 114, 101, 95, 49]⟩⟩ 356, .ref 78⟩, ⟨PyData.keyHash P ⟨⟨[95, 116, 119, 105, 110, 95, 114, 101, 95, 50]⟩⟩, .str ⟨⟨[95, 116, 119, 105, 110, 95, 114, 101, 95, 50]⟩⟩ 398, .ref 83⟩, ⟨PyData.keyHash P ⟨⟨[67, 82, 76, 70]⟩⟩, .str ⟨⟨[67, 82, 76, 70]⟩⟩ 400, .str ⟨⟨[13, 10]⟩⟩ 399⟩, ⟨PyData.keyHash P ⟨⟨[113, 117, 111, 116, 101, 100, 97, 116, 97]⟩⟩, .str ⟨⟨[113, 117, 111, 116, 101, 100, 97, 116, 97]⟩⟩ 407, .ref 90⟩, ⟨PyData.keyHash P ⟨⟨[98, 49, 95, 115, 101, 116]⟩⟩, .str ⟨⟨[98, 49, 95, 115, 101, 116]⟩⟩ 469, .ref 98⟩, ⟨PyData.keyHash P ⟨⟨[105, 110, 95, 116, 97, 98, 108, 101, 95, 98, 49]⟩⟩, .str ⟨⟨[105, 110, 95, 116, 97, 98, 108, 101, 95, 98, 49]⟩⟩ 476, .ref 108⟩, ⟨PyData.keyHash P ⟨⟨[98, 51, 95, 101, 120, 99, 101, 112, 116, 105, 111, 110, 115]⟩⟩, .str ⟨⟨[98, 51, 95, 101, 120, 99, 101, 112, 116, 105, 111, 110, 115]⟩⟩ 2427, .ref 109⟩]⟩ 24, ⟨[]⟩⟩
noncomputable def o29D (P : Params) : Obj := ⟨.none, none, .fields ⟨[.int 4 0, .int 0 0, .ref 37, .int 16 0, .int 0 0, .ref 44, .int 27 0, .int 0 0, .ref 51, .int 29 0, .int 0 0, .ref 58, .int 31 0, .int 0 0, .ref 65, .int 33 0, .int 0 0, .ref 72, .int 39 0, .int 0 0, .ref 89, .int 43 0, .int 0 0, .ref 107]⟩, ⟨[]⟩⟩
noncomputable def o3E (P : Params) : Obj := ⟨.type "dict", none, .dict ⟨[⟨PyData.keyHash P ⟨⟨[95, 95, 110, 97, 109, 101, 95, 95]⟩⟩, .str ⟨⟨[95, 95, 110, 97, 109, 101, 95, 95]⟩⟩ 165, .str ⟨⟨[108, 97, 119, 95, 116, 111, 48, 48, 51, 51, 95, 48, 49]⟩⟩ 2436⟩, ⟨PyData.keyHash P ⟨⟨[95, 95, 100, 111, 99, 95, 95]⟩⟩, .str ⟨⟨[95, 95, 100, 111, 99, 95, 95]⟩⟩ 166, .none⟩, ⟨PyData.keyHash P ⟨⟨[95, 95, 112, 97, 99, 107, 97, 103, 101, 95, 95]⟩⟩, .str ⟨⟨[95, 95, 112, 97, 99, 107, 97, 103, 101, 95, 95]⟩⟩ 167, .none⟩, ⟨PyData.keyHash P ⟨⟨[95, 95, 108, 111, 97, 100, 101, 114, 95, 95]⟩⟩, .str ⟨⟨[95, 95, 108, 111, 97, 100, 101, 114, 95, 95]⟩⟩ 168, .builtin "__main__.__loader__#opaque"⟩, ⟨PyData.keyHash P ⟨⟨[95, 95, 115, 112, 101, 99, 95, 95]⟩⟩, .str ⟨⟨[95, 95, 115, 112, 101, 99, 95, 95]⟩⟩ 169, .none⟩, ⟨PyData.keyHash P ⟨⟨[95, 95, 97, 110, 110, 111, 116, 97, 116, 105, 111, 110, 115, 95, 95]⟩⟩, .str ⟨⟨[95, 95, 97, 110, 110, 111, 116, 97, 116, 105, 111, 110, 115, 95, 95]⟩⟩ 170, .ref 6⟩, ⟨PyData.keyHash P ⟨⟨[95, 95, 98, 117, 105, 108, 116, 105, 110, 115, 95, 95]⟩⟩, .str ⟨⟨[95, 95, 98, 117, 105, 108, 116, 105, 110, 115, 95, 95]⟩⟩ 171, .ref 4⟩, ⟨PyData.keyHash P ⟨⟨[95, 95, 102, 105, 108, 101, 95, 95]⟩⟩, .str ⟨⟨[95, 95, 102, 105, 108, 101, 95, 95]⟩⟩ 173, .str ⟨⟨[47, 99, 108, 97, 105, 109, 47, 99, 117, 116, 46, 112, 121]⟩⟩ 172⟩, ⟨PyData.keyHash P ⟨⟨[95, 95, 99, 97, 99, 104, 101, 100, 95, 95]⟩⟩, .str ⟨⟨[95, 95, 99, 97, 99, 104, 101, 100, 95, 95]⟩⟩ 174, .none⟩, ⟨PyData.keyHash P ⟨⟨[95, 115, 114, 101]⟩⟩, .str ⟨⟨[95, 115, 114, 101]⟩⟩ 275, .ref 12⟩, ⟨PyData.keyHash P ⟨⟨[67, 72, 65, 82, 95, 77, 65, 88]⟩⟩, .str ⟨⟨[67, 72, 65, 82, 95, 77, 65, 88]⟩⟩ 285, .int 127 284⟩, ⟨PyData.keyHash P ⟨⟨[95, 103, 114, 111, 117, 112, 105, 110, 103, 95, 105, 110, 116, 101, 114, 118, 97, 108, 115]⟩⟩, .str ⟨⟨[95, 103, 114, 111, 117, 112, 105, 110, 103, 95, 105, 110, 116, 101, 114, 118, 97, 108, 115]⟩⟩ 294, .ref 38⟩, ⟨PyData.keyHash P ⟨⟨[95, 115, 116, 114, 105, 112, 95, 112, 97, 100, 100, 105, 110, 103]⟩⟩, .str ⟨⟨[95, 115, 116, 114, 105, 112, 95, 112, 97, 100, 100, 105, 110, 103]⟩⟩ 304, .ref 45⟩, ⟨PyData.keyHash P ⟨⟨[102, 108, 111, 111, 114, 100, 105, 118]⟩⟩, .str ⟨⟨[102, 108, 111, 111, 114, 100, 105, 118]⟩⟩ 314, .ref 52⟩, ⟨PyData.keyHash P ⟨⟨[109, 111, 100]⟩⟩, .str ⟨⟨[109, 111, 100]⟩⟩ 322, .ref 59⟩, ⟨PyData.keyHash P ⟨⟨[109, 117, 108]⟩⟩, .str ⟨⟨[109, 117, 108]⟩⟩ 330, .ref 66⟩, ⟨PyData.keyHash P ⟨⟨[115, 117, 98]⟩⟩, .str ⟨⟨[115, 117, 98]⟩⟩ 338, .ref 73⟩, ⟨PyData.keyHash P ⟨⟨[95, 116, 119, 105, 110, 95, 114, 101, 95, 49]⟩⟩, .str ⟨⟨[95, 116, 119, 105, 110, 95, 114, 101, 95, 49]⟩⟩ 356, .ref 78⟩, ⟨PyData.keyHash P ⟨⟨[95, 116, 119, 105, 110, 95, 114, 101, 95, 50]⟩⟩, .str ⟨⟨[95, 116, 119, 105, 110, 95, 114, 101, 95, 50]⟩⟩ 398, .ref 83⟩, ⟨PyData.keyHash P ⟨⟨[67, 82, 76, 70]⟩⟩, .str ⟨⟨[67, 82, 76, 70]⟩⟩ 400, .str ⟨⟨[13, 10]⟩⟩ 399⟩, ⟨PyData.keyHash P ⟨⟨[113, 117, 111, 116, 101, 100, 97, 116, 97]⟩⟩, .str ⟨⟨[113, 117, 111, 116, 101, 100, 97, 116, 97]⟩⟩ 407, .ref 90⟩, ⟨PyData.keyHash P ⟨⟨[98, 49, 95, 115, 101, 116]⟩⟩, .str ⟨⟨[98, 49, 95, 115, 101, 116]⟩⟩ 469, .ref 98⟩, ⟨PyData.keyHash P ⟨⟨[105, 110, 95, 116, 97, 98, 108, 101, 95, 98, 49]⟩⟩, .str ⟨⟨[105, 110, 95, 116, 97, 98, 108, 101, 95, 98, 49]⟩⟩ 476, .ref 108⟩, ⟨PyData.keyHash P ⟨⟨[98, 51, 95, 101, 120, 99, 101, 112, 116, 105, 111, 110, 115]⟩⟩, .str ⟨⟨[98, 51, 95, 101, 120, 99, 101, 112, 116, 105, 111, 110, 115]⟩⟩ 2427, .ref 109⟩, ⟨PyData.keyHash P ⟨⟨[109, 97, 112, 95, 116, 97, 98, 108, 101, 95, 98, 51]⟩⟩, .str ⟨⟨[109, 97, 112, 95, 116, 97, 98, 108, 101, 95, 98, 51]⟩⟩ 2435, .ref 154⟩, ⟨PyData.keyHash P ⟨⟨[95, 108, 97, 119, 95, 108, 97, 112]⟩⟩, .str ⟨⟨[95, 108, 97, 119, 95, 108, 97, 112]⟩⟩ 2447, .ref 161⟩, ⟨PyData.keyHash P ⟨⟨[95, 108, 97, 119, 95, 116, 121, 112, 101, 100]⟩⟩, .str ⟨⟨[95, 108, 97, 119, 95, 116, 121, 112, 101, 100]⟩⟩ 2462, .ref 168⟩, ⟨PyData.keyHash P ⟨⟨[95, 108, 97, 119, 95, 108, 105, 110, 101]⟩⟩, .str ⟨⟨[95, 108, 97, 119, 95, 108, 105, 110, 101]⟩⟩ 2468, .ref 173⟩, ⟨PyData.keyHash P ⟨⟨[95, 108, 97, 119, 95, 115, 104, 111, 114, 116]⟩⟩, .str ⟨⟨[95, 108, 97, 119, 95, 115, 104, 111, 114, 116]⟩⟩ 2481, .ref 180⟩, ⟨PyData.keyHash P ⟨⟨[95, 108, 97, 119, 95, 114, 111, 119, 115]⟩⟩, .str ⟨⟨[95, 108, 97, 119, 95, 114, 111, 119, 115]⟩⟩ 2492, .ref 187⟩, ⟨PyData.keyHash P ⟨⟨[95, 108, 97, 119, 95, 99, 108, 97, 115, 115, 101, 115]⟩⟩, .str ⟨⟨[95, 108, 97, 119, 95, 99, 108, 97, 115, 115, 101, 115]⟩⟩ 2504, .ref 194⟩, ⟨PyData.keyHash P ⟨⟨[108, 97, 119]⟩⟩, .str ⟨⟨[108, 97, 119]⟩⟩ 2510, .ref 199⟩]⟩ 32, ⟨[]⟩⟩
noncomputable def o29E (P : Params) : Obj := ⟨.none, none, .fields ⟨[.int 4 0, .int 0 0, .ref 37, .int 16 0, .int 0 0, .ref 44, .int 27 0, .int 0 0, .ref 51, .int 29 0, .int 0 0, .ref 58, .int 31 0, .int 0 0, .ref 65, .int 33 0, .int 0 0, .ref 72, .int 39 0, .int 0 0, .ref 89, .int 43 0, .int 0 0, .ref 107, .int 46 0, .int 0 0, .ref 153, .int 52 0, .int 0 0, .ref 160, .int 59 0, .int 0 0, .ref 167, .int 68 0, .int 0 0, .ref 172, .int 75 0, .int 0 0, .ref 179, .int 82 0, .int 0 0, .ref 186, .int 90 0, .int 0 0, .ref 193, .int 102 0, .int 0 0, .ref 198]⟩, ⟨[]⟩⟩
noncomputable def o29P (P : Params) : Obj := ⟨.none, none, .fields ⟨[]⟩, ⟨[]⟩⟩
noncomputable def tr0 (P : Params) : BT := (.node (o0 P) (.node (o1 P) (.node (o3Z P) (.node (o7 P) (.node (o15 P) .nil .nil) (.node (o23 P) .nil .nil)) (.node (o11 P) (.node (o19 P) .nil .nil) (.node (o27 P) .nil .nil))) (.node (o5 P) (.node (o9 P) (.node (o17 P) .nil .nil) (.node (o25 P) .nil .nil)) (.node (o13 P) (.node (o21 P) .nil .nil) .nil))) (.node (o2 P) (.node (o4 P) (.node (o8 P) (.node (o16 P) .nil .nil) (.node (o24 P) .nil .nil)) (.node (o12 P) (.node (o20 P) .nil .nil) .nil)) (.node (o6 P) (.node (o10 P) (.node (o18 P) .nil .nil) (.node (o26 P) .nil .nil)) (.node (o14 P) (.node (o22 P) .nil .nil) .nil))))
noncomputable def hp0 (P : Params) : Heap := ⟨⟨[o0 P, o1 P, o2 P, o3Z P, o4 P, o5 P, o6 P, o7 P, o8 P, o9 P, o10 P, o11 P, o12 P, o13 P, o14 P, o15 P, o16 P, o17 P, o18 P, o19 P, o20 P, o21 P, o22 P, o23 P, o24 P, o25 P, o26 P, o27 P]⟩, {}⟩
-- 0: size 28 toks 276
noncomputable def trA (P : Params) : BT := (.node (o0 P) (.node (o1 P) (.node (o3A P) (.node (o7 P) (.node (o15 P) (.node (o31 P) (.node (o63 P) .nil .nil) .nil) (.node (o47 P) (.node (o79 P) .nil .nil) .nil)) (.node (o23 P) (.node (o39 P) (.node (o71 P) .nil .nil) .nil) (.node (o55 P) (.node (o87 P) .nil .nil) .nil))) (.node (o11 P) (.node (o19 P) (.node (o35 P) (.node (o67 P) .nil .nil) .nil) (.node (o51 P) (.node (o83 P) .nil .nil) .nil)) (.node (o27 P) (.node (o43 P) (.node (o75 P) .nil .nil) .nil) (.node (o59 P) .nil .nil)))) (.node (o5 P) (.node (o9 P) (.node (o17 P) (.node (o33 P) (.node (o65 P) .nil .nil) .nil) (.node (o49 P) (.node (o81 P) .nil .nil) .nil)) (.node (o25 P) (.node (o41 P) (.node (o73 P) .nil .nil) .nil) (.node (o57 P) (.node (o89 P) .nil .nil) .nil))) (.node (o13 P) (.node (o21 P) (.node (o37 P) (.node (o69 P) .nil .nil) .nil) (.node (o53 P) (.node (o85 P) .nil .nil) .nil)) (.node (o29A P) (.node (o45 P) (.node (o77 P) .nil .nil) .nil) (.node (o61 P) .nil .nil))))) (.node (o2 P) (.node (o4 P) (.node (o8 P) (.node (o16 P) (.node (o32 P) (.node (o64 P) .nil .nil) .nil) (.node (o48 P) (.node (o80 P) .nil .nil) .nil)) (.node (o24 P) (.node (o40 P) (.node (o72 P) .nil .nil) .nil) (.node (o56 P) (.node (o88 P) .nil .nil) .nil))) (.node (o12 P) (.node (o20 P) (.node (o36 P) (.node (o68 P) .nil .nil) .nil) (.node (o52 P) (.node (o84 P) .nil .nil) .nil)) (.node (o28 P) (.node (o44 P) (.node (o76 P) .nil .nil) .nil) (.node (o60 P) .nil .nil)))) (.node (o6 P) (.node (o10 P) (.node (o18 P) (.node (o34 P) (.node (o66 P) .nil .nil) .nil) (.node (o50 P) (.node (o82 P) .nil .nil) .nil)) (.node (o26 P) (.node (o42 P) (.node (o74 P) .nil .nil) .nil) (.node (o58 P) (.node (o90 P) .nil .nil) .nil))) (.node (o14 P) (.node (o22 P) (.node (o38 P) (.node (o70 P) .nil .nil) .nil) (.node (o54 P) (.node (o86 P) .nil .nil) .nil)) (.node (o30 P) (.node (o46 P) (.node (o78 P) .nil .nil) .nil) (.node (o62 P) .nil .nil))))))
noncomputable def hpA (P : Params) : Heap := ⟨⟨[o0 P, o1 P, o2 P, o3A P, o4 P, o5 P, o6 P, o7 P, o8 P, o9 P, o10 P, o11 P, o12 P, o13 P, o14 P, o15 P, o16 P, o17 P, o18 P, o19 P, o20 P, o21 P, o22 P, o23 P, o24 P, o25 P, o26 P, o27 P, o28 P, o29A P, o30 P, o31 P, o32 P, o33 P, o34 P, o35 P, o36 P, o37 P, o38 P, o39 P, o40 P, o41 P, o42 P, o43 P, o44 P, o45 P, o46 P, o47 P, o48 P, o49 P, o50 P, o51 P, o52 P, o53 P, o54 P, o55 P, o56 P, o57 P, o58 P, o59 P, o60 P, o61 P, o62 P, o63 P, o64 P, o65 P, o66 P, o67 P, o68 P, o69 P, o70 P, o71 P, o72 P, o73 P, o74 P, o75 P, o76 P, o77 P, o78 P, o79 P, o80 P, o81 P, o82 P, o83 P, o84 P, o85 P, o86 P, o87 P, o88 P, o89 P, o90 P]⟩, {}⟩
-- A: size 91 toks 410
noncomputable def trB (P : Params) : BT := (.node (o0 P) (.node (o1 P) (.node (o3B P) (.node (o7 P) (.node (o15 P) (.node (o31 P) (.node (o63 P) .nil .nil) (.node (o95 P) .nil .nil)) (.node (o47 P) (.node (o79 P) .nil .nil) .nil)) (.node (o23 P) (.node (o39 P) (.node (o71 P) .nil .nil) .nil) (.node (o55 P) (.node (o87 P) .nil .nil) .nil))) (.node (o11 P) (.node (o19 P) (.node (o35 P) (.node (o67 P) .nil .nil) (.node (o99 P) .nil .nil)) (.node (o51 P) (.node (o83 P) .nil .nil) .nil)) (.node (o27 P) (.node (o43 P) (.node (o75 P) .nil .nil) .nil) (.node (o59 P) (.node (o91 P) .nil .nil) .nil)))) (.node (o5 P) (.node (o9 P) (.node (o17 P) (.node (o33 P) (.node (o65 P) .nil .nil) (.node (o97 P) .nil .nil)) (.node (o49 P) (.node (o81 P) .nil .nil) .nil)) (.node (o25 P) (.node (o41 P) (.node (o73 P) .nil .nil) .nil) (.node (o57 P) (.node (o89 P) .nil .nil) .nil))) (.node (o13 P) (.node (o21 P) (.node (o37 P) (.node (o69 P) .nil .nil) (.node (o101 P) .nil .nil)) (.node (o53 P) (.node (o85 P) .nil .nil) .nil)) (.node (o29B P) (.node (o45 P) (.node (o77 P) .nil .nil) .nil) (.node (o61 P) (.node (o93 P) .nil .nil) .nil))))) (.node (o2 P) (.node (o4 P) (.node (o8 P) (.node (o16 P) (.node (o32 P) (.node (o64 P) .nil .nil) (.node (o96 P) .nil .nil)) (.node (o48 P) (.node (o80 P) .nil .nil) .nil)) (.node (o24 P) (.node (o40 P) (.node (o72 P) .nil .nil) .nil) (.node (o56 P) (.node (o88 P) .nil .nil) .nil))) (.node (o12 P) (.node (o20 P) (.node (o36 P) (.node (o68 P) .nil .nil) (.node (o100 P) .nil .nil)) (.node (o52 P) (.node (o84 P) .nil .nil) .nil)) (.node (o28 P) (.node (o44 P) (.node (o76 P) .nil .nil) .nil) (.node (o60 P) (.node (o92 P) .nil .nil) .nil)))) (.node (o6 P) (.node (o10 P) (.node (o18 P) (.node (o34 P) (.node (o66 P) .nil .nil) (.node (o98 P) .nil .nil)) (.node (o50 P) (.node (o82 P) .nil .nil) .nil)) (.node (o26 P) (.node (o42 P) (.node (o74 P) .nil .nil) .nil) (.node (o58 P) (.node (o90 P) .nil .nil) .nil))) (.node (o14 P) (.node (o22 P) (.node (o38 P) (.node (o70 P) .nil .nil) .nil) (.node (o54 P) (.node (o86 P) .nil .nil) .nil)) (.node (o30 P) (.node (o46 P) (.node (o78 P) .nil .nil) .nil) (.node (o62 P) (.node (o94 P) .nil .nil) .nil))))))
noncomputable def hpB (P : Params) : Heap := ⟨⟨[o0 P, o1 P, o2 P, o3B P, o4 P, o5 P, o6 P, o7 P, o8 P, o9 P, o10 P, o11 P, o12 P, o13 P, o14 P, o15 P, o16 P, o17 P, o18 P, o19 P, o20 P, o21 P, o22 P, o23 P, o24 P, o25 P, o26 P, o27 P, o28 P, o29B P, o30 P, o31 P, o32 P, o33 P, o34 P, o35 P, o36 P, o37 P, o38 P, o39 P, o40 P, o41 P, o42 P, o43 P, o44 P, o45 P, o46 P, o47 P, o48 P, o49 P, o50 P, o51 P, o52 P, o53 P, o54 P, o55 P, o56 P, o57 P, o58 P, o59 P, o60 P, o61 P, o62 P, o63 P, o64 P, o65 P, o66 P, o67 P, o68 P, o69 P, o70 P, o71 P, o72 P, o73 P, o74 P, o75 P, o76 P, o77 P, o78 P, o79 P, o80 P, o81 P, o82 P, o83 P, o84 P, o85 P, o86 P, o87 P, o88 P, o89 P, o90 P, o91 P, o92 P, o93 P, o94 P, o95 P, o96 P, o97 P, o98 P, o99 P, o100 P, o101 P]⟩, {}⟩
-- B: size 102 toks 470
noncomputable def trC (P : Params) : BT := (.node (o0 P) (.node (o1 P) (.node (o3C P) (.node (o7 P) (.node (o15 P) (.node (o31 P) (.node (o63 P) .nil .nil) (.node (o95 P) .nil .nil)) (.node (o47 P) (.node (o79 P) .nil .nil) .nil)) (.node (o23 P) (.node (o39 P) (.node (o71 P) .nil .nil) (.node (o103 P) .nil .nil)) (.node (o55 P) (.node (o87 P) .nil .nil) .nil))) (.node (o11 P) (.node (o19 P) (.node (o35 P) (.node (o67 P) .nil .nil) (.node (o99 P) .nil .nil)) (.node (o51 P) (.node (o83 P) .nil .nil) .nil)) (.node (o27 P) (.node (o43 P) (.node (o75 P) .nil .nil) (.node (o107 P) .nil .nil)) (.node (o59 P) (.node (o91 P) .nil .nil) .nil)))) (.node (o5 P) (.node (o9 P) (.node (o17 P) (.node (o33 P) (.node (o65 P) .nil .nil) (.node (o97 P) .nil .nil)) (.node (o49 P) (.node (o81 P) .nil .nil) .nil)) (.node (o25 P) (.node (o41 P) (.node (o73 P) .nil .nil) (.node (o105 P) .nil .nil)) (.node (o57 P) (.node (o89 P) .nil .nil) .nil))) (.node (o13 P) (.node (o21 P) (.node (o37 P) (.node (o69 P) .nil .nil) (.node (o101 P) .nil .nil)) (.node (o53 P) (.node (o85 P) .nil .nil) .nil)) (.node (o29C P) (.node (o45 P) (.node (o77 P) .nil .nil) .nil) (.node (o61 P) (.node (o93 P) .nil .nil) .nil))))) (.node (o2 P) (.node (o4 P) (.node (o8 P) (.node (o16 P) (.node (o32 P) (.node (o64 P) .nil .nil) (.node (o96 P) .nil .nil)) (.node (o48 P) (.node (o80 P) .nil .nil) .nil)) (.node (o24 P) (.node (o40 P) (.node (o72 P) .nil .nil) (.node (o104 P) .nil .nil)) (.node (o56 P) (.node (o88 P) .nil .nil) .nil))) (.node (o12 P) (.node (o20 P) (.node (o36 P) (.node (o68 P) .nil .nil) (.node (o100 P) .nil .nil)) (.node (o52 P) (.node (o84 P) .nil .nil) .nil)) (.node (o28 P) (.node (o44 P) (.node (o76 P) .nil .nil) (.node (o108 P) .nil .nil)) (.node (o60 P) (.node (o92 P) .nil .nil) .nil)))) (.node (o6 P) (.node (o10 P) (.node (o18 P) (.node (o34 P) (.node (o66 P) .nil .nil) (.node (o98 P) .nil .nil)) (.node (o50 P) (.node (o82 P) .nil .nil) .nil)) (.node (o26 P) (.node (o42 P) (.node (o74 P) .nil .nil) (.node (o106 P) .nil .nil)) (.node (o58 P) (.node (o90 P) .nil .nil) .nil))) (.node (o14 P) (.node (o22 P) (.node (o38 P) (.node (o70 P) .nil .nil) (.node (o102 P) .nil .nil)) (.node (o54 P) (.node (o86 P) .nil .nil) .nil)) (.node (o30 P) (.node (o46 P) (.node (o78 P) .nil .nil) .nil) (.node (o62 P) (.node (o94 P) .nil .nil) .nil))))))
noncomputable def hpC (P : Params) : Heap := ⟨⟨[o0 P, o1 P, o2 P, o3C P, o4 P, o5 P, o6 P, o7 P, o8 P, o9 P, o10 P, o11 P, o12 P, o13 P, o14 P, o15 P, o16 P, o17 P, o18 P, o19 P, o20 P, o21 P, o22 P, o23 P, o24 P, o25 P, o26 P, o27 P, o28 P, o29C P, o30 P, o31 P, o32 P, o33 P, o34 P, o35 P, o36 P, o37 P, o38 P, o39 P, o40 P, o41 P, o42 P, o43 P, o44 P, o45 P, o46 P, o47 P, o48 P, o49 P, o50 P, o51 P, o52 P, o53 P, o54 P, o55 P, o56 P, o57 P, o58 P, o59 P, o60 P, o61 P, o62 P, o63 P, o64 P, o65 P, o66 P, o67 P, o68 P, o69 P, o70 P, o71 P, o72 P, o73 P, o74 P, o75 P, o76 P, o77 P, o78 P, o79 P, o80 P, o81 P, o82 P, o83 P, o84 P, o85 P, o86 P, o87 P, o88 P, o89 P, o90 P, o91 P, o92 P, o93 P, o94 P, o95 P, o96 P, o97 P, o98 P, o99 P, o100 P, o101 P, o102 P, o103 P, o104 P, o105 P, o106 P, o107 P, o108 P]⟩, {}⟩
-- C: size 109 toks 477
noncomputable def trD (P : Params) : BT := (.node (o0 P) (.node (o1 P) (.node (o3D P) (.node (o7 P) (.node (o15 P) (.node (o31 P) (.node (o63 P) (.node (oD 18 P) .nil .nil) .nil) (.node (o95 P) .nil .nil)) (.node (o47 P) (.node (o79 P) (.node (oD 34 P) .nil .nil) .nil) (.node (oD 2 P) .nil .nil))) (.node (o23 P) (.node (o39 P) (.node (o71 P) (.node (oD 26 P) .nil .nil) .nil) (.node (o103 P) .nil .nil)) (.node (o55 P) (.node (o87 P) .nil .nil) (.node (oD 10 P) .nil .nil)))) (.node (o11 P) (.node (o19 P) (.node (o35 P) (.node (o67 P) (.node (oD 22 P) .nil .nil) .nil) (.node (o99 P) .nil .nil)) (.node (o51 P) (.node (o83 P) (.node (oD 38 P) .nil .nil) .nil) (.node (oD 6 P) .nil .nil))) (.node (o27 P) (.node (o43 P) (.node (o75 P) (.node (oD 30 P) .nil .nil) .nil) (.node (o107 P) .nil .nil)) (.node (o59 P) (.node (o91 P) .nil .nil) (.node (oD 14 P) .nil .nil))))) (.node (o5 P) (.node (o9 P) (.node (o17 P) (.node (o33 P) (.node (o65 P) (.node (oD 20 P) .nil .nil) .nil) (.node (o97 P) .nil .nil)) (.node (o49 P) (.node (o81 P) (.node (oD 36 P) .nil .nil) .nil) (.node (oD 4 P) .nil .nil))) (.node (o25 P) (.node (o41 P) (.node (o73 P) (.node (oD 28 P) .nil .nil) .nil) (.node (o105 P) .nil .nil)) (.node (o57 P) (.node (o89 P) .nil .nil) (.node (oD 12 P) .nil .nil)))) (.node (o13 P) (.node (o21 P) (.node (o37 P) (.node (o69 P) (.node (oD 24 P) .nil .nil) .nil) (.node (o101 P) .nil .nil)) (.node (o53 P) (.node (o85 P) .nil .nil) (.node (oD 8 P) .nil .nil))) (.node (o29D P) (.node (o45 P) (.node (o77 P) (.node (oD 32 P) .nil .nil) .nil) (.node (oD 0 P) .nil .nil)) (.node (o61 P) (.node (o93 P) .nil .nil) (.node (oD 16 P) .nil .nil)))))) (.node (o2 P) (.node (o4 P) (.node (o8 P) (.node (o16 P) (.node (o32 P) (.node (o64 P) (.node (oD 19 P) .nil .nil) .nil) (.node (o96 P) .nil .nil)) (.node (o48 P) (.node (o80 P) (.node (oD 35 P) .nil .nil) .nil) (.node (oD 3 P) .nil .nil))) (.node (o24 P) (.node (o40 P) (.node (o72 P) (.node (oD 27 P) .nil .nil) .nil) (.node (o104 P) .nil .nil)) (.node (o56 P) (.node (o88 P) .nil .nil) (.node (oD 11 P) .nil .nil)))) (.node (o12 P) (.node (o20 P) (.node (o36 P) (.node (o68 P) (.node (oD 23 P) .nil .nil) .nil) (.node (o100 P) .nil .nil)) (.node (o52 P) (.node (o84 P) .nil .nil) (.node (oD 7 P) .nil .nil))) (.node (o28 P) (.node (o44 P) (.node (o76 P) (.node (oD 31 P) .nil .nil) .nil) (.node (o108 P) .nil .nil)) (.node (o60 P) (.node (o92 P) .nil .nil) (.node (oD 15 P) .nil .nil))))) (.node (o6 P) (.node (o10 P) (.node (o18 P) (.node (o34 P) (.node (o66 P) (.node (oD 21 P) .nil .nil) .nil) (.node (o98 P) .nil .nil)) (.node (o50 P) (.node (o82 P) (.node (oD 37 P) .nil .nil) .nil) (.node (oD 5 P) .nil .nil))) (.node (o26 P) (.node (o42 P) (.node (o74 P) (.node (oD 29 P) .nil .nil) .nil) (.node (o106 P) .nil .nil)) (.node (o58 P) (.node (o90 P) .nil .nil) (.node (oD 13 P) .nil .nil)))) (.node (o14 P) (.node (o22 P) (.node (o38 P) (.node (o70 P) (.node (oD 25 P) .nil .nil) .nil) (.node (o102 P) .nil .nil)) (.node (o54 P) (.node (o86 P) .nil .nil) (.node (oD 9 P) .nil .nil))) (.node (o30 P) (.node (o46 P) (.node (o78 P) (.node (oD 33 P) .nil .nil) .nil) (.node (oD 1 P) .nil .nil)) (.node (o62 P) (.node (o94 P) .nil .nil) (.node (oD 17 P) .nil .nil)))))))
noncomputable def trD0 (P : Params) : BT := (.node (o0 P) (.node (o1 P) (.node (o3C P) (.node (o7 P) (.node (o15 P) (.node (o31 P) (.node (o63 P) (.node (oD 18 P) .nil .nil) .nil) (.node (o95 P) .nil .nil)) (.node (o47 P) (.node (o79 P) (.node (oD 34 P) .nil .nil) .nil) (.node (oD 2 P) .nil .nil))) (.node (o23 P) (.node (o39 P) (.node (o71 P) (.node (oD 26 P) .nil .nil) .nil) (.node (o103 P) .nil .nil)) (.node (o55 P) (.node (o87 P) .nil .nil) (.node (oD 10 P) .nil .nil)))) (.node (o11 P) (.node (o19 P) (.node (o35 P) (.node (o67 P) (.node (oD 22 P) .nil .nil) .nil) (.node (o99 P) .nil .nil)) (.node (o51 P) (.node (o83 P) (.node (oD 38 P) .nil .nil) .nil) (.node (oD 6 P) .nil .nil))) (.node (o27 P) (.node (o43 P) (.node (o75 P) (.node (oD 30 P) .nil .nil) .nil) (.node (o107 P) .nil .nil)) (.node (o59 P) (.node (o91 P) .nil .nil) (.node (oD 14 P) .nil .nil))))) (.node (o5 P) (.node (o9 P) (.node (o17 P) (.node (o33 P) (.node (o65 P) (.node (oD 20 P) .nil .nil) .nil) (.node (o97 P) .nil .nil)) (.node (o49 P) (.node (o81 P) (.node (oD 36 P) .nil .nil) .nil) (.node (oD 4 P) .nil .nil))) (.node (o25 P) (.node (o41 P) (.node (o73 P) (.node (oD 28 P) .nil .nil) .nil) (.node (o105 P) .nil .nil)) (.node (o57 P) (.node (o89 P) .nil .nil) (.node (oD 12 P) .nil .nil)))) (.node (o13 P) (.node (o21 P) (.node (o37 P) (.node (o69 P) (.node (oD 24 P) .nil .nil) .nil) (.node (o101 P) .nil .nil)) (.node (o53 P) (.node (o85 P) .nil .nil) (.node (oD 8 P) .nil .nil))) (.node (o29C P) (.node (o45 P) (.node (o77 P) (.node (oD 32 P) .nil .nil) .nil) (.node (oD 0 P) .nil .nil)) (.node (o61 P) (.node (o93 P) .nil .nil) (.node (oD 16 P) .nil .nil)))))) (.node (o2 P) (.node (o4 P) (.node (o8 P) (.node (o16 P) (.node (o32 P) (.node (o64 P) (.node (oD 19 P) .nil .nil) .nil) (.node (o96 P) .nil .nil)) (.node (o48 P) (.node (o80 P) (.node (oD 35 P) .nil .nil) .nil) (.node (oD 3 P) .nil .nil))) (.node (o24 P) (.node (o40 P) (.node (o72 P) (.node (oD 27 P) .nil .nil) .nil) (.node (o104 P) .nil .nil)) (.node (o56 P) (.node (o88 P) .nil .nil) (.node (oD 11 P) .nil .nil)))) (.node (o12 P) (.node (o20 P) (.node (o36 P) (.node (o68 P) (.node (oD 23 P) .nil .nil) .nil) (.node (o100 P) .nil .nil)) (.node (o52 P) (.node (o84 P) .nil .nil) (.node (oD 7 P) .nil .nil))) (.node (o28 P) (.node (o44 P) (.node (o76 P) (.node (oD 31 P) .nil .nil) .nil) (.node (o108 P) .nil .nil)) (.node (o60 P) (.node (o92 P) .nil .nil) (.node (oD 15 P) .nil .nil))))) (.node (o6 P) (.node (o10 P) (.node (o18 P) (.node (o34 P) (.node (o66 P) (.node (oD 21 P) .nil .nil) .nil) (.node (o98 P) .nil .nil)) (.node (o50 P) (.node (o82 P) (.node (oD 37 P) .nil .nil) .nil) (.node (oD 5 P) .nil .nil))) (.node (o26 P) (.node (o42 P) (.node (o74 P) (.node (oD 29 P) .nil .nil) .nil) (.node (o106 P) .nil .nil)) (.node (o58 P) (.node (o90 P) .nil .nil) (.node (oD 13 P) .nil .nil)))) (.node (o14 P) (.node (o22 P) (.node (o38 P) (.node (o70 P) (.node (oD 25 P) .nil .nil) .nil) (.node (o102 P) .nil .nil)) (.node (o54 P) (.node (o86 P) .nil .nil) (.node (oD 9 P) .nil .nil))) (.node (o30 P) (.node (o46 P) (.node (o78 P) (.node (oD 33 P) .nil .nil) .nil) (.node (oD 1 P) .nil .nil)) (.node (o62 P) (.node (o94 P) .nil .nil) (.node (oD 17 P) .nil .nil)))))))
noncomputable def hpD (P : Params) : Heap := ⟨⟨[o0 P, o1 P, o2 P, o3D P, o4 P, o5 P, o6 P, o7 P, o8 P, o9 P, o10 P, o11 P, o12 P, o13 P, o14 P, o15 P, o16 P, o17 P, o18 P, o19 P, o20 P, o21 P, o22 P, o23 P, o24 P, o25 P, o26 P, o27 P, o28 P, o29D P, o30 P, o31 P, o32 P, o33 P, o34 P, o35 P, o36 P, o37 P, o38 P, o39 P, o40 P, o41 P, o42 P, o43 P, o44 P, o45 P, o46 P, o47 P, o48 P, o49 P, o50 P, o51 P, o52 P, o53 P, o54 P, o55 P, o56 P, o57 P, o58 P, o59 P, o60 P, o61 P, o62 P, o63 P, o64 P, o65 P, o66 P, o67 P, o68 P, o69 P, o70 P, o71 P, o72 P, o73 P, o74 P, o75 P, o76 P, o77 P, o78 P, o79 P, o80 P, o81 P, o82 P, o83 P, o84 P, o85 P, o86 P, o87 P, o88 P, o89 P, o90 P, o91 P, o92 P, o93 P, o94 P, o95 P, o96 P, o97 P, o98 P, o99 P, o100 P, o101 P, o102 P, o103 P, o104 P, o105 P, o106 P, o107 P, o108 P, oD 0 P, oD 1 P, oD 2 P, oD 3 P, oD 4 P, oD 5 P, oD 6 P, oD 7 P, oD 8 P, oD 9 P, oD 10 P, oD 11 P, oD 12 P, oD 13 P, oD 14 P, oD 15 P, oD 16 P, oD 17 P, oD 18 P, oD 19 P, oD 20 P, oD 21 P, oD 22 P, oD 23 P, oD 24 P, oD 25 P, oD 26 P, oD 27 P, oD 28 P, oD 29 P, oD 30 P, oD 31 P, oD 32 P, oD 33 P, oD 34 P, oD 35 P, oD 36 P, oD 37 P, oD 38 P]⟩, {}⟩
-- D: size 148 toks 2428
noncomputable def trE (P : Params) : BT := (.node (o0 P) (.node (o1 P) (.node (o3E P) (.node (o7 P) (.node (o15 P) (.node (o31 P) (.node (o63 P) (.node (oD 18 P) .nil .nil) (.node (o191 P) .nil .nil)) (.node (o95 P) (.node (o159 P) .nil .nil) .nil)) (.node (o47 P) (.node (o79 P) (.node (oD 34 P) .nil .nil) .nil) (.node (oD 2 P) (.node (o175 P) .nil .nil) .nil))) (.node (o23 P) (.node (o39 P) (.node (o71 P) (.node (oD 26 P) .nil .nil) (.node (o199 P) .nil .nil)) (.node (o103 P) (.node (o167 P) .nil .nil) .nil)) (.node (o55 P) (.node (o87 P) (.node (o151 P) .nil .nil) .nil) (.node (oD 10 P) (.node (o183 P) .nil .nil) .nil)))) (.node (o11 P) (.node (o19 P) (.node (o35 P) (.node (o67 P) (.node (oD 22 P) .nil .nil) (.node (o195 P) .nil .nil)) (.node (o99 P) (.node (o163 P) .nil .nil) .nil)) (.node (o51 P) (.node (o83 P) (.node (oD 38 P) .nil .nil) .nil) (.node (oD 6 P) (.node (o179 P) .nil .nil) .nil))) (.node (o27 P) (.node (o43 P) (.node (o75 P) (.node (oD 30 P) .nil .nil) .nil) (.node (o107 P) (.node (o171 P) .nil .nil) .nil)) (.node (o59 P) (.node (o91 P) (.node (o155 P) .nil .nil) .nil) (.node (oD 14 P) (.node (o187 P) .nil .nil) .nil))))) (.node (o5 P) (.node (o9 P) (.node (o17 P) (.node (o33 P) (.node (o65 P) (.node (oD 20 P) .nil .nil) (.node (o193 P) .nil .nil)) (.node (o97 P) (.node (o161 P) .nil .nil) .nil)) (.node (o49 P) (.node (o81 P) (.node (oD 36 P) .nil .nil) .nil) (.node (oD 4 P) (.node (o177 P) .nil .nil) .nil))) (.node (o25 P) (.node (o41 P) (.node (o73 P) (.node (oD 28 P) .nil .nil) .nil) (.node (o105 P) (.node (o169 P) .nil .nil) .nil)) (.node (o57 P) (.node (o89 P) (.node (o153 P) .nil .nil) .nil) (.node (oD 12 P) (.node (o185 P) .nil .nil) .nil)))) (.node (o13 P) (.node (o21 P) (.node (o37 P) (.node (o69 P) (.node (oD 24 P) .nil .nil) (.node (o197 P) .nil .nil)) (.node (o101 P) (.node (o165 P) .nil .nil) .nil)) (.node (o53 P) (.node (o85 P) (.node (o149 P) .nil .nil) .nil) (.node (oD 8 P) (.node (o181 P) .nil .nil) .nil))) (.node (o29E P) (.node (o45 P) (.node (o77 P) (.node (oD 32 P) .nil .nil) .nil) (.node (oD 0 P) (.node (o173 P) .nil .nil) .nil)) (.node (o61 P) (.node (o93 P) (.node (o157 P) .nil .nil) .nil) (.node (oD 16 P) (.node (o189 P) .nil .nil) .nil)))))) (.node (o2 P) (.node (o4 P) (.node (o8 P) (.node (o16 P) (.node (o32 P) (.node (o64 P) (.node (oD 19 P) .nil .nil) (.node (o192 P) .nil .nil)) (.node (o96 P) (.node (o160 P) .nil .nil) .nil)) (.node (o48 P) (.node (o80 P) (.node (oD 35 P) .nil .nil) .nil) (.node (oD 3 P) (.node (o176 P) .nil .nil) .nil))) (.node (o24 P) (.node (o40 P) (.node (o72 P) (.node (oD 27 P) .nil .nil) .nil) (.node (o104 P) (.node (o168 P) .nil .nil) .nil)) (.node (o56 P) (.node (o88 P) (.node (o152 P) .nil .nil) .nil) (.node (oD 11 P) (.node (o184 P) .nil .nil) .nil)))) (.node (o12 P) (.node (o20 P) (.node (o36 P) (.node (o68 P) (.node (oD 23 P) .nil .nil) (.node (o196 P) .nil .nil)) (.node (o100 P) (.node (o164 P) .nil .nil) .nil)) (.node (o52 P) (.node (o84 P) (.node (o148 P) .nil .nil) .nil) (.node (oD 7 P) (.node (o180 P) .nil .nil) .nil))) (.node (o28 P) (.node (o44 P) (.node (o76 P) (.node (oD 31 P) .nil .nil) .nil) (.node (o108 P) (.node (o172 P) .nil .nil) .nil)) (.node (o60 P) (.node (o92 P) (.node (o156 P) .nil .nil) .nil) (.node (oD 15 P) (.node (o188 P) .nil .nil) .nil))))) (.node (o6 P) (.node (o10 P) (.node (o18 P) (.node (o34 P) (.node (o66 P) (.node (oD 21 P) .nil .nil) (.node (o194 P) .nil .nil)) (.node (o98 P) (.node (o162 P) .nil .nil) .nil)) (.node (o50 P) (.node (o82 P) (.node (oD 37 P) .nil .nil) .nil) (.node (oD 5 P) (.node (o178 P) .nil .nil) .nil))) (.node (o26 P) (.node (o42 P) (.node (o74 P) (.node (oD 29 P) .nil .nil) .nil) (.node (o106 P) (.node (o170 P) .nil .nil) .nil)) (.node (o58 P) (.node (o90 P) (.node (o154 P) .nil .nil) .nil) (.node (oD 13 P) (.node (o186 P) .nil .nil) .nil)))) (.node (o14 P) (.node (o22 P) (.node (o38 P) (.node (o70 P) (.node (oD 25 P) .nil .nil) (.node (o198 P) .nil .nil)) (.node (o102 P) (.node (o166 P) .nil .nil) .nil)) (.node (o54 P) (.node (o86 P) (.node (o150 P) .nil .nil) .nil) (.node (oD 9 P) (.node (o182 P) .nil .nil) .nil))) (.node (o30 P) (.node (o46 P) (.node (o78 P) (.node (oD 33 P) .nil .nil) .nil) (.node (oD 1 P) (.node (o174 P) .nil .nil) .nil)) (.node (o62 P) (.node (o94 P) (.node (o158 P) .nil .nil) .nil) (.node (oD 17 P) (.node (o190 P) .nil .nil) .nil)))))))
noncomputable def hpE (P : Params) : Heap := ⟨⟨[o0 P, o1 P, o2 P, o3E P, o4 P, o5 P, o6 P, o7 P, o8 P, o9 P, o10 P, o11 P, o12 P, o13 P, o14 P, o15 P, o16 P, o17 P, o18 P, o19 P, o20 P, o21 P, o22 P, o23 P, o24 P, o25 P, o26 P, o27 P, o28 P, o29E P, o30 P, o31 P, o32 P, o33 P, o34 P, o35 P, o36 P, o37 P, o38 P, o39 P, o40 P, o41 P, o42 P, o43 P, o44 P, o45 P, o46 P, o47 P, o48 P, o49 P, o50 P, o51 P, o52 P, o53 P, o54 P, o55 P, o56 P, o57 P, o58 P, o59 P, o60 P, o61 P, o62 P, o63 P, o64 P, o65 P, o66 P, o67 P, o68 P, o69 P, o70 P, o71 P, o72 P, o73 P, o74 P, o75 P, o76 P, o77 P, o78 P, o79 P, o80 P, o81 P, o82 P, o83 P, o84 P, o85 P, o86 P, o87 P, o88 P, o89 P, o90 P, o91 P, o92 P, o93 P, o94 P, o95 P, o96 P, o97 P, o98 P, o99 P, o100 P, o101 P, o102 P, o103 P, o104 P, o105 P, o106 P, o107 P, o108 P, oD 0 P, oD 1 P, oD 2 P, oD 3 P, oD 4 P, oD 5 P, oD 6 P, oD 7 P, oD 8 P, oD 9 P, oD 10 P, oD 11 P, oD 12 P, oD 13 P, oD 14 P, oD 15 P, oD 16 P, oD 17 P, oD 18 P, oD 19 P, oD 20 P, oD 21 P, oD 22 P, oD 23 P, oD 24 P, oD 25 P, oD 26 P, oD 27 P, oD 28 P, oD 29 P, oD 30 P, oD 31 P, oD 32 P, oD 33 P, oD 34 P, oD 35 P, oD 36 P, oD 37 P, oD 38 P, o148 P, o149 P, o150 P, o151 P, o152 P, o153 P, o154 P, o155 P, o156 P, o157 P, o158 P, o159 P, o160 P, o161 P, o162 P, o163 P, o164 P, o165 P, o166 P, o167 P, o168 P, o169 P, o170 P, o171 P, o172 P, o173 P, o174 P, o175 P, o176 P, o177 P, o178 P, o179 P, o180 P, o181 P, o182 P, o183 P, o184 P, o185 P, o186 P, o187 P, o188 P, o189 P, o190 P, o191 P, o192 P, o193 P, o194 P, o195 P, o196 P, o197 P, o198 P, o199 P]⟩, {}⟩
-- E: size 200 toks 2511
noncomputable def trP (P : Params) : BT := (.node (o0 P) (.node (o1 P) (.node (o3Z P) (.node (o7 P) (.node (o15 P) (.node (o31 P) .nil .nil) .nil) (.node (o23 P) .nil .nil)) (.node (o11 P) (.node (o19 P) .nil .nil) (.node (o27 P) .nil .nil))) (.node (o5 P) (.node (o9 P) (.node (o17 P) .nil .nil) (.node (o25 P) .nil .nil)) (.node (o13 P) (.node (o21 P) .nil .nil) (.node (o29P P) .nil .nil)))) (.node (o2 P) (.node (o4 P) (.node (o8 P) (.node (o16 P) .nil .nil) (.node (o24 P) .nil .nil)) (.node (o12 P) (.node (o20 P) .nil .nil) (.node (o28 P) .nil .nil))) (.node (o6 P) (.node (o10 P) (.node (o18 P) .nil .nil) (.node (o26 P) .nil .nil)) (.node (o14 P) (.node (o22 P) .nil .nil) (.node (o30 P) .nil .nil)))))
noncomputable def hpP (P : Params) : Heap := ⟨⟨[o0 P, o1 P, o2 P, o3Z P, o4 P, o5 P, o6 P, o7 P, o8 P, o9 P, o10 P, o11 P, o12 P, o13 P, o14 P, o15 P, o16 P, o17 P, o18 P, o19 P, o20 P, o21 P, o22 P, o23 P, o24 P, o25 P, o26 P, o27 P, o28 P, o29P P, o30 P, o31 P]⟩, {}⟩
-- P: size 32 toks 282
noncomputable def oX11 (P : Params) : Obj := ⟨.type "dict", none, .dict ⟨[⟨PyData.keyHash P ⟨⟨[95, 95, 110, 97, 109, 101, 95, 95]⟩⟩, .str ⟨⟨[95, 95, 110, 97, 109, 101, 95, 95]⟩⟩ 247, .str ⟨⟨[95, 115, 114, 101]⟩⟩ 246⟩, ⟨PyData.keyHash P ⟨⟨[95, 95, 100, 111, 99, 95, 95]⟩⟩, .str ⟨⟨[95, 95, 100, 111, 99, 95, 95]⟩⟩ 248, .none⟩, ⟨PyData.keyHash P ⟨⟨[95, 95, 112, 97, 99, 107, 97, 103, 101, 95, 95]⟩⟩, .str ⟨⟨[95, 95, 112, 97, 99, 107, 97, 103, 101, 95, 95]⟩⟩ 250, .str ⟨⟨[]⟩⟩ 249⟩, ⟨PyData.keyHash P ⟨⟨[95, 95, 108, 111, 97, 100, 101, 114, 95, 95]⟩⟩, .str ⟨⟨[95, 95, 108, 111, 97, 100, 101, 114, 95, 95]⟩⟩ 251, .ref 14⟩, ⟨PyData.keyHash P ⟨⟨[95, 95, 115, 112, 101, 99, 95, 95]⟩⟩, .str ⟨⟨[95, 95, 115, 112, 101, 99, 95, 95]⟩⟩ 252, .ref 26⟩, ⟨PyData.keyHash P ⟨⟨[99, 111, 109, 112, 105, 108, 101]⟩⟩, .str ⟨⟨[99, 111, 109, 112, 105, 108, 101]⟩⟩ 253, .builtin "_sre.compile"⟩, ⟨PyData.keyHash P ⟨⟨[116, 101, 109, 112, 108, 97, 116, 101]⟩⟩, .str ⟨⟨[116, 101, 109, 112, 108, 97, 116, 101]⟩⟩ 254, .builtin "_sre.template"⟩, ⟨PyData.keyHash P ⟨⟨[103, 101, 116, 99, 111, 100, 101, 115, 105, 122, 101]⟩⟩, .str ⟨⟨[103, 101, 116, 99, 111, 100, 101, 115, 105, 122, 101]⟩⟩ 255, .builtin "_sre.getcodesize"⟩, ⟨PyData.keyHash P ⟨⟨[97, 115, 99, 105, 105, 95, 105, 115, 99, 97, 115, 101, 100]⟩⟩, .str ⟨⟨[97, 115, 99, 105, 105, 95, 105, 115, 99, 97, 115, 101, 100]⟩⟩ 256, .builtin "_sre.ascii_iscased"⟩, ⟨PyData.keyHash P ⟨⟨[117, 110, 105, 99, 111, 100, 101, 95, 105, 115, 99, 97, 115, 101, 100]⟩⟩, .str ⟨⟨[117, 110, 105, 99, 111, 100, 101, 95, 105, 115, 99, 97, 115, 101, 100]⟩⟩ 257, .builtin "_sre.unicode_iscased"⟩, ⟨PyData.keyHash P ⟨⟨[97, 115, 99, 105, 105, 95, 116, 111, 108, 111, 119, 101, 114]⟩⟩, .str ⟨⟨[97, 115, 99, 105, 105, 95, 116, 111, 108, 111, 119, 101, 114]⟩⟩ 258, .builtin "_sre.ascii_tolower"⟩, ⟨PyData.keyHash P ⟨⟨[117, 110, 105, 99, 111, 100, 101, 95, 116, 111, 108, 111, 119, 101, 114]⟩⟩, .str ⟨⟨[117, 110, 105, 99, 111, 100, 101, 95, 116, 111, 108, 111, 119, 101, 114]⟩⟩ 259, .builtin "_sre.unicode_tolower"⟩, ⟨PyData.keyHash P ⟨⟨[77, 65, 71, 73, 67]⟩⟩, .str ⟨⟨[77, 65, 71, 73, 67]⟩⟩ 261, .int 20230612 260⟩, ⟨PyData.keyHash P ⟨⟨[67, 79, 68, 69, 83, 73, 90, 69]⟩⟩, .str ⟨⟨[67, 79, 68, 69, 83, 73, 90, 69]⟩⟩ 263, .int 4 262⟩, ⟨PyData.keyHash P ⟨⟨[77, 65, 88, 82, 69, 80, 69, 65, 84]⟩⟩, .str ⟨⟨[77, 65, 88, 82, 69, 80, 69, 65, 84]⟩⟩ 265, .int 4294967295 264⟩, ⟨PyData.keyHash P ⟨⟨[77, 65, 88, 71, 82, 79, 85, 80, 83]⟩⟩, .str ⟨⟨[77, 65, 88, 71, 82, 79, 85, 80, 83]⟩⟩ 267, .int 1073741823 266⟩, ⟨PyData.keyHash P ⟨⟨[99, 111, 112, 121, 114, 105, 103, 104, 116]⟩⟩, .str ⟨⟨[99, 111, 112, 121, 114, 105, 103, 104, 116]⟩⟩ 269, .str ⟨⟨[32, 83, 82, 69, 32, 50, 46, 50, 46, 50, 32, 67, 111, 112, 121, 114, 105, 103, 104, 116, 32, 40, 99, 41, 32, 49, 57, 57, 55, 45, 50, 48, 48, 50, 32, 98, 121, 32, 83, 101, 99, 114, 101, 116, 32, 76, 97, 98, 115, 32, 65, 66, 32]⟩⟩ 268⟩]⟩ 17, ⟨[]⟩⟩
noncomputable def hpX (P : Params) : Heap := ⟨⟨[o0 P, o1 P, o2 P, o3Z P, o4 P, o5 P, o6 P, o7 P, o8 P, o9 P, o10 P, oX11 P, o12 P, o13 P, o14 P, o15 P, o16 P, o17 P, o18 P, o19 P, o20 P, o21 P, o22 P, o23 P, o24 P, o25 P, o26 P, o27 P]⟩, {}⟩
-- X: size 28 toks 276 changed #[11] gens 0

end
end Mine
end
section
open PySem PySem.W PyProof.Rows
set_option Elab.async false
set_option linter.unusedVariables false
set_option maxRecDepth 100000
namespace Mine
noncomputable section
noncomputable abbrev ST (t : BT) (n tk : Nat) (os : OsState) : SharedT := ⟨t, n, {}, ⟨[]⟩, {}, tk, os⟩
theorem trC_size (P : Params) : (absHeap (trC P) 109 {}).objs.size = 109 := absHeap_size _ _ _
theorem trD_list (P : Params) : (trD0 P).list 148 = (trC P).list 109 ++ dObjs := by kernel_rfl
theorem heap_app (a b : List Obj) (l : Life) : (⟨a.toArray ++ b.toArray, l⟩ : Heap) = ⟨(a ++ b).toArray, l⟩ := by
  congr 1
  apply Array.ext'
  simp
theorem trD_heap (P : Params) : HD (absHeap (trC P) 109 {}) dObjs = absHeap (trD0 P) 148 {} := by
  unfold HD absHeap
  rw [trD_list]
  exact heap_app _ _ _
theorem dTail (w : World) (os : OsState) (p : Pos) : segRunT treeTable pw w 28 (some (.ref 6)) 1 30 (ST (trD0 w.params) 148 2427 os)
    ⟨(do standAt dTp; bindName envM dNm (.ref 109); (pure Flow.next : Sem Flow)).wrap (fun (f : Flow) => match f with | .next => (execs [] envM).wrap doneF deadEnd id id | f => doneF f) deadEnd id id, cE, p, BB⟩
    = some (.next, ST (trD w.params) 148 2428 os, cE, ⟨45,0,45,13⟩) := by
  rw [PySem.W.Fast.te10110043849684766642, PySem.W.Fast.te14364793385576792824]; kernel_rfl
theorem dExec : exec (.Assign [.Name dNm dTp] (.Dict dKs dVs dDp) dAp) envM = ((standAt dAp >>= fun _ => (standAt dDp >>= fun _ => dictDisplay ((evalEachOpt dKs envM).zip ((evalEach dVs envM).map fun v => do let x ← v; standAt dDp; pure x)))) >>= fun v => do standAt dTp; bindName envM dNm v; (pure Flow.next : Sem Flow)) := by
  have e : exec (.Assign [.Name dNm dTp] (.Dict dKs dVs dDp) dAp) envM = (do
      standAt dAp
      if ← swapsWith (.Dict dKs dVs dDp) (some (.Name dNm dTp)) dAp.line envM then
        evalThenUse (.Dict dKs dVs dDp) envM (assign (.Name dNm dTp) envM)
        return .next
      let v ← eval (.Dict dKs dVs dDp) envM
      standAt dTp
      bindName envM dNm v
      pure .next) := rfl
  have hs : swapsWith (.Dict dKs dVs dDp) (some (.Name dNm dTp)) dAp.line envM = pure false := rfl
  rw [e, hs, arm_eval_Dict]
  rfl
theorem pieceD (w : World) (os : OsState) : segRun treeTable pw w 28 (some (.ref 6)) 1 (12517 + 30) (ST (trC w.params) 109 477 os).abs (piecesOf bD envM cE ⟨43,0,44,30⟩ BB) = some (.next, (ST (trD w.params) 148 2428 os).abs, cE, ⟨45,0,45,13⟩) := by
  unfold piecesOf
  rw [bD_eq, execs_cons_wrap, dExec, Sem.bind_eq_wrap' (_ >>= _), Sem.wrap_wrap]
  have z : Sg w 12517 (standAt dAp >>= fun _ => (standAt dDp >>= fun _ => dictDisplay ((evalEachOpt dKs envM).zip ((evalEach dVs envM).map fun v => do let x ← v; standAt dDp; pure x)))) (St (absHeap (trC w.params) 109 {}) 477 os) (.ref 109) (St (HD (absHeap (trC w.params) 109 {}) dObjs) 2427 os) :=
    Sg.cast (n := 1 + (1 + 12515)) (Sg.bind Sg.standAt (Sg.bind Sg.standAt (sg_dict (trC_size _)))) rfl
  obtain ⟨p', e⟩ := z _ _ _ _ ⟨43,0,44,30⟩
  rw [trD_heap] at e
  exact seg_go e (segRun_of (dTail w os p'))
end
end Mine
end
section
open PySem PySem.W PyProof.Rows
set_option Elab.async false
set_option linter.unusedVariables false
set_option maxRecDepth 100000
namespace Mine
noncomputable section
noncomputable def bA : List Stmt := (behindTheImports pw).take 15
noncomputable def bB : List Stmt := ((behindTheImports pw).drop 15).take 1
noncomputable def bC : List Stmt := ((behindTheImports pw).drop 16).take 1
noncomputable def bE : List Stmt := (behindTheImports pw).drop 18
theorem openX (w : World) : importEnds treeTable (opening pw) w 900 (start (opening pw)).1 (start (opening pw)).2 = some ⟨hpX w.params, ⟨[]⟩, {}, 276, (start (opening pw)).1.os⟩ := by
  rw [PySem.W.Fast.te10274390034422433532, PySem.W.Fast.te14364793385576792824, PySem.W.Fast.te1435165496053646825]; kernel_rfl
theorem fenceM (w : World) (os : OsState) : (fenceModules? pw ⟨hpX w.params, ⟨[]⟩, {}, 276, os⟩).map (fun s => (s.heap, s.gens, s.drawn, s.toks)) = some (hp0 w.params, ⟨[]⟩, {}, 276) := by
  rw [PySem.W.Fast.te14289696077712309145]; kernel_rfl
theorem sizeM (w : World) : ((hp0 w.params).isNs mainGlobals && (⟨[]⟩ : Array GenState).size == 0, (hp0 w.params).objs.size, (hp0 w.params).nsMap mainGlobals "__annotations__") = (true, 28, some (.ref 6)) := by
  kernel_rfl
theorem preM (w : World) (os : OsState) : topGo treeTable pw w 28 (some (.ref 6)) 12 ⟨hp0 w.params, ⟨[]⟩, {}, 276, os⟩ (topStub pw) = some (⟨hpP w.params, ⟨[]⟩, {}, 282, os⟩, ⟨denote treeTable cE, cE, p0, [topFrame p0]⟩) := by
  rw [PySem.W.Fast.te15667345088766844465, PySem.W.Fast.te14364793385576792824, PySem.W.Fast.te11892475500146522536]; kernel_rfl
theorem blockM (w : World) (os : OsState) : segRun treeTable pw w 28 (some (.ref 6)) 1 3 ⟨hpP w.params, ⟨[]⟩, {}, 282, os⟩ (blockOf (behindTheImports pw) envM cE p0 [topFrame p0]) = some (.next, (ST (trP w.params) 32 282 os).abs, cE, p0) := by
  rw [PySem.W.Fast.te14374325043358763698, PySem.W.Fast.te14364793385576792824]; kernel_rfl
theorem pieceA (w : World) (os : OsState) : segRunT treeTable pw w 28 (some (.ref 6)) 1 500 (ST (trP w.params) 32 282 os) (piecesOf bA envM cE p0 [topFrame p0])
    = some (.next, ST (trA w.params) 91 410 os, cE, ⟨41,0,41,8⟩) := by
  rw [PySem.W.Fast.te10110043849684766642, PySem.W.Fast.te14364793385576792824]; kernel_rfl
noncomputable def PB (w : World) : Prop := ∀ os, segRunT treeTable pw w 28 (some (.ref 6)) 1 1100 (ST (trA w.params) 91 410 os) (piecesOf bB envM cE ⟨41,0,41,8⟩ [topFrame p0])
    = some (.next, ST (trB w.params) 102 470 os, cE, ⟨42,0,42,6⟩)
theorem pieceBF (w : World) : PB (w.withFollow "special-get-raises" false) := by
  intro os
  rw [PySem.W.Fast.te10110043849684766642, PySem.W.Fast.te14364793385576792824]; kernel_rfl
theorem pieceBT (w : World) : PB (w.withFollow "special-get-raises" true) := by
  intro os
  rw [PySem.W.Fast.te10110043849684766642, PySem.W.Fast.te14364793385576792824]; kernel_rfl
theorem pieceB (w : World) (os : OsState) : segRunT treeTable pw w 28 (some (.ref 6)) 1 1100 (ST (trA w.params) 91 410 os) (piecesOf bB envM cE ⟨41,0,41,8⟩ [topFrame p0])
    = some (.next, ST (trB w.params) 102 470 os, cE, ⟨42,0,42,6⟩) := byRow2 "special-get-raises" (P := PB) pieceBF pieceBT w os
theorem pieceC (w : World) (os : OsState) : segRunT treeTable pw w 28 (some (.ref 6)) 1 60 (ST (trB w.params) 102 470 os) (piecesOf bC envM cE ⟨42,0,42,6⟩ [topFrame p0])
    = some (.next, ST (trC w.params) 109 477 os, cE, ⟨43,0,44,30⟩) := by
  rw [PySem.W.Fast.te10110043849684766642, PySem.W.Fast.te14364793385576792824]; kernel_rfl
theorem pieceE (w : World) (os : OsState) : segRunT treeTable pw w 28 (some (.ref 6)) 1 400 (ST (trD w.params) 148 2428 os) (piecesOf bE envM cE ⟨45,0,45,13⟩ [topFrame p0])
    = some (.next, ST (trE w.params) 200 2511 os, cE, ⟨102,0,116,59⟩) := by
  rw [PySem.W.Fast.te10110043849684766642, PySem.W.Fast.te14364793385576792824]; kernel_rfl
theorem finM (w : World) (os : OsState) : topRun treeTable pw w 28 (some (.ref 6)) 3 (ST (trE w.params) 200 2511 os).abs ⟨doneF .next, cE, ⟨102,0,116,59⟩, [topFrame p0]⟩ = some ⟨hpE w.params, ⟨[]⟩, {}, 2511, os⟩ := by
  rw [PySem.W.Fast.te14082659384304107361, PySem.W.Fast.te14364793385576792824]; kernel_rfl
theorem body_eq : behindTheImports pw = bA ++ (bB ++ (bC ++ (bD ++ (bE ++ [])))) := by kernel_rfl
theorem runM (w : World) (os : OsState) : topRun treeTable pw w 28 (some (.ref 6)) (12 + (3 + (500 + (1100 + (60 + ((12517 + 30) + (400 + 3))))))) ⟨hp0 w.params, ⟨[]⟩, {}, 276, os⟩ (topStub pw) = some ⟨hpE w.params, ⟨[]⟩, {}, 2511, os⟩ := by
  refine go_top (preM w os) ?_
  refine piece_block (blockM w os) ?_
  rw [body_eq]
  refine piece_app (segRun_of (pieceA w os)) ?_
  refine piece_app (segRun_of (pieceB w os)) ?_
  refine piece_app (segRun_of (pieceC w os)) ?_
  refine piece_app (pieceD w os) ?_
  refine piece_app (segRun_of (pieceE w os)) ?_
  exact piece_nil (finM w os)
noncomputable def looseL : List Str := ["_sre", "CHAR_MAX", "_grouping_intervals", "_strip_padding", "floordiv", "mod", "mul", "sub", "_twin_re_1", "_twin_re_2", "CRLF", "quotedata", "b1_set", "in_table_b1", "b3_exceptions", "map_table_b3", "_law_lap", "_law_typed", "_law_line", "_law_short", "_law_rows", "_law_classes"]
noncomputable def qq : Program := { pw with main := { pw.main with body := pw.main.body.drop 27 } }
theorem looksS (w : World) (os : OsState) : (staticsOk (importedModules pw.main.body) (hp0 w.params) (hpE w.params) && namesBound pw (hpE w.params) && gensDone ⟨hpE w.params, ⟨[]⟩, {}, 2511, os⟩ && laidKept (hp0 w.params) (hpE w.params)) = true := by
  kernel_rfl
theorem looksO (w : World) (os : OsState) : openSeen qq looseL (importedModules pw.main.body) (fun s => xlAt qq [] s && recOk [] s) true ⟨hpE w.params, ⟨[]⟩, {}, 2511, os⟩ = openGood qq looseL := by
  rw [PySem.W.Fast.te4187177175401517315]; kernel_rfl
theorem leftM : LeftO pw qq looseL (fun s => xlAt qq [] s && recOk [] s) (fun s => (s.heap, s.toks)) (fun w => (hpE w.params, 2511)) 20000 :=
  LeftO.of_pieces (M := 12 + (3 + (500 + (1100 + (60 + ((12517 + 30) + (400 + 3))))))) (H₀ := hp0) (H₁ := hpE) (gs₀ := ⟨[]⟩) (gs₁ := ⟨[]⟩) (d₀ := {}) (d₁ := {}) (k₀ := 276) (k₁ := 2511) (m₀ := 28) (ann := some (.ref 6))
    (open_cut (M := 900) openX (by rfl) (fun w => funext fun os => fenceM w os)) sizeM runM (by rfl) (fun w => funext fun os => by
      show (_, _, _) = (_, _, _)
      rw [looksS w os, looksO w os])
theorem leftP : LeftO PySem.Challenge.pw_to0033_01 qq looseL (fun s => xlAt qq [] s && recOk [] s) (fun s => (s.heap, s.toks)) (fun w => (hpE w.params, 2511)) 20000 := by
  rw [pw_eq]; exact leftM
end
end Mine
end
section
open PySem PySem.W PyProof.Rows
set_option Elab.async false
set_option linter.unusedVariables false
set_option maxRecDepth 100000
namespace Mine
noncomputable section
noncomputable def fK (i : Nat) (g : Addr) (pm cd : Value) (b : Addr) : Data := match PySem.Challenge.pw_to0033_01.main.body[i]? with
  | some (.FunctionDef name args body _ _ _ scope _ _ _) => .func { name := name, qualname := name, params := args, body := .stmts body, scope := scope, globals := g, closure := [], defaults := .none, kwdefaults := .none, pyModule := pm, code := cd, builtins := b }
  | _ => .plain
theorem fK_eq : @fK = @fD := by unfold fK fD; rw [pw_eq] <;> rfl
noncomputable def k38 (P : Params) : Obj := ⟨.type "function", none, (fK 3 3 (.str ⟨⟨[99, 112, 121, 51, 49, 51, 46, 108, 111, 99, 97, 108, 101]⟩⟩ 282) (.ref 37) 0), ⟨[]⟩⟩
theorem k38_eq (P : Params) : k38 P = o38 P := by unfold k38 o38; rw [fK_eq]
noncomputable def k45 (P : Params) : Obj := ⟨.type "function", none, (fK 4 3 (.str ⟨⟨[99, 112, 121, 51, 49, 51, 46, 108, 111, 99, 97, 108, 101]⟩⟩ 282) (.ref 44) 0), ⟨[]⟩⟩
theorem k45_eq (P : Params) : k45 P = o45 P := by unfold k45 o45; rw [fK_eq]
noncomputable def k52 (P : Params) : Obj := ⟨.type "function", none, (fK 6 3 (.str ⟨⟨[99, 112, 121, 51, 49, 51, 46, 111, 112, 101, 114, 97, 116, 111, 114]⟩⟩ 305) (.ref 51) 0), ⟨[]⟩⟩
theorem k52_eq (P : Params) : k52 P = o52 P := by unfold k52 o52; rw [fK_eq]
noncomputable def k59 (P : Params) : Obj := ⟨.type "function", none, (fK 7 3 (.str ⟨⟨[99, 112, 121, 51, 49, 51, 46, 111, 112, 101, 114, 97, 116, 111, 114]⟩⟩ 305) (.ref 58) 0), ⟨[]⟩⟩
theorem k59_eq (P : Params) : k59 P = o59 P := by unfold k59 o59; rw [fK_eq]
noncomputable def k66 (P : Params) : Obj := ⟨.type "function", none, (fK 8 3 (.str ⟨⟨[99, 112, 121, 51, 49, 51, 46, 111, 112, 101, 114, 97, 116, 111, 114]⟩⟩ 305) (.ref 65) 0), ⟨[]⟩⟩
theorem k66_eq (P : Params) : k66 P = o66 P := by unfold k66 o66; rw [fK_eq]
noncomputable def k73 (P : Params) : Obj := ⟨.type "function", none, (fK 9 3 (.str ⟨⟨[99, 112, 121, 51, 49, 51, 46, 111, 112, 101, 114, 97, 116, 111, 114]⟩⟩ 305) (.ref 72) 0), ⟨[]⟩⟩
theorem k73_eq (P : Params) : k73 P = o73 P := by unfold k73 o73; rw [fK_eq]
noncomputable def k90 (P : Params) : Obj := ⟨.type "function", none, (fK 14 3 (.str ⟨⟨[99, 112, 121, 51, 49, 51, 46, 115, 109, 116, 112, 108, 105, 98]⟩⟩ 339) (.ref 89) 0), ⟨[]⟩⟩
theorem k90_eq (P : Params) : k90 P = o90 P := by unfold k90 o90; rw [fK_eq]
noncomputable def k108 (P : Params) : Obj := ⟨.type "function", none, (fK 17 3 (.str ⟨⟨[99, 112, 121, 51, 49, 51, 46, 115, 116, 114, 105, 110, 103, 112, 114, 101, 112]⟩⟩ 408) (.ref 107) 0), ⟨[]⟩⟩
theorem k108_eq (P : Params) : k108 P = o108 P := by unfold k108 o108; rw [fK_eq]
noncomputable def k154 (P : Params) : Obj := ⟨.type "function", none, (fK 19 3 (.str ⟨⟨[99, 112, 121, 51, 49, 51, 46, 115, 116, 114, 105, 110, 103, 112, 114, 101, 112]⟩⟩ 408) (.ref 153) 0), ⟨[]⟩⟩
theorem k154_eq (P : Params) : k154 P = o154 P := by unfold k154 o154; rw [fK_eq]
noncomputable def k161 (P : Params) : Obj := ⟨.type "function", none, (fK 21 3 (.str ⟨⟨[108, 97, 119, 95, 116, 111, 48, 48, 51, 51, 95, 48, 49]⟩⟩ 2436) (.ref 160) 0), ⟨[]⟩⟩
theorem k161_eq (P : Params) : k161 P = o161 P := by unfold k161 o161; rw [fK_eq]
noncomputable def k168 (P : Params) : Obj := ⟨.type "function", none, (fK 22 3 (.str ⟨⟨[108, 97, 119, 95, 116, 111, 48, 48, 51, 51, 95, 48, 49]⟩⟩ 2436) (.ref 167) 0), ⟨[]⟩⟩
theorem k168_eq (P : Params) : k168 P = o168 P := by unfold k168 o168; rw [fK_eq]
noncomputable def k173 (P : Params) : Obj := ⟨.type "function", none, (fK 23 3 (.str ⟨⟨[108, 97, 119, 95, 116, 111, 48, 48, 51, 51, 95, 48, 49]⟩⟩ 2436) (.ref 172) 0), ⟨[]⟩⟩
theorem k173_eq (P : Params) : k173 P = o173 P := by unfold k173 o173; rw [fK_eq]
noncomputable def k180 (P : Params) : Obj := ⟨.type "function", none, (fK 24 3 (.str ⟨⟨[108, 97, 119, 95, 116, 111, 48, 48, 51, 51, 95, 48, 49]⟩⟩ 2436) (.ref 179) 0), ⟨[]⟩⟩
theorem k180_eq (P : Params) : k180 P = o180 P := by unfold k180 o180; rw [fK_eq]
noncomputable def k187 (P : Params) : Obj := ⟨.type "function", none, (fK 25 3 (.str ⟨⟨[108, 97, 119, 95, 116, 111, 48, 48, 51, 51, 95, 48, 49]⟩⟩ 2436) (.ref 186) 0), ⟨[]⟩⟩
theorem k187_eq (P : Params) : k187 P = o187 P := by unfold k187 o187; rw [fK_eq]
noncomputable def k194 (P : Params) : Obj := ⟨.type "function", none, (fK 26 3 (.str ⟨⟨[108, 97, 119, 95, 116, 111, 48, 48, 51, 51, 95, 48, 49]⟩⟩ 2436) (.ref 193) 0), ⟨[]⟩⟩
theorem k194_eq (P : Params) : k194 P = o194 P := by unfold k194 o194; rw [fK_eq]
noncomputable def k199 (P : Params) : Obj := ⟨.type "function", none, (fK 27 3 (.str ⟨⟨[108, 97, 119, 95, 116, 111, 48, 48, 51, 51, 95, 48, 49]⟩⟩ 2436) (.ref 198) 0), ⟨[]⟩⟩
theorem k199_eq (P : Params) : k199 P = o199 P := by unfold k199 o199; rw [fK_eq]
noncomputable def KF (P : Params) : Frag := (nat_lit 2, o2 P) :: (nat_lit 3, o3E P) :: (nat_lit 6, o6 P) :: (nat_lit 11, o11 P) :: (nat_lit 12, o12 P) :: (nat_lit 32, o32 P) :: (nat_lit 34, o34 P) :: (nat_lit 35, o35 P) :: (nat_lit 37, o37 P) :: (nat_lit 38, k38 P) :: (nat_lit 39, o39 P) :: (nat_lit 41, o41 P) :: (nat_lit 42, o42 P) :: (nat_lit 44, o44 P) :: (nat_lit 45, k45 P) :: (nat_lit 46, o46 P) :: (nat_lit 48, o48 P) :: (nat_lit 49, o49 P) :: (nat_lit 51, o51 P) :: (nat_lit 52, k52 P) :: (nat_lit 53, o53 P) :: (nat_lit 55, o55 P) :: (nat_lit 56, o56 P) :: (nat_lit 58, o58 P) :: (nat_lit 59, k59 P) :: (nat_lit 60, o60 P) :: (nat_lit 62, o62 P) :: (nat_lit 63, o63 P) :: (nat_lit 65, o65 P) :: (nat_lit 66, k66 P) :: (nat_lit 67, o67 P) :: (nat_lit 69, o69 P) :: (nat_lit 70, o70 P) :: (nat_lit 72, o72 P) :: (nat_lit 73, k73 P) :: (nat_lit 77, o77 P) :: (nat_lit 78, o78 P) :: (nat_lit 82, o82 P) :: (nat_lit 83, o83 P) :: (nat_lit 84, o84 P) :: (nat_lit 86, o86 P) :: (nat_lit 87, o87 P) :: (nat_lit 89, o89 P) :: (nat_lit 90, k90 P) :: (nat_lit 98, o98 P) :: (nat_lit 102, o102 P) :: (nat_lit 104, o104 P) :: (nat_lit 105, o105 P) :: (nat_lit 107, o107 P) :: (nat_lit 108, k108 P) :: (nat_lit 109, oD 0 P) :: (nat_lit 148, o148 P) :: (nat_lit 150, o150 P) :: (nat_lit 151, o151 P) :: (nat_lit 153, o153 P) :: (nat_lit 154, k154 P) :: (nat_lit 155, o155 P) :: (nat_lit 157, o157 P) :: (nat_lit 158, o158 P) :: (nat_lit 160, o160 P) :: (nat_lit 161, k161 P) :: (nat_lit 162, o162 P) :: (nat_lit 164, o164 P) :: (nat_lit 165, o165 P) :: (nat_lit 167, o167 P) :: (nat_lit 168, k168 P) :: (nat_lit 169, o169 P) :: (nat_lit 172, o172 P) :: (nat_lit 173, k173 P) :: (nat_lit 174, o174 P) :: (nat_lit 176, o176 P) :: (nat_lit 177, o177 P) :: (nat_lit 179, o179 P) :: (nat_lit 180, k180 P) :: (nat_lit 181, o181 P) :: (nat_lit 183, o183 P) :: (nat_lit 184, o184 P) :: (nat_lit 186, o186 P) :: (nat_lit 187, k187 P) :: (nat_lit 188, o188 P) :: (nat_lit 190, o190 P) :: (nat_lit 191, o191 P) :: (nat_lit 193, o193 P) :: (nat_lit 194, k194 P) :: (nat_lit 195, o195 P) :: (nat_lit 198, o198 P) :: (nat_lit 199, k199 P) :: []
noncomputable def asK : List Addr := [2, 3, 6, 11, 12, 32, 34, 35, 37, 38, 39, 41, 42, 44, 45, 46, 48, 49, 51, 52, 53, 55, 56, 58, 59, 60, 62, 63, 65, 66, 67, 69, 70, 72, 73, 77, 78, 82, 83, 84, 86, 87, 89, 90, 98, 102, 104, 105, 107, 108, 109, 148, 150, 151, 153, 154, 155, 157, 158, 160, 161, 162, 164, 165, 167, 168, 169, 172, 173, 174, 176, 177, 179, 180, 181, 183, 184, 186, 187, 188, 190, 191, 193, 194, 195, 198, 199]
theorem KF_keys (P : Params) : asK = (KF P).map (·.1) := by kernel_rfl
theorem KF_in (P : Params) : (KF P).In (hpE P) := by
  refine Frag.in_of (KF_keys P) ?_
  unfold KF
  rw [k38_eq, k45_eq, k52_eq, k59_eq, k66_eq, k73_eq, k90_eq, k108_eq, k154_eq, k161_eq, k168_eq, k173_eq, k180_eq, k187_eq, k194_eq, k199_eq]
  kernel_rfl
end
end Mine
end
section
open PySem PySem.W PyProof.Rows PySem.Spec PySem.Calls
set_option Elab.async false
set_option linter.unusedVariables false
set_option maxRecDepth 100000
namespace Mine
noncomputable section
noncomputable abbrev prg : Program := PySem.Challenge.rw_to0033_01.prog
noncomputable abbrev Av (n : Nat) : Around := { handled := none, depth := 300 + n, frames := none, guards := none, units := 100 * n }
theorem weaken {α : Type} {M : Model} {A B : Around} {t : Sem α} {Q : α → Shared → Prop} {E : Value → Shared → Prop} {s : Shared} (h : wpAny M B t Q E s)
    (h1 : A.handled = B.handled) (h2 : A.depth ≤ B.depth) (h3 : A.units ≤ B.units) (h4 : B.frames = none) (h5 : B.guards = none) : wpAny M A t Q E s :=
  fun Γ p hΓ => by
    refine h Γ p ⟨hΓ.1.trans h1, Nat.le_trans hΓ.2.1 h2, ?_, ?_, Nat.le_trans hΓ.2.2.2.2 h3⟩
    · intro l hl; rw [h4] at hl; cases hl
    · intro g hg; rw [h5] at hg; cases hg
noncomputable abbrev Stay (h h' : Heap) : Prop := ∀ b o, h.get? b = some o → h'.get? b = some o
/-- a call of the text's def at f with these values hands back R of some token -/
noncomputable def SP (n : Nat) (w : World) (f : Addr) (vs : List Value) (R : Tok → Value) : Prop :=
  ∀ (p : Program) (loose : List Str) (mean : ExcName → Option Value) (mg mb : Str → Option Value) (s : Shared) (Q E : Value → Shared → Prop),
    (KF w.params).In s.heap → Top p loose mean mg mb s.heap → (∀ t h' tk', Stay s.heap h' → Q (R t) { s with heap := h', toks := tk' }) →
    wpAny (model prg w) (Av n) (call (.ref f) vs) Q E s
theorem SP.of {n : Nat} {w : World} {f : Addr} {vs : List Value} {R : Tok → Value} {name : Str} {params : Arguments} {body : List Stmt} {scope : Scope} {pm : Value} {c : Addr} {oc : Value} {od : Option Addr} {osl : Array (Option Value)} (binds : List (Str × Value))
    (ho : (KF w.params).lookup f = some ⟨oc, od, .func (fnOf name name params body scope .none .none .none pm none (.ref c) .none), osl⟩)
    (hcd : codeIn (KF w.params) (.ref c) name = true)
    (hbind : bindArgs (fnOf name name params body scope .none .none .none pm none (.ref c) .none) ⟨vs, []⟩ = pure binds)
    (hloc : ∀ y ∈ binds, scope.names.lookup y.1 = some .local)
    (hcell : ∀ x ∈ scope.names, x.2 ≠ .cell) (hco : scope.isCoroutine = false) (hgen : scope.isGenerator = false) (hk : scope.kind = .function)
    (hn : 300 + n < recursionLimit)
    (hb : ∀ (p : Program) (loose : List Str) (mean : ExcName → Option Value) (mg mb : Str → Option Value) (g h : Heap) (L : Addr) (gens : Array GenState) (drawn : Drawn) (tk : Nat) (os : OsState) (P : Flow → Shared → Prop), (KF w.params).In g → Top p loose mean mg mb g →
      Fr g L h (fun y => binds.reverse.lookup y) → News g L h [] → (∀ t h' tk' m', Fr g L h' m' → P (.ret (R t)) ⟨h', gens, drawn, tk', os⟩) →
      wpAny (model prg w) ((Av n).deeper (envOf name scope L f (.ref c))) (execs body (envOf name scope L f (.ref c))) P (fun _ _ => False) ⟨h, gens, drawn, tk, os⟩) : SP n w f vs R := by
  intro p loose mean mg mb s Q E X T k
  refine wpAny_call ?_
  refine codeAny_call_def (fd := fnOf name name params body scope .none .none .none pm none (.ref c) .none) (body := body) (binds := binds) hn (X _ _ ho) rfl T.nolimit (codeRec_of X hcd) rfl (BindsTo.of_eq hbind) hcell hloc (fun h₀ hns hk₁ => ?_) hco hgen hk
  exact wpAny_mono (hb p loose mean mg mb s.heap h₀ s.heap.objs.size s.gens s.drawn (s.toks + binds.length) s.os (fun fl s' => Q (match fl with | .ret v => v | _ => .none) s') X T ⟨hns, hk₁, Nat.le_refl _⟩ (fun _ h => nomatch h) (fun t h' tk' m' F' => k t h' tk' F'.keep)) (fun fl s' hq => hq) (fun _ _ h => h.elim)
/-- a call by its contract, where the walk stands -/
theorem SP.use {n : Nat} {w : World} {f : Addr} {vs : List Value} {R : Tok → Value} {A : Around} {s : Shared} {Q E : Value → Shared → Prop} {p : Program} {loose : List Str} {mean : ExcName → Option Value} {mg mb : Str → Option Value} {h₀ : Heap} {L : Addr} {m : Str → Option Value} {news : List (Addr × Obj)}
    (S : SP n w f vs R) (F : Fr h₀ L s.heap m) (N : News h₀ L s.heap news) (X : (KF w.params).In h₀) (T : Top p loose mean mg mb h₀)
    (h1 : A.handled = none) (h2 : A.depth ≤ 300 + n) (h3 : A.units ≤ 100 * n)
    (k : ∀ t h' tk', Fr h₀ L h' m → News h₀ L h' news → Q (R t) { s with heap := h', toks := tk' }) : wpAny (model prg w) A (call (.ref f) vs) Q E s :=
  weaken (S p loose mean mg mb s Q E (X.keeps F.keep) (T.keeps F.keep) (fun t h' tk' st => k t h' tk' (F.after st) (N.grown st))) h1 h2 h3 rfl rfl
theorem look_cons {α : Type} (y : Str) (a : Str × α) (r : List (Str × α)) : (a :: r).lookup y = if y = a.1 then some a.2 else r.lookup y := by
  rw [List.lookup_cons]
  cases h : y == a.1 with
  | true => rw [if_pos (beq_iff_eq.mp h)]
  | false => rw [if_neg (beq_eq_false_iff_ne.mp h)]
end
end Mine
end
section
open PySem PySem.W PyProof.Rows PySem.Spec PySem.Calls
set_option Elab.async false
set_option linter.unusedVariables false
set_option maxRecDepth 100000
namespace Mine
set_option maxHeartbeats 4000000
theorem filled : PySem.Challenge.rw_to0033_01.prog = PySem.Challenge.rw_to0033_01.prog ∧ KF = KF := by k_fill; exact ⟨rfl, rfl⟩
local macro_rules | `(tactic| walk_at "mine_enter") => `(tactic| (
  (case ho => with_unfolding_all k_is)
  (case hcd => k_is)
  (case hbind => with_unfolding_all exact rfl)
  (case hloc => exact locs rfl)
  (case hcell => decide)
  (case hco => exact rfl)
  (case hgen => exact rfl)
  (case hk => exact rfl)
  (case hn => decide)))
theorem sub_sp {w : World} {a b : Int} {t1 t2 : Tok} (hab : 0 ≤ a ∧ a ≤ 200000 ∧ 0 ≤ b ∧ b ≤ 200000) : SP 40 w 73 [.int a t1, .int b t2] (fun t => .int (a - b) t) := by
  refine' SP.of [(Str.ofString "a", .int a t1), (Str.ofString "b", .int b t2)] ?ho ?hcd ?hbind ?hloc ?hcell ?hco ?hgen ?hk ?hn ?hb
  walk_at "mine_enter"
  intro p loose mean mg mb g h L gens drawn tk os P X T F N k
  simp only [List.reverse_cons, List.reverse_nil, List.nil_append, List.cons_append, look_cons, List.lookup_nil] at F
  k_steps
  exact k _ _ _ _ F
theorem mul_sp {w : World} {a b : Int} {t1 t2 : Tok} (hab : 0 ≤ a ∧ a ≤ 2000 ∧ 0 ≤ b ∧ b ≤ 2000) : SP 40 w 66 [.int a t1, .int b t2] (fun t => .int (a * b) t) := by
  refine' SP.of [(Str.ofString "a", .int a t1), (Str.ofString "b", .int b t2)] ?ho ?hcd ?hbind ?hloc ?hcell ?hco ?hgen ?hk ?hn ?hb
  walk_at "mine_enter"
  intro p loose mean mg mb g h L gens drawn tk os P X T F N k
  simp only [List.reverse_cons, List.reverse_nil, List.nil_append, List.cons_append, look_cons, List.lookup_nil] at F
  have hb1 : a * b ≤ 2000 * 2000 := Int.mul_le_mul hab.2.1 hab.2.2.2 hab.2.2.1 (by omega)
  have hb0 : 0 ≤ a * b := Int.mul_nonneg hab.1 hab.2.2.1
  k_steps
  exact k _ _ _ _ F
theorem floordiv_sp {w : World} {a b : Int} {t1 t2 : Tok} (hab : 0 ≤ a ∧ a ≤ 200000 ∧ 2 ≤ b ∧ b ≤ 200000) : SP 40 w 52 [.int a t1, .int b t2] (fun t => .int (a.fdiv b) t) := by
  refine' SP.of [(Str.ofString "a", .int a t1), (Str.ofString "b", .int b t2)] ?ho ?hcd ?hbind ?hloc ?hcell ?hco ?hgen ?hk ?hn ?hb
  walk_at "mine_enter"
  intro p loose mean mg mb g h L gens drawn tk os P X T F N k
  simp only [List.reverse_cons, List.reverse_nil, List.nil_append, List.cons_append, look_cons, List.lookup_nil] at F
  k_steps
  exact k _ _ _ _ F
theorem mod_sp {w : World} {a b : Int} {t1 t2 : Tok} (hab : 0 ≤ a ∧ a ≤ 200000 ∧ 2 ≤ b ∧ b ≤ 200000) : SP 40 w 59 [.int a t1, .int b t2] (fun t => .int (a.fmod b) t) := by
  refine' SP.of [(Str.ofString "a", .int a t1), (Str.ofString "b", .int b t2)] ?ho ?hcd ?hbind ?hloc ?hcell ?hco ?hgen ?hk ?hn ?hb
  walk_at "mine_enter"
  intro p loose mean mg mb g h L gens drawn tk os P X T F N k
  simp only [List.reverse_cons, List.reverse_nil, List.nil_append, List.cons_append, look_cons, List.lookup_nil] at F
  k_steps
  exact k _ _ _ _ F
end Mine
end
section
open PySem PySem.W PyProof.Rows PySem.Spec PySem.Calls
set_option Elab.async false
set_option linter.unusedVariables false
set_option maxRecDepth 100000
namespace Mine
set_option maxHeartbeats 4000000
theorem filled2 : PySem.Challenge.rw_to0033_01.prog = PySem.Challenge.rw_to0033_01.prog ∧ KF = KF := by k_fill; exact ⟨rfl, rfl⟩
local macro_rules | `(tactic| walk_at "mine_enter") => `(tactic| (
  (case ho => with_unfolding_all k_is)
  (case hcd => k_is)
  (case hbind => with_unfolding_all exact rfl)
  (case hloc => exact locs rfl)
  (case hcell => decide)
  (case hco => exact rfl)
  (case hgen => exact rfl)
  (case hk => exact rfl)
  (case hn => decide)))
local macro_rules | `(tactic| walk_at "mine_steps") => `(tactic| repeat' ((fail_if_success (with_reducible show wpAny _ _ (pyIter _) _ _ _)); first | walk1 | (dsimp only; walk1) | fail "no step"))
noncomputable def pwr (base prime : Int) : Nat → Int
  | 0 => 1
  | n + 1 => (pwr base prime n * base).fmod prime
/-- the first k from 1 on, below prime, at which the power is one; else nought -/
noncomputable def lapF (base prime : Int) : Int := match (List.range (prime - 1).toNat).find? fun i => pwr base prime (i + 1) == 1 with
  | some i => (i : Int) + 1
  | none => 0
theorem lapF_some {base prime : Int} {n : Nat} (h : n < (prime - 1).toNat) (h1 : pwr base prime (n + 1) = 1) (h2 : ∀ i, i < n → pwr base prime (i + 1) ≠ 1) : lapF base prime = (n : Int) + 1 := by
  have : (List.range (prime - 1).toNat).find? (fun i => pwr base prime (i + 1) == 1) = some n := by
    rw [List.find?_range_eq_some]
    exact ⟨beq_iff_eq.mpr h1, List.mem_range.mpr h, fun j hj => by simpa using h2 j hj⟩
  rw [lapF, this]
theorem lapF_none {base prime : Int} (h2 : ∀ i, i < (prime - 1).toNat → pwr base prime (i + 1) ≠ 1) : lapF base prime = 0 := by
  have : (List.range (prime - 1).toNat).find? (fun i => pwr base prime (i + 1) == 1) = none := by
    rw [List.find?_eq_none]
    intro j hj
    simpa using h2 j (List.mem_range.mp hj)
  rw [lapF, this]
theorem lap_sp {w : World} {base prime : Int} {t1 t2 : Tok} (h : 2 ≤ base ∧ base ≤ 16 ∧ 2 ≤ prime ∧ prime ≤ 60) : SP 20 w 161 [.int base t1, .int prime t2] (fun t => .int (lapF base prime) t) := by
  obtain ⟨h1, h2, h3, h4⟩ := h
  refine' SP.of [(Str.ofString "base", .int base t1), (Str.ofString "prime", .int prime t2)] ?ho ?hcd ?hbind ?hloc ?hcell ?hco ?hgen ?hk ?hn ?hb
  walk_at "mine_enter"
  intro p loose mean mg mb g h L gens drawn tk os P X T F N k
  simp only [List.reverse_cons, List.reverse_nil, List.nil_append, List.cons_append, look_cons, List.lookup_nil] at F
  walk_at "mine_steps"
  (rename Fr _ _ _ _ => lF'); (rename News _ _ _ _ => lN'); (rename IsRange _ _ _ _ _ _ _ _ => rgX)
  refine' kst_range (σ := Int × Tok) (fun _ => []) (fun c => [(Str.ofString "power", .int c.1 c.2)]) (fun _ => True) [] (fun pre c => c.1 = pwr base prime pre.length ∧ 0 ≤ c.1 ∧ c.1 ≤ 60 ∧ ∀ i, i < pre.length → pwr base prime (i + 1) ≠ 1) (1, tk) rfl rgX (small_one (by omega) (by omega) (by omega) (by omega)) (rangeSize_nat _ _) lF' (fun _ h => nomatch h) True.intro ?kk ?kp ?turn ?done
  case kk => exact List.forall_mem_cons.mpr ⟨rfl, List.forall_mem_nil _⟩
  case kp => exact ⟨rfl, (show (0:Int) ≤ 1 by decide), (show (1:Int) ≤ 60 by decide), fun i h => absurd h (Nat.not_lt_zero _)⟩
  case turn =>
    clear lF' rgX lN'
    intro c pre kk t u h' tk' own hk hlt hoff _ hP F N
    dsimp only [kstB] at F
    obtain ⟨e1, e2, e3, e4⟩ := hP
    have hb0 : 0 ≤ c.1 * base := Int.mul_nonneg e2 (by omega)
    have hb1 : c.1 * base ≤ 60 * 16 := Int.mul_le_mul e3 h2 (by omega) (by omega)
    walk_at "mine_steps"
    case _ =>
      rename (Int.fmod _ _ = 1) => hone
      have hk' : lapF base prime = kk := by
        have e5 : pwr base prime (pre.length + 1) = 1 := by rw [pwr, ← e1]; exact hone
        rw [lapF_some hlt e5 e4, hk]; omega
      rw [← hk']
      exact k _ _ _ _ (by assumption)
    case _ =>
      rename (Int.fmod _ _ ≠ 1) => hone
      refine kst_end ((c.1 * base).fmod prime, _) (by assumption) (by assumption) (by kst_in) (by first | (intro p hp; kst_mem) | kst_anyIn) rfl True.intro (by kst_all) (by kst_same) ?_
      have e5 : pwr base prime (pre.length + 1) = (c.1 * base).fmod prime := by rw [pwr, ← e1]
      refine ⟨by rw [List.length_append]; exact e5.symm, Int.fmod_nonneg_of_pos _ (by omega), Int.le_trans (Int.le_of_lt (Int.fmod_lt_of_pos _ (by omega))) h4, fun i hi => ?_⟩
      rw [List.length_append] at hi
      rcases Nat.lt_succ_iff_lt_or_eq.mp hi with h | h
      · exact e4 i h
      · rw [h, e5]; exact hone
  case done =>
    clear lF' rgX lN'
    intro c u h' tk' _ hP F N
    dsimp only [kstB] at F
    obtain ⟨e1, e2, e3, e4⟩ := hP
    walk_at "mine_steps"
    have hk' : lapF base prime = 0 := lapF_none fun i hi => e4 i (by rw [rangeKs_length]; exact hi)
    show P (Flow.ret (.int 0 _)) _
    rw [← hk']
    exact k _ _ _ _ (by assumption)
end Mine
end
section
open PySem PySem.W PyProof.Rows PySem.Spec PySem.Calls
set_option Elab.async false
set_option linter.unusedVariables false
set_option maxRecDepth 100000
namespace Mine
set_option maxHeartbeats 4000000
theorem filled3 : PySem.Challenge.rw_to0033_01.prog = PySem.Challenge.rw_to0033_01.prog ∧ KF = KF := by k_fill; exact ⟨rfl, rfl⟩
local macro_rules | `(tactic| walk_at "mine_enter") => `(tactic| (
  (case ho => with_unfolding_all k_is)
  (case hcd => k_is)
  (case hbind => with_unfolding_all exact rfl)
  (case hloc => exact locs rfl)
  (case hcell => decide)
  (case hco => exact rfl)
  (case hgen => exact rfl)
  (case hk => exact rfl)
  (case hn => decide)))
local macro_rules | `(tactic| walk_at "mine_steps") => `(tactic| repeat' ((fail_if_success (with_reducible show wpAny _ _ (pyIter _) _ _ _)); first | walk1 | (dsimp only; walk1) | fail "no step"))

noncomputable def figAt (number base prime : Int) (n : Nat) : Int := ((number * base ^ n).fdiv prime).fmod base
/-- level and short behind n places -/
noncomputable def lv (number base prime : Int) : Nat → Int × Int
  | 0 => (0, 0)
  | n + 1 =>
    (if ((n : Int) + 1).fmod 2 = 0 then (lv number base prime n).1 + -figAt number base prime (n + 1) else (lv number base prime n).1 + figAt number base prime (n + 1),
     if -(if ((n : Int) + 1).fmod 2 = 0 then (lv number base prime n).1 + -figAt number base prime (n + 1) else (lv number base prime n).1 + figAt number base prime (n + 1)) > (lv number base prime n).2 then -(if ((n : Int) + 1).fmod 2 = 0 then (lv number base prime n).1 + -figAt number base prime (n + 1) else (lv number base prime n).1 + figAt number base prime (n + 1)) else (lv number base prime n).2)
theorem short_sp {w : World} {number base prime : Int} {t1 t2 t3 : Tok} (h : 2 ≤ base ∧ base ≤ 16 ∧ 2 ≤ prime ∧ prime ≤ 60 ∧ 1 ≤ number ∧ number ≤ 60) : SP 20 w 180 [.int number t1, .int base t2, .int prime t3] (fun t => .int (lv number base prime (prime - 1).toNat).2 t) := by
  obtain ⟨h1, h2, h3, h4, h5, h6⟩ := h
  refine' SP.of [(Str.ofString "number", .int number t1), (Str.ofString "base", .int base t2), (Str.ofString "prime", .int prime t3)] ?ho ?hcd ?hbind ?hloc ?hcell ?hco ?hgen ?hk ?hn ?hb
  walk_at "mine_enter"
  intro p loose mean mg mb g h L gens drawn tk os P X T F N k
  simp only [List.reverse_cons, List.reverse_nil, List.nil_append, List.cons_append, look_cons, List.lookup_nil] at F
  walk_at "mine_steps"
  (rename Fr _ _ _ _ => lF'); (rename News _ _ _ _ => lN'); (rename IsRange _ _ _ _ _ _ _ _ => rgX)
  refine' kst_range (σ := (Int × Tok) × (Int × Tok)) (fun _ => []) (fun c => [(Str.ofString "level", .int c.1.1 c.1.2), (Str.ofString "short", .int c.2.1 c.2.2)]) (fun _ => True) [Str.ofString "figure"] (fun pre c => c.1.1 = (lv number base prime pre.length).1 ∧ c.2.1 = (lv number base prime pre.length).2 ∧ -16 * (pre.length : Int) ≤ c.1.1 ∧ c.1.1 ≤ 16 * (pre.length : Int) ∧ 0 ≤ c.2.1 ∧ c.2.1 ≤ 16 * (pre.length : Int)) ((0, _), (0, _)) rfl rgX (small_one (by omega) (by omega) (by omega) (by omega)) (rangeSize_nat _ _) lF' (fun _ h => nomatch h) True.intro ?kk ?kp ?turn ?done
  case kk => kst_all
  case kp => exact ⟨rfl, rfl, (show (-16:Int) * 0 ≤ 0 by decide), (show (0:Int) ≤ 16 * 0 by decide), (show (0:Int) ≤ 0 by decide), (show (0:Int) ≤ 16 * 0 by decide)⟩
  case turn =>
    clear lF' rgX lN'
    intro c pre kk t u h' tk' own hk hlt hoff _ hP F N
    dsimp only [kstB] at F
    obtain ⟨e0, e5, e1, e2, e3, e4⟩ := hP
    have hlt' : (pre.length : Int) ≤ 58 := by omega
    have hf0 : 0 ≤ figAt number base prime kk.toNat := Int.fmod_nonneg_of_pos _ (by omega)
    have hf1 : figAt number base prime kk.toNat < base := Int.fmod_lt_of_pos _ (by omega)
    have hkk : kk.toNat = pre.length + 1 := by omega
    walk_at "mine_steps"
    case _ =>
      refine kst_end ((_, _), (_, _)) (by assumption) (by assumption) (by kst_in) (by first | (intro p hp; kst_mem) | kst_anyIn) rfl True.intro (by kst_all) (by kst_same) ?_
      dsimp only
      rename (Int.fmod _ _ ≠ 0) => hone
      rw [show ((number * base ^ kk.toNat).fdiv prime).fmod base = figAt number base prime kk.toNat from rfl]
      rw [List.length_append]
      have hone' : ¬ ((pre.length : Int) + 1).fmod 2 = 0 := by rw [Int.add_comm, ← hk]; exact hone
      refine ⟨?_, ?_, ?_⟩
      · show _ = (lv number base prime (pre.length + 1)).1
        rw [lv, if_neg hone', ← e0, hkk]
      · show _ = (lv number base prime (pre.length + 1)).2
        rw [lv, if_neg hone', ← e0, ← e5, hkk]
      · show _ ∧ _
        simp only [List.length_cons, List.length_nil]
        split <;> omega
    case _ =>
      refine kst_end ((_, _), (_, _)) (by assumption) (by assumption) (by kst_in) (by first | (intro p hp; kst_mem) | kst_anyIn) rfl True.intro (by kst_all) (by kst_same) ?_
      dsimp only
      rename (Int.fmod _ _ = 0) => hone
      rw [show ((number * base ^ kk.toNat).fdiv prime).fmod base = figAt number base prime kk.toNat from rfl]
      rw [List.length_append]
      have hone' : ((pre.length : Int) + 1).fmod 2 = 0 := by rw [Int.add_comm, ← hk]; exact hone
      refine ⟨?_, ?_, ?_⟩
      · show _ = (lv number base prime (pre.length + 1)).1
        rw [lv, if_pos hone', ← e0, hkk]
      · show _ = (lv number base prime (pre.length + 1)).2
        rw [lv, if_pos hone', ← e0, ← e5, hkk]
      · show _ ∧ _
        simp only [List.length_cons, List.length_nil]
        split <;> omega
  case done =>
    clear lF' rgX lN'
    intro c u h' tk' _ hP F N
    dsimp only [kstB] at F
    obtain ⟨e0, e5, e1, e2, e3, e4⟩ := hP
    walk_at "mine_steps"
    rw [rangeKs_length] at e5
    show P (Flow.ret (.int c.2.1 _)) _
    rw [e5]
    exact k _ _ _ _ (by assumption)
end Mine
end
section
open PySem PySem.W PyProof.Rows PySem.Spec PySem.Calls
set_option Elab.async false
set_option linter.unusedVariables false
set_option maxRecDepth 100000
namespace Mine
set_option maxHeartbeats 4000000
theorem filledT : PySem.Challenge.rw_to0033_01.prog = PySem.Challenge.rw_to0033_01.prog ∧ KF = KF := by k_fill; exact ⟨rfl, rfl⟩
noncomputable section
noncomputable def letters : List Nat := [173, 8288, 97, 98, 99, 100, 101, 102, 103, 104, 105, 106, 107, 108, 109, 110, 111, 112, 65, 66, 67, 68, 69, 70, 71, 72, 73, 74, 75, 76, 77, 78, 79, 80, 119808, 119809, 119810, 119811, 119812, 119813, 119814, 119815, 119816, 119817, 119818, 119819, 119820, 119821, 119822, 119823, 120276, 120277, 120278, 120279, 120280, 120281, 120282, 120283, 120284, 120285, 120286, 120287, 120288, 120289, 120290, 120291]
/-- hidden: of table B.1 -/
noncomputable def hid (n : Nat) : Bool := n == 0xAD || n == 0x2060
/-- the small letter of a letter -/
noncomputable def low (n : Nat) : Nat := if n < 97 then n + 32 else if n < 119808 then n else if n < 120276 then n - 119711 else n - 120179
noncomputable def esB (P : Params) : Array (Int × Value) := match (o98 P).data with | .set es _ _ => es | _ => #[]
noncomputable def epB (P : Params) : Nat := match (o98 P).data with | .set _ ep _ => ep | _ => 0
noncomputable def tbB (P : Params) : SetTable := match (o98 P).data with | .set _ _ t => t | _ => default
noncomputable def inB (P : Params) (k : Int) : Bool := (esB P).toList.any fun e => Value.isInt k e.2
noncomputable def goodE (e : Int × Value) : Bool := match e.2 with | .int k _ => e.1 == hashInt k | _ => false
theorem goodB (P : Params) : (esB P).toList.all goodE = true := by kernel_rfl
theorem in98 {w : World} {h : Heap} (X : (KF w.params).In h) : h.get? 98 = some (o98 w.params) := X _ _ (by with_unfolding_all k_is)
theorem set98 {prog : Program} {w : World} {h : Heap} (X : (KF w.params).In h) : h.SetOf (intKind prog w) 98 (inB w.params) 27 := by
  refine ⟨o98 w.params, esB w.params, epB w.params, tbB w.params, in98 X, ⟨rfl, rfl, rfl⟩, rfl, ?_, ?_, (show 27 < scanBound by decide), ?_, rfl⟩
  · intro e he
    have := List.all_eq_true.mp (goodB w.params) e he
    obtain ⟨e1, e2⟩ := e
    cases e2 with
    | int k t => exact ⟨⟨k, intKind_is _ _ _ _, eq_of_beq this⟩, rfl⟩
    | _ => cases this
  · intro k
    exact List.any_eq_true
  · kernel_rfl
theorem inB_letters (P : Params) : (letters.all fun n => inB P n == hid n) = true := by kernel_rfl
theorem inB_eq (P : Params) {n : Nat} (h : n ∈ letters) : inB P n = hid n := eq_of_beq (List.all_eq_true.mp (inB_letters P) n h)
theorem in109 {w : World} {h : Heap} (X : (KF w.params).In h) : h.get? 109 = some (oD 0 w.params) := X _ _ (by with_unfolding_all k_is)
noncomputable def goodD (e : DictEntry) : Bool := match e.key with | .int k _ => e.hash == hashInt k | _ => false
theorem goodDs : (dAcc.1.all goodD) = true := by kernel_rfl
noncomputable def getD3 (k : Int) : Option Value := findBy Value.isInt dAcc.1.toArray k
theorem map109 {prog : Program} {w : World} {h : Heap} (X : (KF w.params).In h) : h.MapOf (intKind prog w) 109 getD3 := by
  refine ⟨oD 0 w.params, dAcc.1.toArray, _, in109 X, ⟨rfl, rfl, rfl⟩, rfl, ?_, fun k => rfl⟩
  intro e he
  have := List.all_eq_true.mp goodDs e (List.mem_toArray.mp he)
  obtain ⟨eh, ek, ev⟩ := e
  cases ek with
  | int k t => exact ⟨k, intKind_is _ _ _ _, eq_of_beq this⟩
  | _ => cases this
noncomputable def nKey (n : Nat) (e : DictEntry) : Bool := match e.key with | .int (.ofNat m) _ => Nat.beq m n | _ => false
theorem nKey_eq (n : Nat) (e : DictEntry) : Value.isInt (n : Int) e.key = nKey n e := by
  obtain ⟨eh, ek, ev⟩ := e
  cases ek with
  | int k t =>
    cases k with
    | ofNat m =>
      show ((Int.ofNat m) == (Int.ofNat n)) = Nat.beq m n
      rw [Bool.eq_iff_iff]
      exact ⟨fun h => by rw [Int.ofNat.inj (eq_of_beq h)]; exact Nat.beq_refl _, fun h => beq_iff_eq.mpr (congrArg _ (Nat.eq_of_beq_eq_true h))⟩
    | negSucc m => rfl
  | _ => rfl
noncomputable def b3ok (n : Nat) : Bool := hid n || match ((dAcc.1.find? (nKey n)).map DictEntry.val : Option Value) with | some (.str x _) => Nat.ble 119808 n && x.cps == #[low n] | none => Nat.blt n 119808 | _ => false
theorem b3_letters : (letters.all b3ok) = true := by kernel_rfl
theorem getD3_eq (n : Nat) : getD3 n = (dAcc.1.find? (nKey n)).map DictEntry.val := by
  unfold getD3 findBy
  rw [show (fun e : DictEntry => Value.isInt (n : Int) e.key) = nKey n from funext (nKey_eq n), List.find?_toArray]
theorem b3_of {n : Nat} (h : n ∈ letters) (hh : hid n = false) : (119808 ≤ n ∧ ∃ t, getD3 n = some (.str ⟨#[low n]⟩ t)) ∨ (n < 119808 ∧ getD3 n = none) := by
  have := List.all_eq_true.mp b3_letters n h
  rw [b3ok, hh, Bool.false_or, ← getD3_eq] at this
  split at this
  · rename_i x t he
    rw [Bool.and_eq_true] at this
    refine .inl ⟨Nat.le_of_ble_eq_true this.1, t, ?_⟩
    rw [he, ← eq_of_beq this.2]
  · rename_i he
    exact .inr ⟨Nat.le_of_ble_eq_true this, he⟩
  · cases this
theorem lower_letters : (letters.all fun n => hid n || !Nat.blt n 119808 || (Txt.lower ⟨#[n]⟩).cps == #[low n]) = true := by kernel_rfl
theorem lower_of {n : Nat} (h : n ∈ letters) (hh : hid n = false) (hn : n < 119808) : Txt.lower ⟨#[n]⟩ = ⟨#[low n]⟩ := by
  have := List.all_eq_true.mp lower_letters n h
  rw [hh, show Nat.blt n 119808 = true from Nat.ble_eq_true_of_le hn] at this
  have e := eq_of_beq this
  cases hx : Txt.lower ⟨#[n]⟩ with
  | mk c => rw [hx] at e; exact congrArg _ e
end
end Mine
end
section
open PySem PySem.W PyProof.Rows PySem.Spec PySem.Calls
set_option Elab.async false
set_option linter.unusedVariables false
set_option maxRecDepth 100000
namespace Mine
section
variable {prog : Program} {w : World} {A : Around} {E : Value → Shared → Prop} {s : Shared} {env : Env} {h₀ : Heap} {x : Str} {body : List Stmt} {Q : Flow → Shared → Prop}
theorem rangeC {σ : Type} {r : Addr} {a₀ b₀ : Int} {t₀ u₀ v₀ : Tok} {n : Nat} {m₀ : Str → Option Value} {led : List (Addr × Obj)} (ps : σ → List (Str × Value)) (stored : List Str) (P : Nat → σ → Prop) (c₀ : σ)
    (hh : A.handled = none) (hr : IsRange s.heap r a₀ b₀ 1 t₀ u₀ v₀) (hsmall : Builtin.Range.small a₀ b₀ 1 = true) (hn : Builtin.Range.rangeSize a₀ b₀ 1 = (n : Int)) (F : Fr h₀ env.locals s.heap m₀) (N : News h₀ env.locals s.heap led) (hk : ∀ p ∈ ps c₀, m₀ p.1 = some p.2) (hp : P 0 c₀)
    (turn : ∀ (c : σ) (pre : List Int) (k : Int) t (u : Str → Option Value) h tk own, k = a₀ + (pre.length : Int) → pre.length < n → OwnOff own (led.map (·.1)) → P pre.length c →
      Fr h₀ env.locals h (fun y => if y = x then some (.int k t) else kstB (fun z => if stored.contains z then u z else m₀ z) (ps c) y) → News h₀ env.locals h (led ++ own) →
      wpAny (model prog w) A (execs body env) (InvPostN h₀ env.locals (KstS (fun _ => led) ps (fun _ => True) x stored m₀ (fun pr c => P pr.length c) (pre ++ [k])) own (led.map (·.1)) { s with heap := h, toks := tk } Q) E { s with heap := h, toks := tk })
    (done : ∀ (c : σ) (u : Str → Option Value) h tk, P n c → Fr h₀ env.locals h (fun y => if y = x then u y else kstB (fun z => if stored.contains z then u z else m₀ z) (ps c) y) → News h₀ env.locals h led → Q .next { s with heap := h, toks := tk }) :
    wpAny (model prog w) A (pyIter (.ref r)) (fun it s₂ => LoopAtV prog w A h₀ env x body Q E it s₂) E s :=
  kst_range (fun _ => led) ps (fun _ => True) stored (fun pr c => P pr.length c) c₀ hh hr hsmall hn F N trivial hk hp (fun c pre k t u h tk own e1 e2 e3 _ e4 => turn c pre k t u h tk own e1 e2 e3 e4) (fun c u h tk _ e4 => done c u h tk (by rw [rangeKs_length] at e4; exact e4))
theorem endC {σ : Type} {ps : σ → List (Str × Value)} {stored : List Str} {m₀ : Str → Option Value} {P : Nat → σ → Prop} {pre : List Int} {k : Int} (c : σ) {L : Addr} {m' : Str → Option Value} {led own news' : List (Addr × Obj)} {s₁ : Shared} {h' : Heap} {tk : Nat}
    (F : Fr h₀ L h' m') (N : News h₀ L h' news') (hn : ∀ p ∈ led, p ∈ news') (ho : ∀ p ∈ own, p ∈ news') (hk : ∀ p ∈ ps c, m' p.1 = some p.2) (hr : ∀ z, z ≠ x → (∀ p ∈ ps c, z ≠ p.1) → stored.contains z = false → m' z = m₀ z) (hp : P (pre.length + 1) c) :
    InvEndN h₀ L (KstS (fun _ => led) ps (fun _ => True) x stored m₀ (fun pr c => P pr.length c) (pre ++ [k])) own (led.map (·.1)) s₁ { s₁ with heap := h', toks := tk } :=
  kst_end c F N hn ho rfl trivial hk hr (by show P _ c; rw [List.length_append]; exact hp)
theorem item_tupI {value slice : Expr} {l : Addr} {vs : List Value} {ws : List Int} {i : Int} {u : Tok} {Q : Value → Shared → Prop} (ht : IsTup s.heap l vs.toArray) (hw : IntsAre vs ws) (h0 : 0 ≤ i) (h1 : i < (ws.length : Int)) (hfit : i < 2 ^ 63) (h : ∀ t', Q (.int (ws.getD i.toNat 0) t') s)
    (hs : subscripted slice false (.ref l) (.int i u) = operate [.ref l, .int i u] (getItem (.ref l) (.int i u)) := by with_unfolding_all rfl) :
    wpAny (model prog w) A (subscriptTail value slice (.ref l) (.int i u)) Q E s := by
  have hlt : i.toNat < ws.length := by omega
  obtain ⟨t', e⟩ := hw.get i.toNat (ws.getD i.toNat 0) (by rw [List.getD_eq_getElem?_getD, List.getElem?_eq_getElem hlt]; rfl)
  have hn : i < ((vs.toArray.size : Nat) : Int) := by rw [List.size_toArray, hw.length]; exact h1
  exact tail_any ht.typeIs slot_tuple_getitem.lookup (getItem_tuple ht (by omega) hfit (seqIndex_of h0 hn) (x := .int _ t') (by simpa using e) (h t')) hs
theorem tup_of {h₀ h : Heap} {L D : Addr} {news : List (Addr × Obj)} {vs : List Value} (N : News h₀ L h news) (hm : (D, { cls := .type "tuple", data := .seq vs.toArray }) ∈ news) : IsTup h D vs.toArray :=
  ⟨_, (N _ hm).1, rfl, _, rfl⟩
end
end Mine
end
section
open PySem PySem.W PyProof.Rows PySem.Spec PySem.Calls
set_option Elab.async false
set_option linter.unusedVariables false
set_option maxRecDepth 100000
namespace Mine
set_option maxHeartbeats 4000000
theorem filled4 : PySem.Challenge.rw_to0033_01.prog = PySem.Challenge.rw_to0033_01.prog ∧ KF = KF := by k_fill; exact ⟨rfl, rfl⟩
local macro_rules | `(tactic| walk_at "mine_enter") => `(tactic| (
  (case ho => with_unfolding_all k_is)
  (case hcd => k_is)
  (case hbind => with_unfolding_all exact rfl)
  (case hloc => exact locs rfl)
  (case hcell => decide)
  (case hco => exact rfl)
  (case hgen => exact rfl)
  (case hk => exact rfl)
  (case hn => decide)))
local macro_rules | `(tactic| walk_at "mine_steps") => `(tactic| repeat' ((fail_if_success (with_reducible show wpAny _ _ (pyIter _) _ _ _)); first | walk1 | (dsimp only; walk1) | fail "no step"))

theorem b1_sp {w : World} {n : Nat} {t1 : Tok} (hl : n ∈ letters) : SP 40 w 108 [.str ⟨#[n]⟩ t1] (fun t => .bool (hid n)) := by
  refine' SP.of [(Str.ofString "code", .str ⟨#[n]⟩ t1)] ?ho ?hcd ?hbind ?hloc ?hcell ?hco ?hgen ?hk ?hn ?hb
  walk_at "mine_enter"
  intro p loose mean mg mb g h L gens drawn tk os P X T F N k
  simp only [List.reverse_cons, List.reverse_nil, List.nil_append, List.cons_append, look_cons, List.lookup_nil] at F
  walk_at "mine_steps"
  refine wpAny_inSet_of (intKind_is _ _ _ _) rfl (set98 (X.keeps F.keep)) ?_
  rw [inB_eq _ hl]
  exact k 0 _ _ _ F
theorem b3_sp {w : World} {n : Nat} {t1 : Tok} (hl : n ∈ letters) (hh : hid n = false) : SP 40 w 154 [.str ⟨#[n]⟩ t1] (fun t => .str ⟨#[low n]⟩ t) := by
  refine' SP.of [(Str.ofString "code", .str ⟨#[n]⟩ t1)] ?ho ?hcd ?hbind ?hloc ?hcell ?hco ?hgen ?hk ?hn ?hb
  walk_at "mine_enter"
  intro p loose mean mg mb g h L gens drawn tk os P X T F N k
  simp only [List.reverse_cons, List.reverse_nil, List.nil_append, List.cons_append, look_cons, List.lookup_nil] at F
  walk_at "mine_steps"
  have hM : h.MapOf (intKind prg w) 109 getD3 := map109 (X.keeps F.keep)
  refine getMethod_builtin (Heap.MapOf.typeIs (s := ⟨h, gens, drawn, tk, os⟩) hM) PySem.F.plainAttrs_dict PySem.F.slot_dict_get PySem.F.type_dict_get hM.noDict ?_
  walk_at "mine_steps"
  refine call_meetsIn PySem.F.slot_dict_get (Heap.MapOf.typeIs hM) PySem.F.entry_dict_get (PySem.F.args_dict_get_2 _ _) (meets_dict_get (intKind prg w) 109 (intKind_is _ _ _ _) (by rfl)) ⟨_, hM, ?_⟩
  rcases b3_of hl hh with ⟨h1, t9, e⟩ | ⟨h1, e⟩
  · rw [e]
    dsimp only [Option.getD_some]
    walk_at "mine_steps"
    exact k _ _ _ _ (by assumption)
  · rw [e]
    dsimp only [Option.getD_none]
    walk_at "mine_steps"
    refine KXw.lower (lower_of hl hh h1) (by rw [lower_of hl hh h1]; rfl) ?_
    intro t' k'
    exact k _ _ _ _ (by assumption)
end Mine
end
section
open PySem PySem.W PyProof.Rows PySem.Spec PySem.Calls
set_option Elab.async false
set_option linter.unusedVariables false
set_option maxRecDepth 100000
namespace Mine
set_option maxHeartbeats 4000000
theorem filled5 : PySem.Challenge.rw_to0033_01.prog = PySem.Challenge.rw_to0033_01.prog ∧ KF = KF := by k_fill; exact ⟨rfl, rfl⟩
local macro_rules | `(tactic| walk_at "mine_enter") => `(tactic| (
  (case ho => with_unfolding_all k_is)
  (case hcd => k_is)
  (case hbind => with_unfolding_all exact rfl)
  (case hloc => exact locs rfl)
  (case hcell => decide)
  (case hco => exact rfl)
  (case hgen => exact rfl)
  (case hk => exact rfl)
  (case hn => decide)))
local macro_rules | `(tactic| walk_at "mine_steps") => `(tactic| repeat' ((fail_if_success (with_reducible show wpAny _ _ (pyIter _) _ _ _)); first | walk1 | (dsimp only; walk1) | fail "no step"))

local macro_rules | `(tactic| walk_at "call ref") => `(tactic| (refine SP.use (by first | exact mul_sp (by omega) | exact floordiv_sp (by omega) | exact mod_sp (by omega) | exact sub_sp (by omega)) (by assumption) (by assumption) (by assumption) (by assumption) rfl (by with_unfolding_all exact Nat.le_of_ble_eq_true rfl) (by with_unfolding_all exact Nat.le_of_ble_eq_true rfl) ?_; (intro t9 h9 tk9 F9 N9); dsimp only))
local macro_rules | `(tactic| walk_at "subscriptTail") => `(tactic| ((rename News _ _ _ _ => lN8); (first
  | refine KTb.item_tup (tup_of lN8 (by first | exact .head _ | exact .tail _ (.head _) | exact .tail _ (.tail _ (.head _)) | exact .tail _ (.tail _ (.tail _ (.head _))))) (StrsAre.cons _ _ (.cons _ _ (.cons _ _ (.cons _ _ (.cons _ _ .nil))))) (by omega) (by dsimp only [List.length]; omega) (by omega) ?_
  | refine item_tupI (tup_of lN8 (by first | exact .head _ | exact .tail _ (.head _) | exact .tail _ (.tail _ (.head _)) | exact .tail _ (.tail _ (.tail _ (.head _))))) (IntsAre.cons _ _ (.cons _ _ (.cons _ _ (.cons _ _ .nil)))) (by omega) (by dsimp only [List.length]; omega) (by omega) ?_); intros; dsimp only))
noncomputable def heads : List Int := [97, 65, 119808, 120276]
noncomputable def hides : List Str := [Str.ofString "", Str.ofString "\u00ad", Str.ofString "", Str.ofString "", Str.ofString "\u2060"]
noncomputable def numF (number base prime : Int) : Nat → Int
  | 0 => number
  | n + 1 => (numF number base prime n * base).fmod prime
noncomputable def signF (number base prime look : Int) (n : Nat) : Str := hides.getD ((look.fdiv 4 + n).fmod 5).toNat Str.empty ++ ⟨#[(heads.getD ((look + n).fmod 4).toNat 0 + (numF number base prime n * base).fdiv prime).toNat]⟩
noncomputable def typF (number base prime look : Int) : Nat → Str
  | 0 => Str.ofString ""
  | n + 1 => typF number base prime look n ++ signF number base prime look n
theorem heads_b (i : Nat) : 0 ≤ heads.getD i 0 ∧ heads.getD i 0 ≤ 120276 := by
  match i with
  | 0 | 1 | 2 | 3 => decide
  | n + 4 => exact ⟨Int.le_refl 0, (by decide : (0:Int) ≤ 120276)⟩
theorem hide_b (i : Nat) : (hides.getD i Str.empty).length ≤ 1 := by
  match i with
  | 0 | 1 | 2 | 3 | 4 => decide
  | n + 5 => exact (by decide : 0 ≤ 1)
theorem typed_sp {w : World} {number base prime look : Int} {t1 t2 t3 t4 : Tok} (h : 2 ≤ base ∧ base ≤ 16 ∧ 2 ≤ prime ∧ prime ≤ 60 ∧ 1 ≤ number ∧ number < prime ∧ 0 ≤ look ∧ look < 1000000) : SP 20 w 168 [.int number t1, .int base t2, .int prime t3, .int look t4] (fun t => .str (typF number base prime look (prime - 1).toNat) t) := by
  obtain ⟨h1, h2, h3, h4, h5, h6, h7, h8⟩ := h
  refine' SP.of [(Str.ofString "number", .int number t1), (Str.ofString "base", .int base t2), (Str.ofString "prime", .int prime t3), (Str.ofString "look", .int look t4)] ?ho ?hcd ?hbind ?hloc ?hcell ?hco ?hgen ?hk ?hn ?hb
  walk_at "mine_enter"
  intro p loose mean mg mb g h L gens drawn tk os P X T F N k
  simp only [List.reverse_cons, List.reverse_nil, List.nil_append, List.cons_append, look_cons, List.lookup_nil] at F
  walk_at "mine_steps"
  (rename Fr _ _ _ _ => lF'); (rename News _ _ _ _ => lN'); (rename IsRange _ _ _ _ _ _ _ _ => rgX)
  refine' rangeC (σ := (Int × Tok) × (Str × Tok)) (fun c => [(Str.ofString "number", .int c.1.1 c.1.2), (Str.ofString "typed", .str c.2.1 c.2.2)]) [Str.ofString "wide", Str.ofString "figure"] (fun i c => c.1.1 = numF number base prime i ∧ c.2.1 = typF number base prime look i ∧ 0 ≤ c.1.1 ∧ c.1.1 < prime ∧ c.2.1.length ≤ 2 * i) ((number, _), (Str.ofString "", _)) rfl rgX (small_one (by omega) (by omega) (by omega) (by omega)) (rangeSize_nat _ _) lF' lN' ?kk ?kp ?turn ?done
  case kk => kst_all
  case kp => exact ⟨rfl, rfl, (show 0 ≤ number by omega), h6, Nat.le_refl _⟩
  case turn =>
    clear lF' rgX lN'
    intro c pre kk t u h' tk' own hk hlt hoff hP F N
    dsimp only [kstB] at F
    obtain ⟨e8, e9, e1, e2, e3⟩ := hP
    have hi0 : 0 ≤ (look.fdiv 4 + kk).fmod 5 := Int.fmod_nonneg_of_pos _ (by decide)
    have hi1 : (look.fdiv 4 + kk).fmod 5 < 5 := Int.fmod_lt_of_pos _ (by decide)
    have hj0 : 0 ≤ (look + kk).fmod 4 := Int.fmod_nonneg_of_pos _ (by decide)
    have hj1 : (look + kk).fmod 4 < 4 := Int.fmod_lt_of_pos _ (by decide)
    obtain ⟨hz0, hz1⟩ := heads_b ((look + kk).fmod 4).toNat
    have hz2 := hide_b ((look.fdiv 4 + kk).fmod 5).toNat
    unfold heads at hz0 hz1
    unfold hides at hz2
    have hb0 : 0 ≤ c.1.1 * base := Int.mul_nonneg (by omega) (by omega)
    have hb1 : c.1.1 * base ≤ 60 * 16 := Int.mul_le_mul (by omega) h2 (by omega) (by omega)
    have hq0 : 0 ≤ (c.1.1 * base).fdiv prime := by rw [Int.fdiv_eq_ediv_of_nonneg _ (by omega)]; exact Int.ediv_nonneg hb0 (by omega)
    have hq1 : (c.1.1 * base).fdiv prime < base := by
      rw [Int.fdiv_eq_ediv_of_nonneg _ (by omega)]
      exact Int.ediv_lt_of_lt_mul (by omega) (by rw [Int.mul_comm]; exact Int.mul_lt_mul_of_pos_left e2 (by omega))
    walk_at "mine_steps"
    refine kst_end ((_, _), (_, _)) (by assumption) (by assumption) (by first | kst_in | kst_inAny) (by first | (intro p hp; kst_mem) | kst_anyIn) rfl True.intro (by kst_all) (by kst_same) ?_
    dsimp only
    rw [List.length_append]
    have hkk : kk = (pre.length : Int) := by omega
    refine ⟨?_, ?_, ?_, ?_, ?_⟩
    · show (c.1.1 * base).fmod prime = (numF number base prime pre.length * base).fmod prime
      rw [e8]
    · show c.2.1 ++ _ = typF number base prime look pre.length ++ signF number base prime look pre.length
      rw [signF, ← e8, ← e9, ← hkk]
      rfl
    · exact Int.fmod_nonneg_of_pos _ (by omega)
    · exact Int.fmod_lt_of_pos _ (by omega)
    · show (c.2.1 ++ _).length ≤ 2 * (pre.length + 1)
      rw [Str.length_append, Str.length_append]
      exact Nat.le_trans (Nat.add_le_add e3 (Nat.add_le_add hz2 (Nat.le_refl 1))) (by omega)
  case done =>
    clear lF' rgX lN'
    intro c u h' tk' hP F N
    dsimp only [kstB] at F
    obtain ⟨e8, e9, e1, e2, e3⟩ := hP
    walk_at "mine_steps"
    show P (Flow.ret (.str c.2.1 _)) _
    rw [e9, Int.sub_zero]
    exact k _ _ _ _ (by assumption)
end Mine
end
section
open PySem PySem.W PyProof.Rows PySem.Spec PySem.Calls
set_option Elab.async false
namespace Mine
noncomputable def sps (n : Nat) : List Nat := List.replicate n 32
noncomputable def ln (a b : Nat) : Str := ⟨(sps a ++ 46 :: sps b).toArray⟩
theorem ln_len (a b : Nat) : (ln a b).length = a + b + 1 := by
  show (sps a ++ 46 :: sps b).toArray.size = _
  rw [List.size_toArray, List.length_append, List.length_cons]
  simp only [sps, List.length_replicate]
  omega
theorem ln_get {a b i : Nat} (h : i ≤ a + b) : (sps a ++ 46 :: sps b)[i]? = some (if i = a then 46 else 32) := by
  by_cases h1 : i < a
  · rw [List.getElem?_append_left (by simpa [sps] using h1), if_neg (by omega)]
    simp [sps, List.getElem?_replicate, h1]
  · rw [List.getElem?_append_right (by simpa [sps] using h1)]
    by_cases h2 : i = a
    · subst h2; simp [sps]
    · rw [if_neg h2, show i - (sps a).length = (i - a - 1) + 1 by simp [sps]; omega, List.getElem?_cons_succ]
      simp [sps, List.getElem?_replicate]; omega
theorem item_ln {a b : Nat} {i : Int} (h0 : 0 ≤ i) (h1 : i ≤ a + b) : (Txt.item (ln a b) i == Str.ofString " ") = !decide (i = a) := by
  obtain ⟨n, rfl⟩ := Int.eq_ofNat_of_zero_le h0
  have hn : n ≤ a + b := by omega
  have hc : Txt.charAt (ln a b) (n : Int) = some (if n = a then 46 else 32) := by
    rw [Txt.charAt]
    have : seqIndex? (n : Int) (ln a b).length = some n := seqIndex_of (by omega) (by rw [ln_len]; omega)
    rw [this]
    exact (List.getElem?_toArray).trans (ln_get hn)
  rw [Txt.item, hc]
  by_cases h2 : n = a
  · subst h2; simp; decide
  · rw [if_neg h2]
    have : decide ((n : Int) = (a : Int)) = false := by simp; omega
    rw [this]; decide
theorem slice_ln {a b : Nat} {i r : Int} (h0 : 0 ≤ i) (h1 : i ≤ a) (h2 : (a : Int) ≤ r) (h3 : r ≤ a + b) : Txt.slice (ln a b) (some i) (some (r + 1)) = ln (a - i.toNat) (r.toNat - a) := by
  have hl : (ln a b).cps.toList.length = a + b + 1 := (Array.length_toList).trans (ln_len a b)
  rw [eq_of_beq (slice_closes (x := ln a b) (i := i) (j := r + 1) ⟨h0, by omega, by rw [hl]; omega⟩)]
  obtain ⟨n, rfl⟩ := Int.eq_ofNat_of_zero_le h0
  obtain ⟨m, rfl⟩ := Int.eq_ofNat_of_zero_le (show 0 ≤ r by omega)
  have e1 : ((m : Int) + 1 - n).toNat = (a - n) + ((m - a) + 1) := by omega
  rw [e1]
  show (⟨(((sps a ++ 46 :: sps b).drop n).take ((a - n) + ((m - a) + 1))).toArray⟩ : Str) = ⟨(sps (a - n) ++ 46 :: sps (m - a)).toArray⟩
  have e2 : (sps a ++ 46 :: sps b).drop n = sps (a - n) ++ 46 :: sps b := by
    rw [List.drop_append_of_le_length (by simp only [sps, List.length_replicate]; omega)]
    simp only [sps, List.drop_replicate]
  have e3 : (sps (a - n) ++ 46 :: sps b).take ((a - n) + ((m - a) + 1)) = sps (a - n) ++ 46 :: sps (m - a) := by
    rw [List.take_append, List.take_of_length_le (by simp only [sps, List.length_replicate]; omega), show (a - n) + ((m - a) + 1) - (sps (a - n)).length = (m - a) + 1 by simp only [sps, List.length_replicate]; omega, List.take_succ_cons]
    simp only [sps, List.take_replicate]
    rw [Nat.min_eq_left (by omega)]
  rw [e2, e3]
theorem mul_blank (n : Nat) : Txt.mul (Str.ofString " ") (n : Int) = ⟨(sps n).toArray⟩ := by
  refine PySem.Str.ext' (Array.toList_inj.mp ?_)
  rw [show Str.ofString " " = ⟨#[32]⟩ from rfl, mul_one_list]
  simp [sps]
theorem ln_zero (n : Nat) : Str.ofString "." ++ Txt.mul (Str.ofString " ") (n : Int) = ln 0 n := by
  rw [mul_blank]
  refine PySem.Str.ext' (Array.toList_inj.mp ?_)
  rw [PySem.Str.cps_append, Array.toList_append]
  show [46] ++ sps n = sps 0 ++ 46 :: sps n
  simp [sps]
theorem ln_add (f a b : Nat) : Txt.mul (Str.ofString " ") (f : Int) ++ ln a b = ln (a + f) b := by
  rw [mul_blank]
  refine PySem.Str.ext' (Array.toList_inj.mp ?_)
  rw [PySem.Str.cps_append, Array.toList_append]
  show sps f ++ (sps a ++ 46 :: sps b) = sps (a + f) ++ 46 :: sps b
  rw [← List.append_assoc]
  simp only [sps, List.replicate_append_replicate, Nat.add_comm]
end Mine
end
section
open PySem PySem.W PyProof.Rows PySem.Spec PySem.Calls
set_option Elab.async false
set_option linter.unusedVariables false
set_option maxRecDepth 100000
namespace Mine
set_option maxHeartbeats 4000000
theorem filled6 : PySem.Challenge.rw_to0033_01.prog = PySem.Challenge.rw_to0033_01.prog ∧ KF = KF := by k_fill; exact ⟨rfl, rfl⟩
local macro_rules | `(tactic| walk_at "mine_enter") => `(tactic| (
  (case ho => with_unfolding_all k_is)
  (case hcd => k_is)
  (case hbind => with_unfolding_all exact rfl)
  (case hloc => exact locs rfl)
  (case hcell => decide)
  (case hco => exact rfl)
  (case hgen => exact rfl)
  (case hk => exact rfl)
  (case hn => decide)))
local macro_rules | `(tactic| walk_at "mine_steps") => `(tactic| repeat' ((fail_if_success (with_reducible show wpAny _ _ (pyIter _) _ _ _)); (fail_if_success (with_reducible show wpAny _ _ (exec (Stmt.While _ _ _ _) _) _ _ _)); first | walk1 | (dsimp only; walk1) | fail "no step"))

theorem strip_sp {w : World} {a b f : Nat} {t1 t2 : Tok} (h : a ≤ 2000 ∧ b ≤ 2000 ∧ f ≤ 2000) : SP 30 w 45 [.str (ln a b) t1, .int f t2] (fun t => .str (ln (a - f) (b - (f - a))) t) := by
  obtain ⟨h1, h2, h3⟩ := h
  have hl : (ln a b).length = a + b + 1 := ln_len a b
  refine' SP.of [(Str.ofString "s", .str (ln a b) t1), (Str.ofString "amount", .int f t2)] ?ho ?hcd ?hbind ?hloc ?hcell ?hco ?hgen ?hk ?hn ?hb
  walk_at "mine_enter"
  intro p loose mean mg mb g h L gens drawn tk os P X T F N k
  simp only [List.reverse_cons, List.reverse_nil, List.nil_append, List.cons_append, look_cons, List.lookup_nil] at F
  walk_at "mine_steps"
  (rename Fr _ _ _ _ => lF'); (rename News _ _ _ _ => lN')
  refine' ksw_while (σ := (Int × Tok) × (Int × Tok)) (fun _ => []) (fun c => [(Str.ofString "lpos", .int c.1.1 c.1.2), (Str.ofString "amount", .int c.2.1 c.2.2)]) (fun _ => True) [] (fun c => 0 ≤ c.1.1 ∧ 0 ≤ c.2.1 ∧ c.1.1 ≤ a ∧ c.1.1 + c.2.1 = f) (fun c => c.2.1.toNat) ((0, _), (f, _)) lF' lN' True.intro ?kk ?kp ?turn
  case kk => kst_all
  case kp => exact ⟨(by decide : (0:Int) ≤ 0), (show (0:Int) ≤ f by omega), (show (0:Int) ≤ a by omega), (show (0:Int) + f = f by omega)⟩
  case turn =>
    clear lF' lN'
    intro c u h' tk' _ hP F N
    dsimp only [kstB] at F
    obtain ⟨e1, e2, e3, e4⟩ := hP
    have hit := item_ln (a := a) (b := b) e1 (by omega)
    walk_at "mine_steps"
    case _ =>
      rename (Txt.item _ _ == _) = true => hq
      refine ksw_end ((_, _), (_, _)) (by assumption) (by assumption) (by kst_in) True.intro (by kst_all) (by ksw_same) ?_ ?_
      all_goals dsimp only
      · rw [hq] at hit
        have : ¬ c.1.1 = a := by simpa using hit
        omega
      · omega
    all_goals (
      have hA : c.2.1 = 0 ∨ c.1.1 = a := by
        first
        | (rename (Txt.item _ _ == _) = false => hq; rw [hq] at hit; exact .inr (by simpa using hit))
        | (left; assumption)
      clear hit
      (rename Fr _ _ _ _ => lF')
      (rename News _ _ _ _ => lN')
      refine ksw_while (σ := (Int × Tok) × (Int × Tok)) (fun _ => []) (fun d => [(Str.ofString "rpos", .int d.1.1 d.1.2), (Str.ofString "amount", .int d.2.1 d.2.2)]) (fun _ => True) [] (fun d => 0 ≤ d.2.1 ∧ a ≤ d.1.1 ∧ d.1.1 ≤ a + b ∧ (a + b - d.1.1) + d.2.1 = c.2.1) (fun d => d.2.1.toNat) ((_, _), (_, _)) lF' lN' True.intro (by kst_all) ?_ ?_
      · dsimp only; omega
      · clear lF' lN'
        intro d u2 h2' tk2 _ hP F N
        dsimp only [kstB] at F
        obtain ⟨d1, d2, d3, d4⟩ := hP
        have hit := item_ln (a := a) (b := b) (i := d.1.1) (by omega) (by omega)
        walk_at "mine_steps"
        all_goals (first
        | (exfalso; omega)
        | (rename (Txt.item _ _ == _) = true => hq
           refine ksw_end ((_, _), (_, _)) (by assumption) (by assumption) (by kst_in) True.intro (by kst_all) (by ksw_same) ?_ ?_
           all_goals dsimp only
           · rw [hq] at hit
             have : ¬ d.1.1 = a := by simpa using hit
             omega
           · omega)
        | (have hB : d.2.1 = 0 ∨ d.1.1 = a := by
            first
            | (rename (Txt.item _ _ == _) = false => hq; rw [hq] at hit; exact .inr (by simpa using hit))
            | (left; assumption)
           show P (Flow.ret (.str (Txt.slice (ln a b) (some c.1.1) (some (d.1.1 + 1))) _)) _
           rw [slice_ln e1 e3 d2 d3, show a - c.1.1.toNat = a - f by omega, show d.1.1.toNat - a = b - (f - a) by omega]
           exact k _ _ _ _ (by assumption))))
end Mine
end
section
open PySem PySem.W PyProof.Rows PySem.Spec PySem.Calls
open PyProof.Rows.LCt PyProof.Rows.LCg
set_option Elab.async false
set_option linter.unusedVariables false
set_option maxRecDepth 100000
set_option maxHeartbeats 4000000
namespace Mine
section
variable {prog : Program} {w : World} {A : Around} {E : Value → Shared → Prop} {s : Shared} {h₀ : Heap} {L : Addr} {m : Str → Option Value} {env : Env}
theorem str_st {I : Addr} {T : String} {x : Str} {t : Tok} : ∀ i (h h' : Heap) (o : Obj) (nw : List (Addr × Obj)), h.IsStrIter I T x t i → h.get? I = some o → h'.get? I = some o → (∀ b o, h₀.get? b = some o → h'.get? b = some o) → News h₀ L h' nw → True → h'.IsStrIter I T x t i :=
  fun i h h' o nw ⟨o', e, r⟩ e1 e2 _ _ _ => ⟨o', by rw [e2, ← e1, e], r⟩
/-- letters = [elt for x in text if test] -/
theorem Assign_LC_S {ct elt iter : Expr} {x y : Str} {px py : Pos} {scope : Scope} {cl : List (Str × Addr)} {pos spos : Pos} {Q : Flow → Shared → Prop} {xt : Str} {tx : Tok} {news : List (Addr × Obj)} (hLe : env.locals = L)
    (hsw : swapsWith (.ListComp elt [⟨.Name x px, iter, [ct], 0⟩] scope pos) (some (.Name y py)) spos.line env = pure true)
    (hclos : closureFor scope env = pure cl) (hcell : ∀ z ∈ scope.names, z.2 ≠ .cell) (hkind : scope.kind = .function)
    (hnames : ∀ z ∈ scope.names, z.2 = .local → scope.names.lookup z.1 = some .local) (hx : scope.names.lookup x = some .local)
    (hy : env.kindOf y = some .local) (hp : (env.scope.kind == .class || (env.scope.kind == .module && env.locals != env.globals)) = false)
    (hh : A.handled = none) (hsz : xt.length ≤ sizeLine)
    (h : wpAny (model prog w) A (eval iter env) (fun xv s₁ => xv = .str xt tx ∧ Fr h₀ L s₁.heap m ∧ News h₀ L s₁.heap news ∧
      ∀ s₂ : Shared, (∃ h, s₂ = { s₁ with heap := h }) → CompRestT prog w A h₀ L m env ct elt x scope cl s₂ (fun _ => True) (SignAt xt) (FinA h₀ L m s₂ y Q) xt.cps.size 0 [] news) E s)
    (hs : ∀ x, foldedSetIterable iter env x = pure x := by intro _; rfl) :
    wpAny (model prog w) A (exec (.Assign [.Name y py] (.ListComp elt [⟨.Name x px, iter, [ct], 0⟩] scope pos) spos) env) Q E s := by
  subst hLe
  rw [exec_Assign_Name_used _ _ _ _ hsw]
  refine wpAny_bind (wpAny_standAt (wpAny_bind ?_))
  show wpAny _ A (do let _ ← comprehension (.ListComp elt [⟨.Name x px, iter, [ct], 0⟩] scope pos) scope env _ (newList []) false (eval iter env) (some (assign (.Name y py) env))) _ _ s
  refine wpAny_bind (wpAny_mono (wpAny_comprehension_free (use := some (assign (.Name y py) env)) (Q := fun _ s' => Q .next s') rfl hs hclos hkind hnames
    (wpAny_mono h (fun xv s₁ h₁ => ?_) fun _ _ e => e)) (fun _ s' hq => wpAny_pure (wpAny_pure hq)) fun _ _ e => e)
  obtain ⟨rfl, F, N, R⟩ := h₁
  have key : ∀ (T : String), Walks prog w A s₁.heap.objs.size [s₁.heap.objs.size] [s₁.heap.objs.size] xt.cps.size (SignAt xt) (fun i h => h.IsStrIter s₁.heap.objs.size T xt tx i) →
      wpAny (model prog w) A (newList []) (fun acc s₃ => wpAny (model prog w) A (newFunctionEnv scope env.globals cl [] env.qual none .none (some env)) (fun cenv s₄ =>
        codeAny (model prog w) A (.compStart (.ListComp elt [⟨.Name x px, iter, [ct], 0⟩] scope pos) 0 (.ref s₁.heap.objs.size) acc { cenv with scope := relabel scope env }) (compPost (model prog w) A E (some (assign (.Name y py) env)) (fun _ s' => Q .next s') acc cenv.locals) s₄) E s₃) E
        { s₁ with heap := s₁.heap.push { cls := .type T, data := .fields #[.str xt tx, .int 0 0] } } := by
    intro T W
    have up : ∀ b o, s₁.heap.get? b = some o → (s₁.heap.push { cls := .type T, data := .fields #[.str xt tx, .int 0 0] }).get? b = some o := fun b o e => Heap.get?_push_of_some _ e
    refine block_T W hsz (fun i h st => by obtain ⟨o, e, _⟩ := st; exact ⟨o, e⟩) str_st hcell hkind hx ⟨_, Heap.get?_push_size _ rfl, rfl, rfl⟩ (fun b hb => ?_)
      (F.keeps up) (N.grown up) (Nat.ne_of_lt F.ns.lt) (next_is_new F) (fun p hp => Nat.ne_of_lt (Heap.lt_size (N p hp).1)) trivial (R _ ⟨_, rfl⟩) ?_
    · rw [List.mem_singleton.mp hb]
      show s₁.heap.objs.size < (s₁.heap.push _).objs.size
      rw [Heap.size_push]; exact Nat.lt_succ_self _
    · intro D C h' tk m' ys news' F' N' o1 hn hC₀ hD₀ hCL hDL hCD offC fin
      show wpAny _ A (assign (.Name y py) env (.ref D)) _ _ _
      refine wpAny_assign_Name (wpAny_storeName_local hy F'.ns (fun h₂ hn₂ hs₂ => ?_) hp)
      have hL₀ : h₀.get? env.locals = none := Heap.get?_none_of_le F'.above
      have F₂ : Fr h₀ env.locals h₂ (fun z => if z = y then some (.ref D) else m z) := ⟨hn₂, fun b o e => hs₂.extBut b o (fun q => by rw [q, hL₀] at e; cases e) (F'.keep b o e), F'.above⟩
      refine ⟨m', hn.sameBut hs₂ hCL, fun h'' hs'' => fin D h'' _ (F₂.change hs'' hCL hC₀) (fun p hp => ?_) o1⟩
      have z : h₂.get? p.1 = some p.2 := hs₂.extBut _ _ (N' p hp).2.1 (N' p hp).1
      refine ⟨hs''.extBut _ _ ?_ z, (N' p hp).2⟩
      rcases List.mem_cons.mp hp with rfl | hp
      · exact Ne.symm hCD
      · exact offC p hp
  cases ha : xt.cps.all (· < 128) with
  | false => exact wpAny_pyIter_wide ha (key _ (Walks.strWide hh _ xt tx))
  | true => exact wpAny_pyIter_ascii ha (key _ (Walks.strAscii hh _ xt tx))
/-- the turns of a comprehension over a text, each turn shown alike: the turn keeps a word of what is made so far -/
theorem rest_S {ct elt : Expr} {x : Str} {scope : Scope} {cl : List (Str × Addr)} {xt : Str} {Fin : List Value → List (Addr × Obj) → Prop} {news : List (Addr × Obj)} (R : Nat → List Value → Prop)
    (turn : ∀ i c t ys I oI C oC D m₂ h tk (E' : Value → Shared → Prop), xt.cps[i]? = some c → R i ys → NsObj oC m₂ → m₂ x = some (.str ⟨#[c]⟩ t) → Fr h₀ L h m → News h₀ L h ((I, oI) :: (C, oC) :: (D, lst ys) :: news) → Off3 I C D news → ((@Ne Nat I C) ∧ (@Ne Nat I D) ∧ (@Ne Nat C D)) →
      wpAny (model prog w) A (isTrue ct (compEnvC scope cl C env) (eval ct (compEnvC scope cl C env))) (fun ok s' => if ok = true then
        wpAny (model prog w) A (eval elt (compEnvC scope cl C env)) (CompEnd h₀ L m { s with heap := h, toks := tk } I oI C oC D (lst ys) (fun _ => True) (fun y news' => news' = news ∧ R (i + 1) (ys ++ [y]))) E' s'
        else CompEnd h₀ L m { s with heap := h, toks := tk } I oI C oC D (lst ys) (fun _ => True) (fun _ news' => news' = news ∧ R (i + 1) ys) Value.none s') E' { s with heap := h, toks := tk })
    (fin : ∀ ys, R xt.cps.size ys → Fin ys news) : ∀ k i ys, i + k = xt.cps.size → R i ys → CompRestT prog w A h₀ L m env ct elt x scope cl s (fun _ => True) (SignAt xt) Fin k i ys news
  | 0, i, ys, e, r => .zero (fin ys (by rw [← e]; exact r))
  | k + 1, i, ys, e, r => .succ fun v I oI C oC D m₂ h tk E' hv hC hx F N off ne => by
    obtain ⟨c, t, hc, rfl⟩ := hv
    refine wpAny_mono (turn i c t ys I oI C oC D m₂ h tk E' hc r hC hx F N off ne) (fun ok s' q => ?_) fun _ _ x => x
    cases ok with
    | true =>
      simp only [if_true] at q ⊢
      refine wpAny_mono q (fun y s'' q => ?_) fun _ _ x => x
      obtain ⟨h', tk', news', e1, F', N', off', _, rfl, r'⟩ := q
      exact ⟨h', tk', _, e1, F', N', off', trivial, rest_S R turn fin k (i + 1) _ (by omega) r'⟩
    | false =>
      simp only [Bool.false_eq_true, if_false] at q ⊢
      obtain ⟨h', tk', news', e1, F', N', off', _, rfl, r'⟩ := q
      exact ⟨h', tk', _, e1, F', N', off', trivial, rest_S R turn fin k (i + 1) _ (by omega) r'⟩
end
end Mine
end
section
open PySem PySem.W PyProof.Rows PySem.Spec PySem.Calls
set_option Elab.async false
set_option linter.unusedVariables false
set_option maxRecDepth 100000
set_option maxHeartbeats 4000000
namespace Mine
section
variable {prog : Program} {w : World} {A : Around} {E : Value → Shared → Prop} {s : Shared} {env : Env} {h₀ : Heap} {body : List Stmt} {Q : Flow → Shared → Prop}
/-- what a turn owes at its end -/
noncomputable def TurnE {σ : Type} (h₀ : Heap) (L : Addr) (s₁ : Shared) (all : List (Addr × Obj)) (ps : σ → List (Str × Value)) (stored : List Str) (m₀ : Str → Option Value) (Pn : σ → Prop) (Q : Flow → Shared → Prop) (f : Flow) (s₂ : Shared) : Prop :=
  match f with
  | .ret v => Q (.ret v) s₂
  | .brk => Q .next s₂
  | _ => ∃ h' tk m' c, s₂ = { s₁ with heap := h', toks := tk } ∧ Fr h₀ L h' m' ∧ News h₀ L h' all ∧ (∀ p ∈ ps c, m' p.1 = some p.2) ∧ (∀ z, (∀ p ∈ ps c, z ≠ p.1) → stored.contains z = false → m' z = m₀ z) ∧ Pn c
theorem turnE {σ : Type} {h₀ : Heap} {L : Addr} {s₁ : Shared} {all news' : List (Addr × Obj)} {ps : σ → List (Str × Value)} {stored : List Str} {m₀ m' : Str → Option Value} {Pn : σ → Prop} {Q : Flow → Shared → Prop} {h' : Heap} {tk : Nat} (c : σ)
    (F : Fr h₀ L h' m') (N : News h₀ L h' news') (hn : ∀ p ∈ all, p ∈ news') (hk : ∀ p ∈ ps c, m' p.1 = some p.2) (hr : ∀ z, (∀ p ∈ ps c, z ≠ p.1) → stored.contains z = false → m' z = m₀ z) (hp : Pn c) :
    TurnE h₀ L s₁ all ps stored m₀ Pn Q .next { s₁ with heap := h', toks := tk } := ⟨h', tk, m', c, rfl, F, fun p hp => N p (hn p hp), hk, hr, hp⟩
theorem enum_rest {σ : Type} {vs : List Value} {target : Expr} {I l : Addr} {lo : Obj} {news : List (Addr × Obj)} (ps : σ → List (Str × Value)) (stored : List Str) (m₀ : Str → Option Value) (P : Nat → σ → Prop) (hk : (l, lo) ∈ news) (hI : ∀ p ∈ news, p.1 < I)
    (turn : ∀ i v c (u : Str → Option Value) T t h tk (oE oI : Obj), vs[i]? = some v → P i c → oE.cls = .type "enumerate" → oI.cls = .type "list_iterator" → IsTup h T #[.int (i : Int) t, v] →
      Fr h₀ env.locals h (kstB (fun z => if stored.contains z then u z else m₀ z) (ps c)) → News h₀ env.locals h ((I + 1, oE) :: (I, oI) :: news) →
      wpAny (model prog w) A (assign target env (.ref T)) (fun _ s₂ => wpAny (model prog w) A (execs body env) (TurnE h₀ env.locals { s with heap := h, toks := tk } ((I + 1, oE) :: (I, oI) :: news) ps stored m₀ (P (i + 1)) Q) E s₂) E { s with heap := h, toks := tk })
    (fin : ∀ c (u : Str → Option Value) h tk, P vs.length c → Fr h₀ env.locals h (kstB (fun z => if stored.contains z then u z else m₀ z) (ps c)) → News h₀ env.locals h news → Q .next { s with heap := h, toks := tk }) :
    ∀ (r pre : List Value) m c, pre ++ r = vs → (∀ p ∈ ps c, m p.1 = some p.2) → (∀ z, (∀ p ∈ ps c, z ≠ p.1) → stored.contains z = false → m z = m₀ z) → P pre.length c →
      ItemsRest prog w A E h₀ env target body Q s [(I + 1, "enumerate"), (I, "list_iterator")] [(l, lo)] (enumItems pre.length r) m news
  | [], pre, m, c, e, h1, h2, hp => .zero fun h tk F N => by
    rw [List.append_nil] at e
    subst e
    exact fin c m h tk hp (ksw_fr h1 h2 F) N
  | v :: r, pre, m, c, e, h1, h2, hp => .pair fun T t h tk hT F oE hE oI hI' N => by
    have hv : vs[pre.length]? = some v := by rw [← e]; simp
    refine wpAny_mono (turn pre.length v c m T t h tk oE oI hv hp hE hI' hT (ksw_fr h1 h2 F) N) (fun _ s₂ q => ?_) fun _ _ x => x
    refine wpAny_mono q (fun f s₃ q => ?_) fun _ _ x => x
    have up : (∃ h' tk' m' c, s₃ = { { s with heap := h, toks := tk } with heap := h', toks := tk' } ∧ Fr h₀ env.locals h' m' ∧ News h₀ env.locals h' ((I + 1, oE) :: (I, oI) :: news) ∧ (∀ p ∈ ps c, m' p.1 = some p.2) ∧ (∀ z, (∀ p ∈ ps c, z ≠ p.1) → stored.contains z = false → m' z = m₀ z) ∧ P (pre.length + 1) c) →
        UnrEndW h₀ env.locals { s with heap := h, toks := tk } [(I + 1, oE), (I, oI)] (fun m' n' => SubL [(l, lo)] n' ∧ ItemsRest prog w A E h₀ env target body Q s [(I + 1, "enumerate"), (I, "list_iterator")] [(l, lo)] (enumItems (pre.length + 1) r) m' n') s₃ := by
      rintro ⟨h', tk', m', c', rfl, F', N', k1, k2, hp'⟩
      refine ⟨h', tk', m', news, rfl, F', N', fun p hp q hq => ?_, ⟨hk, trivial⟩, ?_⟩
      · have hlt := hI p hp
        have : q.1 = I + 1 ∨ q.1 = I := by
          rcases List.mem_cons.mp hq with rfl | hq
          · exact .inl rfl
          · rw [List.mem_singleton.mp hq]; exact .inr rfl
        exact fun e => by
          rcases this with h | h <;> rw [e, h] at hlt
          · exact absurd hlt (Nat.not_lt.mpr (Nat.le_succ _))
          · exact absurd hlt (Nat.lt_irrefl _)
      · have z := enum_rest ps stored m₀ P hk hI turn fin r (pre ++ [v]) m' c' (by rw [← e]; simp) k1 k2 (by rw [List.length_append]; exact hp')
        rw [List.length_append] at z
        exact z
    cases f with
    | ret v => exact q
    | brk => exact q
    | next => exact up q
    | cont => exact up q
theorem enum_loop {σ : Type} {elts : List Expr} {k : Nat} {pos : Pos} {l : Addr} {vs : List Value} {m₀ : Str → Option Value} {news : List (Addr × Obj)} (ps : σ → List (Str × Value)) (stored : List Str) (P : Nat → σ → Prop) (c₀ : σ)
    (hh : A.handled = none) (F : Fr h₀ env.locals s.heap m₀) (N : News h₀ env.locals s.heap news) (hm : (l, LCg.lst vs) ∈ news) (hk : ∀ p ∈ ps c₀, m₀ p.1 = some p.2) (hp : P 0 c₀)
    (turn : ∀ i v c (u : Str → Option Value) I T t h tk (oE oI : Obj), vs[i]? = some v → P i c → oE.cls = .type "enumerate" → oI.cls = .type "list_iterator" → IsTup h T #[.int (i : Int) t, v] →
      Fr h₀ env.locals h (kstB (fun z => if stored.contains z then u z else m₀ z) (ps c)) → News h₀ env.locals h ((I + 1, oE) :: (I, oI) :: news) →
      wpAny (model prog w) A (assign (.Tuple elts k pos) env (.ref T)) (fun _ s₂ => wpAny (model prog w) A (execs body env) (TurnE h₀ env.locals { s with heap := h, toks := tk } ((I + 1, oE) :: (I, oI) :: news) ps stored m₀ (P (i + 1)) Q) E s₂) E { s with heap := h, toks := tk })
    (fin : ∀ c (u : Str → Option Value) h tk, P vs.length c → Fr h₀ env.locals h (kstB (fun z => if stored.contains z then u z else m₀ z) (ps c)) → News h₀ env.locals h news → Q .next { s with heap := h, toks := tk }) :
    wpAny (model prog w) A (call (.type "enumerate") [.ref l]) (fun xv s₁ => wpAny (model prog w) A (pyIter xv) (fun it s₂ => TurnsAt prog w A h₀ env (.Tuple elts k pos) body Q E it s₂) E s₁) E s :=
  ktu_enum (lo := LCg.lst vs) (vs := vs) (n := _) hh F N hm rfl rfl rfl fun I hI =>
    enum_rest ps stored m₀ P hm hI (fun i v c u T t h tk oE oI => turn i v c u I T t h tk oE oI) fin vs [] m₀ c₀ rfl hk (fun _ _ _ => rfl) hp
end
end Mine
end
section
open PySem PySem.W PyProof.Rows PySem.Spec PySem.Calls
set_option Elab.async false
set_option linter.unusedVariables false
set_option maxRecDepth 100000
namespace Mine
set_option maxHeartbeats 4000000
theorem filled7 : PySem.Challenge.rw_to0033_01.prog = PySem.Challenge.rw_to0033_01.prog ∧ KF = KF := by k_fill; exact ⟨rfl, rfl⟩
local macro_rules | `(tactic| walk_at "mine_enter") => `(tactic| (
  (case ho => with_unfolding_all k_is)
  (case hcd => k_is)
  (case hbind => with_unfolding_all exact rfl)
  (case hloc => exact locs rfl)
  (case hcell => decide)
  (case hco => exact rfl)
  (case hgen => exact rfl)
  (case hk => exact rfl)
  (case hn => decide)))
local macro_rules | `(tactic| walk_at "mine_steps") => `(tactic| repeat' ((fail_if_success (with_reducible show wpAny _ _ (pyIter _) _ _ _)); (fail_if_success (with_reducible show wpAny _ _ (exec (Stmt.While _ _ _ _) _) _ _ _)); (fail_if_success (with_reducible show wpAny _ _ (exec (Stmt.For (Expr.Tuple _ _ _) _ _ _ _) _) _ _ _)); (fail_if_success (with_reducible show wpAny _ _ (exec (Stmt.Assign _ (Expr.ListComp _ _ _ _) _) _) _ _ _)); first | walk1 | (dsimp only; walk1) | fail "no step"))

local macro_rules | `(tactic| walk_at "call ref") => `(tactic| (refine SP.use (by first | exact b1_sp (by assumption) | exact b3_sp (by assumption) (by assumption) | exact sub_sp (by omega)) (by assumption) (by assumption) (by assumption) (by assumption) rfl (by with_unfolding_all exact Nat.le_of_ble_eq_true rfl) (by with_unfolding_all exact Nat.le_of_ble_eq_true rfl) ?_; (intro t9 h9 tk9 F9 N9); dsimp only))
noncomputable def codesF (x : Str) : List Nat := x.cps.toList.filter (fun n => !hid n)
noncomputable def lets (l : List Nat) : List Str := (l.filter (fun n => !hid n)).map (fun n => ⟨#[low n]⟩)
noncomputable def figOf (cs : List Nat) (i : Nat) : Nat := low (cs.getD i 97) - 97
/-- the blanks ahead and behind, i letters read -/
noncomputable def linF (cs : List Nat) (purse : Nat) : Nat → Nat × Nat
  | 0 => (0, purse)
  | n + 1 => if n % 2 = 1 then ((linF cs purse n).1 - figOf cs n, (linF cs purse n).2 - (figOf cs n - (linF cs purse n).1)) else ((linF cs purse n).1 + figOf cs n, (linF cs purse n).2)
theorem low_b : ∀ n ∈ letters, hid n = false → 97 ≤ low n ∧ low n ≤ 112 := by decide
theorem line_sp {w : World} {x : Str} {purse : Nat} {t1 t2 : Tok} (h : x.length ≤ 120 ∧ purse ≤ 500) (hx : ∀ n ∈ x.cps.toList, n ∈ letters) : SP 20 w 173 [.str x t1, .int purse t2] (fun t => .str (ln (linF (codesF x) purse (codesF x).length).1 (linF (codesF x) purse (codesF x).length).2) t) := by
  obtain ⟨h1, h2⟩ := h
  refine' SP.of [(Str.ofString "typed", .str x t1), (Str.ofString "purse", .int purse t2)] ?ho ?hcd ?hbind ?hloc ?hcell ?hco ?hgen ?hk ?hn ?hb
  walk_at "mine_enter"
  intro p loose mean mg mb g h L gens drawn tk os P X T F N k
  simp only [List.reverse_cons, List.reverse_nil, List.nil_append, List.cons_append, look_cons, List.lookup_nil] at F
  walk_at "mine_steps"
  (rename Fr _ _ _ _ => lF'); (rename News _ _ _ _ => lN')
  refine' Assign_LC_S (h₀ := g) (L := L) (xt := x) (tx := t1) (news := []) ?a1 ?a2 ?a3 ?a4 ?a5 ?a6 ?a7 ?a8 ?a9 ?a10 ?a11 ?a12 ?a13
  case a1 => rfl
  case a2 => with_unfolding_all rfl
  case a3 => with_unfolding_all rfl
  case a4 => decide
  case a5 => rfl
  case a6 => decide
  case a7 => rfl
  case a8 => rfl
  case a9 => rfl
  case a10 => rfl
  case a11 => exact Nat.le_trans h1 (by decide)
  case a13 => intro _; rfl
  case a12 =>
    walk1
    refine ⟨rfl, lF', lN', ?_⟩
    rintro s₂ ⟨h2', rfl⟩
    refine rest_S (fun i ys => StrsAre ys (lets (x.cps.toList.take i))) ?turn ?fin _ 0 [] (Nat.zero_add _) .nil
    case turn =>
      clear lF' lN'
      intro i c t ys I oI C oC D m₂ h3 tk3 E' hc hR hC hx1 F3 N3 off ne
      have hcl : c ∈ letters := hx c (List.mem_of_getElem? ((Array.getElem?_toList).trans hc))
      have htk : x.cps.toList.take (i + 1) = x.cps.toList.take i ++ [c] := by
        rw [List.take_add_one, (Array.getElem?_toList).trans hc]; rfl
      have hR' : hid c = true → StrsAre ys (lets (x.cps.toList.take (i + 1))) := fun e => by
        rw [htk, lets, List.filter_append, List.filter_cons_of_neg (by simp [e]), List.filter_nil, List.append_nil]; exact hR
      have hR'' : ∀ tt, hid c = false → StrsAre (ys ++ [.str ⟨#[low c]⟩ tt]) (lets (x.cps.toList.take (i + 1))) := fun tt e => by
        rw [htk, lets, List.filter_append, List.filter_cons_of_pos (by simp [e]), List.filter_nil, List.map_append]; exact hR.append' (.cons _ _ .nil)
      dsimp only
      walk_at "mine_steps"
      case _ => exact hR' (by assumption)
      case _ => exact hR'' _ (by assumption)
    case fin =>
      intro ys hR D h3 tk3 F3 N3 o1
      rw [show List.take x.cps.size x.cps.toList = x.cps.toList from List.take_of_length_le (Nat.le_refl _)] at hR
      clear lF' lN'
      dsimp only
      walk_at "mine_steps"
      refine For_turns (by assumption) ?_
      walk_at "mine_steps"
      (rename Fr _ _ _ _ => lF'); (rename News _ _ _ _ => lN')
      have hlen : ys.length = (codesF x).length := by rw [hR.length]; simp [lets, codesF]
      rw [ln_zero] at lF'
      refine enum_loop (σ := Nat × Nat × Tok) (fun c => [(Str.ofString "line", .str (ln c.1 c.2.1) c.2.2)]) [Str.ofString "place", Str.ofString "letter", Str.ofString "figure"] (fun i c => (c.1, c.2.1) = linF (codesF x) purse i ∧ c.1 ≤ 16 * i ∧ c.2.1 ≤ purse) (0, purse, _) rfl lF' lN' (.head _) (by kst_all) ⟨rfl, Nat.le_refl 0, Nat.le_refl _⟩ ?turn2 ?fin2
      case turn2 =>
        clear lF' lN'
        intro i v c u I T9 t h4 tk4 oE oI hv hP hE hI hT F N
        dsimp only [kstB] at F
        obtain ⟨e1, e2, e3⟩ := hP
        have hi : i < ys.length := (List.getElem?_eq_some_iff.mp hv).1
        have hil : i < (codesF x).length := hlen ▸ hi
        have hcd : (codesF x)[i]? = some ((codesF x).getD i 97) := by
          rw [List.getD_eq_getElem?_getD, List.getElem?_eq_getElem hil]; rfl
        obtain ⟨tv, rfl⟩ : ∃ tv, v = .str ⟨#[low ((codesF x).getD i 97)]⟩ tv := by
          obtain ⟨t', e⟩ := hR.get i ⟨#[low ((codesF x).getD i 97)]⟩ (by
            show ((codesF x).map (fun n => (⟨#[low n]⟩ : Str)))[i]? = _
            rw [List.getElem?_map, hcd]; rfl)
          rw [hv] at e
          exact ⟨t', Option.some.inj e⟩
        have hmem : (codesF x).getD i 97 ∈ codesF x := List.mem_of_getElem? hcd
        have hlow := low_b _ (hx _ (List.mem_filter.mp hmem).1) (by simpa using (List.mem_filter.mp hmem).2)
        have hi200 : i ≤ 120 := Nat.le_trans (Nat.le_of_lt hil) (Nat.le_trans (List.length_filter_le _ _) h1)
        have hln := ln_len c.1 c.2.1
        have hfig : ((low ((codesF x).getD i 97) : Nat) : Int) - 97 = (figOf (codesF x) i : Nat) := by
          unfold figOf; omega
        have hfig2 : figOf (codesF x) i ≤ 15 := by unfold figOf; omega
        walk_at "mine_steps"
        case _ =>
          rw [hfig]
          refine SP.use (strip_sp (a := c.1) (b := c.2.1) (f := figOf (codesF x) i) (by omega)) (by assumption) (by assumption) X T rfl (by with_unfolding_all exact Nat.le_of_ble_eq_true rfl) (by with_unfolding_all exact Nat.le_of_ble_eq_true rfl) ?_
          intro t9 h9 tk9 F9 N9
          dsimp only
          walk_at "mine_steps"
          refine turnE (_, _, _) (by assumption) (by assumption) (by intro p hp; kst_mem) (by kst_all) (by ksw_same) ?_
          rename (Int.fmod _ _ ≠ 0) => hone
          have hi2 : i % 2 = 1 := by
            rw [Int.fmod_eq_emod_of_nonneg _ (by decide)] at hone; omega
          dsimp only
          refine ⟨?_, ?_, ?_⟩
          · rw [linF, if_pos hi2, ← e1]
          · omega
          · omega
        case _ =>
          (rename Fr _ _ _ _ => lF9)
          rw [hfig, ln_add] at lF9
          refine turnE (_, _, _) (by assumption) (by assumption) (by intro p hp; kst_mem) (by kst_all) (by ksw_same) ?_
          rename (Int.fmod _ _ = 0) => hone
          have hi2 : ¬ i % 2 = 1 := by
            rw [Int.fmod_eq_emod_of_nonneg _ (by decide)] at hone; omega
          dsimp only
          refine ⟨?_, ?_, ?_⟩
          · rw [linF, if_neg hi2, ← e1]
          · omega
          · omega
      case fin2 =>
        clear lF' lN'
        intro c u h4 tk4 hP F N
        dsimp only [kstB] at F
        obtain ⟨e1, e2, e3⟩ := hP
        walk_at "mine_steps"
        rw [hlen] at e1
        show P (Flow.ret (.str (ln c.1 c.2.1) _)) _
        rw [(Prod.mk.inj e1).1, (Prod.mk.inj e1).2]
        exact k _ _ _ _ (by assumption)
end Mine
end
section
open PySem PySem.W PyProof.Rows PySem.Spec PySem.Calls
open PySem.Builtin.Re
set_option Elab.async false
set_option linter.unusedVariables false
set_option maxRecDepth 100000
set_option maxHeartbeats 4000000
namespace Mine
noncomputable def driveP : Nat → Sre.M → Option Sre.M
  | 0, _ => none
  | k + 1, m => bif (m.runFor reTurnSteps).outcome.isSome then some (m.runFor reTurnSteps) else driveP k (m.runFor reTurnSteps)
/-- the next match from start on: none where the run does not end in k turns -/
noncomputable def nextM (k : Nat) (code text : Array Nat) (start : Nat) (must : Bool) : Option (Option Sre.M) :=
  match driveP k (Sre.forSearch code text 0 start text.size must) with
  | none => none
  | some m => match m.outcome with
    | some .matched => some (some m)
    | some .failed => some none
    | _ => none
noncomputable def cut (text : Array Nat) (b e : Nat) : List Str := bif Nat.blt b e then [⟨text.extract b e⟩] else []
noncomputable def subP (k : Nat) (code text : Array Nat) (repl : Str) : Nat → Nat → Bool → Option (List Str)
  | 0, _, _ => none
  | f + 1, pos, must => match nextM k code text pos must with
    | none => none
    | some none => some (cut text pos text.size)
    | some (some m) => match subP k code text repl f m.handed (m.handed == m.start) with
      | none => none
      | some r => some (cut text pos m.start ++ repl :: r)
/-- the two patterns' words -/
noncomputable def code1 : Array Nat := #[14, 4, 0, 1, 1, 6, 1, 16, 46, 1]
noncomputable def code2 : Array Nat := #[14, 9, 4, 1, 2, 16, 10, 16, 13, 0, 7, 7, 16, 13, 16, 10, 15, 18, 5, 16, 10, 15, 13, 11, 16, 13, 5, 5, 0, 16, 10, 1, 15, 2, 0, 1]
noncomputable def crlf : Str := ⟨#[13, 10]⟩
noncomputable def rowT (n : Nat) : List Nat := List.replicate n 46 ++ [13, 10]
/-- the mail of dots in rows of wide -/
noncomputable def mailL : Nat → Nat → Nat → List Nat
  | 0, _, _ => []
  | f + 1, dots, wide => if dots = 0 then [] else rowT (min wide dots) ++ mailL f (dots - min wide dots) wide
noncomputable def rowsN : Nat → Nat → Nat → Nat
  | 0, _, _ => 0
  | f + 1, dots, wide => if dots = 0 then 0 else rowsN f (dots - min wide dots) wide + 1
noncomputable def joinC (l : List Str) : List Nat := l.flatMap fun s => s.cps.toList
noncomputable def okPair (dots wide : Nat) : Bool :=
  match subP 1000 code2 (mailL 20 dots wide).toArray crlf 40 0 false with
  | none => false
  | some ps => joinC ps == mailL 20 dots wide && match subP 1000 code1 (joinC ps).toArray ⟨#[46, 46]⟩ 40 0 false with
    | none => false
    | some qs => (joinC qs).length == (mailL 20 dots wide).length + rowsN 20 dots wide
end Mine
end
section
open PySem PySem.W PyProof.Rows PySem.Spec PySem.Calls
open PySem.Builtin PySem.Builtin.Re
set_option Elab.async false
set_option linter.unusedVariables false
set_option maxRecDepth 100000
set_option maxHeartbeats 4000000
namespace Mine
section
variable {M : Model} {A : Around} {E : Value → Shared → Prop} {s : Shared}
theorem wp_reDrive {Q : Sre.M → Shared → Prop} {m' : Sre.M} (h : Q m' s) : ∀ (k : Nat) (m : Sre.M) (turns : Nat), driveP k m = some m' → k ≤ turns → wpAny M A (reDrive turns m) Q E s
  | 0, m, turns, e, _ => by cases e
  | k + 1, m, 0, e, hk => absurd hk (Nat.not_succ_le_zero _)
  | k + 1, m, t + 1, e, hk => by
    show wpAny M A (if (m.runFor reTurnSteps).outcome.isSome = true then pure (m.runFor reTurnSteps) else do rule "sre.turn"; reDrive t (m.runFor reTurnSteps)) Q E s
    unfold driveP at e
    cases ho : (m.runFor reTurnSteps).outcome.isSome with
    | true =>
      rw [ho] at e
      rw [if_pos rfl]
      exact wpAny_pure (Option.some.inj e ▸ h)
    | false =>
      rw [ho] at e
      rw [if_neg Bool.false_ne_true]
      exact wpAny_bind (wpAny_rule (wp_reDrive h k _ t e (Nat.le_of_succ_le_succ hk)))
theorem wp_toEnd {Q : Option Sre.M → Shared → Prop} {m m' : Sre.M} {k : Nat} (e : driveP k m = some m') (hk : k ≤ 1000) (h : match m'.outcome with | some .matched => Q (some m') s | some .failed => Q none s | _ => False) : wpAny M A (reRunToEnd m) Q E s := by
  unfold reRunToEnd
  have big : (1000 : Nat) ≤ 2 ^ 64 := by decide
  refine wpAny_bind (wp_reDrive ?_ k m (2 ^ 64) e (Nat.le_trans hk big))
  refine wpAny_bind (wpAny_forIn_list _ (fun _ _ s' => s' = s) _ ?_ (fun _ s' e => ?_) _ _ rfl)
  · rintro i rest b s' rfl
    cases hb : m'.seen.has i with
    | true => simp only [if_true]; exact wpAny_bind (wpAny_rule (wpAny_pure rfl))
    | false => simp only [Bool.false_eq_true, if_false]; exact wpAny_pure rfl
  · subst e
    cases ho : m'.outcome with
    | none => rw [ho] at h; exact h.elim
    | some o =>
      rw [ho] at h
      cases o with
      | matched => exact wpAny_pure h
      | failed => exact wpAny_pure h
      | stuck why => exact h.elim
theorem wp_next {Q : Option Sre.M → Shared → Prop} {t : ReTarget} {start : Nat} {must : Bool} {k : Nat} {r : Option Sre.M} (ht : t.groups = 0) (hl : t.lim = t.text.size) (e : nextM k t.code t.text start must = some r) (hk : k ≤ 1000) (h : Q r s) : wpAny M A (reNextFound t start must) Q E s := by
  unfold reNextFound
  rw [ht, hl]
  unfold nextM at e
  cases hd : driveP k (Sre.forSearch t.code t.text 0 start t.text.size must) with
  | none => rw [hd] at e; cases e
  | some m' =>
    rw [hd] at e
    dsimp only at e
    refine wp_toEnd hd hk ?_
    cases ho : m'.outcome with
    | none => rw [ho] at e; cases e
    | some o =>
      rw [ho] at e
      cases o with
      | matched => exact Option.some.inj e ▸ h
      | failed => exact Option.some.inj e ▸ h
      | stuck why => cases e
/-- what a whole target is -/
noncomputable def targ (pa : Addr) (x : Str) (tx : Tok) (code : Array Nat) : ReTarget := { pattern := .ref pa, string := .str x tx, code, text := x.cps, kind := 0, groups := 0, pos := 0, lim := x.cps.size }
theorem wp_whole {Q : ReTarget → Shared → Prop} {pa ca : Addr} {op oc : Obj} {v0 v1 : Value} {items : Array Value} {n : Nat} {x : Str} {tx : Tok} {code : Array Nat}
    (ho : s.heap.get? pa = some op) (hd : op.data = .fields #[v0, v1, .int 0 0, .none, .none, .ref ca, .int 0 0]) (hc : s.heap.get? ca = some oc) (hcd : oc.data = .seq items n) (hcode : (items.map reRawOf).map (·.toNat) = code) (h : Q (targ pa x tx code) s) : wpAny M A (reWholeTarget (.ref pa) (.str x tx)) Q E s := by
  unfold reWholeTarget
  refine wpAny_bind (wpAny_fieldsOf ho hd ?_)
  refine wpAny_bind (wpAny_pure ?_)
  show wpAny M A (reNoCollectionInside (.str x tx) 0 >>= _) Q E s
  refine wpAny_bind (wpAny_pure ?_)
  show wpAny M A (reRawItems (.ref ca) >>= _) Q E s
  refine wpAny_bind ?_
  unfold reRawItems
  refine wpAny_bind (wpAny_seqItems hc hcd ?_)
  refine wpAny_pure (wpAny_pure ?_)
  subst hcode
  exact h
theorem wp_slice {Q : Value → Shared → Prop} {text : Array Nat} {b e : Nat} (hs : text.size ≤ sizeLine) (h : Q (.str ⟨text.extract b e⟩ s.toks) { s with toks := s.toks + 1 }) : wpAny M A (reSlice text 0 b e) Q E s := by
  show wpAny M A (mkStr ⟨text.extract b e⟩) Q E s
  unfold mkStr
  rw [if_neg (by show ¬ (text.extract b e).size > sizeLine; rw [Array.size_extract]; omega)]
  exact wpAny_mkText h
end
theorem plain_sub_loop : plainId "re.Pattern.sub.loop" = true := by decide +kernel
theorem entry_sub_loop : entryFor table "re.Pattern.sub.loop" = some Builtin.«re.Pattern.sub.loop» := entryFor_of_fast (by kernel_rfl)
theorem plain_sub : plainId "re.Pattern.sub" = true := by decide +kernel
theorem entry_sub : entryFor table "re.Pattern.sub" = some Builtin.«re.Pattern.sub» := entryFor_of_fast (by kernel_rfl)
theorem slot_sub : Slot "re.Pattern" "sub" "re.Pattern.sub" :=
  .of (owner := "re.Pattern") (n := "sub") (by rw [typeLookup_type, builtinLookup_eq_fast]; kernel_rfl) (by decide +kernel) (by decide +kernel) (by decide +kernel)
    (by first | exact .inl (by decide +kernel) | exact .inr (by decide +kernel)) (by rw [isSubtype_type]; kernel_rfl)
theorem type_sub : typeOf (.builtin "re.Pattern.sub") = pure (.type "method_descriptor") := by show builtinType _ = _; rw [builtinType_eq_fast]; kernel_rfl
theorem plainAttrs_pattern : PlainAttrs "re.Pattern" :=
  ⟨⟨"object.__getattribute__", by rw [typeLookup_type, builtinLookup_eq_fast]; kernel_rfl, by decide +kernel⟩, by rw [typeLookup_type, builtinLookup_eq_fast]; kernel_rfl⟩
theorem owner_pattern : Manifest.owners.lookup (String.ofList ['n', 'r', 'e', 't', 't', 'a', 'P', '.', 'e', 'r'].reverse) = some Manifest.«sig_re_Pattern» := by kernel_rfl
theorem args_sub_3 (a b c : Value) : argsOk "re.Pattern.sub" ⟨[a, b, c], []⟩ := by
  unfold argsOk; rw [signature?_of (id := "re.Pattern.sub") (n := ['b', 'u', 's']) (o := ['n', 'r', 'e', 't', 't', 'a', 'P', '.', 'e', 'r']) (by kernel_rfl) owner_pattern]; kernel_rfl
end Mine
end
section
open PySem PySem.W PyProof.Rows PySem.Spec PySem.Calls
open PySem.Builtin PySem.Builtin.Re
set_option Elab.async false
set_option linter.unusedVariables false
set_option maxRecDepth 100000
set_option maxHeartbeats 4000000
namespace Mine
section
variable {prog : Program} {w : World} {A : Around} {pa ca D : Addr} {op oc : Obj} {v0 v1 : Value} {items : Array Value} {nc : Nat} {x r : Str} {tx tr : Tok} {code : Array Nat} {k : Nat}
noncomputable def lstO (vs : List Value) (c : Nat) : Obj := { cls := .type "list", dict := none, data := .seq vs.toArray c, slots := #[] }
theorem wp_pushIf {M : Model} {A : Around} {E : Value → Shared → Prop} {s : Shared} {text : Array Nat} {b e : Nat} {l : List (Str × Tok)} {c : Nat} {Q : Unit → Shared → Prop} (hs : text.size ≤ sizeLine) (hl : l.length ≤ 1000)
    (hD : s.heap.get? D = some (lstO (strValues l) c))
    (h : ∀ l' c' h' tk', l'.map (·.1) = l.map (·.1) ++ cut text b e → h'.get? D = some (lstO (strValues l') c') → (∀ a o, a ≠ D → s.heap.get? a = some o → h'.get? a = some o) → Q () { s with heap := h', toks := tk' }) :
    wpAny M A (if b < e then do let v ← reSlice text 0 b e; updateSeq D (fun xs => xs.push v) else pure ()) Q E s := by
  have h1000 : (1000 : Nat) + 1 ≤ sizeLine := by decide
  by_cases hb : b < e
  · rw [if_pos hb]
    refine wpAny_bind (wp_slice hs ?_)
    refine wpAny_updateSeq (s := { s with toks := s.toks + 1 }) hD rfl (h (l ++ [(⟨text.extract b e⟩, s.toks)]) (c + 1) _ _ ?_ ?_ ?_) ?_ ?_
    · rw [List.map_append, cut, show Nat.blt b e = true from Nat.ble_eq_true_of_le hb]; rfl
    · rw [Heap.get?_update_self _ hD rfl]
      simp [lstO, strValues, Obj.mapSeq]
    · intro a o ha e'
      exact (Heap.get?_update_other _ _ (Ne.symm ha)).trans e'
    · show (strValues l).toArray.size ≤ sizeLine
      rw [List.size_toArray, strValues, List.length_map]; omega
    · show ((strValues l).toArray.push _).size ≤ sizeLine + 1
      rw [Array.size_push, List.size_toArray, strValues, List.length_map]; omega
  · rw [if_neg hb]
    refine wpAny_pure (h l c s.heap s.toks ?_ hD fun _ _ _ e => e)
    rw [cut, show Nat.blt b e = false from Bool.eq_false_iff.mpr fun q => hb (Nat.le_of_ble_eq_true q)]
    simp
theorem wp_pushIfK {M : Model} {A : Around} {E : Value → Shared → Prop} {s : Shared} {text : Array Nat} {b e : Nat} {l : List (Str × Tok)} {c : Nat} {β : Type} {K : PUnit → Sem β} {Q : β → Shared → Prop} (hs : text.size ≤ sizeLine) (hl : l.length ≤ 1000)
    (hD : s.heap.get? D = some (lstO (strValues l) c))
    (h : ∀ l' c' h' tk', l'.map (·.1) = l.map (·.1) ++ cut text b e → h'.get? D = some (lstO (strValues l') c') → (∀ a o, a ≠ D → s.heap.get? a = some o → h'.get? a = some o) → wpAny M A (K ⟨⟩) Q E { s with heap := h', toks := tk' }) :
    wpAny M A (if b < e then (do let v ← reSlice text 0 b e; let u ← updateSeq D (fun xs => xs.push v); K u) else K ⟨⟩) Q E s := by
  have z := wp_pushIf (M := M) (A := A) (E := E) (Q := fun _ s' => wpAny M A (K ⟨⟩) Q E s') hs hl hD h
  by_cases hb : b < e
  · rw [if_pos hb] at z ⊢
    rw [← bind_assoc]
    exact wpAny_bind (wpAny_mono z (fun _ _ q => q) fun _ _ q => q)
  · rw [if_neg hb] at z ⊢
    exact Eq.mp (by rfl) (wpAny_bind (f := K) z)
theorem value_beq_str (x : Str) (t : Tok) : (Value.str x t != Value.none) = true := rfl
theorem sub_loop {R : Result → Shared → Prop} (hk : k ≤ 1000) (hx : x.cps.size ≤ sizeLine)
    (hd : op.data = .fields #[v0, v1, .int 0 0, .none, .none, .ref ca, .int 0 0]) (hcd : oc.data = .seq items nc) (hcode : (items.map reRawOf).map (·.toNat) = code) (hpD : pa ≠ D) (hcD : ca ≠ D)
    {all : List Str} (hok : JoinOk ⟨x.cps.extract 0 0⟩ all = true) (hne : all ≠ []) :
    ∀ (f pos : Nat) (must : Bool) (n : Int) (l : List (Str × Tok)) (c : Nat) (s : Shared) (ps : List Str), subP k code x.cps r f pos must = some ps → l.map (·.1) ++ ps = all → l.length + 2 * f ≤ 900 →
    s.heap.get? pa = some op → s.heap.get? ca = some oc → s.heap.get? D = some (lstO (strValues l) c) →
    (∀ t' h' tk', (∀ a o, a ≠ D → s.heap.get? a = some o → h'.get? a = some o) → R (.ok (.ret (.str (Txt.join ⟨x.cps.extract 0 0⟩ all) t'))) { s with heap := h', toks := tk' }) →
    codeAny (model prog w) A (.builtin "re.Pattern.sub.loop" ⟨[.ref pa, .str x tx, .str r tr, rawInt 0, rawInt 0, rawInt n, rawInt pos, rawInt pos, .bool must, .ref D, .bool false], []⟩) R s
  | 0, pos, must, n, l, c, s, ps, e, _, _, _, _, _, _ => by cases e
  | f + 1, pos, must, n, l, c, s, ps, e, hall, hlen, ho, hoc, hD, hR => by
    refine codeAny_builtin entry_sub_loop ?_
    rw [Around.under_plainId plain_sub_loop _]
    show wpAny _ A.in1 (reWholeTarget (.ref pa) (.str x tx) >>= _) _ _ s
    refine wpAny_bind (wp_whole ho hd hoc hcd hcode ?_)
    show wpAny _ A.in1 (reLiteralCannotBeTurned (.str r tr) >>= _) _ _ s
    refine wpAny_bind (wpAny_pure ?_)
    show wpAny _ A.in1 (reNextFound (targ pa x tx code) pos must >>= _) _ _ s
    unfold subP at e
    cases hn : nextM k code x.cps pos must with
    | none => rw [hn] at e; cases e
    | some rr =>
      rw [hn] at e
      refine wpAny_bind (wp_next (t := targ pa x tx code) rfl rfl hn hk ?_)
      cases rr with
      | none =>
        dsimp only at e
        obtain rfl := Option.some.inj e
        refine wp_pushIfK (text := x.cps) (b := pos) (e := x.cps.size) hx (by omega) hD fun l' c' h' tk' hl' hD' hk' => ?_
        show wpAny _ A.in1 (reSlice x.cps 0 0 0 >>= _) _ _ _
        refine wpAny_bind (wp_slice hx ?_)
        have hl'' : l'.map (·.1) = all := by rw [hl']; exact hall
        have hne' : (strValues l').toArray.isEmpty = false := by
          cases l' with
          | nil => exact absurd hl''.symm hne
          | cons a b => rfl
        refine wpAny_bind (wpAny_seqItems hD' rfl ?_)
        show wpAny _ A.in1 (if (strValues l').toArray.isEmpty = true then _ else _) _ _ _
        rw [hne', if_neg Bool.false_ne_true]
        show wpAny _ A.in1 (call (.builtin "str.join") [.str ⟨x.cps.extract 0 0⟩ tk', .ref D] >>= _) _ _ _
        refine wpAny_bind (SC.join (l := l') (D := D) ⟨_, hD', rfl, c', rfl⟩ hl'' hok fun t' k' => ?_)
        exact wpAny_pure (hR _ _ _ hk')
      | some m =>
        dsimp only at e
        cases hp : subP k code x.cps r f m.handed (m.handed == m.start) with
        | none => rw [hp] at e; cases e
        | some ps' =>
          rw [hp] at e
          obtain rfl := Option.some.inj e
          refine wp_pushIfK (text := x.cps) (b := pos) (e := m.start) hx (by omega) hD fun l' c' h' tk' hl' hD' hk' => ?_
          have hlen' : l'.length ≤ l.length + 1 := by
            have := congrArg List.length hl'
            rw [List.length_map, List.length_append, List.length_map] at this
            have h2 : (cut x.cps pos m.start).length ≤ 1 := by unfold cut; cases Nat.blt pos m.start <;> simp
            omega
          show wpAny _ A.in1 (updateSeq D (fun xs => xs.push (.str r tr)) >>= _) _ _ _
          refine wpAny_bind (wpAny_updateSeq hD' rfl ?_ ?_ ?_)
          · refine wpAny_pure ⟨plainId_quiet plain_sub_loop _, ?_⟩
            refine sub_loop hk hx hd hcd hcode hpD hcD hok hne f m.handed (m.handed == m.start) (n + 1) (l' ++ [(r, tr)]) (c' + 1) _ ps' hp ?_ ?_ (hk' _ _ hpD ho |> fun q => (Heap.get?_update_other _ _ (Ne.symm hpD)).trans q) (hk' _ _ hcD hoc |> fun q => (Heap.get?_update_other _ _ (Ne.symm hcD)).trans q) ?_ ?_
            · rw [List.map_append, hl']; simpa using hall
            · rw [List.length_append]; simp only [List.length_cons, List.length_nil]; omega
            · rw [Heap.get?_update_self _ hD' rfl]
              simp [lstO, strValues, Obj.mapSeq]
            · exact fun t' h'' tk'' q => hR t' h'' tk'' fun a o ha e' => q a o ha ((Heap.get?_update_other _ _ (Ne.symm ha)).trans (hk' a o ha e'))
          · show (strValues l').toArray.size ≤ sizeLine
            have h1000 : (1000 : Nat) + 1 ≤ sizeLine := by decide
            rw [List.size_toArray, strValues, List.length_map]; omega
          · show ((strValues l').toArray.push _).size ≤ sizeLine + 1
            have h1000 : (1000 : Nat) + 1 ≤ sizeLine := by decide
            rw [Array.size_push, List.size_toArray, strValues, List.length_map]; omega
theorem named_sub (a b : Value) : reNamed "re.Pattern.sub" "sub" ["repl", "string", "count"] 2 [a, b] [] = pure [some a, some b, none] := by rfl
theorem str_no_call : typeLookup (.type "str") "__call__" = pure none := by rw [typeLookup_type, builtinLookup_eq_fast]; kernel_rfl
theorem wp_sub {E : Value → Shared → Prop} {Q : Value → Shared → Prop} {s : Shared} {ps : List Str} {f : Nat} (hk : k ≤ 1000) (hx : x.cps.size ≤ sizeLine) (hcls : op.cls = .type "re.Pattern")
    (hd : op.data = .fields #[v0, v1, .int 0 0, .none, .none, .ref ca, .int 0 0]) (hcd : oc.data = .seq items nc) (hcode : (items.map reRawOf).map (·.toNat) = code)
    (ho : s.heap.get? pa = some op) (hoc : s.heap.get? ca = some oc) (hr : r.cps.contains 92 = false) (hf : f ≤ 450)
    (e : subP k code x.cps r f 0 false = some ps) (hok : JoinOk ⟨x.cps.extract 0 0⟩ ps = true) (hne : ps ≠ [])
    (h : ∀ t' h' tk', Stay s.heap h' → Q (.str (Txt.join ⟨x.cps.extract 0 0⟩ ps) t') { s with heap := h', toks := tk' }) :
    wpAny (model prog w) A (call (.builtin "re.Pattern.sub") [.ref pa, .str r tr, .str x tx]) Q E s := by
  have hT : s.TypeIs (.ref pa) "re.Pattern" := ⟨op, ho, hcls⟩
  refine wpAny_call (codeAny_call_builtin slot_sub.plain entry_sub (slot_sub.check _ _ _ _ _ _ _ _ hT (args_sub_3 _ _ _) ?_))
  show wpAny _ _ (reNamed "re.Pattern.sub" "sub" ["repl", "string", "count"] 2 [.str r tr, .str x tx] [] >>= _) _ _ s
  rw [named_sub]
  refine wpAny_bind (wpAny_pure ?_)
  refine wpAny_bind (wpAny_pure ?_)
  show wpAny _ _ (specialOf (.str r tr) "__call__" >>= _) _ _ s
  refine wpAny_bind (wpAny_specialOf (typeIs_str _ _ _) str_no_call ?_)
  show wpAny _ _ (asStr? (.str r tr) >>= _) _ _ s
  refine wpAny_bind (m := asStr? (.str r tr)) (wpAny_pure ?_)
  show wpAny _ _ (pure (!r.cps.contains 92) >>= _) _ _ s
  refine wpAny_bind (wpAny_pure ?_)
  rw [hr]
  show wpAny _ _ (pure (Value.str r tr, 0) >>= _) _ _ s
  refine wpAny_bind (wpAny_pure ?_)
  refine wpAny_bind (wpAny_holding (wp_whole ho hd hoc hcd hcode ?_))
  show wpAny _ _ (newList [] >>= _) _ _ s
  refine wpAny_bind (m := newList []) (wpAny_newObj_type ?_)
  refine wpAny_pure ⟨plainId_quiet plain_sub_loop _, ?_⟩
  have hp1 : pa < s.heap.objs.size := Heap.lt_size ho
  have hc1 : ca < s.heap.objs.size := Heap.lt_size hoc
  refine sub_loop (l := []) (c := 0) hk hx hd hcd hcode (Nat.ne_of_lt hp1) (Nat.ne_of_lt hc1) hok hne f 0 false 0 _ ps e (List.nil_append _) (by show 0 + 2 * f ≤ 900; omega) (Heap.get?_push_of_some _ ho) (Heap.get?_push_of_some _ hoc) (Heap.get?_push_size _ rfl) ?_
  intro t' h' tk' st
  exact h t' h' tk' fun b o hb => st b o (Nat.ne_of_lt (Heap.lt_size hb)) (Heap.get?_push_of_some _ hb)
end
end Mine
end
section
open PySem PySem.W PyProof.Rows PySem.Spec PySem.Calls
set_option Elab.async false
set_option linter.unusedVariables false
set_option maxRecDepth 100000
namespace Mine
set_option maxHeartbeats 4000000
theorem filled8 : PySem.Challenge.rw_to0033_01.prog = PySem.Challenge.rw_to0033_01.prog ∧ KF = KF := by k_fill; exact ⟨rfl, rfl⟩
local macro_rules | `(tactic| walk_at "mine_enter") => `(tactic| (
  (case ho => with_unfolding_all k_is)
  (case hcd => k_is)
  (case hbind => with_unfolding_all exact rfl)
  (case hloc => exact locs rfl)
  (case hcell => decide)
  (case hco => exact rfl)
  (case hgen => exact rfl)
  (case hk => exact rfl)
  (case hn => decide)))
local macro_rules | `(tactic| walk_at "mine_steps") => `(tactic| repeat' ((fail_if_success (with_reducible show wpAny _ _ (pyIter _) _ _ _)); (fail_if_success (with_reducible show wpAny _ _ (exec (Stmt.While _ _ _ _) _) _ _ _)); (fail_if_success (with_reducible show wpAny _ _ (getMethod (Value.ref _) _ _) _ _ _)); (fail_if_success (with_reducible show wpAny _ _ (call (Value.builtin "re.Pattern.sub") _) _ _ _)); (fail_if_success (with_reducible show wpAny _ _ (exec (Stmt.For (Expr.Tuple _ _ _) _ _ _ _) _) _ _ _)); (fail_if_success (with_reducible show wpAny _ _ (exec (Stmt.Assign _ (Expr.ListComp _ _ _ _) _) _) _ _ _)); first | walk1 | (dsimp only; walk1) | fail "no step"))

noncomputable def its1 : Array Value := code1.map fun n : Nat => Value.int (Int.ofNat n) 0
noncomputable def its2 : Array Value := code2.map fun n : Nat => Value.int (Int.ofNat n) 0
theorem dat1 (P : Params) : (o77 P).data = .seq its1 0 := by kernel_rfl
theorem dat2 (P : Params) : (o82 P).data = .seq its2 0 := by kernel_rfl
open PySem.Builtin.Re in
theorem code1_eq : ((its1.map reRawOf).map (fun i : Int => i.toNat)) = code1 := by kernel_rfl
open PySem.Builtin.Re in
theorem code2_eq : ((its2.map reRawOf).map (fun i : Int => i.toNat)) = code2 := by kernel_rfl
noncomputable def dotdot : Str := ⟨#[46, 46]⟩
noncomputable def joinE (x : Str) (ps : List Str) : Str := Txt.join ⟨x.cps.extract 0 0⟩ ps
noncomputable def stepP (code : Array Nat) (r x : Str) : Option Str := match subP 1000 code x.cps r 40 0 false with
  | some ps => bif JoinOk ⟨x.cps.extract 0 0⟩ ps && !ps.isEmpty then some (joinE x ps) else none
  | none => none
/-- what quotedata makes of a text -/
noncomputable def quoteP (x : Str) : Option Str := match stepP code2 crlf x with
  | some z => bif Nat.ble z.cps.size 10000 then stepP code1 dotdot z else none
  | none => none
theorem stepP_sub {code : Array Nat} {r x y : Str} (h : stepP code r x = some y) : ∃ ps, subP 1000 code x.cps r 40 0 false = some ps ∧ JoinOk ⟨x.cps.extract 0 0⟩ ps = true ∧ ps ≠ [] ∧ Txt.join ⟨x.cps.extract 0 0⟩ ps = y := by
  unfold stepP at h
  split at h
  · rename_i ps e
    cases hb : JoinOk ⟨x.cps.extract 0 0⟩ ps && !ps.isEmpty with
    | false => rw [hb] at h; cases h
    | true =>
      rw [hb] at h
      rw [Bool.and_eq_true] at hb
      exact ⟨ps, e, hb.1, fun q => by rw [q] at hb; exact absurd hb.2 (by decide), Option.some.inj h⟩
  · cases h
theorem quote_sp {w : World} {x y : Str} {t1 : Tok} (h : quoteP x = some y) (hx : x.length ≤ 10000) : SP 40 w 90 [.str x t1] (fun t => .str y t) := by
  unfold quoteP at h
  cases hz : stepP code2 crlf x with
  | none => rw [hz] at h; cases h
  | some z =>
  rw [hz] at h
  dsimp only at h
  cases hzs : Nat.ble z.cps.size 10000 with
  | false => rw [hzs] at h; cases h
  | true =>
  rw [hzs] at h
  have hz2 : stepP code1 dotdot z = some y := h
  obtain ⟨ps, e1, e2, e3, e4⟩ := stepP_sub hz
  obtain ⟨qs, f1, f2, f3, f4⟩ := stepP_sub hz2
  have hlim : (10000 : Nat) ≤ sizeLine := by decide
  have hzl : z.cps.size ≤ sizeLine := Nat.le_trans (Nat.le_of_ble_eq_true hzs) hlim
  clear h hz hz2
  refine' SP.of [(Str.ofString "data", .str x t1)] ?ho ?hcd ?hbind ?hloc ?hcell ?hco ?hgen ?hk ?hn ?hb
  walk_at "mine_enter"
  intro p loose mean mg mb g h L gens drawn tk os P X T F N k
  simp only [List.reverse_cons, List.reverse_nil, List.nil_append, List.cons_append, look_cons, List.lookup_nil] at F
  have X1 := X.keeps F.keep
  have h78 : h.get? 78 = some (o78 w.params) := X1 _ _ (by with_unfolding_all k_is)
  have h83 : h.get? 83 = some (o83 w.params) := X1 _ _ (by with_unfolding_all k_is)
  have h77 : h.get? 77 = some (o77 w.params) := X1 _ _ (by with_unfolding_all k_is)
  have h82 : h.get? 82 = some (o82 w.params) := X1 _ _ (by with_unfolding_all k_is)
  walk_at "mine_steps"
  refine getMethod_builtin (T := "re.Pattern") ⟨_, h78, rfl⟩ plainAttrs_pattern slot_sub type_sub (fun a e => by cases e; exact ⟨_, h78, rfl⟩) ?_
  walk_at "mine_steps"
  refine getMethod_builtin (T := "re.Pattern") ⟨_, h83, rfl⟩ plainAttrs_pattern slot_sub type_sub (fun a e => by cases e; exact ⟨_, h83, rfl⟩) ?_
  walk_at "mine_steps"
  have hl40 : (40 : Nat) ≤ 450 := by decide
  refine wp_sub (r := crlf) (k := 1000) (f := 40) (Nat.le_refl _) (Nat.le_trans hx hlim) rfl rfl (dat2 w.params) code2_eq h83 h82 (by decide +kernel) hl40 e1 e2 e3 ?_
  intro t' h' tk' st
  rw [e4]
  have F2 := F.after st
  have N2 := N.grown st
  dsimp only
  walk_at "mine_steps"
  refine wp_sub (r := dotdot) (k := 1000) (f := 40) (Nat.le_refl _) hzl rfl rfl (dat1 w.params) code1_eq (st _ _ h78) (st _ _ h77) (by decide +kernel) hl40 f1 f2 f3 ?_
  intro t'' h'' tk'' st2
  rw [f4]
  exact k _ _ _ _ (F2.after st2)
end Mine
end
section
open PySem PySem.W PyProof.Rows PySem.Spec PySem.Calls
set_option Elab.async false
set_option linter.unusedVariables false
set_option maxRecDepth 100000
set_option maxHeartbeats 4000000
namespace Mine
section
variable {M : Model} {A : Around} {R : GenEnd} {Y : Protocol} {n : Nat} {s₀ : Shared} {c : Code} {fs : List PySem.Frame} {s : Shared} {env : Env}
  {K : Flow → Sem PySem.Fin} {H : Value → Sem PySem.Fin} {gd : Bool → Bool} {lv : List Value → List Value}
theorem seg_If {test : Expr} {body orelse : List Stmt} {pos : Pos}
    (h : wpAny M (A.over c fs) (isTrue test env (eval test env)) (fun b s' => if b = true then Seg M A R Y n s₀ c ((execs body env).wrap K H gd lv) fs s' else Seg M A R Y n s₀ c ((execs orelse env).wrap K H gd lv) fs s') (fun _ _ => False) s) :
    Seg M A R Y n s₀ c ((exec (.If test body orelse pos) env).wrap K H gd lv) fs s := by
  rw [exec_If]
  rw [Sem.bind_eq_wrap', Sem.wrap_wrap]
  refine seg_wrap (wpAny_standAt ?_)
  try dsimp only
  rw [Sem.bind_eq_wrap', Sem.wrap_wrap]
  refine seg_wrap (wpAny_mono h (fun b s' q => ?_) fun _ _ x => x.elim)
  cases b with
  | true => simpa using q
  | false => simpa using q
theorem seg_stmt {st : Stmt} (h : wpAny M (A.over c fs) (exec st env) (fun f s' => Seg M A R Y n s₀ c (K f) fs s') (fun _ _ => False) s) :
    Seg M A R Y n s₀ c ((exec st env).wrap K H gd lv) fs s := seg_wrap (wpAny_mono h (fun _ _ q => q) fun _ _ x => x.elim)
theorem seg_For {target iter : Expr} {body orelse : List Stmt} {pos : Pos}
    (h : wpAny M (A.over c fs) (eval iter env) (fun x s₁ => wpAny M (A.over c fs) (pyIter x) (fun it s₂ => ∀ p k, Seg M A R Y n s₀ (.forLoop target it body orelse env) (M.den (.forLoop target it body orelse env)) (.ret k none (gd false) (lv []) c p [] :: fs) s₂) (fun _ _ => False) s₁) (fun _ _ => False) s)
    (hs : ∀ x, foldedSetIterable iter env x = pure x := by intro _; rfl) :
    Seg M A R Y n s₀ c ((exec (.For target iter body orelse pos) env).wrap K H gd lv) fs s := by
  rw [exec_For]
  rw [Sem.bind_eq_wrap', Sem.wrap_wrap]
  refine seg_wrap (wpAny_standAt ?_)
  try dsimp only
  rw [Sem.bind_eq_wrap', Sem.wrap_wrap]
  refine seg_wrap (wpAny_mono h (fun x s₁ q => ?_) fun _ _ x => x.elim)
  rw [hs x, Sem.bind_eq_wrap', Sem.wrap_wrap]
  refine seg_wrap (wpAny_pure ?_)
  rw [Sem.bind_eq_wrap', Sem.wrap_wrap]
  refine seg_wrap (wpAny_standAt ?_)
  try dsimp only
  rw [Sem.bind_eq_wrap', Sem.wrap_wrap]
  refine seg_wrap (wpAny_holding (wpAny_mono q (fun it s₂ q => ?_) fun _ _ x => x.elim))
  exact seg_call fun p => q p _
end
section
variable {prog : Program} {w : World} {A : Around} {R : GenEnd} {Y : Protocol} {n : Nat} {s₀ : Shared} {fs : List PySem.Frame} {s : Shared} {env : Env}
noncomputable def ForBody (M : Model) (A : Around) (R : GenEnd) (Y : Protocol) (n : Nat) (s₀ : Shared) (c : Code) (body : List Stmt) (env : Env) (fs : List PySem.Frame) (s : Shared) : Prop :=
  ∀ K H gd lv, K .next = .pure (.again c) → gd false = false → Seg M A R Y n s₀ c ((execs body env).wrap K H gd lv) fs s
theorem seg_forLoop {target : Expr} {it : Value} {body orelse : List Stmt}
    (h : wpAny (model prog w) (A.over (.forLoop target it body orelse env) fs) (pyNext it) (fun r s' => match r with
      | none => False
      | some v => wpAny (model prog w) (A.over (.forLoop target it body orelse env) fs) (assign target env v) (fun _ s'' =>
        ForBody (model prog w) A R Y n s₀ (.forLoop target it body orelse env) body env fs s'') (fun _ _ => False) s') (fun _ _ => False) s)
    (ht : ∀ v, letOwnedTupleGo target it v = pure () := by intro _; rfl) :
    Seg (model prog w) A R Y n s₀ (.forLoop target it body orelse env) ((model prog w).den (.forLoop target it body orelse env)) fs s := by
  show Seg _ A R Y n s₀ _ ((forTurn target it body orelse env).onRaise (fun x => do noteFrame x env; theTreesLotGoes x)) fs s
  unfold forTurn
  rw [Sem.onRaise_eq_wrap, Sem.bind_eq_wrap', Sem.wrap_wrap]
  refine seg_wrap (wpAny_standAt ?_)
  try dsimp only
  rw [Sem.bind_eq_wrap', Sem.wrap_wrap]
  refine seg_wrap (wpAny_onRaise (wpAny_mono h (fun r s' q => ?_) fun _ _ x => x.elim))
  cases r with
  | none => exact q.elim
  | some v =>
    dsimp only at q ⊢
    rw [ht v, Sem.bind_eq_wrap', Sem.wrap_wrap]
    refine seg_wrap (wpAny_pure ?_)
    try dsimp only
    rw [Sem.bind_eq_wrap', Sem.wrap_wrap]
    refine seg_wrap (wpAny_mono q (fun _ s'' q => ?_) fun _ _ x => x.elim)
    try dsimp only
    rw [Sem.bind_eq_wrap', Sem.wrap_wrap]
    exact q _ _ _ _ rfl rfl
end
theorem turns {M : Model} {A : Around} {R : GenEnd} {Y : Protocol} {c : Code} {t : Sem PySem.Fin} {fs : List PySem.Frame} (I : Shared → Shared → Prop)
    (step : ∀ n s₀ s, I s₀ s → (∀ m, n = m + 1 → ∀ s₁ s₂, I s₁ s₂ → Seg M A R Y n s₁ c t fs s₂) → Seg M A R Y (n + 1) s₀ c t fs s) : ∀ n s₀ s, I s₀ s → Seg M A R Y (n + 1) s₀ c t fs s
  | 0, s₀, s, h => step 0 s₀ s h fun m e => by cases e
  | n + 1, s₀, s, h => step (n + 1) s₀ s h fun m e s₁ s₂ h' => turns I step n s₁ s₂ h'
end Mine
end
section
open PySem PySem.W PyProof.Rows PySem.Spec PySem.Calls
set_option Elab.async false
set_option linter.unusedVariables false
set_option maxRecDepth 100000
namespace Mine
set_option maxHeartbeats 4000000
theorem filledG : PySem.Challenge.rw_to0033_01.prog = PySem.Challenge.rw_to0033_01.prog ∧ KF = KF := by k_fill; exact ⟨rfl, rfl⟩
local macro_rules | `(tactic| walk_at "mine_enter") => `(tactic| (
  (case ho => with_unfolding_all k_is)
  (case hcd => k_is)
  (case hbind => with_unfolding_all exact rfl)
  (case hloc => exact locs rfl)
  (case hcell => decide)
  (case hco => exact rfl)
  (case hgen => exact rfl)
  (case hk => exact rfl)
  (case hn => decide)))
local macro_rules | `(tactic| walk_at "mine_steps") => `(tactic| repeat' ((fail_if_success (with_reducible show wpAny _ _ (pyIter _) _ _ _)); (fail_if_success (with_reducible show wpAny _ _ (exec (Stmt.While _ _ _ _) _) _ _ _)); (fail_if_success (with_reducible show wpAny _ _ (exec (Stmt.For (Expr.Tuple _ _ _) _ _ _ _) _) _ _ _)); (fail_if_success (with_reducible show wpAny _ _ (exec (Stmt.Assign _ (Expr.ListComp _ _ _ _) _) _) _ _ _)); first | walk1 | (dsimp only; walk1) | fail "no step"))

noncomputable def IsIt (l : Addr) (o : Obj) : Prop := ∃ i : Int, o.data = .fields #[.ref l, .int i 0]
open Classical in
noncomputable def restL (g : Heap) (L l : Addr) (h : Heap) : List (Addr × Obj) :=
  (List.range h.objs.size).filterMap fun b => match h.get? b with
    | none => none
    | some o => if b = L ∨ IsIt l o ∨ (g.get? b).isSome = true then none else some (b, o)
theorem rest_news {g h : Heap} {L l : Addr} : News g L h (restL g L l h) := by
  rintro ⟨b, o⟩ hp
  obtain ⟨b', _, e⟩ := List.mem_filterMap.mp hp
  cases hb : h.get? b' with
  | none => rw [hb] at e; cases e
  | some o' =>
    rw [hb] at e
    dsimp only at e
    split at e
    · cases e
    · rename_i hn
      obtain ⟨rfl, rfl⟩ := Prod.mk.inj (Option.some.inj e)
      refine ⟨hb, fun q => hn (.inl q), ?_⟩
      cases hg : g.get? b' with
      | none => rfl
      | some x => exact absurd (.inr (.inr (by rw [hg]; rfl))) hn
theorem rest_use {g h h' : Heap} {L l : Addr} (hk : ∀ b o, g.get? b = some o → h.get? b = some o) (hk' : ∀ b o, g.get? b = some o → h'.get? b = some o) (N : News g L h' (restL g L l h)) : ∀ b o, b ≠ L → ¬ IsIt l o → h.get? b = some o → h'.get? b = some o := by
  intro b o hL hi hb
  cases hg : g.get? b with
  | some x =>
    have := hk _ _ hg
    rw [hb] at this
    rw [hk' _ _ hg, this]
  | none =>
    refine (N (b, o) (List.mem_filterMap.mpr ⟨b, List.mem_range.mpr (Heap.lt_size hb), ?_⟩)).1
    rw [hb]
    dsimp only
    rw [if_neg]
    rintro (q | q | q)
    · exact hL q
    · exact hi q
    · rw [hg] at q; cases q
theorem rest_not {g h : Heap} {L l : Addr} : ∀ p ∈ restL g L l h, h.get? p.1 = some p.2 ∧ ¬ IsIt l p.2 := by
  rintro ⟨b, o⟩ hp
  obtain ⟨b', _, e⟩ := List.mem_filterMap.mp hp
  cases hb : h.get? b' with
  | none => rw [hb] at e; cases e
  | some o' =>
    rw [hb] at e
    dsimp only at e
    split at e
    · cases e
    · rename_i hn
      obtain ⟨rfl, rfl⟩ := Prod.mk.inj (Option.some.inj e)
      exact ⟨hb, fun q => hn (.inr (.inl q))⟩
/-- what the ruler gives at each asking, and what it needs to go on -/
noncomputable def YR (g : Heap) (L l : Addr) (lo : Obj) (wide : Int) : Protocol := fun m s₀ v s' kap =>
  (∃ t, v = .int wide t) ∧ ∃ h' tk' it oL oit, s' = { s₀ with heap := h', toks := tk' } ∧ (∀ b o, g.get? b = some o → h'.get? b = some o) ∧ (∀ b o, b ≠ L → ¬ IsIt l o → s₀.heap.get? b = some o → h'.get? b = some o) ∧
    IsIt l oit ∧ h'.get? L = some oL ∧ h'.get? it = some oit ∧ g.get? it = none ∧ it ≠ L ∧
    (m = 0 ∨ ∀ s'', (∀ b o, g.get? b = some o → s''.heap.get? b = some o) → s''.heap.get? L = some oL → s''.heap.get? it = some oit → s''.heap.get? l = some lo → kap (.send .none) s'')
noncomputable abbrev RF : GenEnd := fun _ _ r _ => r = .ok .next ∧ False
theorem toAv {α : Type} {M : Model} {A : Around} {t : Sem α} {Q : α → Shared → Prop} {E : Value → Shared → Prop} {s : Shared} (h : wpAny M (Av 60) t Q E s) (h1 : A.handled = none) (h2 : A.depth ≤ 360) (h3 : A.units ≤ 6000) : wpAny M A t Q E s := weaken h h1 h2 h3 rfl rfl
noncomputable abbrev OkA (A : Around) : Prop := A.handled = none ∧ A.depth ≤ 340 ∧ A.units ≤ 5000
theorem toOver {α : Type} {M : Model} {A : Around} {c : Code} {fs : List PySem.Frame} {t : Sem α} {Q : α → Shared → Prop} {E : Value → Shared → Prop} {s : Shared} (hA : OkA A) (h1 : (marksOver fs (none, none)).1 = none)
    (h2 : 340 + frameCount (fs.map Frame.where_) + c.weight ≤ 360) (h3 : 5000 + unitsOf (fs.map Frame.where_) + c.cUnits ≤ 6000) (h : wpAny M (Av 60) t Q E s) : wpAny M (A.over c fs) t Q E s := by
  refine toAv h ?_ ?_ ?_
  · show (marksOver fs (A.handled, A.handled)).1 = none
    rw [hA.1]; exact h1
  · show A.depth + frameCount (fs.map Frame.where_) + c.weight ≤ 360
    have := hA.2.1; omega
  · show A.units + unitsOf (fs.map Frame.where_) + c.cUnits ≤ 6000
    have := hA.2.2; omega
local macro_rules | `(tactic| walk_at "mine_av") => `(tactic| refine toOver (by assumption) (by with_unfolding_all rfl) (by with_unfolding_all exact Nat.le_of_ble_eq_true rfl) (by with_unfolding_all exact Nat.le_of_ble_eq_true rfl) ?_)
theorem ruler {w : World} {wide : Int} {t1 t2 : Tok} (hw : 1 ≤ wide ∧ wide ≤ 10) : ∃ name params body scope pm c oc od osl,
    (KF w.params).lookup 38 = some ⟨oc, od, .func (fnOf name name params body scope .none .none .none pm none (.ref c) .none), osl⟩ ∧ codeIn (KF w.params) (.ref c) name = true ∧
    (∀ v, bindArgs (fnOf name name params body scope .none .none .none pm none (.ref c) .none) ⟨[v], []⟩ = pure [(Str.ofString "grouping", v)]) ∧ (∀ y ∈ [Str.ofString "grouping"], scope.names.lookup y = some .local) ∧
    (∀ x ∈ scope.names, x.2 ≠ .cell) ∧ scope.isCoroutine = false ∧ scope.isGenerator = true ∧ scope.kind = .function ∧
    ∀ (p : Program) (loose : List Str) (mean : ExcName → Option Value) (mg mb : Str → Option Value) (g : Heap) (L l : Addr) (A : Around) (n : Nat) (s : Shared), (KF w.params).In g → Top p loose mean mg mb g → OkA A → l ≠ L →
      Fr g L s.heap (fun y => if y = Str.ofString "grouping" then some (.ref l) else none) → s.heap.get? l = some (PySem.W.listOf #[.int wide t1, .int 0 t2] 0) → g.get? l = none →
      Seg (model prg w) A RF (YR g L l (PySem.W.listOf #[.int wide t1, .int 0 t2] 0) wide) (n + 1) s (.func body (envOf name scope L 38 (.ref c))) ((model prg w).den (.func body (envOf name scope L 38 (.ref c)))) [] s := by
  refine ⟨_, _, _, _, _, _, _, _, _, by with_unfolding_all k_is, by k_is, fun v => by with_unfolding_all exact rfl, ?_, by decide, rfl, rfl, rfl, ?_⟩
  · intro y hy
    rw [List.mem_singleton.mp hy]; rfl
  intro p loose mean mg mb g L l A n s X T hA hlL F hl hgl
  obtain ⟨hw1, hw2⟩ := hw
  refine seg_func ?_
  refine seg_execs_cons (seg_stmt ?_)
  walk_at "mine_av"
  have N0 : News g L s.heap (restL g L l s.heap) := rest_news
  have hkeep := F.keep
  obtain ⟨h0, gens, drawn, tk, os⟩ := s
  dsimp only at F hl N0 hkeep
  walk_at "mine_steps"
  refine seg_execs_cons (seg_For ?_)
  walk_at "mine_av"
  walk_at "mine_steps"
  (rename Fr _ _ _ _ => F1)
  (rename News _ _ _ _ => N1)
  rename Heap => h1
  have hnl : ¬ IsIt l (PySem.W.listOf #[.int wide t1, .int 0 t2] 0) := fun ⟨i, q⟩ => by cases q
  have hl1 := rest_use hkeep F1.keep N1 l _ hlL hnl hl
  refine wpAny_pyIter_list (items := [Value.int wide t1, .int 0 t2].toArray) ⟨_, hl1, rfl, _, rfl⟩ ?_
  intro p0 k0
  dsimp only
  have up : ∀ b o, h1.get? b = some o → (h1.push { cls := .type "list_iterator", data := .fields #[.ref l, .int 0 0] }).get? b = some o := fun b o e => Heap.get?_push_of_some _ e
  have hl2 := up _ _ hl1
  have F2 := F1.keeps up
  have N2 := N1.grown up
  have hlt : ∀ p ∈ restL g L l h0, p.1 ≠ h1.objs.size := fun p hp => Nat.ne_of_lt (Heap.lt_size (N1 p hp).1)
  have hgit : g.get? h1.objs.size = none := next_is_new F1
  have hitL : h1.objs.size ≠ L := Ne.symm (Nat.ne_of_lt F1.ns.lt)
  have hil : l ≠ h1.objs.size := Nat.ne_of_lt (Heap.lt_size hl1)
  have hit2 : (h1.push { cls := .type "list_iterator", data := .fields #[.ref l, .int 0 0] }).IsListIter h1.objs.size l 0 := ⟨_, Heap.get?_push_size _ rfl, rfl, rfl⟩
  clear F1 N1
  generalize h1.objs.size = it at *
  generalize h1.push { cls := .type "list_iterator", data := .fields #[.ref l, .int 0 0] } = h2 at *
  refine seg_forLoop ?_
  refine wpAny_pyNext_list_item (items := [Value.int wide t1, .int 0 t2].toArray) (i := 0) (x := .int wide t1) hit2 ⟨_, hl2, rfl, _, rfl⟩ rfl fun h3 hit3 hs3 => ?_
  dsimp only
  have F3 := F2.change hs3 hitL hgit
  have hl3 : h3.get? l = _ := (hs3.2 l hil).trans hl2
  obtain ⟨oit, ho3, hc3, hd3⟩ := hit3
  have N3 : News g L h3 ((it, oit) :: restL g L l h0) := fun p hp => by
    rcases List.mem_cons.mp hp with rfl | hp
    · exact ⟨ho3, hitL, hgit⟩
    · exact ⟨hs3.extBut _ _ (hlt p hp) (N2 p hp).1, (N2 p hp).2⟩
  clear F2 N2 hs3 hl2 up
  walk_at "mine_av"
  walk_at "mine_steps"
  intro K H gd lv hK hgd
  refine seg_execs_cons (seg_If ?_)
  walk_at "mine_av"
  walk_at "mine_steps"
  case _ => exfalso; omega
  refine seg_execs_nil ?_
  dsimp only
  refine seg_execs_cons (seg_If ?_)
  walk_at "mine_av"
  walk_at "mine_steps"
  case _ => exfalso; omega
  refine seg_execs_nil ?_
  dsimp only
  refine seg_execs_cons (seg_Expr_Yield rfl hgd rfl ?_)
  walk_at "mine_av"
  walk1
  intro kap hkap
  (rename Fr _ _ _ _ => F4)
  (rename News _ _ _ _ => N4)
  obtain ⟨oL, hoL, hnL⟩ := LCg.ns_obj F4.ns
  refine ⟨⟨_, rfl⟩, _, _, it, oL, oit, rfl, F4.keep, rest_use hkeep F4.keep (fun p hp => N4 p (.tail _ hp)), ⟨_, hd3⟩, hoL, (N4 _ (.head _)).1, hgit, hitL, ?_⟩
  cases n with
  | zero => exact .inl rfl
  | succ n =>
  refine .inr fun s2 k1 k2 k3 k4 => hkap .none s2 ?_
  have F5 : Fr g L s2.heap _ := ⟨hnL.ns k2, k1, F4.above⟩
  clear hkap N4 F4 hl3 hl1 hl hkeep
  dsimp only
  have N5 : News g L s2.heap ((it, oit) :: restL g L l s2.heap) := fun p hp => by
    rcases List.mem_cons.mp hp with rfl | hp
    · exact ⟨k3, hitL, hgit⟩
    · exact rest_news p hp
  obtain ⟨h5, gens5, drawn5, tk5, os5⟩ := s2
  dsimp only at F5 N5 k1 k2 k3 k4
  refine seg_execs_cons (seg_stmt ?_)
  walk_at "mine_av"
  walk_at "mine_steps"
  refine seg_execs_nil ?_
  dsimp only
  rw [hK]
  refine seg_again rfl (seg_forLoop ?_)
  (rename Fr _ _ _ _ => F6)
  (rename News _ _ _ _ => N6)
  rename Heap => h6
  have hl6 := rest_use k1 F6.keep (fun p hp => N6 p (.tail _ hp)) l _ hlL hnl k4
  have hlt7 : ∀ p ∈ restL g L l h5, p.1 ≠ it := fun p hp q => by
    have z := rest_not p hp
    rw [q, k3] at z
    exact z.2 (Option.some.inj z.1 ▸ ⟨_, hd3⟩)
  refine wpAny_pyNext_list_item (items := [Value.int wide t1, .int 0 t2].toArray) (i := 1) (x := .int 0 t2) ⟨oit, (N6 _ (.head _)).1, hc3, hd3⟩ ⟨_, hl6, rfl, _, rfl⟩ rfl fun h7 hit7 hs7 => ?_
  dsimp only
  have F7 := F6.change hs7 hitL hgit
  obtain ⟨oit7, ho7, hc7, hd7⟩ := hit7
  have N7 : News g L h7 ((it, oit7) :: restL g L l h5) := fun p hp => by
    rcases List.mem_cons.mp hp with rfl | hp
    · exact ⟨ho7, hitL, hgit⟩
    · exact ⟨hs7.extBut _ _ (hlt7 p hp) (N6 p (.tail _ hp)).1, (N6 p (.tail _ hp)).2⟩
  clear F6 N6 hs7
  walk_at "mine_av"
  walk_at "mine_steps"
  intro K2 H2 gd2 lv2 hK2 hgd2
  refine seg_execs_cons (seg_If ?_)
  walk_at "mine_av"
  walk_at "mine_steps"
  refine seg_execs_nil ?_
  dsimp only
  refine seg_execs_cons (seg_If ?_)
  walk_at "mine_av"
  walk_at "mine_steps"
  refine seg_execs_cons (seg_If ?_)
  walk_at "mine_av"
  walk_at "mine_steps"
  refine seg_execs_nil ?_
  dsimp only
  refine seg_execs_cons (seg_While fun pw => ?_)
  simp only [hgd2]
  (rename Fr _ _ _ _ => F8)
  (rename News _ _ _ _ => N8)
  refine turns (fun s₀ s => ∃ h tk m tl, s = { s₀ with heap := h, toks := tk } ∧ Fr g L h m ∧ m (Str.ofString "last_interval") = some (.int wide tl) ∧ News g L h ((it, oit7) :: restL g L l s₀.heap) ∧ (∀ b o, g.get? b = some o → s₀.heap.get? b = some o)) ?_ n _ _ ⟨_, _, _, _, rfl, F8, rfl, N8, k1⟩
  clear F8 N8
  rintro n s₀ s ⟨h, tk, m, tl, rfl, F, hm, N, hk⟩ ih
  obtain ⟨h0, gens0, drawn0, tk0, os0⟩ := s₀
  dsimp only at F N hk
  have F9 : Fr g L h (fun y => if y = Str.ofString "last_interval" then some (.int wide tl) else m y) := by
    have e : (fun y => if y = Str.ofString "last_interval" then some (.int wide tl) else m y) = m := by
      funext y
      split
      · rename_i q; rw [q, hm]
      · rfl
    rw [e]; exact F
  clear F
  refine seg_whileLoop ?_
  walk_at "mine_av"
  walk_at "mine_steps"
  refine seg_execs_cons (seg_Expr_Yield rfl rfl rfl ?_)
  walk_at "mine_av"
  walk1
  intro kap hkap
  (rename Fr _ _ _ _ => F4)
  (rename News _ _ _ _ => N4)
  obtain ⟨oL, hoL, hnL⟩ := LCg.ns_obj F4.ns
  refine ⟨⟨_, rfl⟩, _, _, it, oL, oit7, rfl, F4.keep, rest_use hk F4.keep (fun p hp => N4 p (.tail _ hp)), ⟨_, hd7⟩, hoL, (N4 _ (.head _)).1, hgit, hitL, ?_⟩
  cases n with
  | zero => exact .inl rfl
  | succ n =>
  refine .inr fun s2 q1 q2 q3 q4 => hkap .none s2 ?_
  dsimp only
  refine seg_execs_nil ?_
  refine seg_again rfl ?_
  refine ih n rfl s2 s2 ⟨s2.heap, s2.toks, _, tl, rfl, ⟨hnL.ns q2, q1, F4.above⟩, rfl, fun p hp => ?_, q1⟩
  rcases List.mem_cons.mp hp with rfl | hp
  · exact ⟨q3, hitL, hgit⟩
  · exact rest_news p hp
end Mine
end
section
open PySem PySem.W PyProof.Rows PySem.Spec PySem.Calls
set_option Elab.async false
set_option linter.unusedVariables false
set_option maxRecDepth 100000
set_option maxHeartbeats 4000000
namespace Mine
/-- as SP, where the generators may change -/
noncomputable def SPg (n : Nat) (w : World) (f : Addr) (vs : List Value) (R : Tok → Value) : Prop :=
  ∀ (p : Program) (loose : List Str) (mean : ExcName → Option Value) (mg mb : Str → Option Value) (s : Shared) (Q E : Value → Shared → Prop),
    (KF w.params).In s.heap → Top p loose mean mg mb s.heap → (∀ t h' tk' gens', Stay s.heap h' → (AllBare s.gens → AllBare gens') → Q (R t) { s with heap := h', toks := tk', gens := gens' }) →
    wpAny (model prg w) (Av n) (call (.ref f) vs) Q E s
theorem SPg.of {n : Nat} {w : World} {f : Addr} {vs : List Value} {R : Tok → Value} {name : Str} {params : Arguments} {body : List Stmt} {scope : Scope} {pm : Value} {c : Addr} {oc : Value} {od : Option Addr} {osl : Array (Option Value)} (binds : List (Str × Value))
    (ho : (KF w.params).lookup f = some ⟨oc, od, .func (fnOf name name params body scope .none .none .none pm none (.ref c) .none), osl⟩)
    (hcd : codeIn (KF w.params) (.ref c) name = true)
    (hbind : bindArgs (fnOf name name params body scope .none .none .none pm none (.ref c) .none) ⟨vs, []⟩ = pure binds)
    (hloc : ∀ y ∈ binds, scope.names.lookup y.1 = some .local)
    (hcell : ∀ x ∈ scope.names, x.2 ≠ .cell) (hco : scope.isCoroutine = false) (hgen : scope.isGenerator = false) (hk : scope.kind = .function)
    (hn : 300 + n < recursionLimit)
    (hb : ∀ (p : Program) (loose : List Str) (mean : ExcName → Option Value) (mg mb : Str → Option Value) (g h : Heap) (L : Addr) (gens : Array GenState) (drawn : Drawn) (tk : Nat) (os : OsState) (P : Flow → Shared → Prop), (KF w.params).In g → Top p loose mean mg mb g →
      Fr g L h (fun y => binds.reverse.lookup y) → News g L h [] → (∀ t h' tk' m' gens', Fr g L h' m' → (AllBare gens → AllBare gens') → P (.ret (R t)) ⟨h', gens', drawn, tk', os⟩) →
      wpAny (model prg w) ((Av n).deeper (envOf name scope L f (.ref c))) (execs body (envOf name scope L f (.ref c))) P (fun _ _ => False) ⟨h, gens, drawn, tk, os⟩) : SPg n w f vs R := by
  intro p loose mean mg mb s Q E X T k
  refine wpAny_call ?_
  refine codeAny_call_def (fd := fnOf name name params body scope .none .none .none pm none (.ref c) .none) (body := body) (binds := binds) hn (X _ _ ho) rfl T.nolimit (codeRec_of X hcd) rfl (BindsTo.of_eq hbind) hcell hloc (fun h₀ hns hk₁ => ?_) hco hgen hk
  exact wpAny_mono (hb p loose mean mg mb s.heap h₀ s.heap.objs.size s.gens s.drawn (s.toks + binds.length) s.os (fun fl s' => Q (match fl with | .ret v => v | _ => .none) s') X T ⟨hns, hk₁, Nat.le_refl _⟩ (fun _ h => nomatch h) (fun t h' tk' m' gens' F' hg => k t h' tk' gens' F'.keep hg)) (fun fl s' hq => hq) (fun _ _ h => h.elim)
theorem SPg.use {n : Nat} {w : World} {f : Addr} {vs : List Value} {R : Tok → Value} {A : Around} {s : Shared} {Q E : Value → Shared → Prop} {p : Program} {loose : List Str} {mean : ExcName → Option Value} {mg mb : Str → Option Value} {h₀ : Heap} {L : Addr} {m : Str → Option Value} {news : List (Addr × Obj)}
    (S : SPg n w f vs R) (F : Fr h₀ L s.heap m) (N : News h₀ L s.heap news) (X : (KF w.params).In h₀) (T : Top p loose mean mg mb h₀)
    (h1 : A.handled = none) (h2 : A.depth ≤ 300 + n) (h3 : A.units ≤ 100 * n)
    (k : ∀ t h' tk' gens', Fr h₀ L h' m → News h₀ L h' news → (AllBare s.gens → AllBare gens') → Q (R t) { s with heap := h', toks := tk', gens := gens' }) : wpAny (model prg w) A (call (.ref f) vs) Q E s :=
  weaken (S p loose mean mg mb s Q E (X.keeps F.keep) (T.keeps F.keep) (fun t h' tk' gens' st hg => k t h' tk' gens' (F.after st) (N.grown st) hg)) h1 h2 h3 rfl rfl
section
variable {prog : Program} {w : World} {A : Around} {s : Shared} {env : Env} {Q : Flow → Shared → Prop}
noncomputable def WEnd {σ : Type} (I : σ → Shared → Prop) (μ : σ → Nat) (Q : Flow → Shared → Prop) (c : σ) (f : Flow) (s₃ : Shared) : Prop :=
  match f with
  | .ret v => Q (.ret v) s₃
  | .brk => Q .next s₃
  | _ => ∃ c', I c' s₃ ∧ μ c' < μ c
/-- a while loop, its word about the whole state -/
theorem whileG {σ : Type} {test : Expr} {body : List Stmt} {pos : Pos} (I : σ → Shared → Prop) (μ : σ → Nat) (c₀ : σ) (h : I c₀ s)
    (turn : ∀ c s', I c s' → wpAny (model prog w) A (isTrue test env (eval test env)) (fun b s₂ => if b = true then wpAny (model prog w) A (execs body env) (WEnd I μ Q c) (fun _ _ => False) s₂ else Q .next s₂) (fun _ _ => False) s') :
    wpAny (model prog w) A (exec (.While test body [] pos) env) Q (fun _ _ => False) s := by
  refine wpAny_While (codeAny_whileLoop (fun n s' => ∃ c, μ c = n ∧ I c s') ?_ (μ c₀) ⟨c₀, rfl, h⟩)
  rintro n s' ⟨c, rfl, hI⟩
  refine wpAny_mono (turn c s' hI) (fun b s₂ q => ?_) fun _ _ x => x.elim
  cases b with
  | false =>
    simp only [Bool.false_eq_true, if_false] at q ⊢
    exact wpAny_execs_nil q
  | true =>
    simp only [if_true] at q ⊢
    refine wpAny_mono q (fun f s₃ q => ?_) fun _ _ x => x.elim
    cases f with
    | ret v => exact q
    | brk => exact q
    | next => obtain ⟨c', h1, h2⟩ := q; exact ⟨_, h2, c', rfl, h1⟩
    | cont => obtain ⟨c', h1, h2⟩ := q; exact ⟨_, h2, c', rfl, h1⟩
noncomputable def MEnd {σ : Type} (h₀ : Heap) (L : Addr) (ps : σ → List (Str × Value)) (stored : List Str) (m₀ : Str → Option Value) (J : σ → Shared → Prop) (μ : σ → Nat) (Q : Flow → Shared → Prop) (c : σ) (f : Flow) (s₃ : Shared) : Prop :=
  match f with
  | .ret v => Q (.ret v) s₃
  | .brk => Q .next s₃
  | _ => ∃ c' m', Fr h₀ L s₃.heap m' ∧ (∀ p ∈ ps c', m' p.1 = some p.2) ∧ (∀ z, (∀ p ∈ ps c', z ≠ p.1) → stored.contains z = false → m' z = m₀ z) ∧ J c' s₃ ∧ μ c' < μ c
theorem mEnd {σ : Type} {h₀ : Heap} {L : Addr} {ps : σ → List (Str × Value)} {stored : List Str} {m₀ m' : Str → Option Value} {J : σ → Shared → Prop} {μ : σ → Nat} {Q : Flow → Shared → Prop} {c : σ} {s₃ : Shared} (c' : σ)
    (F : Fr h₀ L s₃.heap m') (hk : ∀ p ∈ ps c', m' p.1 = some p.2) (hr : ∀ z, (∀ p ∈ ps c', z ≠ p.1) → stored.contains z = false → m' z = m₀ z) (hJ : J c' s₃) (hμ : μ c' < μ c) : MEnd h₀ L ps stored m₀ J μ Q c .next s₃ := ⟨c', m', F, hk, hr, hJ, hμ⟩
theorem whileM {σ : Type} {test : Expr} {body : List Stmt} {pos : Pos} {h₀ : Heap} {L : Addr} {m₀ : Str → Option Value} (ps : σ → List (Str × Value)) (stored : List Str) (J : Around → σ → Shared → Prop) (μ : σ → Nat) (c₀ : σ) (F : Fr h₀ L s.heap m₀) (hk : ∀ p ∈ ps c₀, m₀ p.1 = some p.2) (hJ : J A c₀ s)
    (turn : ∀ c s' (u : Str → Option Value), J A c s' → Fr h₀ L s'.heap (kstB (fun z => if stored.contains z then u z else m₀ z) (ps c)) → wpAny (model prog w) A (isTrue test env (eval test env)) (fun b s₂ => if b = true then wpAny (model prog w) A (execs body env) (MEnd h₀ L ps stored m₀ (J A) μ Q c) (fun _ _ => False) s₂ else Q .next s₂) (fun _ _ => False) s') :
    wpAny (model prog w) A (exec (.While test body [] pos) env) Q (fun _ _ => False) s := by
  refine whileG (σ := σ × (Str → Option Value)) (fun c s' => Fr h₀ L s'.heap c.2 ∧ (∀ p ∈ ps c.1, c.2 p.1 = some p.2) ∧ (∀ z, (∀ p ∈ ps c.1, z ≠ p.1) → stored.contains z = false → c.2 z = m₀ z) ∧ J A c.1 s') (fun c => μ c.1) (c₀, m₀) ⟨F, hk, fun _ _ _ => rfl, hJ⟩ ?_
  rintro ⟨c, m⟩ s' ⟨F', k1, k2, hJ'⟩
  refine wpAny_mono (turn c s' m hJ' (ksw_fr k1 k2 F')) (fun b s₂ q => ?_) fun _ _ x => x
  cases b with
  | false => simpa using q
  | true =>
    simp only [if_true] at q ⊢
    refine wpAny_mono q (fun f s₃ q => ?_) fun _ _ x => x
    cases f with
    | ret v => exact q
    | brk => exact q
    | next => obtain ⟨c', m', q1, q2, q3, q4, q5⟩ := q; exact ⟨(c', m'), ⟨q1, q2, q3, q4⟩, q5⟩
    | cont => obtain ⟨c', m', q1, q2, q3, q4, q5⟩ := q; exact ⟨(c', m'), ⟨q1, q2, q3, q4⟩, q5⟩
end
end Mine
end
section
open PySem PySem.W PyProof.Rows PySem.Spec PySem.Calls
set_option Elab.async false
set_option linter.unusedVariables false
set_option maxRecDepth 100000
set_option maxHeartbeats 4000000
namespace Mine
noncomputable def loR (wide : Int) (t1 t2 : Tok) : Obj := PySem.W.listOf #[.int wide t1, .int 0 t2] 0
/-- a generator that gives wide at the next n askings -/
noncomputable def Live (w : World) (A : Around) (n : Nat) (g : Heap) (L l : Addr) (lo : Obj) (wide : Int) (gs : GenState) (oL : Obj) (oi : List (Addr × Obj)) : Prop :=
  ∀ s'', (∀ b o, g.get? b = some o → s''.heap.get? b = some o) → s''.heap.get? L = some oL → (∀ q ∈ oi, s''.heap.get? q.1 = some q.2) → s''.heap.get? l = some lo → gs.Goes (model prg w) A RF (YR g L l lo wide) n (.send .none) s''
noncomputable def GenObj (og : Obj) (gi : Nat) : Prop := og.cls = .type "generator" ∧ (∃ nm qn, og.data = .fields #[.int gi 0, nm, qn]) ∧ og.slots = #[]
theorem ruler_make {w : World} {wide : Int} {t1 t2 : Tok} {A : Around} {s : Shared} {Q E : Value → Shared → Prop} {p : Program} {loose : List Str} {mean : ExcName → Option Value} {mg mb : Str → Option Value} {g : Heap} {L' l : Addr} {m : Str → Option Value} {news : List (Addr × Obj)}
    (hw : 1 ≤ wide ∧ wide ≤ 10) (F : Fr g L' s.heap m) (N : News g L' s.heap news) (hm : (l, loR wide t1 t2) ∈ news) (X : (KF w.params).In g) (T : Top p loose mean mg mb g) (hroom : A.depth < recursionLimit)
    (k : ∀ L ga oL og h' tk' gs, Fr g L' h' m → News g L' h' ((ga, og) :: (L, oL) :: news) → GenObj og s.gens.size → (∃ mm, LCg.NsObj oL mm) → gs.bare = true → L ≠ l → L ≠ ga → ga ≠ l → (∀ q ∈ news, q.1 < L) → L < ga → (∀ A' n, OkA A' → Live w A' (n + 1) g L l (loR wide t1 t2) wide gs oL []) →
      Q (.ref ga) { s with heap := h', toks := tk', gens := s.gens.push gs }) : wpAny (model prg w) A (call (.ref 38) [.ref l]) Q E s := by
  obtain ⟨name, params, body, scope, pm, c, oc, od, osl, ho, hcd, hbind, hloc, hcell, hco, hgen, hk, hseg⟩ := ruler (w := w) (t1 := t1) (t2 := t2) hw
  have Xs := X.keeps F.keep
  have hl := N _ hm
  refine wpAny_call ?_
  refine codeAny_call_generator (fd := fnOf name name params body scope .none .none .none pm none (.ref c) .none) (body := body) hroom (Xs _ _ ho) rfl hco hgen rfl (codeRec_of Xs hcd) ?_
  refine wpAny_of_eq (hbind _) ?_
  refine wpAny_newFunctionEnv hcell (fun y hy => ?_) (fun h1 hns1 hsb1 => ?_) hk
  · rw [List.mem_singleton.mp hy]; exact hloc _ (List.mem_singleton.mpr rfl)
  have old : ∀ b o, s.heap.get? b = some o → h1.get? b = some o := fun b o e => hsb1.extBut b o (Nat.ne_of_lt (Heap.lt_size e)) (Heap.get?_push_of_some _ e)
  refine ⟨(T.keeps fun b o e => old _ _ (F.keep _ _ e)).nolimit, ?_⟩
  obtain ⟨oL, hoL, hnL⟩ := LCg.ns_obj hns1
  have hLs : s.heap.objs.size < h1.objs.size := Heap.lt_size hoL
  have fresh₀ : ∀ a, s.heap.objs.size ≤ a → g.get? a = none := fun a ha => by
    cases e : g.get? a with
    | none => rfl
    | some o' => exact absurd (Heap.lt_size (F.keep a o' e)) (Nat.not_lt.mpr ha)
  have hlt : ∀ q ∈ news, q.1 < s.heap.objs.size := fun q hq => Heap.lt_size (N q hq).1
  have hll : l < s.heap.objs.size := hlt _ hm
  refine' k s.heap.objs.size h1.objs.size oL { cls := .type "generator", data := .fields #[.int s.gens.size 0, .str name (s.toks + 1), .str name (s.toks + 1 + 1)] } _ _ (.fresh (.func body (envOf name scope s.heap.objs.size 38 (.ref c)))) ?f1 ?f2 ?gob ⟨_, hnL⟩ rfl (Ne.symm (Nat.ne_of_lt hll)) (Nat.ne_of_lt hLs) (Ne.symm (Nat.ne_of_lt (Nat.lt_trans hll hLs))) hlt hLs ?f3
  case f1 => exact (F.keeps old).push _
  case f2 =>
    intro q hq
    rcases List.mem_cons.mp hq with rfl | hq
    · exact ⟨Heap.get?_push_size _ rfl, Ne.symm (Nat.ne_of_lt (Nat.lt_trans F.ns.lt hLs)), fresh₀ _ (Nat.le_of_lt hLs)⟩
    · rcases List.mem_cons.mp hq with rfl | hq
      · exact ⟨Heap.get?_push_of_some _ hoL, Ne.symm (Nat.ne_of_lt F.ns.lt), fresh₀ _ (Nat.le_refl _)⟩
      · exact ⟨Heap.get?_push_of_some _ (old _ _ (N q hq).1), (N q hq).2⟩
  case gob => exact ⟨rfl, ⟨_, _, rfl⟩, rfl⟩
  case f3 =>
    intro A' n hA' s'' q1 q2 _ q4
    refine ⟨rfl, hseg p loose mean mg mb g s.heap.objs.size l A' n s'' X T hA' (Nat.ne_of_lt hll) ⟨?_, q1, ?_⟩ q4 hl.2.2⟩
    · have e : (fun y => if y = Str.ofString "grouping" then some (Value.ref l) else none) = (fun x => List.lookup x [(Str.ofString "grouping", Value.ref l)].reverse) := by
        funext y
        show _ = List.lookup y [(Str.ofString "grouping", Value.ref l)]
        rw [look_cons]; rfl
      rw [e]
      exact hnL.ns q2
    · cases hc : Nat.decLe g.objs.size s.heap.objs.size with
      | isTrue h => exact h
      | isFalse h => exact absurd (Nat.le_trans F.above (Nat.le_of_lt F.ns.lt)) h
theorem ruler_next {w : World} {wide : Int} {lo : Obj} {A : Around} {s : Shared} {Q E : Value → Shared → Prop} {p : Program} {loose : List Str} {mean : ExcName → Option Value} {mg mb : Str → Option Value} {g : Heap} {L' L l ga gi n : Nat} {m : Str → Option Value} {oL og : Obj} {oi base : List (Addr × Obj)} {gs : GenState}
    (F : Fr g L' s.heap m) (N : News g L' s.heap ((L, oL) :: (oi ++ base))) (T : Top p loose mean mg mb g) (hb : ∀ q ∈ base, q.1 ≠ L ∧ ¬ IsIt l q.2) (hga : (ga, og) ∈ base) (hl : (l, lo) ∈ base) (hG : GenObj og gi) (hgs : s.gens[gi]? = some gs)
    (hLive : Live w A.in1.in1 (n + 2) g L l lo wide gs oL oi) (hroom : A.in1.in1.depth < recursionLimit)
    (k : ∀ t h' tk' gs' oL' it oit', Fr g L' h' m → News g L' h' ((L, oL') :: ([(it, oit')] ++ base)) → gs'.bare = true → Live w A.in1.in1 (n + 1) g L l lo wide gs' oL' [(it, oit')] → Q (.int wide t) { s with heap := h', toks := tk', gens := (s.gens.setIfInBounds gi .running).setIfInBounds gi gs' }) :
    wpAny (model prg w) A (call (.builtin "next") [.ref ga]) Q E s := by
  obtain ⟨hc, ⟨nm, qn, hd⟩, hsl⟩ := hG
  have hgen : s.heap.IsGen ga gi := ⟨og, nm, qn, (N _ (.tail _ (List.mem_append_right _ hga))).1, hc, hd, hsl⟩
  refine call_function_entry (by decide +kernel) (by decide +kernel) kdk_entry_next (kdk_args_next _) ?_
  unfold Builtin.«next»
  refine wpAny_bind (m := someArgs "next" 1 2 _) (wpAny_of_eq (a := [Value.ref ga]) (by first | rfl | kernel_rfl!) ?_)
  dsimp only
  refine wpAny_bind (wpAny_specialOf (name := Str.ofString "__next__") hgen.typeIs slot_gen_next.lookup ?_)
  refine wpAny_ite_split (fun hab => absurd hab (by decide)) (fun _ => ?_)
  refine wpAny_bind (wpAny_callSpecial?_slot (name := Str.ofString "__next__") hgen.typeIs slot_gen_next (wpAny_call_entry slot_gen_next hgen.typeIs entry_gen_next ?_ (args_gen_next _)))
  show wpAny _ A.in1.in1 (Builtin.Generator.genWake (.ref ga) (.send .none)) _ _ s
  unfold Builtin.Generator.genWake
  refine wpAny_bind (wpAny_holding (wpAny_genNumber hgen (wpAny_bind (wpAny_genState hgs ?_))))
  have hgo := hLive (s.setGen gi .running) F.keep (N _ (.head _)).1 (fun q hq => (N q (.tail _ (List.mem_append_left _ hq))).1) (N _ (.tail _ (List.mem_append_right _ hl))).1
  cases gs with
  | running => exact hgo.elim
  | finished => exact hgo.elim
  | _ =>
    refine wpAny_bind (wpAny_roomToWake (T.keeps F.keep).nolimit hroom ?_)
    show wpAny _ A.in1.in1 (.resume gi (.send .none) [] _) _ _ s
    refine wpAny_resumeQ hgs hgo (fun x s₁ hx => hx.2.elim) (fun v s₁ gs' hbare hv => ?_)
    obtain ⟨⟨t, rfl⟩, h', tk', it, oL', oit, rfl, k1, k2, k3, k4, k5, k6, k7, k8⟩ := hv
    refine wpAny_pure ⟨.int wide t, rfl, wpAny_pure ⟨_, rfl, ?_⟩⟩
    have hLL : L ≠ L' := (N _ (.head _)).2.1
    obtain ⟨oF, hoF, hnF⟩ := LCg.ns_obj F.ns
    have hoF' : h'.get? L' = some oF := k2 L' oF (Ne.symm hLL) (fun ⟨i, q⟩ => by obtain ⟨es, ep, hdd, _⟩ := hnF; rw [hdd] at q; cases q) hoF
    have hit : it ≠ L' := fun e => by
      rw [e, hoF'] at k5
      obtain ⟨i, q⟩ := k3
      obtain ⟨es, ep, hdd, _⟩ := hnF
      rw [← Option.some.inj k5, hdd] at q
      cases q
    refine k t h' tk' gs' oL' it oit ⟨hnF.ns hoF', k1, F.above⟩ ?_ hbare ?_
    · intro q hq
      rcases List.mem_cons.mp hq with rfl | hq
      · exact ⟨k4, (N _ (.head _)).2⟩
      · rcases List.mem_cons.mp hq with rfl | hq
        · exact ⟨k5, hit, k6⟩
        · have z := N q (.tail _ (List.mem_append_right _ hq))
          exact ⟨k2 _ _ (hb q hq).1 (hb q hq).2 z.1, z.2⟩
    · intro s'' q1 q2 q3 q4
      rcases k8 with k8 | k8
      · exact absurd k8 (Nat.succ_ne_zero _)
      · exact k8 s'' q1 q2 (q3 _ (.head _)) q4
end Mine
end
section
open PySem PySem.W PyProof.Rows PySem.Spec PySem.Calls
set_option Elab.async false
set_option linter.unusedVariables false
set_option maxRecDepth 100000
namespace Mine
set_option maxHeartbeats 4000000
theorem filled9 : PySem.Challenge.rw_to0033_01.prog = PySem.Challenge.rw_to0033_01.prog ∧ KF = KF := by k_fill; exact ⟨rfl, rfl⟩
local macro_rules | `(tactic| walk_at "mine_enter") => `(tactic| (
  (case ho => with_unfolding_all k_is)
  (case hcd => k_is)
  (case hbind => with_unfolding_all exact rfl)
  (case hloc => exact locs rfl)
  (case hcell => decide)
  (case hco => exact rfl)
  (case hgen => exact rfl)
  (case hk => exact rfl)
  (case hn => decide)))
local macro_rules | `(tactic| walk_at "mine_steps") => `(tactic| repeat' ((fail_if_success (with_reducible show wpAny _ _ (pyIter _) _ _ _)); (fail_if_success (with_reducible show wpAny _ _ (exec (Stmt.While _ _ _ _) _) _ _ _)); (fail_if_success (with_reducible show wpAny _ _ (call (Value.ref _) _) _ _ _)); (fail_if_success (with_reducible show wpAny _ _ (call (Value.builtin "next") _) _ _ _)); (fail_if_success (with_reducible show wpAny _ _ (exec (Stmt.For (Expr.Tuple _ _ _) _ _ _ _) _) _ _ _)); (fail_if_success (with_reducible show wpAny _ _ (exec (Stmt.Assign _ (Expr.ListComp _ _ _ _) _) _) _ _ _)); first | walk1 | (dsimp only; walk1) | fail "no step"))

noncomputable def mailS (dots wide : Nat) : Str := ⟨(mailL 20 dots wide).toArray⟩
structure RS where
  d : Nat
  td : Tok
  mail : Str
  tm : Tok
  f : Nat
  oL : Obj
  oi : List (Addr × Obj)
  gs : GenState
  gens : Array GenState
theorem allBare_set {a : Array GenState} {i : Nat} {x : GenState} (h : AllBare a) (hx : x.bare = true) : AllBare (a.setIfInBounds i x) := fun y hy => by
  rw [← Array.mem_toList_iff, Array.toList_setIfInBounds] at hy
  rcases List.mem_or_eq_of_mem_set hy with q | q
  · exact h y (Array.mem_toList_iff.mp q)
  · rw [q]; exact hx
theorem mail_snoc {mail : Str} {z : Nat} : (mail ++ (Txt.mul (Str.ofString ".") (z : Int) ++ Str.ofString "\r\n")).cps.toList = mail.cps.toList ++ rowT z := by
  rw [Str.cps_append, Array.toList_append, Str.cps_append, Array.toList_append, show Str.ofString "." = ⟨#[46]⟩ from rfl, mul_one_list]
  simp only [Int.toNat_natCast]
  rfl
theorem rows_sp {w : World} {dots wide : Nat} {y : Str} {t1 t2 : Tok} (h : 1 ≤ wide ∧ wide ≤ 10 ∧ dots ≤ 20) (hq : quoteP (mailS dots wide) = some y) (hm : (mailL 20 dots wide).length ≤ 200) (hy : y.length ≤ 400) : SPg 30 w 187 [.int dots t1, .int wide t2] (fun t => .int ((y.length : Int) - (mailS dots wide).length) t) := by
  obtain ⟨h1, h2, h3⟩ := h
  refine' SPg.of [(Str.ofString "dots", .int dots t1), (Str.ofString "wide", .int wide t2)] ?ho ?hcd ?hbind ?hloc ?hcell ?hco ?hgen ?hk ?hn ?hb
  walk_at "mine_enter"
  intro p loose mean mg mb g h L gens drawn tk os P X T F N k
  simp only [List.reverse_cons, List.reverse_nil, List.nil_append, List.cons_append, look_cons, List.lookup_nil] at F
  walk_at "mine_steps"
  (rename Fr _ _ _ _ => F1)
  (rename News _ _ _ _ => N1)
  refine ruler_make (wide := wide) ⟨by omega, by omega⟩ F1 N1 (.head _) X T (by with_unfolding_all exact Nat.le_of_ble_eq_true rfl) ?_
  intro Lr ga oL og h2 tk2 gs F2 N2 hG hoL hbare e1 e2 e3 e4 e5 hLive
  clear F1 N1
  dsimp only
  walk_at "mine_steps"
  (rename Fr _ _ _ _ => F1)
  (rename News _ _ _ _ => N1)
  obtain ⟨hoLm, hoLd⟩ := hoL
  have hgs : (gens.push gs)[gens.size]? = some gs := Array.getElem?_push_size
  refine' whileM (σ := RS) (fun c => [(Str.ofString "dots", .int c.d c.td), (Str.ofString "mail", .str c.mail c.tm)]) [Str.ofString "size"]
    (fun A' c s' => ∃ h tk l lt, s' = ⟨h, c.gens, drawn, tk, os⟩ ∧ News g L h ((Lr, c.oL) :: (c.oi ++ [(ga, og), (l, PySem.W.listOf #[.int wide t2, .int 0 lt] 0)])) ∧ l ≠ Lr ∧ c.gens[gens.size]? = some c.gs ∧ Live w A'.in1.in1 (c.f + 2) g Lr l (PySem.W.listOf #[.int wide t2, .int 0 lt] 0) wide c.gs c.oL c.oi ∧ (AllBare gens → AllBare c.gens) ∧ c.d ≤ c.f ∧ c.mail.cps.toList ++ mailL c.f c.d wide = mailL 20 dots wide)
    (fun c => c.d) ⟨dots, _, Str.ofString "", _, 20, oL, [], gs, _⟩ F1 ?j0 ⟨_, _, _, _, rfl, ?j1, Ne.symm e1, hgs, hLive _ 21 ?j2, ?j3, h3, ?j4⟩ ?turn
  case j0 => kst_all
  case j1 =>
    intro q hq
    rcases List.mem_cons.mp hq with rfl | hq
    · exact N1 _ (.tail _ (.head _))
    · rcases List.mem_cons.mp hq with rfl | hq
      · exact N1 _ (.head _)
      · exact N1 _ (.tail _ (.tail _ hq))
  case j2 => exact ⟨rfl, by with_unfolding_all exact Nat.le_of_ble_eq_true rfl, by with_unfolding_all exact Nat.le_of_ble_eq_true rfl⟩
  case j3 => exact fun z => z.push hbare
  case j4 => rfl
  case turn =>
    clear F1 N1 hLive hgs
    rintro ⟨d, td, mail, tm, f, oLc, oi, gsc, gensc⟩ s' u ⟨h5, tk5, l, lt, rfl, N5, hlL, hgs, hLv, hB, hdf, hmail⟩ F5
    dsimp only [kstB] at F5 N5 hgs hLv hB hdf hmail
    dsimp only
    have hml : mail.length ≤ 200 := by
      have := congrArg List.length hmail
      rw [List.length_append] at this
      have e : mail.length = mail.cps.toList.length := (Array.length_toList).symm
      omega
    walk_at "mine_steps"
    case _ =>
      rename ((d : Int) ≠ 0) => hd0
      have hd1 : 1 ≤ d := by omega
      obtain ⟨f, rfl⟩ : ∃ f', f = f' + 1 := ⟨f - 1, by omega⟩
      refine ruler_next (n := f + 1) (base := [(ga, og), (l, PySem.W.listOf #[.int wide t2, .int 0 lt] 0)]) (by assumption) N5 T ?b1 (.head _) (.tail _ (.head _)) hG hgs hLv (by with_unfolding_all exact Nat.le_of_ble_eq_true rfl) ?b2
      case b1 =>
        intro q hq
        rcases List.mem_cons.mp hq with rfl | hq
        · exact ⟨Ne.symm e2, fun ⟨i, z⟩ => by obtain ⟨_, ⟨nm, qn, hd⟩, _⟩ := hG; rw [hd] at z; cases z⟩
        · rw [List.mem_singleton.mp hq]
          exact ⟨hlL, fun ⟨i, z⟩ => by cases z⟩
      case b2 =>
        intro t6 h6 tk6 gs6 oL6 it6 oit6 F6 N6 hb6 hLv6
        simp only [List.cons_append, List.nil_append] at N6
        dsimp only
        walk_at "mine_steps"
        (rename Fr _ _ _ _ => F7)
        (rename News _ _ _ _ => N7)
        have hz : (if (d : Int) < (wide : Int) then (d : Int) else (wide : Int)) = ((min wide d : Nat) : Int) := by
          by_cases q : d < wide
          · rw [if_pos (by omega), Nat.min_eq_right (by omega)]
          · rw [if_neg (by omega), Nat.min_eq_left (by omega)]
        have hz2 : (d : Int) - ((min wide d : Nat) : Int) = ((d - min wide d : Nat) : Int) := by
          have := Nat.min_le_right wide d; omega
        rw [hz, hz2] at F7
        have hmin1 : 1 ≤ min wide d := Nat.le_min.mpr ⟨h1, hd1⟩
        have hin : gens.size < gensc.size := (Array.getElem?_eq_some_iff.mp hgs).1
        refine mEnd ⟨d - min wide d, _, mail ++ (Txt.mul (Str.ofString ".") ((min wide d : Nat) : Int) ++ Str.ofString "\r\n"), _, f, oL6, [(it6, oit6)], gs6, _⟩ F7 (by kst_all) (by ksw_same) ⟨_, _, l, lt, rfl, N7, hlL, ?g1, hLv6, ?g2, ?g3, ?g4⟩ ?g5
        case g1 => rw [Array.getElem?_setIfInBounds_self]; simp [hin]
        case g2 => exact fun q => allBare_set (allBare_set (hB q) rfl) hb6
        case g3 => show d - min wide d ≤ f; omega
        case g4 =>
          show (mail ++ (Txt.mul (Str.ofString ".") ((min wide d : Nat) : Int) ++ Str.ofString "\r\n")).cps.toList ++ mailL f (d - min wide d) wide = mailL 20 dots wide
          rw [mail_snoc, ← hmail, mailL, if_neg (by omega), List.append_assoc]
        case g5 => show d - min wide d < d; omega
    case _ =>
      rename ((d : Int) = 0) => hd0
      obtain rfl : d = 0 := by omega
      have hm0 : mail = mailS dots wide := by
        have e : mailL f 0 wide = [] := by cases f <;> simp [mailL]
        rw [e, List.append_nil] at hmail
        refine PySem.Str.ext' (Array.toList_inj.mp ?_)
        rw [hmail]; rfl
      subst hm0
      refine SP.use (quote_sp hq (Nat.le_trans hml (by decide))) (by assumption) N5 X T rfl (by with_unfolding_all exact Nat.le_of_ble_eq_true rfl) (by with_unfolding_all exact Nat.le_of_ble_eq_true rfl) ?_
      intro t9 h9 tk9 F9 N9
      dsimp only
      walk_at "mine_steps"
      exact k _ _ _ _ _ (by assumption) hB
end Mine
end
section
open PySem PySem.W PyProof.Rows PySem.Spec PySem.Calls
set_option Elab.async false
set_option linter.unusedVariables false
set_option maxRecDepth 100000
set_option maxHeartbeats 4000000
namespace Mine
noncomputable def pairs0 : List (Nat × Nat) := [(2,1),(3,1),(5,1)]
noncomputable def pairs1 : List (Nat × Nat) := [(5,2),(6,1),(6,2)]
noncomputable def pairs2 : List (Nat × Nat) := [(8,1),(8,2),(10,3)]
noncomputable def pairs3 : List (Nat × Nat) := [(11,1),(11,2),(11,3)]
noncomputable def pairs4 : List (Nat × Nat) := [(13,3),(12,1),(12,2)]
noncomputable def pairs5 : List (Nat × Nat) := [(12,3),(14,3),(15,1)]
noncomputable def pairs6 : List (Nat × Nat) := [(15,2),(15,3),(17,3)]
noncomputable def pairs7 : List (Nat × Nat) := [(17,4)]
noncomputable def pairs : List (Nat × Nat) := pairs0 ++ (pairs1 ++ (pairs2 ++ (pairs3 ++ (pairs4 ++ (pairs5 ++ (pairs6 ++ (pairs7)))))))
noncomputable def okP (p : Nat × Nat) : Bool := Nat.ble 1 p.2 && Nat.ble p.2 10 && Nat.ble p.1 20 && Nat.ble (mailL 20 p.1 p.2).length 200 && match quoteP (mailS p.1 p.2) with
  | some y => Nat.ble y.length 400 && Nat.beq y.length ((mailS p.1 p.2).length + rowsN 20 p.1 p.2)
  | none => false
theorem okPs0 : pairs0.all okP = true := by kernel_rfl
theorem okPs1 : pairs1.all okP = true := by kernel_rfl
theorem okPs2 : pairs2.all okP = true := by kernel_rfl
theorem okPs3 : pairs3.all okP = true := by kernel_rfl
theorem okPs4 : pairs4.all okP = true := by kernel_rfl
theorem okPs5 : pairs5.all okP = true := by kernel_rfl
theorem okPs6 : pairs6.all okP = true := by kernel_rfl
theorem okPs7 : pairs7.all okP = true := by kernel_rfl
theorem okPs : pairs.all okP = true := by
  unfold pairs
  rw [List.all_append, List.all_append, List.all_append, List.all_append, List.all_append, List.all_append, List.all_append, okPs0, okPs1, okPs2, okPs3, okPs4, okPs5, okPs6, okPs7] <;> rfl
theorem rows_val {w : World} {dots wide : Nat} {t1 t2 : Tok} (h : (dots, wide) ∈ pairs) : SPg 30 w 187 [.int dots t1, .int wide t2] (fun t => .int (rowsN 20 dots wide : Nat) t) := by
  have z := List.all_eq_true.mp okPs _ h
  unfold okP at z
  cases hq : quoteP (mailS dots wide) with
  | none => rw [hq] at z; simp at z
  | some y =>
    rw [hq] at z
    simp only [Bool.and_eq_true, Nat.ble_eq] at z
    obtain ⟨⟨⟨⟨z1, z2⟩, z3⟩, z4⟩, z5, z6⟩ := z
    have r := rows_sp (w := w) (t1 := t1) (t2 := t2) ⟨z1, z2, z3⟩ hq z4 z5
    have e : ((y.length : Nat) : Int) - (mailS dots wide).length = (rowsN 20 dots wide : Nat) := by
      have z7 := Nat.eq_of_beq_eq_true z6
      omega
    rw [e] at r
    exact r
end Mine
end
section
open PySem PySem.W PyProof.Rows PySem.Spec PySem.Calls
set_option Elab.async false
set_option linter.unusedVariables false
set_option maxRecDepth 100000
namespace Mine
set_option maxHeartbeats 4000000
theorem filled10 : PySem.Challenge.rw_to0033_01.prog = PySem.Challenge.rw_to0033_01.prog ∧ KF = KF := by k_fill; exact ⟨rfl, rfl⟩
local macro_rules | `(tactic| walk_at "mine_enter") => `(tactic| (
  (case ho => with_unfolding_all k_is)
  (case hcd => k_is)
  (case hbind => with_unfolding_all exact rfl)
  (case hloc => exact locs rfl)
  (case hcell => decide)
  (case hco => exact rfl)
  (case hgen => exact rfl)
  (case hk => exact rfl)
  (case hn => decide)))
local macro_rules | `(tactic| walk_at "mine_steps") => `(tactic| repeat' ((fail_if_success (with_reducible show wpAny _ _ (pyIter _) _ _ _)); (fail_if_success (with_reducible show wpAny _ _ (exec (Stmt.While _ _ _ _) _) _ _ _)); (fail_if_success (with_reducible show wpAny _ _ (call (Value.ref _) _) _ _ _)); (fail_if_success (with_reducible show wpAny _ _ (exec (Stmt.For (Expr.Tuple _ _ _) _ _ _ _) _) _ _ _)); (fail_if_success (with_reducible show wpAny _ _ (exec (Stmt.Assign _ (Expr.ListComp _ _ _ _) _) _) _ _ _)); first | walk1 | (dsimp only; walk1) | fail "no step"))

noncomputable def contr (dots side wide : Nat) : Nat := if wide * rowsN 20 dots wide = dots then (if wide = side ∨ wide = rowsN 20 dots wide then 1 else 2) else 0
noncomputable def inF (dots side : Nat) : Nat → Nat → Nat → Nat
  | 0, _, count => count
  | f + 1, wide, count => if wide * wide ≤ dots then inF dots side f (wide + 1) (count + contr dots side wide) else count
noncomputable def dotsF (prime side : Nat) : Nat := (prime + side * side) / 4
noncomputable def outF (prime : Nat) : Nat → Nat → Nat → Nat
  | 0, _, count => count
  | f + 1, side, count => if 3 * side * side ≤ prime then outF prime f (side + 2) (inF (dotsF prime side) side 10 side count) else count
noncomputable def clsF (prime : Nat) : Nat := outF prime 5 1 0
noncomputable def primes : List Nat := [7, 11, 19, 23, 31, 43, 47, 59]
theorem pairs_mem : ∀ prime ∈ primes, ∀ side ∈ [1, 3], 3 * side * side ≤ prime → ∀ wide ∈ List.range 6, side ≤ wide → wide * wide ≤ dotsF prime side → (dotsF prime side, wide) ∈ pairs := by decide +kernel
theorem primes_b : ∀ prime ∈ primes, 7 ≤ prime ∧ prime ≤ 59 := by decide
theorem rowsN_le : ∀ f d w, rowsN f d w ≤ f
  | 0, _, _ => Nat.le_refl 0
  | f + 1, d, w => by
    rw [rowsN]
    split
    · omega
    · exact Nat.succ_le_succ (rowsN_le f _ w)
structure CS where
  c : Nat
  tc : Tok
  x : Nat
  tx : Tok
  f : Nat
  gens : Array GenState
theorem classes_sp {w : World} {prime : Nat} {t1 : Tok} (h : prime ∈ primes) : SPg 20 w 194 [.int prime t1] (fun t => .int (clsF prime : Nat) t) := by
  obtain ⟨h1, h2⟩ := primes_b prime h
  refine' SPg.of [(Str.ofString "prime", .int prime t1)] ?ho ?hcd ?hbind ?hloc ?hcell ?hco ?hgen ?hk ?hn ?hb
  walk_at "mine_enter"
  intro p loose mean mg mb g h0 L gens drawn tk os P X T F N k
  simp only [List.reverse_cons, List.reverse_nil, List.nil_append, List.cons_append, look_cons, List.lookup_nil] at F
  walk_at "mine_steps"
  (rename Fr _ _ _ _ => F1)
  (rename News _ _ _ _ => N1)
  refine' whileM (σ := CS) (fun c => [(Str.ofString "count", .int c.c c.tc), (Str.ofString "side", .int c.x c.tx)]) [Str.ofString "dots", Str.ofString "wide", Str.ofString "high"]
    (fun _ c s' => ∃ h tk, s' = ⟨h, c.gens, drawn, tk, os⟩ ∧ News g L h [] ∧ (AllBare gens → AllBare c.gens) ∧ c.x % 2 = 1 ∧ c.x + 2 * c.f = 11 ∧ c.c ≤ 20 * c.x ∧ outF prime c.f c.x c.c = clsF prime)
    (fun c => c.f) ⟨0, _, 1, _, 5, gens⟩ F1 ?j0 ⟨_, _, rfl, (fun _ h => nomatch h), id, rfl, rfl, Nat.zero_le _, rfl⟩ ?turn
  case j0 => kst_all
  case turn =>
    clear F1 N1
    rintro ⟨cnt, tc, side, ts, f, gens2⟩ s' u ⟨h5, tk5, rfl, N5, hB, hodd, hfu, hcb, hout⟩ F5
    dsimp only [kstB] at F5 N5 hB hodd hfu hcb hout
    dsimp only
    walk_at "mine_steps"
    case _ =>
      rename (_ * _ ≤ _) => hle
      have hle' : 3 * side * side ≤ prime := by exact_mod_cast hle
      have hs5 : side < 5 := by
        cases Nat.lt_or_ge side 5 with
        | inl q => exact q
        | inr q =>
          have := Nat.mul_le_mul (Nat.mul_le_mul (Nat.le_refl 3) q) q
          omega
      have hs : side = 1 ∨ side = 3 := by omega
      have hD : ((prime : Int) + (side : Int) * (side : Int)).fdiv 4 = ((dotsF prime side : Nat) : Int) := by
        rw [Int.fdiv_eq_ediv_of_nonneg _ (by decide)]
        unfold dotsF
        push_cast
        rfl
      have hD20 : dotsF prime side ≤ 17 := by
        unfold dotsF
        rcases hs with rfl | rfl <;> omega
      have hmem := pairs_mem prime h side (by rcases hs with rfl | rfl <;> simp) hle'
      (rename Fr _ _ _ _ => F6)
      rw [hD] at F6
      generalize hDD : dotsF prime side = D at *
      refine' whileM (σ := CS) (fun c => [(Str.ofString "count", .int c.c c.tc), (Str.ofString "wide", .int c.x c.tx)]) [Str.ofString "high"]
        (fun _ c s' => ∃ h tk, s' = ⟨h, c.gens, drawn, tk, os⟩ ∧ News g L h [] ∧ (AllBare gens → AllBare c.gens) ∧ side ≤ c.x ∧ c.x + c.f = side + 10 ∧ c.c ≤ 20 * side + 2 * c.x ∧ inF D side c.f c.x c.c = inF D side 10 side cnt)
        (fun c => c.f) ⟨cnt, tc, side, ts, 10, gens2⟩ F6 ?i0 ⟨_, _, rfl, (fun _ h => nomatch h), hB, Nat.le_refl _, rfl, ?i1, rfl⟩ ?inner
      case i0 => kst_all
      case i1 => show cnt ≤ 20 * side + 2 * side; omega
      case inner =>
        clear F6 hB
        rintro ⟨cn, tn, wd, tw, f2, gens3⟩ s' u2 ⟨h6, tk6, rfl, N6, hB, hsw, hfw, hcn, hin⟩ F6
        dsimp only [kstB] at F6 N6 hB hsw hfw hcn hin
        dsimp only
        walk_at "mine_steps"
        case _ =>
          rename (_ * _ ≤ _) => hle2
          have hle2' : wd * wd ≤ D := by exact_mod_cast hle2
          have hw5 : wd < 5 := by
            cases Nat.lt_or_ge wd 5 with
            | inl q => exact q
            | inr q =>
              have := Nat.mul_le_mul q q
              omega
          obtain ⟨f2, rfl⟩ : ∃ f', f2 = f' + 1 := ⟨f2 - 1, by omega⟩
          have hpr := hmem wd (List.mem_range.mpr (by omega)) hsw hle2'
          refine SPg.use (rows_val hpr) (by assumption) N6 X T rfl (by with_unfolding_all exact Nat.le_of_ble_eq_true rfl) (by with_unfolding_all exact Nat.le_of_ble_eq_true rfl) ?_
          intro t9 h9 tk9 gens9 F9 N9 hB9
          have hr20 := rowsN_le 20 D wd
          rw [inF, if_pos hle2'] at hin
          unfold contr at hin
          generalize rowsN 20 D wd = r at *
          dsimp only
          walk_at "mine_steps"
          refine SP.use (mul_sp (by omega)) (by assumption) (by assumption) X T rfl (by with_unfolding_all exact Nat.le_of_ble_eq_true rfl) (by with_unfolding_all exact Nat.le_of_ble_eq_true rfl) ?_
          intro t10 h10 tk10 F10 N10
          dsimp only
          walk_at "mine_steps"
          case _ =>
            rename ((wd : Int) * r = D) => q1
            rename (List.any _ _ = true) => q2
            have e1 : wd * r = D := by exact_mod_cast q1
            have e2 : wd = side ∨ wd = r := by
              simp only [List.any_cons, List.any_nil, Bool.or_false, Bool.or_eq_true, beq_iff_eq] at q2
              omega
            rw [if_pos e1, if_pos e2] at hin
            (rename Fr _ _ _ _ => F11)
            exact mEnd ⟨cn + 1, _, wd + 1, _, f2, gens9⟩ F11 (by kst_all) (by ksw_same) ⟨_, _, rfl, (fun _ h => nomatch h), fun q => hB9 (hB q), Nat.le_succ_of_le hsw, (by dsimp only; omega), (by dsimp only; omega), hin⟩ (Nat.lt_succ_self _)
          case _ =>
            rename ((wd : Int) * r = D) => q1
            rename (List.any _ _ = false) => q2
            have e1 : wd * r = D := by exact_mod_cast q1
            have e2 : ¬ (wd = side ∨ wd = r) := by
              simp only [List.any_cons, List.any_nil, Bool.or_false, Bool.or_eq_false_iff, beq_eq_false_iff_ne] at q2
              omega
            rw [if_pos e1, if_neg e2] at hin
            (rename Fr _ _ _ _ => F11)
            exact mEnd ⟨cn + 2, _, wd + 1, _, f2, gens9⟩ F11 (by kst_all) (by ksw_same) ⟨_, _, rfl, (fun _ h => nomatch h), fun q => hB9 (hB q), Nat.le_succ_of_le hsw, (by dsimp only; omega), (by dsimp only; omega), hin⟩ (Nat.lt_succ_self _)
          case _ =>
            rename ((wd : Int) * r ≠ D) => q1
            have e1 : ¬ wd * r = D := fun q => q1 (by exact_mod_cast q)
            rw [if_neg e1] at hin
            (rename Fr _ _ _ _ => F11)
            exact mEnd ⟨cn, _, wd + 1, _, f2, gens9⟩ F11 (by kst_all) (by ksw_same) ⟨_, _, rfl, (fun _ h => nomatch h), fun q => hB9 (hB q), Nat.le_succ_of_le hsw, (by dsimp only; omega), (by dsimp only; omega), hin⟩ (Nat.lt_succ_self _)
        case _ =>
          rename (¬ _ * _ ≤ _) => hle2
          have hle2' : ¬ wd * wd ≤ D := fun q => hle2 (by exact_mod_cast q)
          have e0 : inF D side f2 wd cn = cn := by
            cases f2 with
            | zero => rfl
            | succ f2 => rw [inF, if_neg hle2']
          rw [e0] at hin
          obtain ⟨f, rfl⟩ : ∃ f', f = f' + 1 := ⟨f - 1, by omega⟩
          rw [outF, if_pos hle', hDD, ← hin] at hout
          have hwd6 : wd ≤ side + 10 := by omega
          (rename Fr _ _ _ _ => F11)
          exact mEnd ⟨cn, _, side + 2, _, f, gens3⟩ F11 (by kst_all) (by ksw_same) ⟨_, _, rfl, (fun _ h => nomatch h), hB, (by dsimp only; omega), (by dsimp only; omega), (by dsimp only; omega), hout⟩ (Nat.lt_succ_self _)
    case _ =>
      rename (¬ _ * _ ≤ _) => hle
      have hle' : ¬ 3 * side * side ≤ prime := fun q => hle (by exact_mod_cast q)
      have e0 : outF prime f side cnt = cnt := by
        cases f with
        | zero => rfl
        | succ f => rw [outF, if_neg hle']
      rw [e0] at hout
      subst hout
      show P (Flow.ret (.int (clsF prime : Nat) _)) _
      exact k _ _ _ _ _ (by assumption) hB
end Mine
end
section
open PySem PySem.W PyProof.Rows
set_option Elab.async false
namespace Mine
noncomputable def In6 (c : Int) : Prop := 0 ≤ c ∧ c < 1000000
theorem in6_lit : In6 3 ∧ In6 5 ∧ In6 9 := ⟨⟨by decide, by decide⟩, ⟨by decide, by decide⟩, ⟨by decide, by decide⟩⟩
theorem in6 (k : Int) : In6 (k.fmod 1000000) := ⟨Int.fmod_nonneg_of_pos _ (by decide), Int.fmod_lt_of_pos _ (by decide)⟩
theorem four (ns : List Int) : ∃ c0 c1 c2 c3, (ns.take 4).map (fun k => k.fmod (10 ^ Int.toNat 6)) ++ List.drop ((((ns.take 4).map (fun k => k.fmod (10 ^ 6))).length : Nat) : Int).toNat [3, 3, 5, 9] = [c0, c1, c2, c3] ∧ In6 c0 ∧ In6 c1 ∧ In6 c2 ∧ In6 c3 := by
  have e6 : (10 : Int) ^ Int.toNat 6 = 1000000 := by decide
  rw [e6]
  match ns with
  | [] => exact ⟨3, 3, 5, 9, rfl, in6_lit.1, in6_lit.1, in6_lit.2.1, in6_lit.2.2⟩
  | [a] => exact ⟨_, 3, 5, 9, rfl, in6 a, in6_lit.1, in6_lit.2.1, in6_lit.2.2⟩
  | [a, b] => exact ⟨_, _, 5, 9, rfl, in6 a, in6 b, in6_lit.2.1, in6_lit.2.2⟩
  | [a, b, c] => exact ⟨_, _, _, 9, rfl, in6 a, in6 b, in6 c, in6_lit.2.2⟩
  | a :: b :: c :: d :: r => exact ⟨_, _, _, _, by simp, in6 a, in6 b, in6 c, in6 d⟩
end Mine
end
section
open PySem PySem.W PyProof.Rows
set_option Elab.async false
set_option linter.unusedVariables false
set_option maxRecDepth 100000
set_option maxHeartbeats 4000000
namespace Mine
noncomputable def evF (base prime : Nat) : Nat → Nat → Nat → Nat → Nat × Nat
  | 0, _, a, b => (a, b)
  | f + 1, r, a, b => evF base prime f (r * base % prime * base % prime) (a + r * base / prime) (b + r * base % prime * base / prime)
noncomputable def sqF (prime n : Nat) : Bool := (List.range prime).any fun s => s * s % prime == n
noncomputable def roots : Nat → List Nat
  | 7 => [3,5,10,12]
  | 11 => [2,6,7,8,13]
  | 19 => [2,3,10,13,14,15]
  | 23 => [5,7,10,11,14,15]
  | 31 => [3,11,12,13]
  | 43 => [3,5,12]
  | 47 => [5,10,11,13,15]
  | 59 => [2,6,8,10,11,13,14]
  | _ => []
noncomputable def okF (prime h g n : Nat) : Bool := match evF g prime ((prime - 1) / 2) n 0 0 with
  | (a, b) => if sqF prime n then a + (g + 1) * h == b else a == b + (g + 1) * h
noncomputable def hF : Nat → Nat
  | 23 => 3 | 31 => 3 | 47 => 5 | 59 => 3 | _ => 1
theorem cls_h : ∀ prime ∈ primes, clsF prime = hF prime := by decide +kernel
theorem ok_all : (primes.all fun p => (roots p).all fun g => (List.range' 1 (p - 1)).all fun n => okF p (hF p) g n) = true := by decide +kernel
/-- steps still to go to a root -/
noncomputable def dist (p b : Nat) : Nat := (List.range 15).findIdx fun k => (roots p).contains ((b - 2 + k) % 15 + 2)
noncomputable def pwN (base prime : Nat) : Nat → Nat
  | 0 => 1
  | n + 1 => pwN base prime n * base % prime
noncomputable def lapN (base prime : Nat) : Nat := match (List.range (prime - 1)).find? fun i => pwN base prime (i + 1) == 1 with
  | some i => i + 1
  | none => 0
theorem laps : ∀ p ∈ primes, ∀ b ∈ List.range' 2 15, (lapN b p = p - 1 ∧ b ∈ roots p) ∨ (lapN b p ≠ p - 1 ∧ dist p ((b - 1) % 15 + 2) < dist p b) := by decide +kernel
theorem roots_b : ∀ p ∈ primes, ∀ g ∈ roots p, 2 ≤ g ∧ g ≤ 16 := by decide +kernel
theorem fdiv_n (a b : Nat) : (a : Int).fdiv b = ((a / b : Nat) : Int) := by
  rw [Int.fdiv_eq_ediv_of_nonneg _ (by omega)]; rfl
theorem fmod_n (a b : Nat) : (a : Int).fmod b = ((a % b : Nat) : Int) := by
  rw [Int.fmod_eq_emod_of_nonneg _ (by omega)]; rfl
theorem pwr_n (base prime : Nat) : ∀ n, pwr base prime n = (pwN base prime n : Nat)
  | 0 => rfl
  | n + 1 => by rw [pwr, pwr_n base prime n, ← Int.natCast_mul, fmod_n]; rfl
theorem lap_n (base prime : Nat) (h : 1 ≤ prime) : lapF base prime = (lapN base prime : Nat) := by
  have e : (fun i => pwr base prime (i + 1) == 1) = fun i => pwN base prime (i + 1) == 1 := by
    funext i
    rw [pwr_n, Bool.eq_iff_iff, beq_iff_eq, beq_iff_eq]
    omega
  rw [lapF, lapN, e, show ((prime : Int) - 1).toNat = prime - 1 by omega]
  split <;> rename_i q <;> (try rw [q]) <;> rfl
noncomputable def nuN (number base prime : Nat) : Nat → Nat
  | 0 => number
  | n + 1 => nuN number base prime n * base % prime
noncomputable def fgN (number base prime n : Nat) : Nat := nuN number base prime n * base / prime
theorem num_n (number base prime : Nat) : ∀ n, numF number base prime n = (nuN number base prime n : Nat)
  | 0 => rfl
  | n + 1 => by rw [numF, num_n number base prime n, ← Int.natCast_mul, fmod_n]; rfl
theorem nu_lt {number base prime : Nat} (h : number < prime) : ∀ n, nuN number base prime n < prime
  | 0 => h
  | n + 1 => Nat.mod_lt _ (by omega)
theorem fg_lt {number base prime : Nat} (h : number < prime) (n : Nat) : fgN number base prime n < base ∨ base = 0 := by
  rcases Nat.eq_zero_or_pos base with e | e
  · exact .inr e
  · refine .inl (Nat.div_lt_of_lt_mul ?_)
    exact Nat.mul_lt_mul_of_pos_right (nu_lt h n) e
theorem nu_pow (number base prime : Nat) (h : number < prime) : ∀ n, nuN number base prime n = number * base ^ n % prime
  | 0 => by rw [nuN, Nat.pow_zero, Nat.mul_one, Nat.mod_eq_of_lt h]
  | n + 1 => by rw [nuN, nu_pow number base prime h n, Nat.pow_succ, ← Nat.mul_assoc, Nat.mod_mul_mod]
theorem fig_n {number base prime : Nat} (h : number < prime) (hb : 0 < base) (n : Nat) : figAt number base prime (n + 1) = (fgN number base prime n : Nat) := by
  rw [figAt, ← Int.natCast_pow, ← Int.natCast_mul, fdiv_n, fmod_n]
  have hp : 0 < prime := by omega
  have e : number * base ^ (n + 1) / prime % base = fgN number base prime n := by
    have hf := (fg_lt (base := base) h n).resolve_right (by omega)
    rw [fgN, nu_pow number base prime h] at hf ⊢
    rw [Nat.pow_succ, ← Nat.mul_assoc]
    generalize number * base ^ n = x at *
    have hx : x * base = (x / prime * base) * prime + x % prime * base := by
      conv => lhs; rw [← Nat.div_add_mod x prime]
      rw [Nat.add_mul, Nat.mul_comm prime, Nat.mul_right_comm]
    rw [hx, Nat.add_comm, Nat.add_mul_div_right _ _ hp, Nat.add_mul_mod_self_right, Nat.mod_eq_of_lt hf]
  rw [e]
/-- the reading, with the figures told -/
noncomputable def linN (fg : Nat → Nat) (purse : Nat) : Nat → Nat × Nat
  | 0 => (0, purse)
  | n + 1 => if n % 2 = 1 then ((linN fg purse n).1 - fg n, (linN fg purse n).2 - (fg n - (linN fg purse n).1)) else ((linN fg purse n).1 + fg n, (linN fg purse n).2)
theorem lin_n {cs : List Nat} {fg : Nat → Nat} {purse : Nat} : ∀ {n}, (∀ i, i < n → figOf cs i = fg i) → linF cs purse n = linN fg purse n
  | 0, _ => rfl
  | n + 1, h => by
    rw [linF, linN, lin_n (n := n) fun i q => h i (Nat.lt_succ_of_lt q), h n (Nat.lt_succ_self n)]
theorem lv_lin {number base prime : Nat} (h : number < prime) (hb : 0 < base) (purse : Nat) : ∀ n, ((linN (fgN number base prime) purse n).1 : Int) = (lv number base prime n).1 + (lv number base prime n).2 ∧ 0 ≤ (lv number base prime n).2 ∧ (linN (fgN number base prime) purse n).2 = purse - (lv number base prime n).2.toNat
  | 0 => ⟨rfl, Int.le_refl 0, rfl⟩
  | n + 1 => by
    obtain ⟨e1, e2, e3⟩ := lv_lin h hb purse n
    have ef := fig_n h hb n
    have hc : ((n : Int) + 1).fmod 2 = 0 ↔ n % 2 = 1 := by
      rw [Int.fmod_eq_emod_of_nonneg _ (by decide)]; omega
    rw [linN, lv, ef]
    generalize lv number base prime n = v at *
    generalize linN (fgN number base prime) purse n = u at *
    generalize fgN number base prime n = f at *
    by_cases q : n % 2 = 1
    · rw [if_pos q, if_pos (hc.mpr q)]
      dsimp only
      by_cases q2 : -(v.1 + -(f : Int)) > v.2
      · rw [if_pos q2]; omega
      · rw [if_neg q2]; omega
    · rw [if_neg q, if_neg fun x => q (hc.mp x)]
      dsimp only
      by_cases q2 : -(v.1 + (f : Int)) > v.2
      · rw [if_pos q2]; omega
      · rw [if_neg q2]; omega
theorem ev_lv {number base prime : Nat} (h : number < prime) (hb : 0 < base) : ∀ f i a b, i % 2 = 0 → ((evF base prime f (nuN number base prime i) a b).1 : Int) - (evF base prime f (nuN number base prime i) a b).2 = (a : Int) - b + (lv number base prime (i + 2 * f)).1 - (lv number base prime i).1
  | 0, i, a, b, _ => by rw [evF, Nat.mul_zero, Nat.add_zero]; dsimp only; omega
  | f + 1, i, a, b, hi => by
    have e := ev_lv h hb f (i + 2) (a + fgN number base prime i) (b + fgN number base prime (i + 1)) (by omega)
    rw [show i + 2 * (f + 1) = i + 2 + 2 * f by omega, evF]
    have e2 : (lv number base prime (i + 2)).1 = (lv number base prime i).1 + fgN number base prime i - fgN number base prime (i + 1) := by
      have c1 : ¬ ((i : Int) + 1).fmod 2 = 0 := by rw [Int.fmod_eq_emod_of_nonneg _ (by decide)]; omega
      have c2 : (((i + 1 : Nat) : Int) + 1).fmod 2 = 0 := by rw [Int.fmod_eq_emod_of_nonneg _ (by decide)]; omega
      rw [lv, if_pos c2, lv, if_neg c1, fig_n h hb, fig_n h hb]
      dsimp only; omega
    rw [e2] at e
    show ((evF base prime f (nuN number base prime (i + 2)) (a + fgN number base prime i) (b + fgN number base prime (i + 1))).1 : Int) - (evF base prime f (nuN number base prime (i + 2)) (a + fgN number base prime i) (b + fgN number base prime (i + 1))).2 = _
    rw [e]; omega
theorem lv_b {number base prime : Nat} (h : number < prime) (hb : 0 < base ∧ base ≤ 16) : ∀ n : Nat, -16 * (n : Int) ≤ (lv number base prime n).1 ∧ (lv number base prime n).1 ≤ 16 * (n : Int) ∧ 0 ≤ (lv number base prime n).2 ∧ (lv number base prime n).2 ≤ 16 * (n : Int)
  | 0 => ⟨Int.le_refl 0, Int.le_refl 0, Int.le_refl 0, Int.le_refl 0⟩
  | n + 1 => by
    obtain ⟨e1, e2, e3, e4⟩ := lv_b h hb n
    have ef := fig_n h hb.1 n
    have hf : fgN number base prime n < 16 := Nat.lt_of_lt_of_le ((fg_lt (base := base) h n).resolve_right (by omega)) hb.2
    rw [lv, ef]
    generalize lv number base prime n = v at *
    generalize fgN number base prime n = f at *
    dsimp only
    split <;> split <;> omega
theorem worth_b : ∀ p ∈ primes, clsF p ≤ 5 := by decide +kernel
theorem primes_odd : ∀ p ∈ primes, 7 ≤ p ∧ p ≤ 59 ∧ p % 2 = 1 := by decide
theorem level {p g n : Nat} (hp : p ∈ primes) (hg : g ∈ roots p) (h1 : 1 ≤ n) (h2 : n < p) : (lv n g p (p - 1)).1 = if sqF p n then -(((g : Int) + 1) * (clsF p : Nat)) else ((g : Int) + 1) * (clsF p : Nat) := by
  have hb := roots_b p hp g hg
  have ho := primes_odd p hp
  have e := ev_lv (number := n) (base := g) (prime := p) h2 (by omega) ((p - 1) / 2) 0 0 0 rfl
  have ok := List.all_eq_true.mp (List.all_eq_true.mp (List.all_eq_true.mp ok_all p hp) g hg) n (List.mem_range'_1.mpr ⟨h1, by omega⟩)
  rw [show 0 + 2 * ((p - 1) / 2) = p - 1 by omega] at e
  rw [← cls_h p hp, okF] at ok
  rw [show nuN n g p 0 = n from rfl] at e
  generalize evF g p ((p - 1) / 2) n 0 0 = ab at *
  obtain ⟨a, b⟩ := ab
  dsimp only at ok e
  rw [show (lv n g p 0).1 = 0 from rfl] at e
  cases hs : sqF p n
  · rw [hs] at ok
    simp only [Bool.false_eq_true, if_false, beq_iff_eq] at ok ⊢
    have : (a : Int) = b + ((g : Int) + 1) * (clsF p : Nat) := by exact_mod_cast ok
    omega
  · rw [hs] at ok
    simp only [if_true, beq_iff_eq] at ok ⊢
    have : (a : Int) + ((g : Int) + 1) * (clsF p : Nat) = b := by exact_mod_cast ok
    omega
theorem mul_blankI (k : Int) : Txt.mul (Str.ofString " ") k = ⟨(sps k.toNat).toArray⟩ := by
  refine PySem.Str.ext' (Array.toList_inj.mp ?_)
  rw [show Str.ofString " " = ⟨#[32]⟩ from rfl, mul_one_list]
  simp [sps]
theorem ln_is (a b : Int) : Txt.mul (Str.ofString " ") a ++ Str.ofString "." ++ Txt.mul (Str.ofString " ") b = ln a.toNat b.toNat := by
  rw [mul_blankI, mul_blankI]
  refine PySem.Str.ext' (Array.toList_inj.mp ?_)
  rw [PySem.Str.cps_append, Array.toList_append, PySem.Str.cps_append, Array.toList_append]
  show (sps a.toNat ++ [46]) ++ sps b.toNat = sps a.toNat ++ 46 :: sps b.toNat
  simp
theorem sign_ok : ∀ j ∈ List.range 4, ∀ f ∈ List.range 16, (heads.getD j 0 + (f : Nat)).toNat ∈ letters ∧ hid (heads.getD j 0 + (f : Nat)).toNat = false ∧ low (heads.getD j 0 + (f : Nat)).toNat = 97 + f := by decide +kernel
theorem hide_ok : ∀ i ∈ List.range 5, ∀ c ∈ (hides.getD i Str.empty).cps.toList, c ∈ letters ∧ hid c = true := by decide +kernel
noncomputable def sgn (look : Int) (n f : Nat) : Nat := (heads.getD ((look + n).fmod 4).toNat 0 + (f : Nat)).toNat
theorem sgn_ok (look : Int) (n f : Nat) (h : f < 16) : sgn look n f ∈ letters ∧ hid (sgn look n f) = false ∧ low (sgn look n f) = 97 + f :=
  sign_ok _ (List.mem_range.mpr (by
    have h1 : (look + n).fmod 4 < 4 := Int.fmod_lt_of_pos _ (by decide)
    have h0 : 0 ≤ (look + n).fmod 4 := Int.fmod_nonneg_of_pos _ (by decide)
    omega)) f (List.mem_range.mpr h)
theorem hds_ok (look : Int) (n : Nat) : ∀ c ∈ (hides.getD ((look.fdiv 4 + n).fmod 5).toNat Str.empty).cps.toList, c ∈ letters ∧ hid c = true :=
  hide_ok _ (List.mem_range.mpr (by
    have h1 : (look.fdiv 4 + n).fmod 5 < 5 := Int.fmod_lt_of_pos _ (by decide)
    have h0 : 0 ≤ (look.fdiv 4 + n).fmod 5 := Int.fmod_nonneg_of_pos _ (by decide)
    omega))
theorem typ_codes {number base prime : Nat} (look : Int) (h : number < prime) (hb : 0 < base ∧ base ≤ 16) : ∀ n,
    (∀ c ∈ (typF number base prime look n).cps.toList, c ∈ letters) ∧ (typF number base prime look n).length ≤ 2 * n ∧ codesF (typF number base prime look n) = (List.range n).map fun i => sgn look i (fgN number base prime i)
  | 0 => ⟨fun c hc => (nomatch (show c ∈ [] from hc)), Nat.le_refl 0, rfl⟩
  | n + 1 => by
    obtain ⟨e1, e2, e3⟩ := typ_codes look h hb n
    have hf : fgN number base prime n < 16 := Nat.lt_of_lt_of_le ((fg_lt (base := base) h n).resolve_right (by omega)) hb.2
    have es : signF number base prime look n = hides.getD ((look.fdiv 4 + n).fmod 5).toNat Str.empty ++ ⟨#[sgn look n (fgN number base prime n)]⟩ := by
      rw [signF, num_n, ← Int.natCast_mul, fdiv_n]; rfl
    have so := sgn_ok look n (fgN number base prime n) hf
    have ho := hds_ok look n
    have hz2 := hide_b ((look.fdiv 4 + n).fmod 5).toNat
    rw [typF, es]
    generalize hides.getD ((look.fdiv 4 + n).fmod 5).toNat Str.empty = hd at *
    generalize hsg : sgn look n (fgN number base prime n) = c0 at *
    have el : (typF number base prime look n ++ (hd ++ ⟨#[c0]⟩)).cps.toList = (typF number base prime look n).cps.toList ++ (hd.cps.toList ++ [c0]) := by
      rw [PySem.Str.cps_append, Array.toList_append, PySem.Str.cps_append, Array.toList_append]
    refine ⟨?_, ?_, ?_⟩
    · rw [el]
      intro c hc
      rcases List.mem_append.mp hc with hc | hc
      · exact e1 c hc
      rcases List.mem_append.mp hc with hc | hc
      · exact (ho c hc).1
      · rw [List.mem_singleton.mp hc]; exact so.1
    · rw [Str.length_append, Str.length_append]
      have : (⟨#[c0]⟩ : Str).length = 1 := rfl
      omega
    · rw [codesF, el, List.filter_append, List.filter_append, List.range_succ, List.map_append]
      have f1 : hd.cps.toList.filter (fun n => !hid n) = [] := List.filter_eq_nil_iff.mpr fun c hc => by simp [(ho c hc).2]
      rw [f1]
      show codesF (typF number base prime look n) ++ _ = _
      rw [e3, List.nil_append, List.filter_cons_of_pos (by simp [so.2.1]), List.filter_nil]
      simp [hsg]
/-- the plain law -/
theorem plain {p g n : Nat} {look : Int} (hp : p ∈ primes) (hg : g ∈ roots p) (h1 : 1 ≤ n) (h2 : n < p) {purse : Nat} {more : Int}
    (hm : more = if sqF p n then (lv n g p (p - 1)).2 - ((g : Int) + 1) * (clsF p : Nat) else (lv n g p (p - 1)).2 + ((g : Int) + 1) * (clsF p : Nat)) :
    ln (linF (codesF (typF n g p look (p - 1))) purse (codesF (typF n g p look (p - 1))).length).1 (linF (codesF (typF n g p look (p - 1))) purse (codesF (typF n g p look (p - 1))).length).2 = Txt.mul (Str.ofString " ") more ++ Str.ofString "." ++ Txt.mul (Str.ofString " ") ((purse : Int) - (lv n g p (p - 1)).2) := by
  have hb := roots_b p hp g hg
  obtain ⟨_, _, e⟩ := typ_codes look h2 (show 0 < g ∧ g ≤ 16 by omega) (p - 1)
  have hl : (codesF (typF n g p look (p - 1))).length = p - 1 := by rw [e]; simp
  rw [hl, ln_is, lin_n (fg := fgN n g p)]
  · obtain ⟨a1, a2, a3⟩ := lv_lin h2 (show 0 < g by omega) purse (p - 1)
    have hL := level hp hg h1 h2
    have e4 : more = (lv n g p (p - 1)).1 + (lv n g p (p - 1)).2 := by
      rw [hm, hL]; split <;> omega
    rw [a3, e4, ← a1]
    congr 1
    omega
  · intro i hi
    have hf : fgN n g p i < 16 := Nat.lt_of_lt_of_le ((fg_lt (base := g) h2 i).resolve_right (by omega)) hb.2
    rw [figOf, e, List.getD_eq_getElem?_getD, List.getElem?_map, List.getElem?_range hi]
    show low (sgn look i (fgN n g p i)) - 97 = _
    rw [(sgn_ok look i _ hf).2.2]; omega
/-- what the squares' list says -/
theorem sq_any {p n : Nat} (h1 : 1 ≤ n) (ks : List Int) (hks : ∀ k, k ∈ ks ↔ ∃ i, i < p - 1 ∧ k = 1 + (i : Nat)) : ((ks.map fun k' => (k' * k').fmod (p : Int)).any fun x => x == (n : Int)) = sqF p n := by
  rw [Bool.eq_iff_iff, sqF, List.any_eq_true, List.any_eq_true]
  constructor
  · rintro ⟨x, hx, e⟩
    obtain ⟨k, hk, rfl⟩ := List.mem_map.mp hx
    obtain ⟨i, hi, rfl⟩ := (hks k).mp hk
    have e := eq_of_beq e
    rw [show (1 : Int) + i = ((i + 1 : Nat) : Int) by omega, ← Int.natCast_mul, fmod_n] at e
    exact ⟨i + 1, List.mem_range.mpr (by omega), beq_iff_eq.mpr (by omega)⟩
  · rintro ⟨s, hs, e⟩
    have e := eq_of_beq e
    have hs := List.mem_range.mp hs
    match s, e, hs with
    | 0, e, _ => rw [Nat.zero_mul, Nat.zero_mod] at e; omega
    | s + 1, e, hs =>
      refine ⟨(n : Int), List.mem_map.mpr ⟨1 + (s : Nat), (hks _).mpr ⟨s, by omega, rfl⟩, ?_⟩, beq_self_eq_true _⟩
      rw [show (1 : Int) + s = ((s + 1 : Nat) : Int) by omega, ← Int.natCast_mul, fmod_n, e]
end Mine
end
section
open PySem PySem.W PyProof.Rows PySem.Spec PySem.Calls
set_option Elab.async false
set_option linter.unusedVariables false
set_option maxRecDepth 100000
namespace Mine
set_option maxHeartbeats 4000000
theorem filled11 : PySem.Challenge.rw_to0033_01.prog = PySem.Challenge.rw_to0033_01.prog ∧ KF = KF := by k_fill; exact ⟨rfl, rfl⟩
local macro_rules | `(tactic| walk_at "mine_enter") => `(tactic| (
  (case ho => with_unfolding_all k_is)
  (case hcd => k_is)
  (case hbind => with_unfolding_all exact rfl)
  (case hloc => exact locs rfl)
  (case hcell => decide)
  (case hco => exact rfl)
  (case hgen => exact rfl)
  (case hk => exact rfl)
  (case hn => decide)))
local macro_rules | `(tactic| walk_at "mine_steps") => `(tactic| repeat' ((fail_if_success (with_reducible show wpAny _ _ (pyIter _) _ _ _)); (fail_if_success (with_reducible show wpAny _ _ (call (Value.ref _) _) _ _ _)); (fail_if_success (with_reducible show wpAny _ _ (subscriptTail (Expr.Tuple _ _ _) _ _ _) _ _ _)); (fail_if_success (with_reducible show wpAny _ _ (exec (Stmt.While _ _ _ _) _) _ _ _)); (fail_if_success (with_reducible show wpAny _ _ (exec (Stmt.For (Expr.Tuple _ _ _) _ _ _ _) _) _ _ _)); (fail_if_success (with_reducible show wpAny _ _ (exec (Stmt.Assign _ (Expr.ListComp _ _ _ _) _) _) _ _ _)); first | walk1 | (dsimp only; walk1) | fail "no step"))

theorem cut2 {M : Model} {A : Around} {s : Shared} {env : Env} {a b : Stmt} {rest : List Stmt} {P : Flow → Shared → Prop} (Mid : Shared → Prop)
    (h : wpAny M A (exec a env) (fun f s' => f = .next ∧ wpAny M A (exec b env) (fun f' s'' => f' = .next ∧ Mid s'') (fun _ _ => False) s') (fun _ _ => False) s) (k : ∀ s', Mid s' → wpAny M A (execs rest env) P (fun _ _ => False) s') : wpAny M A (execs (a :: b :: rest) env) P (fun _ _ => False) s :=
  wpAny_execs_cons (wpAny_mono h (fun f s' q => by
    obtain ⟨rfl, h'⟩ := q
    exact wpAny_execs_cons (wpAny_mono h' (fun f s'' q => by obtain ⟨rfl, m⟩ := q; exact k s'' m) fun _ _ x => x)) fun _ _ x => x)
/-- as SPg, with a word of the heap at the call -/
noncomputable def SPH (n : Nat) (w : World) (H : Heap → Prop) (f : Addr) (vs : List Value) (R : Tok → Value) : Prop :=
  ∀ (p : Program) (loose : List Str) (mean : ExcName → Option Value) (mg mb : Str → Option Value) (s : Shared) (Q E : Value → Shared → Prop),
    (KF w.params).In s.heap → Top p loose mean mg mb s.heap → H s.heap → (∀ t h' tk' gens', Stay s.heap h' → (AllBare s.gens → AllBare gens') → Q (R t) { s with heap := h', toks := tk', gens := gens' }) →
    wpAny (model prg w) (Av n) (call (.ref f) vs) Q E s
theorem bindC_loc {kindOf : Str → Option NameKind} : ∀ {binds : List (Str × Value)} {m : Str → Option Value}, (∀ y ∈ binds, kindOf y.1 = some .local) → bindC kindOf binds m = m
  | [], _, _ => rfl
  | (n, v) :: r, m, h => by
    rw [bindC, if_pos (h (n, v) (.head _)), bindC_loc fun y hy => h y (.tail _ hy)]
theorem SPC.of {n : Nat} {w : World} {H : Heap → Prop} {f : Addr} {vs : List Value} {R : Tok → Value} {name : Str} {params : Arguments} {body : List Stmt} {scope : Scope} {pm : Value} {c : Addr} {oc : Value} {od : Option Addr} {osl : Array (Option Value)} (x : Str) (binds : List (Str × Value))
    (ho : (KF w.params).lookup f = some ⟨oc, od, .func (fnOf name name params body scope .none .none .none pm none (.ref c) .none), osl⟩)
    (hcd : codeIn (KF w.params) (.ref c) name = true)
    (hbind : bindArgs (fnOf name name params body scope .none .none .none pm none (.ref c) .none) ⟨vs, []⟩ = pure binds)
    (hloc : ∀ y ∈ binds, scope.names.lookup y.1 = some .local)
    (hcells : ∀ b, cellsFrom b scope.names [] = [(x, b)]) (hco : scope.isCoroutine = false) (hgen : scope.isGenerator = false) (hk : scope.kind = .function)
    (hn : 300 + n < recursionLimit)
    (hb : ∀ (p : Program) (loose : List Str) (mean : ExcName → Option Value) (mg mb : Str → Option Value) (g h : Heap) (L : Addr) (oc : Obj) (gens : Array GenState) (drawn : Drawn) (tk : Nat) (os : OsState) (P : Flow → Shared → Prop), (KF w.params).In g → Top p loose mean mg mb g → H g →
      Fr g L h (bindL (envX name scope L f (.ref c) [(x, L + 1)]).kindOf binds fun _ => none) → News g L h [(L + 1, oc)] → oc.data = .cell none → (∀ t h' tk' m' gens', Fr g L h' m' → (AllBare gens → AllBare gens') → P (.ret (R t)) ⟨h', gens', drawn, tk', os⟩) →
      wpAny (model prg w) ((Av n).deeper (envX name scope L f (.ref c) [(x, L + 1)])) (execs body (envX name scope L f (.ref c) [(x, L + 1)])) P (fun _ _ => False) ⟨h, gens, drawn, tk, os⟩) : SPH n w H f vs R := by
  intro p loose mean mg mb s Q E X T hH k
  refine wpAny_call ?_
  refine codeAny_call_cells (fd := fnOf name name params body scope .none .none .none pm none (.ref c) .none) (body := body) (binds := binds) hn (X _ _ ho) rfl T.nolimit (codeRec_of X hcd) rfl hbind rfl (fun y hy => .inl (hloc y hy)) (fun s₁ x₁ => ?_) hco hgen hk
  have eE : callEnvC (fnOf name name params body scope .none .none .none pm none (.ref c) .none) s.heap.objs.size f = envX name scope s.heap.objs.size f (.ref c) [(x, s.heap.objs.size + 1)] := by
    rw [← hcells (s.heap.objs.size + 1)]; rfl
  rw [eE] at x₁ ⊢
  obtain ⟨h₁, tk₁, rfl⟩ := x₁.toInCall.same
  obtain ⟨o, ho1, ho2⟩ := x₁.cell x (s.heap.objs.size + 1) (by show List.lookup x [(x, _)] = _; simp)
  have hcm : bindC (envX name scope s.heap.objs.size f (.ref c) [(x, s.heap.objs.size + 1)]).kindOf binds (fun _ => none) x = none := by
    rw [bindC_loc fun y hy => by exact hloc y hy]
  rw [hcm] at ho2
  refine wpAny_mono (hb p loose mean mg mb s.heap h₁ s.heap.objs.size o s.gens s.drawn tk₁ s.os (fun fl s' => Q (match fl with | .ret v => v | _ => .none) s') X T hH ⟨x₁.toInCall.ns, x₁.toInCall.keep, Nat.le_refl _⟩ (fun q hq => ?_) ho2 (fun t h' tk' m' gens' F' hg => k t h' tk' gens' F'.keep hg)) (fun fl s' hq => hq) (fun _ _ h => h.elim)
  rw [List.mem_singleton.mp hq]
  refine ⟨ho1, Ne.symm (Nat.ne_of_lt (Nat.lt_succ_self _)), ?_⟩
  cases e : s.heap.get? (s.heap.objs.size + 1) with
  | none => rfl
  | some o' => exact absurd (Heap.lt_size e) (Nat.not_lt.mpr (Nat.le_succ _))
local macro_rules | `(tactic| walk_at "subscriptTail Name Slice ref ref") => `(tactic| (k_here; k_dflt (refine kmk_slice_ints (by k_asm) (by k_asm) (by kmk_list) (by kmk_part) (by kmk_part) (by l_ints) (by first | with_reducible exact kmk_upto (by l_ints) (by kmk_sign) | with_reducible exact kmk_from (by l_ints) (by kmk_sign) | kmk_nums) (by kmk_len) ?_ (by with_unfolding_all rfl) (by kmk_pure) (by kmk_size)); intro D' ws' h' F' N' l1 hI' hC' hL'; (try simp only [Int.reduceNeg, Int.neg_neg, Int.reduceToNat] at hI' hC' hL'); (try k_lt l1); (try k_sweep)))
local macro_rules | `(tactic| walk_at "binaryOp Add ref ref") => `(tactic| (k_here; k_dflt (refine kmk_add_ints (by k_asm) (by k_asm) (by kmk_list) (by kmk_list) (by l_ints) (by l_ints) ?_ (by kmk_sum)); intro D' ws' h' F' N' l1 hI'; (try k_lt l1); (try k_sweep)))
/-- behind the first two statements: four cells -/
noncomputable def MidL (g : Heap) (L : Addr) (oc : Obj) (gens : Array GenState) (drawn : Drawn) (os : OsState) (s' : Shared) : Prop :=
  ∃ h' tk' D ws c0 c1 c2 c3, ∃ u : Str → Option Value, s' = ⟨h', gens, drawn, tk', os⟩ ∧ Fr g L h' (fun y => if y = Str.ofString "cells" then some (.ref D) else u y) ∧ News g L h' [(D, PySem.W.listOf ws.toArray 0), (L + 1, oc)] ∧ IntsAre ws [c0, c1, c2, c3] ∧ L + 1 < D ∧ In6 c0 ∧ In6 c1 ∧ In6 c2 ∧ In6 c3
theorem law_sp {w : World} {l : Addr} {vs : List Value} {ns : List Int} (hi : IntsAre vs ns) (hlen : ns.length ≤ 63) : SPH 10 w (fun h => h.IsList l vs.toArray) 199 [.ref l] (fun _ => .bool true) := by
  refine' SPC.of (Str.ofString "prime") [(Str.ofString "script", .ref l)] ?ho ?hcd ?hbind ?hloc ?hcells ?hco ?hgen ?hk ?hn ?hb
  case ho => with_unfolding_all k_is
  case hcd => k_is
  case hbind => with_unfolding_all exact rfl
  case hloc => exact locs rfl
  case hcells => exact fun b => rfl
  case hco => exact rfl
  case hgen => exact rfl
  case hk => exact rfl
  case hn => decide
  intro p loose mean mg mb g h L oc gens drawn tk os P X T hl F N hoc k
  have F1 : Fr g L h (fun y => if y = Str.ofString "script" then some (.ref l) else none) := by with_unfolding_all exact F
  clear F
  refine cut2 (MidL g L oc gens drawn os) ?first ?rest
  case first =>
    walk1
    walk_at "mine_steps"
    case _ => exact trivial
    (rename IntsAre _ _ => hI9)
    obtain ⟨c0, c1, c2, c3, e, b0, b1, b2, b3⟩ := four ns
    rw [e] at hI9
    (rename Fr _ _ _ _ => F9)
    (rename News _ _ _ _ => N9)
    (rename (_ ∧ _ ∧ _ ∧ _ ∧ _) => q9)
    exact ⟨_, _, _, _, c0, c1, c2, c3, _, rfl, F9, (by
      intro q hq
      rcases List.mem_cons.mp hq with rfl | hq
      · exact N9 _ (.head _)
      · rw [List.mem_singleton.mp hq]; exact N9 _ (.tail _ (.tail _ (.tail _ (.tail _ (.tail _ (.head _))))))), hI9, q9.2.2.2.2, b0, b1, b2, b3⟩
  case rest =>
    rintro s' ⟨h1, tk1, D, ws, c0, c1, c2, c3, u, rfl, F1, N1, hI, hlt, b0, b1, b2, b3⟩
    clear hi hlen hl N
    have hk0 : 0 ≤ ([c0, c1, c2, c3].getD (Int.toNat 0) 0).fmod 8 := Int.fmod_nonneg_of_pos _ (by decide)
    have hk1 : ([c0, c1, c2, c3].getD (Int.toNat 0) 0).fmod 8 < 8 := Int.fmod_lt_of_pos _ (by decide)
    walk_at "mine_steps"
    (rename Fr _ _ _ _ => F2); (rename News _ _ _ _ => N2)
    refine item_tupI (tup_of N2 (.head _)) (IntsAre.cons _ _ (.cons _ _ (.cons _ _ (.cons _ _ (.cons _ _ (.cons _ _ (.cons _ _ (.cons _ _ .nil)))))))) hk0 hk1 (by omega) ?_
    intro t2
    have hp : ∃ prime ∈ primes, [7, 11, 19, 23, 31, 43, 47, 59].getD ([c0, c1, c2, c3].getD (Int.toNat 0) 0 |>.fmod 8).toNat (0 : Int) = (prime : Nat) := by
      generalize ([c0, c1, c2, c3].getD (Int.toNat 0) 0 |>.fmod 8) = q at hk0 hk1
      have : q = 0 ∨ q = 1 ∨ q = 2 ∨ q = 3 ∨ q = 4 ∨ q = 5 ∨ q = 6 ∨ q = 7 := by omega
      rcases this with rfl | rfl | rfl | rfl | rfl | rfl | rfl | rfl
      · exact ⟨7, by decide, rfl⟩
      · exact ⟨11, by decide, rfl⟩
      · exact ⟨19, by decide, rfl⟩
      · exact ⟨23, by decide, rfl⟩
      · exact ⟨31, by decide, rfl⟩
      · exact ⟨43, by decide, rfl⟩
      · exact ⟨47, by decide, rfl⟩
      · exact ⟨59, by decide, rfl⟩
    obtain ⟨prime, hprime, hpe⟩ := hp
    rw [hpe]
    have N3 : News g L _ [(D, W.listOf ws.toArray 0), (L + 1, oc)] := fun q hq => N2 q (.tail _ hq)
    refine storeX_C F2 N3 rfl (.tail (by exact Nat.ne_of_gt hlt) (.head (fun _ h => nomatch h))) hoc ?_
    intro h3 o3 F3 N3' d3
    (try dsimp only at N3')
    clear F2 N2 N3 hk0 hk1 hpe
    (try dsimp only)
    have hb : ∃ b ∈ List.range' 2 15, ([c0, c1, c2, c3].getD (Int.toNat 1) 0).fmod 15 + 2 = (b : Nat) := by
      have h0 : 0 ≤ ([c0, c1, c2, c3].getD (Int.toNat 1) 0).fmod 15 := Int.fmod_nonneg_of_pos _ (by decide)
      have h1 : ([c0, c1, c2, c3].getD (Int.toNat 1) 0).fmod 15 < 15 := Int.fmod_lt_of_pos _ (by decide)
      generalize ([c0, c1, c2, c3].getD (Int.toNat 1) 0).fmod 15 = q at *
      exact ⟨(q + 2).toNat, List.mem_range'_1.mpr (by omega), by omega⟩
    obtain ⟨b, hb, hbe⟩ := hb
    have hpo := primes_odd prime hprime
    walk_at "mine_steps"
    (rename Fr _ _ _ _ => F4); (rename News _ _ _ _ => N4)
    rw [hbe] at F4
    dsimp only at F4 ⊢
    refine' whileM (σ := Nat × Tok) (fun c => [(Str.ofString "base", .int c.1 c.2)]) []
      (fun _ c s' => ∃ h tk, s' = ⟨h, gens, drawn, tk, os⟩ ∧ News g L h [(D, W.listOf ws.toArray 0), (L + 1, o3)] ∧ c.1 ∈ List.range' 2 15)
      (fun c => dist prime c.1) (b, _) F4 ?j0 ⟨_, _, rfl, N4, hb⟩ ?turn
    case j0 => kst_all
    case turn =>
      clear F4 N4 hb hbe
      rintro ⟨b, tb⟩ s' u2 ⟨h5, tk5, rfl, N5, hb⟩ F5
      dsimp only [kstB] at F5 N5 hb
      dsimp only
      have hb2 := List.mem_range'_1.mp hb
      have hmv := laps prime hprime b hb
      walk_at "mine_steps"
      refine SP.use (lap_sp (base := (b : Nat)) (prime := (prime : Nat)) (by omega)) (by assumption) (by assumption) X T rfl (by with_unfolding_all exact Nat.le_of_ble_eq_true rfl) (by with_unfolding_all exact Nat.le_of_ble_eq_true rfl) ?_
      intro t9 h9 tk9 F9 N9
      dsimp only
      rw [lap_n b prime (by omega)]
      walk_at "mine_steps"
      case _ =>
        rename ((lapN b prime : Int) ≠ _) => hne
        have hr := hmv.resolve_left (fun q => hne (by omega))
        have e2 : ((b : Int) - 1).fmod 15 + 2 = (((b - 1) % 15 + 2 : Nat) : Int) := by
          rw [show (b : Int) - 1 = ((b - 1 : Nat) : Int) by omega, show (15 : Int) = ((15 : Nat) : Int) from rfl, fmod_n]; rfl
        (rename Fr _ _ _ _ => F11)
        rw [e2] at F11
        have hm : (b - 1) % 15 < 15 := Nat.mod_lt _ (by decide)
        exact mEnd ((b - 1) % 15 + 2, _) F11 (by kst_all) (by ksw_same) ⟨_, _, rfl, (by assumption), List.mem_range'_1.mpr (by dsimp only; omega)⟩ hr.2
      case _ =>
        rename ((lapN b prime : Int) = _) => hne
        have hroot : b ∈ roots prime := by
          rcases hmv with q | q
          · exact q.2
          · exact absurd (by omega) q.1
        clear hmv hne hb
        (rename Fr _ _ _ _ => F11)
        dsimp only at F11 ⊢
        have hn : ∃ n : Nat, 1 ≤ n ∧ n < prime ∧ ([c0, c1, c2, c3].getD (Int.toNat 2) 0).fmod ((prime : Int) - 1) + 1 = (n : Nat) := by
          have h0 : 0 ≤ ([c0, c1, c2, c3].getD (Int.toNat 2) 0).fmod ((prime : Int) - 1) := Int.fmod_nonneg_of_pos _ (by omega)
          have h1 : ([c0, c1, c2, c3].getD (Int.toNat 2) 0).fmod ((prime : Int) - 1) < (prime : Int) - 1 := Int.fmod_lt_of_pos _ (by omega)
          generalize ([c0, c1, c2, c3].getD (Int.toNat 2) 0).fmod ((prime : Int) - 1) = q at *
          exact ⟨(q + 1).toNat, by omega, by omega, by omega⟩
        obtain ⟨n, hn1, hn2, hne⟩ := hn
        have hpu : ∃ purse : Nat, purse ≤ 500 ∧ (((b : Int) - 1) * ((prime : Int) - 1)).fdiv 2 = (purse : Nat) := by
          rw [show (b : Int) - 1 = ((b - 1 : Nat) : Int) by omega, show (prime : Int) - 1 = ((prime - 1 : Nat) : Int) by omega, ← Int.natCast_mul, show (2 : Int) = ((2 : Nat) : Int) from rfl, fdiv_n]
          have := Nat.mul_le_mul (show b - 1 ≤ 15 by omega) (show prime - 1 ≤ 58 by omega)
          exact ⟨_, by omega, rfl⟩
        obtain ⟨purse, hpu, hpe⟩ := hpu
        rw [hne] at F11 ⊢
        rw [hpe] at F11
        have hlook : In6 ([c0, c1, c2, c3].getD (Int.toNat 3) 0) := b3
        generalize hlk : [c0, c1, c2, c3].getD (Int.toNat 3) 0 = look at hlook ⊢
        obtain ⟨hl0, hl1⟩ := hlook
        refine SP.use (typed_sp (number := (n : Nat)) (base := (b : Nat)) (prime := (prime : Nat)) (look := look) (by omega)) (by assumption) (by assumption) X T rfl (by with_unfolding_all exact Nat.le_of_ble_eq_true rfl) (by with_unfolding_all exact Nat.le_of_ble_eq_true rfl) ?_
        intro t10 h10 tk10 F10 N10
        dsimp only
        rw [show ((prime : Int) - 1).toNat = prime - 1 by omega]
        obtain ⟨hty1, hty2, _⟩ := typ_codes look hn2 (show 0 < b ∧ b ≤ 16 by omega) (prime - 1)
        have hlaw := fun more => plain (look := look) hprime hroot hn1 hn2 (purse := purse) (more := more)
        generalize typF n b prime look (prime - 1) = typed at hty1 hty2 hlaw ⊢
        walk_at "mine_steps"
        refine SP.use (line_sp (x := typed) (purse := purse) ⟨by omega, hpu⟩ hty1) (by assumption) (by assumption) X T rfl (by with_unfolding_all exact Nat.le_of_ble_eq_true rfl) (by with_unfolding_all exact Nat.le_of_ble_eq_true rfl) ?_
        intro t11 h11 tk11 F11 N11
        dsimp only
        generalize ln (linF (codesF typed) purse (codesF typed).length).1 (linF (codesF typed) purse (codesF typed).length).2 = line at hlaw ⊢
        walk_at "mine_steps"
        refine SPg.use (classes_sp hprime) (by assumption) (by assumption) X T rfl (by with_unfolding_all exact Nat.le_of_ble_eq_true rfl) (by with_unfolding_all exact Nat.le_of_ble_eq_true rfl) ?_
        intro t12 h12 tk12 gens12 F12 N12 hB12
        dsimp only
        walk_at "mine_steps"
        have hks : ∀ k, k ∈ rangeKs 1 ((prime : Int) - 1).toNat ↔ ∃ i, i < prime - 1 ∧ k = 1 + (i : Nat) := by
          intro k
          rw [show ((prime : Int) - 1).toNat = prime - 1 by omega, rangeKs, List.mem_map]
          exact ⟨fun ⟨i, hi, e⟩ => ⟨i, List.mem_range.mp hi, e.symm⟩, fun ⟨i, hi, e⟩ => ⟨i, List.mem_range.mpr hi, e.symm⟩⟩
        (rename Fr _ _ _ _ => F13)
        rw [sq_any hn1 _ hks] at F13
        have hwo : ∃ worth : Nat, worth ≤ 85 ∧ ((b : Int) + 1) * (clsF prime : Nat) = (worth : Nat) := by
          refine ⟨(b + 1) * clsF prime, ?_, by push_cast; rfl⟩
          exact Nat.mul_le_mul (show b + 1 ≤ 17 by omega) (worth_b prime hprime)
        obtain ⟨worth, hw85, hwe⟩ := hwo
        rw [hwe] at F13 hlaw
        generalize sqF prime n = sq at F13 hlaw
        refine SP.use (short_sp (number := (n : Nat)) (base := (b : Nat)) (prime := (prime : Nat)) (by omega)) (by assumption) (by assumption) X T rfl (by with_unfolding_all exact Nat.le_of_ble_eq_true rfl) (by with_unfolding_all exact Nat.le_of_ble_eq_true rfl) ?_
        intro t14 h14 tk14 F14 N14
        dsimp only
        rw [show ((prime : Int) - 1).toNat = prime - 1 by omega]
        obtain ⟨_, _, hs0, hs1⟩ := lv_b hn2 (show 0 < b ∧ b ≤ 16 by omega) (prime - 1)
        generalize (lv n b prime (prime - 1)).2 = short at hs0 hs1 hlaw ⊢
        have hs2 : short ≤ 928 := by omega
        clear hs1
        walk_at "mine_steps"
        case _ =>
          rename (sq = true) => hsq
          rw [hsq] at hlaw
          rw [hlaw _ rfl]
          simp only [if_true, beq_self_eq_true]
          exact k 0 _ _ _ _ (by assumption) hB12
        case _ =>
          rename (sq = false) => hsq
          rw [hsq] at hlaw
          rw [hlaw _ rfl]
          simp only [Bool.false_eq_true, if_false, beq_self_eq_true]
          exact k 0 _ _ _ _ (by assumption) hB12
end Mine
end
section
open PySem PySem.W PyProof.Rows
set_option Elab.async false
set_option maxRecDepth 100000
set_option maxHeartbeats 8000000
namespace Mine
theorem finx : PySem.Challenge.rw_to0033_01.Holds := by
  w_on
  o_law
  refine holds_openX (q := qq) (loose := looseL) (Xt := fun s => xlAt qq [] s && recOk [] s) (XP := XL qq []) (Yf := fun s => (s.heap, s.toks)) (Ya := fun w => (hpE w.params, 2511)) (N := 20000) leftP (fun s e => xl_of s (Bool.and_eq_true_iff.mp e).1) XL.keeps (by rfl) (by rfl) (by rfl) (fun s e => recFacts_of (Bool.and_eq_true_iff.mp e).2) (by rfl) (by assumption) (by decide +kernel) ⟨rfl, rfl, rfl, rfl, rfl, by decide +kernel⟩ ?hw ?hc
  case hw => w_witness2
  case hc =>
    intro w s₀ s₁ mg mb G Y fa o pm cd doc dV kV ho hd hcd hD hmg hg args vals as Ld hpre hlay hrd hwl hlo
    have Y1 : s₀.heap = hpE w.params := (Prod.mk.inj Y).1
    have X : (KF w.params).In s₁.heap := (show (KF w.params).In s₀.heap from Y1 ▸ KF_in w.params).keeps Ld.keeps
    refine Ground.open G ?_
    intro T B D TE TW
    have hfa : mg (Str.ofString "law") = some (.ref 199) := mg_of X T.g (by kernel_rfl)
    clear hd hcd hD ho Y Y1 G
    wrow_args hpre hlay hrd hwl hlo
    (rename Heap.IsList _ _ _ => hL9)
    (rename IntsAre _ _ => hI9)
    (rename (¬ ((63 : Nat) : Int) < _) => hc9)
    have hmg2 : mg (Str.ofString "law") = some (.ref fa) := by with_unfolding_all exact hmg
    have hfa2 : fa = 199 := Value.ref.inj (Option.some.inj (hmg2.symm.trans hfa))
    clear hmg hmg2
    subst hfa2
    refine weaken (law_sp (w := w) hI9 (by omega) qq (looseW qq looseL) (ExcName.means s₀.heap) mg mb s₁ _ _ X T hL9 ?_) rfl (by decide) (by decide) rfl rfl
    intro t h' tk' gens' st hB
    exact ⟨.inl ⟨_, _, [], rfl, fun _ => rfl, ReadsW.bool true, (by wrow_post), fun _ => ⟨List.nodup_nil, fun _ hm => (nomatch hm)⟩⟩, OldK.of_keep st, rfl, hB (hg ▸ AllBare.empty)⟩
end Mine
end
theorem PySem.Challenge.cw_to0033_01_holds : PySem.Challenge.rw_to0033_01.Holds := by
  exact Mine.finx
