import PyProof.Rows.All
import Wide.All
import OpenK.AllK
import Wide.FinOn
import PySem.Challenge.RW_wf0103_01
set_option linter.all false
set_option Elab.async false
section
set_option maxRecDepth 100000
namespace Mine
open PySem PySem.W PySem.Calls PyProof.Rows

abbrev pw : Program := PySem.Challenge.pw_wf0103_01
abbrev annV : Option Value := some (.ref 6)

/-- k steps from one place to another -/
abbrev goto (w : World) (k : Nat) (s : Shared) (t : Thread) (s' : Shared) (t' : Thread) : Prop := segGo treeTable pw w 11 annV 1 k s t = some (s', t')

theorem segGo_add {tb : String → Option Builtin} {p : Program} {w : World} {n₀ : Nat} {ann : Option Value} {b : Nat} : ∀ {k j : Nat} {s s₁ s₂ : Shared} {t t₁ t₂ : Thread},
    segGo tb p w n₀ ann b k s t = some (s₁, t₁) → segGo tb p w n₀ ann b j s₁ t₁ = some (s₂, t₂) → segGo tb p w n₀ ann b (k + j) s t = some (s₂, t₂)
  | 0, j, s, s₁, s₂, t, t₁, t₂, h, g => by
    obtain ⟨rfl, rfl⟩ : s = s₁ ∧ t = t₁ := by simpa [segGo] using h
    rw [Nat.zero_add]; exact g
  | k + 1, j, s, s₁, s₂, t, t₁, t₂, h, g => by
    rw [show k + 1 + j = k + j + 1 by omega]
    unfold segGo at h ⊢
    cases he : endAt b t with
    | some f => rw [he] at h; cases h
    | none =>
      rw [he] at h
      cases hk : stepOk n₀ ann t with
      | false => rw [hk] at h; cases h
      | true =>
        rw [hk] at h
        cases hs : step (denote tb) p w s t with
        | halt o s₂ => rw [hs] at h; cases h
        | go s₃ t₃ => rw [hs] at h; exact segGo_add h g

theorem goto_trans {w : World} {k j : Nat} {s s₁ s₂ : Shared} {t t₁ t₂ : Thread} (h : goto w k s t s₁ t₁) (g : goto w j s₁ t₁ s₂ t₂) : goto w (k + j) s t s₂ t₂ := segGo_add h g

/-- a straight piece of a tree, in a body's frame -/
def Goes {α : Type} (w : World) (b : List Stmt) (env : Env) (st : List Frame) (k : Nat) (m : Sem α) (s : Shared) (p : Pos) (a : α) (s' : Shared) (p' : Pos) : Prop :=
  ∀ (K : α → Sem Fin) (H : Value → Sem Fin) (gd : Bool → Bool) (lv : List Value → List Value), goto w k s ⟨m.wrap K H gd lv, .body b env, p, st⟩ s' ⟨K a, .body b env, p', st⟩

section
variable {w : World} {b : List Stmt} {env : Env} {st : List Frame} {α β : Type} {s s' s₁ s₂ : Shared} {p p' p₁ p₂ : Pos}

theorem Goes.pure {a : α} : Goes w b env st 0 (Pure.pure a : Sem α) s p a s p := fun _ _ _ _ => rfl
theorem Goes.bind {k j : Nat} {m : Sem α} {f : α → Sem β} {a : α} {c : β} (h : Goes w b env st k m s p a s₁ p₁) (g : Goes w b env st j (f a) s₁ p₁ c s₂ p₂) : Goes w b env st (k + j) (m >>= f) s p c s₂ p₂ := fun K H gd lv => by
  rw [Sem.bind_eq_wrap', Sem.wrap_wrap]
  exact goto_trans (h _ _ _ _) (g K H gd lv)
theorem Goes.holding {k : Nat} {vs : List Value} {m : Sem α} {a : α} (h : Goes w b env st k m s p a s' p') : Goes w b env st k (PySem.holding vs m) s p a s' p' := fun K H gd lv => by
  rw [holding_eq_keep, Sem.keep_eq_wrap, Sem.wrap_wrap]
  exact h K H _ _
theorem Goes.onRaise {k : Nat} {m : Sem α} {h' : Value → Sem Unit} {a : α} (h : Goes w b env st k m s p a s' p') : Goes w b env st k (m.onRaise h') s p a s' p' := fun K H gd lv => by
  rw [Sem.onRaise_eq_wrap, Sem.wrap_wrap]
  exact h K _ _ _
theorem Goes.tryCatch {k : Nat} {m : Sem α} {h' : Value → Sem α} {a : α} (h : Goes w b env st k m s p a s' p') : Goes w b env st k (tryCatch m h') s p a s' p' := fun K H gd lv => by
  show goto w k s ⟨(m.tryCatch h').wrap K H gd lv, .body b env, p, st⟩ s' ⟨K a, .body b env, p', st⟩
  rw [Sem.tryCatch_eq_wrap, Sem.wrap_wrap]
  exact h K _ _ _
theorem endAt_of {cur : Sem Fin} {c : Code} (h : ∀ f, cur ≠ .pure (.done f)) : endAt 1 ⟨cur, c, p, st⟩ = none := by
  unfold endAt
  cases st.length == 1 with
  | false => rfl
  | true =>
    cases cur with
    | pure x => cases x with
      | done f => exact absurd rfl (h f)
      | again => rfl
    | _ => rfl
theorem goto_one {s' : Shared} {t t' : Thread} (he : endAt 1 t = none) (hk : stepOk 11 annV t = true) (hs : step (denote treeTable) pw w s t = .go s' t') : goto w 1 s t s' t' := by
  show segGo treeTable pw w 11 annV 1 1 s t = some (s', t')
  unfold segGo
  rw [he, hk, hs]
  rfl
theorem Goes.rule {t : String} : Goes w b env st 1 (PySem.rule t) s p () s p := fun _ _ _ _ => goto_one (endAt_of (by intro f h; cases h)) rfl rfl
theorem Goes.standAt {q : Pos} : Goes w b env st 1 (PySem.standAt q) s p () s q := fun _ _ _ _ => goto_one (endAt_of (by intro f h; cases h)) rfl rfl
theorem Goes.point : Goes w b env st 1 PySem.point s p () s p := fun _ _ _ _ => goto_one (endAt_of (by intro f h; cases h)) rfl rfl
theorem Goes.fresh : Goes w b env st 1 PySem.fresh s p s.toks { s with toks := s.toks + 1 } p := fun _ _ _ _ => goto_one (endAt_of (by intro f h; cases h)) rfl rfl
theorem Goes.ask : Goes w b env st 1 PySem.ask s p ⟨pw, w.params⟩ s p := fun _ _ _ _ => goto_one (endAt_of (by intro f h; cases h)) rfl rfl
theorem Goes.alloc {o : Obj} : Goes w b env st 1 (PySem.alloc o) s p s.heap.objs.size { s with heap := s.heap.push o } p := fun _ _ _ _ => goto_one (endAt_of (by intro f h; cases h)) rfl rfl
theorem Goes.loadPart {a : Addr} {part : Option Value} {o : Obj} (h : s.heap.get? a = some o) : Goes w b env st 1 (PySem.loadPart a part) s p o s p := fun K H gd lv => by
  refine goto_one (endAt_of (by intro f h; cases h)) rfl ?_
  show (match s.heap.get? a with | some o => _ | none => _) = _
  rw [h]
  rfl
theorem Goes.load {a : Addr} {o : Obj} (h : s.heap.get? a = some o) : Goes w b env st 1 (PySem.load a) s p o s p := Goes.loadPart h
theorem Goes.updatePart {a : Addr} {part : Option Value} {f : Obj → Obj} (ha : 11 ≤ a) (h : (s.heap.get? a).isSome = true) : Goes w b env st 1 (PySem.updatePart a part f) s p () { s with heap := s.heap.update a f } p := fun K H gd lv => by
  refine goto_one (endAt_of (by intro f h; cases h)) ?_ ?_
  · show (true && (Nat.ble 11 a || a == mainNs || a == cStatics || annV == some (.ref a))) = true
    rw [Nat.ble_eq_true_of_le ha]; rfl
  · show (if (s.heap.get? a).isSome = true then _ else _) = _
    rw [if_pos h]
    rfl
theorem Goes.eq {k : Nat} {m m' : Sem α} {a : α} (e : m = m') (h : Goes w b env st k m' s p a s' p') : Goes w b env st k m s p a s' p' := e ▸ h
end
end Mine
end
section
set_option maxRecDepth 100000
namespace Mine
open PySem PySem.W PySem.Calls PyProof.Rows
section
variable {w : World} {b : List Stmt} {env : Env} {f₀ : Frame} {s : Shared} {p : Pos}
theorem goes_call_hash (n : Int) (t : Tok) : Goes w b env [f₀] 4 (PySem.call (.builtin "int.__hash__") [.int n t]) s p (.int (rawHash n) s.toks) { s with toks := s.toks + 1 } p := fun K H gd lv => by
  obtain ⟨heap, gens, drawn, toks, os⟩ := s
  show segGo treeTable pw w 11 annV 1 4 ⟨heap, gens, drawn, toks, os⟩ ⟨(PySem.call (.builtin "int.__hash__") [.int n t]).wrap K H gd lv, .body b env, p, [f₀]⟩ = some (⟨heap, gens, drawn, toks + 1, os⟩, ⟨K (.int (rawHash n) toks), .body b env, p, [f₀]⟩)
  kernel_rfl

theorem special_hash (n : Int) (t : Tok) : specialOf (.int n t) "__hash__" = pure (some (.builtin "int.__hash__")) := by kernel_rfl
theorem bind_hash (n : Int) (t : Tok) : bindSpecial (.builtin "int.__hash__") (.int n t) = pure (.builtin "int.__hash__", [.int n t]) := by kernel_rfl
theorem hashInt_small {n : Int} (h0 : 0 ≤ n) (h1 : n < 2000000) : rawHash n = n := by
  unfold rawHash
  have e' : ((n.natAbs : Int) % ((2 ^ 61 - 1 : Nat) : Int)) = n := by
    rw [Int.emod_eq_of_lt (by omega) (by have : ((2 ^ 61 - 1 : Nat) : Int) = 2305843009213693951 := by decide
                                         omega)]
    omega
  have hn : ¬ n < 0 := by omega
  simp only [hn, if_false, e']
  rw [if_neg (by simp; omega)]
theorem goes_hash {n : Int} {t : Tok} (h0 : 0 ≤ n) (h1 : n < 2000000) : Goes w b env [f₀] 5 (pyHash (.int n t)) s p n { s with toks := s.toks + 1 } p := by
  unfold pyHash
  show Goes w b env [f₀] 5 (pyHashByItsType (.int n t)) s p n { s with toks := s.toks + 1 } p
  unfold pyHashByItsType
  rw [cRoomFor, if_neg (by exact Bool.false_ne_true)]
  refine Goes.bind (k := 0) (j := 5) Goes.pure ?_
  rw [special_hash]
  refine Goes.bind (k := 0) (j := 5) Goes.pure ?_
  rw [if_neg (by decide)]
  refine Goes.bind (k := 0) (j := 5) (Goes.pure) ?_
  rw [if_neg (by decide)]
  refine Goes.bind (k := 5) (j := 0) (a := some (.int (rawHash n) s.toks)) (s₁ := { s with toks := s.toks + 1 }) (p₁ := p) ?_ ?_
  · unfold callSpecialIfBoundUnlessNone? bindSpecialIfBound?
    refine Goes.holding ?_
    rw [special_hash]
    refine Goes.bind (k := 1) (j := 4) (a := some (.builtin "int.__hash__", [.int n t])) (s₁ := s) (p₁ := p) ?_ ?_
    · refine Goes.bind (k := 0) (j := 1) Goes.pure ?_
      dsimp only
      rw [bind_hash]
      refine Goes.bind (k := 1) (j := 0) Goes.ask ?_
      split
      · exact Goes.pure
      · exact Goes.pure
    · dsimp only
      rw [if_neg (by decide)]
      exact Goes.bind (k := 4) (j := 0) (goes_call_hash n t) Goes.pure
  · dsimp only
    rw [hashInt_small h0 h1]
    unfold pyHashByItsType.reduced
    rw [if_pos (by simp; omega), if_neg (by simp; omega)]
    exact Goes.pure
end
end Mine
end
section
set_option maxRecDepth 100000
namespace Mine
open PySem PySem.W PySem.Calls PyProof.Rows

abbrev dObj (es : List DictEntry) : Obj := { cls := .type "dict", dict := none, data := .dict es.toArray es.length, slots := #[] }
/-- the object at an address, replaced -/
def putO (h : Heap) (d : Addr) (o : Obj) : Heap := h.update d fun _ => o
theorem heap_ext {h h' : Heap} (a : h.objs = h'.objs) (b : h.life = h'.life) : h = h' := by
  cases h; cases h'; cases a; cases b; rfl
theorem update_put {h : Heap} {d : Addr} {o : Obj} {f : Obj → Obj} (e : h.get? d = some o) : h.update d f = putO h d (f o) := by
  obtain ⟨e1, _⟩ := Heap.get?_some_iff.mp e
  refine heap_ext ?_ rfl
  show h.objs.modify d f = h.objs.modify d fun _ => f o
  apply Array.ext_getElem?
  intro i
  rw [Array.getElem?_modify, Array.getElem?_modify]
  by_cases hi : d = i
  · subst hi; simp [e1]
  · simp [hi]
theorem put_put {h : Heap} {d : Addr} {o o' : Obj} : putO (putO h d o) d o' = putO h d o' := by
  refine heap_ext ?_ rfl
  show (h.objs.modify d fun _ => o).modify d (fun _ => o') = h.objs.modify d fun _ => o'
  apply Array.ext_getElem?
  intro i
  simp only [Array.getElem?_modify]
  by_cases hi : d = i
  · subst hi; cases h.objs[d]? <;> simp
  · simp [hi]
theorem put_same {h : Heap} {d : Addr} {o : Obj} (e : h.get? d = some o) : putO h d o = h := by
  obtain ⟨e1, _⟩ := Heap.get?_some_iff.mp e
  refine heap_ext ?_ rfl
  show (h.objs.modify d fun _ => o) = h.objs
  apply Array.ext_getElem?
  intro i
  rw [Array.getElem?_modify]
  by_cases hi : d = i
  · subst hi; simp [e1]
  · simp [hi]
theorem put_push {h : Heap} {d : Addr} {o x : Obj} (hd : d < h.objs.size) : putO (h.push x) d o = (putO h d o).push x := by
  refine heap_ext ?_ rfl
  show (h.objs.push x).modify d (fun _ => o) = (h.objs.modify d fun _ => o).push x
  apply Array.ext_getElem?
  intro i
  simp only [Array.getElem?_modify, Array.getElem?_push, Array.size_modify]
  by_cases hi : d = i
  · subst hi; simp [Nat.ne_of_lt hd]
  · by_cases hj : i = h.objs.size
    · subst hj; simp [hi]
    · simp [hi, hj]
theorem put_last {h : Heap} {o x : Obj} : putO (h.push x) h.objs.size o = h.push o := by
  refine heap_ext ?_ rfl
  show (h.objs.push x).modify h.objs.size (fun _ => o) = h.objs.push o
  apply Array.ext_getElem?
  intro i
  simp only [Array.getElem?_modify, Array.getElem?_push]
  by_cases hi : h.objs.size = i
  · subst hi; simp
  · simp [hi, Ne.symm hi]
theorem put_get {h : Heap} {d : Addr} {o : Obj} (hd : d < h.objs.size) (ho : o.isFreed = false) : (putO h d o).get? d = some o := by
  refine Heap.get?_some_iff.mpr ⟨?_, ho⟩
  show (h.objs.modify d fun _ => o)[d]? = some o
  rw [Array.getElem?_modify]
  simp [Array.getElem?_eq_getElem hd]
theorem put_size {h : Heap} {d : Addr} {o : Obj} : (putO h d o).objs.size = h.objs.size := Heap.size_after_update ..
theorem put_other {h : Heap} {d a : Addr} {o : Obj} (h1 : d ≠ a) : (putO h d o).get? a = h.get? a := Heap.get?_update_other h _ h1

theorem places_none {es : List DictEntry} {n : Int} (hn : ∀ e ∈ es, e.hash ≠ n) : placesWithHash es.toArray.size (fun i => es.toArray[i]?.map (·.hash)) n = [] := by
  unfold placesWithHash
  rw [List.filter_eq_nil_iff]
  intro i _
  simp only [beq_iff_eq]
  cases h : es.toArray[i]? with
  | none => simp
  | some e =>
    have : e ∈ es := by simpa using Array.mem_of_getElem? h
    simpa using hn e this

section
variable {w : World} {b : List Stmt} {env : Env} {f₀ : Frame} {s : Shared} {p : Pos}
theorem goes_entries {d : Addr} {part : Option Value} {es : List DictEntry} (hd : s.heap.get? d = some (dObj es)) : Goes w b env [f₀] 1 (dictEntries d part) s p es.toArray s p := by
  unfold dictEntries
  exact Goes.bind (k := 1) (j := 0) (Goes.loadPart hd) Goes.pure
theorem goes_epoch {d : Addr} {part : Option Value} {es : List DictEntry} (hd : s.heap.get? d = some (dObj es)) : Goes w b env [f₀] 1 (dictEpoch d part) s p es.length s p := by
  unfold dictEpoch
  exact Goes.bind (k := 1) (j := 0) (Goes.loadPart hd) Goes.pure
theorem goes_find {d : Addr} {es : List DictEntry} {n : Int} {t : Tok} (hd : s.heap.get? d = some (dObj es)) (hn : ∀ e ∈ es, e.hash ≠ n) : Goes w b env [f₀] 1 (dictFind d (.int n t) n) s p none s p := by
  unfold dictFind
  refine Goes.holding (Goes.bind (k := 1) (j := 0) (goes_entries hd) ?_)
  dsimp only
  rw [places_none hn]
  refine Goes.eq (if_pos rfl) ?_
  unfold dictWalkPlain
  exact Goes.pure
theorem goes_keys {d : Addr} {es : List DictEntry} {e : DictEntry} {part : Option Value} (hd : s.heap.get? d = some (dObj es)) (h11 : 11 ≤ d) (hz : es.length ≤ 1000) :
    Goes w b env [f₀] 3 (updateDictKeys d (fun a => a.push e) part) s p () { s with heap := putO s.heap d (dObj (es ++ [e])) } p := by
  unfold updateDictKeys
  refine Goes.bind (k := 1) (j := 2) (Goes.loadPart hd) ?_
  dsimp only
  have e1 : s.heap.update d (Obj.mapDictKeys fun a => a.push e) = putO s.heap d (dObj (es ++ [e])) := by
    rw [update_put hd]
    show putO s.heap d { cls := .type "dict", dict := none, data := .dict (es.toArray.push e) (es.length + 1), slots := #[] } = _
    simp [dObj]
  refine Goes.bind (k := 1) (j := 1) (Goes.updatePart h11 (by rw [hd]; rfl)) ?_
  rw [e1]
  unfold lookBehind
  refine Goes.bind (k := 1) (j := 0) (Goes.loadPart (put_get (Heap.lt_size hd) rfl)) ?_
  have hp : (dObj (es ++ [e])).data.pastItsLine = none := by
    show (if (es ++ [e]).toArray.size > sizeLine + 1 then some "dict:memory" else none) = none
    rw [if_neg]
    have := sizeLine_eq
    simp only [List.size_toArray, List.length_append, List.length_cons, List.length_nil]
    omega
  rw [hp]
  exact Goes.pure
theorem goes_set {d : Addr} {es : List DictEntry} {n : Int} {t : Tok} {v : Value} (hd : s.heap.get? d = some (dObj es)) (hn : ∀ e ∈ es, e.hash ≠ n) (h0 : 0 ≤ n) (h1 : n < 2000000) (h11 : 11 ≤ d) (hz : es.length ≤ 1000) :
    Goes w b env [f₀] 10 (dictSet d (.int n t) v) s p () { s with heap := putO s.heap d (dObj (es ++ [⟨n, .int n t, v⟩])), toks := s.toks + 1 } p := by
  unfold dictSet
  refine Goes.holding (Goes.bind (k := 5) (j := 5) (goes_hash h0 h1) ?_)
  unfold dictSetHashed
  refine Goes.holding (Goes.bind (k := 1) (j := 4) (goes_find (s := { s with toks := s.toks + 1 }) hd hn) ?_)
  dsimp only
  refine Goes.bind (k := 1) (j := 3) Goes.rule ?_
  exact goes_keys (s := { s with toks := s.toks + 1 }) hd h11 hz
theorem goes_put {d : Addr} {es : List DictEntry} {n : Int} {t : Tok} {v : Value} (hd : s.heap.get? d = some (dObj es)) (hn : ∀ e ∈ es, e.hash ≠ n) (h11 : 11 ≤ d) (hz : es.length ≤ 1000) :
    Goes w b env [f₀] 4 (dictPut d n (.int n t) v) s p () { s with heap := putO s.heap d (dObj (es ++ [⟨n, .int n t, v⟩])) } p := by
  unfold dictPut
  refine Goes.bind (k := 1) (j := 3) (goes_find hd hn) ?_
  exact goes_keys hd h11 hz
end
end Mine
end
section
set_option maxRecDepth 100000
namespace Mine
open PySem PySem.W PySem.Calls PyProof.Rows

/-- the two trees of an item of the display -/
def pr (q : Pos) (x : Int × Str) : Sem Value × Sem Value := (mkInt x.1, do let v ← mkText x.2; standAt q; pure v)
/-- the entries that a long run lays, tokens from t on -/
def entsL : Nat → List (Int × Str) → List DictEntry
  | _, [] => []
  | t, x :: r => ⟨x.1, .int x.1 t, .str x.2 (t + 1)⟩ :: entsL (t + 3) r
theorem entsL_len : ∀ (t : Nat) (l : List (Int × Str)), (entsL t l).length = l.length
  | _, [] => rfl
  | t, x :: r => by simp [entsL, entsL_len (t + 3) r]
/-- .. that a short run lays -/
def entsS : Nat → List (Int × Str) → List DictEntry
  | _, [] => []
  | t, x :: r => ⟨x.1, .int x.1 t, .str x.2 (t + 1)⟩ :: entsS (t + 2) r
theorem entsS_len : ∀ (t : Nat) (l : List (Int × Str)), (entsS t l).length = l.length
  | _, [] => rfl
  | t, x :: r => by simp [entsS, entsS_len (t + 2) r]
theorem entsL_hash : ∀ (t : Nat) (l : List (Int × Str)), (entsL t l).map (·.hash) = l.map (·.1)
  | _, [] => rfl
  | t, x :: r => by simp [entsL, entsL_hash (t + 3) r]
theorem entsS_hash : ∀ (t : Nat) (l : List (Int × Str)), (entsS t l).map (·.hash) = l.map (·.1)
  | _, [] => rfl
  | t, x :: r => by simp [entsS, entsS_hash (t + 2) r]
/-- keys that may stand together: small, none twice -/
def KeysOk (l : List (Int × Str)) : Prop := (∀ x ∈ l, 0 ≤ x.1 ∧ x.1 < 2000000) ∧ (l.map (·.1)).Nodup

section
variable {w : World} {b : List Stmt} {env : Env} {f₀ : Frame} {p q : Pos}

theorem goes_mkInt {s : Shared} {n : Int} : Goes w b env [f₀] 1 (mkInt n) s p (.int n s.toks) { s with toks := s.toks + 1 } p := by
  unfold mkInt
  exact Goes.bind (k := 1) (j := 0) Goes.fresh Goes.pure
theorem goes_mkText {s : Shared} {x : Str} : Goes w b env [f₀] 1 (mkText x) s p (.str x s.toks) { s with toks := s.toks + 1 } p := by
  unfold mkText
  exact Goes.bind (k := 1) (j := 0) Goes.fresh Goes.pure
theorem goes_val {s : Shared} {x : Int × Str} : Goes w b env [f₀] 2 (pr q x).2 s p (.str x.2 s.toks) { s with toks := s.toks + 1 } q := by
  show Goes w b env [f₀] 2 (mkText x.2 >>= fun v => standAt q >>= fun _ => pure v) s p _ _ q
  refine Goes.bind (k := 1) (j := 1) goes_mkText ?_
  exact Goes.bind (k := 1) (j := 0) Goes.standAt Goes.pure

/-- the loop of a long run -/
theorem goes_long {d : Addr} (h11 : 11 ≤ d) : ∀ (l : List (Int × Str)) (es : List DictEntry) (s : Shared) (p : Pos), s.heap.get? d = some (dObj es) → (∀ x ∈ l, 0 ≤ x.1 ∧ x.1 < 2000000) → (es.map (·.hash) ++ l.map (·.1)).Nodup → es.length + l.length ≤ 1000 →
    ∃ p', Goes w b env [f₀] (13 * l.length) (forIn (l.map (pr q)) PUnit.unit fun (x : Sem Value × Sem Value) (_ : PUnit) => (do let kv ← x.1; let vv ← holding [kv] x.2; holding [kv, vv] (dictSet d kv vv); pure (ForInStep.yield PUnit.unit) : Sem (ForInStep PUnit)))
      s p PUnit.unit { s with heap := putO s.heap d (dObj (es ++ entsL s.toks l)), toks := s.toks + 3 * l.length } p'
  | [], es, s, p, hd, _, _, _ => ⟨p, by
    simp only [List.map_nil, List.forIn_nil, List.length_nil, Nat.mul_zero, entsL, List.append_nil, Nat.add_zero]
    rw [put_same hd]
    exact Goes.pure⟩
  | x :: r, es, s, p, hd, hs, hnd, hz => by
    have hx := hs x (List.mem_cons_self ..)
    have hd' : s.heap.get? d = some (dObj es) := hd
    have hn : ∀ e ∈ es, e.hash ≠ x.1 := by
      intro e he heq
      rw [List.map_cons, List.nodup_append] at hnd
      exact hnd.2.2 e.hash (List.mem_map_of_mem he) x.1 (List.mem_cons_self ..) heq
    have step : Goes w b env [f₀] 13 (do let kv ← (pr q x).1; let vv ← holding [kv] (pr q x).2; holding [kv, vv] (dictSet d kv vv); pure (ForInStep.yield PUnit.unit) : Sem (ForInStep PUnit)) s p (ForInStep.yield PUnit.unit)
        { s with heap := putO s.heap d (dObj (es ++ [⟨x.1, .int x.1 s.toks, .str x.2 (s.toks + 1)⟩])), toks := s.toks + 3 } q := by
      refine Goes.bind (k := 1) (j := 12) goes_mkInt ?_
      refine Goes.bind (k := 2) (j := 10) (Goes.holding goes_val) ?_
      refine Goes.bind (k := 10) (j := 0) (Goes.holding (goes_set (s := { s with toks := s.toks + 1 + 1 }) hd' hn hx.1 hx.2 h11 (by simp at hz; omega))) ?_
      exact Goes.pure
    obtain ⟨p', rest⟩ := goes_long h11 r (es ++ [⟨x.1, .int x.1 s.toks, .str x.2 (s.toks + 1)⟩]) { s with heap := putO s.heap d (dObj (es ++ [⟨x.1, .int x.1 s.toks, .str x.2 (s.toks + 1)⟩])), toks := s.toks + 3 } q
      (put_get (Heap.lt_size hd) rfl) (fun y hy => hs y (List.mem_cons_of_mem _ hy)) (by simpa using hnd) (by simp at hz ⊢; omega)
    refine ⟨p', ?_⟩
    rw [List.map_cons, List.forIn_cons, show 13 * (x :: r).length = 13 + 13 * r.length by simp; omega]
    refine Goes.bind step ?_
    dsimp only
    have a : es ++ entsL s.toks (x :: r) = (es ++ [⟨x.1, .int x.1 s.toks, .str x.2 (s.toks + 1)⟩]) ++ entsL (s.toks + 3) r := by simp [entsL]
    have b' : s.toks + 3 * (x :: r).length = s.toks + 3 + 3 * r.length := by simp; omega
    dsimp only at rest
    rw [put_put] at rest
    rw [a, b']
    exact rest

theorem goes_subLong {s : Shared} {l : List (Int × Str)} (hl : 15 < l.length) (hz : l.length ≤ 1000) (hk : KeysOk l) (h11 : 11 ≤ s.heap.objs.size) :
    ∃ p', Goes w b env [f₀] (2 + 13 * l.length) (subDict (l.map (pr q))) s p s.heap.objs.size { s with heap := s.heap.push (dObj (entsL s.toks l)), toks := s.toks + 3 * l.length } p' := by
  obtain ⟨p', h⟩ := goes_long (w := w) (b := b) (env := env) (f₀ := f₀) (q := q) h11 l [] { s with heap := s.heap.push (dObj []) } p (Heap.get?_push_size _ rfl) hk.1 (by simpa using hk.2) (by simpa using hz)
  refine ⟨p', ?_⟩
  unfold subDict
  refine Goes.eq rfl (Goes.bind (k := 1) (j := 1 + 13 * l.length) Goes.alloc ?_ |> fun x => (by rw [show 2 + 13 * l.length = 1 + (1 + 13 * l.length) by omega]; exact x))
  refine Goes.bind (k := 1 + 13 * l.length) (j := 0) (a := ()) (Goes.holding ?_) Goes.pure
  rw [if_neg (by simpa using hl)]
  refine Goes.bind (k := 1) (j := 13 * l.length) Goes.rule ?_
  refine Goes.bind (k := 13 * l.length) (j := 0) (a := PUnit.unit) (p₁ := p') ?_ Goes.pure
  rw [put_last, List.nil_append] at h
  exact h
end
end Mine
end
section
set_option maxRecDepth 100000
namespace Mine
open PySem PySem.W PySem.Calls PyProof.Rows

/-- the pairs of values of a short run -/
def valsS : Nat → List (Int × Str) → List (Value × Value)
  | _, [] => []
  | t, x :: r => (.int x.1 t, .str x.2 (t + 1)) :: valsS (t + 2) r
section
variable {w : World} {b : List Stmt} {env : Env} {f₀ : Frame} {p q : Pos}

theorem goes_pairs : ∀ (l : List (Int × Str)) (s : Shared) (p : Pos), ∃ p', Goes w b env [f₀] (3 * l.length) (evalPairs (l.map (pr q))) s p (valsS s.toks l) { s with toks := s.toks + 2 * l.length } p'
  | [], s, p => ⟨p, Goes.pure⟩
  | x :: r, s, p => by
    obtain ⟨p', h⟩ := goes_pairs r { s with toks := s.toks + 1 + 1 } q
    refine ⟨p', ?_⟩
    rw [List.map_cons, show 3 * (x :: r).length = 1 + (2 + 3 * r.length) by simp; omega]
    show Goes w b env [f₀] _ (evalPairs (((pr q x).1, (pr q x).2) :: r.map (pr q))) s p _ _ p'
    unfold evalPairs
    refine Goes.bind goes_mkInt (Goes.bind (Goes.holding goes_val) ?_)
    have e : ({ s with toks := s.toks + 2 * (x :: r).length } : Shared) = { s with toks := s.toks + 1 + 1 + 2 * r.length } := by
      rw [show s.toks + 2 * (x :: r).length = s.toks + 1 + 1 + 2 * r.length by simp; omega]
    rw [e]
    exact Goes.bind (k := 3 * r.length) (j := 0) (Goes.holding h) Goes.pure

theorem goes_store {d : Addr} (h11 : 11 ≤ d) : ∀ (l : List (Int × Str)) (t : Nat) (es : List DictEntry) (s : Shared) (p : Pos), s.heap.get? d = some (dObj es) → (∀ x ∈ l, 0 ≤ x.1 ∧ x.1 < 2000000) → (es.map (·.hash) ++ l.map (·.1)).Nodup → es.length + l.length ≤ 1000 →
    Goes w b env [f₀] (10 * l.length) (forIn (valsS t l) PUnit.unit fun (x : Value × Value) (_ : PUnit) => (do dictSet d x.1 x.2; pure (ForInStep.yield PUnit.unit) : Sem (ForInStep PUnit)))
      s p PUnit.unit { s with heap := putO s.heap d (dObj (es ++ entsS t l)), toks := s.toks + l.length } p
  | [], t, es, s, p, hd, _, _, _ => by
    simp only [valsS, List.forIn_nil, List.length_nil, Nat.mul_zero, entsS, List.append_nil, Nat.add_zero]
    rw [put_same hd]
    exact Goes.pure
  | x :: r, t, es, s, p, hd, hs, hnd, hz => by
    have hx := hs x (List.mem_cons_self ..)
    have hn : ∀ e ∈ es, e.hash ≠ x.1 := by
      intro e he heq
      rw [List.map_cons, List.nodup_append] at hnd
      exact hnd.2.2 e.hash (List.mem_map_of_mem he) x.1 (List.mem_cons_self ..) heq
    have rest := goes_store h11 r (t + 2) (es ++ [⟨x.1, .int x.1 t, .str x.2 (t + 1)⟩]) { s with heap := putO s.heap d (dObj (es ++ [⟨x.1, .int x.1 t, .str x.2 (t + 1)⟩])), toks := s.toks + 1 } p
      (put_get (Heap.lt_size hd) rfl) (fun y hy => hs y (List.mem_cons_of_mem _ hy)) (by simpa using hnd) (by simp at hz ⊢; omega)
    dsimp only at rest
    rw [put_put] at rest
    have a : es ++ entsS t (x :: r) = (es ++ [⟨x.1, .int x.1 t, .str x.2 (t + 1)⟩]) ++ entsS (t + 2) r := by simp [entsS]
    have b' : s.toks + (x :: r).length = s.toks + 1 + r.length := by simp; omega
    rw [a, b', show 10 * (x :: r).length = 10 + 10 * r.length by simp; omega]
    rw [valsS, List.forIn_cons]
    refine Goes.bind (Goes.bind (k := 10) (j := 0) (goes_set hd hn hx.1 hx.2 h11 (by simp at hz; omega)) Goes.pure) ?_
    exact rest

theorem goes_subShort {s : Shared} {l : List (Int × Str)} (hl : l.length ≤ 15) (hk : KeysOk l) (h11 : 11 ≤ s.heap.objs.size) :
    ∃ p', Goes w b env [f₀] (1 + 13 * l.length) (subDict (l.map (pr q))) s p s.heap.objs.size { s with heap := s.heap.push (dObj (entsS s.toks l)), toks := s.toks + 3 * l.length } p' := by
  obtain ⟨p', h⟩ := goes_pairs (w := w) (b := b) (env := env) (f₀ := f₀) (q := q) l { s with heap := s.heap.push (dObj []) } p
  have g := goes_store (w := w) (b := b) (env := env) (f₀ := f₀) (d := s.heap.objs.size) h11 l s.toks [] { s with heap := s.heap.push (dObj []), toks := s.toks + 2 * l.length } p' (Heap.get?_push_size _ rfl) hk.1 (by simpa using hk.2) (by simp; omega)
  refine ⟨p', ?_⟩
  unfold subDict
  rw [show 1 + 13 * l.length = 1 + ((3 * l.length + 10 * l.length) + 0) by omega]
  refine Goes.bind Goes.alloc ?_
  refine Goes.bind (a := ()) (Goes.holding ?_) Goes.pure
  rw [if_pos (by simpa using hl)]
  refine Goes.bind h ?_
  dsimp only at g
  rw [put_last, List.nil_append, show s.toks + 2 * l.length + l.length = s.toks + 3 * l.length by omega] at g
  exact Goes.holding (Goes.bind (k := 10 * l.length) (j := 0) (a := PUnit.unit) g Goes.pure)

theorem sub_dict : isSubtype (.type "dict") (.type "dict") = pure true := by rw [isSubtype_type]; kernel_rfl
theorem look_iter : typeLookup (.type "dict") "__iter__" = pure (some (.builtin "dict.__iter__")) := by kernel_rfl
theorem goes_isDict {s : Shared} {a : Addr} {es : List DictEntry} (h : s.heap.get? a = some (dObj es)) : Goes w b env [f₀] 1 (isInstance (.ref a) (.type "dict")) s p true s p := by
  unfold isInstance typeOf
  refine Goes.bind (k := 1) (j := 0) (a := .type "dict") (Goes.bind (k := 1) (j := 0) (Goes.loadPart h) Goes.pure) ?_
  rw [sub_dict]; exact Goes.pure
theorem goes_iterOf {s : Shared} {a : Addr} {es : List DictEntry} (h : s.heap.get? a = some (dObj es)) : Goes w b env [f₀] 1 (specialOf (.ref a) "__iter__") s p (some (.builtin "dict.__iter__")) s p := by
  unfold specialOf typeOf
  refine Goes.bind (k := 1) (j := 0) (a := .type "dict") (Goes.bind (k := 1) (j := 0) (Goes.loadPart h) Goes.pure) ?_
  rw [look_iter]; exact Goes.pure

/-- entries as a display lays them -/
def IntEnts (es : List DictEntry) : Prop := ∀ e ∈ es, ∃ t, e.key = .int e.hash t
theorem IntEnts.L : ∀ (t : Nat) (l : List (Int × Str)), IntEnts (entsL t l)
  | _, [] => fun _ h => nomatch h
  | t, x :: r => fun e h => by
    rcases List.mem_cons.mp h with rfl | h
    · exact ⟨t, rfl⟩
    · exact IntEnts.L (t + 3) r e h
theorem IntEnts.S : ∀ (t : Nat) (l : List (Int × Str)), IntEnts (entsS t l)
  | _, [] => fun _ h => nomatch h
  | t, x :: r => fun e h => by
    rcases List.mem_cons.mp h with rfl | h
    · exact ⟨t, rfl⟩
    · exact IntEnts.S (t + 2) r e h

theorem goes_mergeLoop {d a : Addr} (hda : d ≠ a) (h11 : 11 ≤ d) {all : List DictEntry} (hi : IntEnts all) : ∀ (n i : Nat) (es : List DictEntry) (s : Shared), i + n = all.length → s.heap.get? d = some (dObj es) → s.heap.get? a = some (dObj all) →
    (es.map (·.hash) ++ (all.drop i).map (·.hash)).Nodup → es.length + n ≤ 1000 →
    Goes w b env [f₀] (6 * n) (forIn (List.range' i n) PUnit.unit fun (i : Nat) (_ : PUnit) => (do
        let __x ← dictEntries a
        match __x[i]? with
        | some e => do
          holding [e.key, e.val] (dictPut d e.hash e.key e.val)
          if ((← dictEpoch a) != all.length) = true then do
            unsupported "dict.changed-during-merge"
            pure (ForInStep.yield PUnit.unit)
          else pure (ForInStep.yield PUnit.unit)
        | _ => unsupported "dict.changed-during-merge" : Sem (ForInStep PUnit)))
      s p PUnit.unit { s with heap := putO s.heap d (dObj (es ++ all.drop i)) } p
  | 0, i, es, s, hin, hd, ha, _, _ => by
    rw [List.drop_of_length_le (by omega), List.append_nil, put_same hd]
    exact Goes.pure
  | n + 1, i, es, s, hin, hd, ha, hnd, hz => by
    have hlt : i < all.length := by omega
    have hdrop : all.drop i = all[i] :: all.drop (i + 1) := List.drop_eq_getElem_cons hlt
    obtain ⟨t, ht⟩ := hi all[i] (List.getElem_mem hlt)
    have hn : ∀ e ∈ es, e.hash ≠ (all[i]).hash := by
      intro e he heq
      rw [hdrop, List.map_cons, List.nodup_append] at hnd
      exact hnd.2.2 e.hash (List.mem_map_of_mem he) _ (List.mem_cons_self ..) heq
    have rest := goes_mergeLoop hda h11 hi n (i + 1) (es ++ [all[i]]) { s with heap := putO s.heap d (dObj (es ++ [all[i]])) } (by omega) (put_get (Heap.lt_size hd) rfl) ((put_other hda).trans ha)
      (by rw [hdrop, List.map_cons] at hnd; rw [List.map_append, List.append_assoc]; exact hnd) (by simp; omega)
    dsimp only at rest
    rw [put_put] at rest
    rw [hdrop, show es ++ all[i] :: all.drop (i + 1) = (es ++ [all[i]]) ++ all.drop (i + 1) by simp, show 6 * (n + 1) = 6 + 6 * n by omega, List.range'_succ, List.forIn_cons]
    refine Goes.bind (a := ForInStep.yield PUnit.unit) ?_ rest
    refine Goes.bind (k := 1) (j := 5) (goes_entries ha) ?_
    rw [show all.toArray[i]? = some all[i] by simp [hlt]]
    dsimp only
    have he : all[i] = ⟨(all[i]).hash, .int (all[i]).hash t, (all[i]).val⟩ := by
      rw [← ht]
    have put := goes_put (w := w) (b := b) (env := env) (f₀ := f₀) (p := p) (n := (all[i]).hash) (t := t) (v := (all[i]).val) hd hn h11 (by omega)
    rw [← he] at put
    rw [ht]
    refine Goes.bind (k := 4) (j := 1) (Goes.holding put) ?_
    refine Goes.bind (k := 1) (j := 0) (goes_epoch ((put_other hda).trans ha)) ?_
    rw [if_neg (by simp)]
    exact Goes.pure

theorem goes_merge {s : Shared} {d a : Addr} {es all : List DictEntry} (hda : d ≠ a) (h11 : 11 ≤ d) (ha11 : 11 ≤ a) (hi : IntEnts all) (he : es ≠ []) (hd : s.heap.get? d = some (dObj es)) (ha : s.heap.get? a = some (dObj all))
    (hnd : (es.map (·.hash) ++ all.map (·.hash)).Nodup) (hz : es.length + all.length ≤ 1000) :
    Goes w b env [f₀] (5 + 6 * all.length) (mergeMapping d (.ref a) false) s p () { s with heap := putO s.heap d (dObj (es ++ all)) } p := by
  have loop := goes_mergeLoop (w := w) (b := b) (env := env) (f₀ := f₀) (p := p) hda h11 hi all.length 0 es s (by omega) hd ha (by simpa using hnd) hz
  rw [List.drop_zero] at loop
  unfold mergeMapping
  rw [show 5 + 6 * all.length = 1 + (1 + (1 + (1 + (1 + 6 * all.length)))) by omega]
  refine Goes.bind (m := isInstance (.ref a) (.type "dict")) (goes_isDict ha) ?_
  rw [if_pos rfl]
  refine Goes.bind (m := specialOf (.ref a) "__iter__") (goes_iterOf ha) ?_
  refine Goes.eq (pure_bind _ _) ?_
  · rw [show (some (Value.builtin "dict.__iter__") == some (Value.builtin "dict.__iter__")) = true by decide]
    dsimp only
    have hs : (a == sysModules) = false := by
      rw [beq_eq_false_iff_ne]
      intro h
      rw [h] at ha11
      exact absurd ha11 (by decide)
    rw [hs]
    simp only [Bool.false_eq_true, if_false]
    refine Goes.bind (goes_entries hd) ?_
    have hne : es.toArray.isEmpty = false := by
      cases es with
      | nil => exact absurd rfl he
      | cons => rfl
    rw [hne]
    simp only [Bool.false_eq_true, if_false]
    refine Goes.bind (goes_entries ha) ?_
    refine Goes.bind (goes_epoch ha) ?_
    rw [List.size_toArray, List.range_eq_range']
    exact Goes.bind (k := 6 * all.length) (j := 0) (a := PUnit.unit) loop Goes.pure
end
end Mine
end
section
set_option maxRecDepth 100000
namespace Mine
open PySem PySem.W PySem.Calls PyProof.Rows

def pushAll (h : Heap) (l : List Obj) : Heap := l.foldl Heap.push h
theorem pushAll_snoc (h : Heap) (l : List Obj) (o : Obj) : pushAll h (l ++ [o]) = (pushAll h l).push o := by simp [pushAll]
theorem pushAll_size : ∀ (l : List Obj) (h : Heap), (pushAll h l).objs.size = h.objs.size + l.length
  | [], h => rfl
  | o :: r, h => by
    show (pushAll (h.push o) r).objs.size = _
    rw [pushAll_size r, Heap.size_push, List.length_cons]; omega
theorem pushAll_get : ∀ (l : List Obj) {h : Heap} {a : Addr} {o : Obj}, h.get? a = some o → (pushAll h l).get? a = some o
  | [], _, _, _, e => e
  | x :: r, _, _, _, e => pushAll_get r (Heap.get?_push_of_some x e)
theorem putO_all : ∀ (l : List Obj) {h : Heap} {d : Addr} {o : Obj}, d < h.objs.size → putO (pushAll h l) d o = pushAll (putO h d o) l
  | [], _, _, _, _ => rfl
  | x :: r, h, d, o, hd => by
    show putO (pushAll (h.push x) r) d o = pushAll ((putO h d o).push x) r
    rw [putO_all r (by rw [Heap.size_push]; exact Nat.lt_succ_of_lt hd), put_push hd]
theorem put_main {h : Heap} {l : List Obj} {x y : Obj} : putO (pushAll (h.push x) l) h.objs.size y = pushAll (h.push y) l := by
  rw [putO_all l (by rw [Heap.size_push]; exact Nat.lt_succ_self _), put_last]
theorem main_get {h : Heap} {l : List Obj} {es : List DictEntry} : (pushAll (h.push (dObj es)) l).get? h.objs.size = some (dObj es) := pushAll_get l (Heap.get?_push_size _ rfl)

/-- a piece of the run, wherever it stands in the text -/
def GoesE {α : Type} (w : World) (b : List Stmt) (env : Env) (f₀ : Frame) (k : Nat) (m : Sem α) (s : Shared) (a : α) (s' : Shared) : Prop := ∀ p, ∃ p', Goes w b env [f₀] k m s p a s' p'
section
variable {w : World} {b : List Stmt} {env : Env} {f₀ : Frame} {q : Pos} {α β : Type} {s s₁ s₂ : Shared}
theorem GoesE.bind {k j : Nat} {m : Sem α} {f : α → Sem β} {a : α} {c : β} (h : GoesE w b env f₀ k m s a s₁) (g : GoesE w b env f₀ j (f a) s₁ c s₂) : GoesE w b env f₀ (k + j) (m >>= f) s c s₂ := fun p =>
  let ⟨p₁, h₁⟩ := h p
  let ⟨p₂, h₂⟩ := g p₁
  ⟨p₂, h₁.bind h₂⟩
theorem GoesE.pure {a : α} : GoesE w b env f₀ 0 (Pure.pure a : Sem α) s a s := fun p => ⟨p, Goes.pure⟩
theorem GoesE.eq {k : Nat} {m m' : Sem α} {a : α} (e : m = m') (h : GoesE w b env f₀ k m' s a s₁) : GoesE w b env f₀ k m s a s₁ := e ▸ h
theorem GoesE.num {k j : Nat} {m : Sem α} {a : α} (e : k = j) (h : GoesE w b env f₀ k m s a s₁) : GoesE w b env f₀ j m s a s₁ := e ▸ h
end

/-- what 'flush' of a dict display does -/
def flushR (run : List (Sem Value × Sem Value)) (main : Option Addr) : Sem (Option Addr) := do
  if run.isEmpty then return main
  match main with
  | none => return some (← subDict run)
  | some d =>
    let sub ← holding [.ref d] (subDict run)
    (holding [.ref d, .ref sub] (mergeMapping d (.ref sub) false)).onRaise fun x => do let _ ← holding [.ref d, x] (runValue (.builtin "proto.let_go" {}))
    return some d

section
variable {w : World} {b : List Stmt} {env : Env} {f₀ : Frame} {q : Pos} {s : Shared}

theorem flush_first {l : List (Int × Str)} (hl : 15 < l.length) (hz : l.length ≤ 1000) (hk : KeysOk l) (h11 : 11 ≤ s.heap.objs.size) :
    GoesE w b env f₀ (2 + 13 * l.length) (flushR (l.map (pr q)) none) s (some s.heap.objs.size) { s with heap := s.heap.push (dObj (entsL s.toks l)), toks := s.toks + 3 * l.length } := fun p => by
  obtain ⟨p', h⟩ := goes_subLong (w := w) (b := b) (env := env) (f₀ := f₀) (q := q) (p := p) hl hz hk h11
  refine ⟨p', ?_⟩
  unfold flushR
  rw [if_neg (by cases l with
    | nil => simp at hl
    | cons => simp)]
  exact Goes.bind (k := 2 + 13 * l.length) (j := 0) h Goes.pure
theorem KeysOk.sub {a c d : List (Int × Str)} (h : KeysOk (a ++ c ++ d)) : KeysOk c := by
  refine ⟨fun x hx => h.1 x (by simp [hx]), ?_⟩
  have := h.2
  rw [List.map_append, List.map_append, List.nodup_append, List.nodup_append] at this
  exact this.1.2.1

theorem flush_next {h : Heap} {M : List DictEntry} {subs : List Obj} {l : List (Int × Str)} (hh : s.heap = pushAll (h.push (dObj M)) subs) (hM : M ≠ []) (hl : 15 < l.length) (hz : M.length + l.length ≤ 1000) (hk : KeysOk l)
    (hnd : (M.map (·.hash) ++ l.map (·.1)).Nodup) (h11 : 11 ≤ h.objs.size) :
    GoesE w b env f₀ (7 + 19 * l.length) (flushR (l.map (pr q)) (some h.objs.size)) s (some h.objs.size)
      { s with heap := pushAll (h.push (dObj (M ++ entsL s.toks l))) (subs ++ [dObj (entsL s.toks l)]), toks := s.toks + 3 * l.length } := fun p => by
  have hsz : s.heap.objs.size = h.objs.size + 1 + subs.length := by rw [hh, pushAll_size, Heap.size_push]
  have n1 : h.objs.size < s.heap.objs.size := by omega
  have n2 : 11 ≤ s.heap.objs.size := by omega
  have hg : s.heap.get? h.objs.size = some (dObj M) := by rw [hh]; exact main_get
  obtain ⟨p', hs⟩ := goes_subLong (w := w) (b := b) (env := env) (f₀ := f₀) (q := q) (p := p) (s := s) hl (by omega) hk n2
  refine ⟨p', ?_⟩
  unfold flushR
  rw [if_neg (by cases l with
    | nil => simp at hl
    | cons => simp)]
  dsimp only
  have hM2 : (M.map (·.hash) ++ (entsL s.toks l).map (·.hash)).Nodup := by rw [entsL_hash]; exact hnd
  have mg := goes_merge (w := w) (b := b) (env := env) (f₀ := f₀) (p := p') (s := { s with heap := s.heap.push (dObj (entsL s.toks l)), toks := s.toks + 3 * l.length }) (d := h.objs.size) (a := s.heap.objs.size) (es := M) (all := entsL s.toks l)
    (Nat.ne_of_lt n1) h11 n2 (IntEnts.L _ _) hM (Heap.get?_push_of_some _ hg) (Heap.get?_push_size _ rfl) hM2 (by rw [entsL_len]; omega)
  rw [entsL_len] at mg
  have e : putO (s.heap.push (dObj (entsL s.toks l))) h.objs.size (dObj (M ++ entsL s.toks l)) = pushAll (h.push (dObj (M ++ entsL s.toks l))) (subs ++ [dObj (entsL s.toks l)]) := by
    rw [hh, ← pushAll_snoc, put_main]
  dsimp only at mg
  rw [e] at mg
  rw [show 7 + 19 * l.length = (2 + 13 * l.length) + ((5 + 6 * l.length) + 0) by omega]
  exact Goes.bind (Goes.holding hs) (Goes.bind (Goes.onRaise (Goes.holding mg)) Goes.pure)

theorem flush_last {h : Heap} {M : List DictEntry} {subs : List Obj} {l : List (Int × Str)} (hh : s.heap = pushAll (h.push (dObj M)) subs) (hM : M ≠ []) (hl0 : l ≠ []) (hl : l.length ≤ 15) (hz : M.length + l.length ≤ 1000) (hk : KeysOk l)
    (hnd : (M.map (·.hash) ++ l.map (·.1)).Nodup) (h11 : 11 ≤ h.objs.size) :
    GoesE w b env f₀ (6 + 19 * l.length) (flushR (l.map (pr q)) (some h.objs.size)) s (some h.objs.size)
      { s with heap := pushAll (h.push (dObj (M ++ entsS s.toks l))) (subs ++ [dObj (entsS s.toks l)]), toks := s.toks + 3 * l.length } := fun p => by
  have hsz : s.heap.objs.size = h.objs.size + 1 + subs.length := by rw [hh, pushAll_size, Heap.size_push]
  have n1 : h.objs.size < s.heap.objs.size := by omega
  have n2 : 11 ≤ s.heap.objs.size := by omega
  have hg : s.heap.get? h.objs.size = some (dObj M) := by rw [hh]; exact main_get
  obtain ⟨p', hs⟩ := goes_subShort (w := w) (b := b) (env := env) (f₀ := f₀) (q := q) (p := p) (s := s) hl hk n2
  refine ⟨p', ?_⟩
  unfold flushR
  rw [if_neg (by cases l with
    | nil => exact absurd rfl hl0
    | cons => simp)]
  dsimp only
  have hM2 : (M.map (·.hash) ++ (entsS s.toks l).map (·.hash)).Nodup := by rw [entsS_hash]; exact hnd
  have mg := goes_merge (w := w) (b := b) (env := env) (f₀ := f₀) (p := p') (s := { s with heap := s.heap.push (dObj (entsS s.toks l)), toks := s.toks + 3 * l.length }) (d := h.objs.size) (a := s.heap.objs.size) (es := M) (all := entsS s.toks l)
    (Nat.ne_of_lt n1) h11 n2 (IntEnts.S _ _) hM (Heap.get?_push_of_some _ hg) (Heap.get?_push_size _ rfl) hM2 (by rw [entsS_len]; omega)
  rw [entsS_len] at mg
  have e : putO (s.heap.push (dObj (entsS s.toks l))) h.objs.size (dObj (M ++ entsS s.toks l)) = pushAll (h.push (dObj (M ++ entsS s.toks l))) (subs ++ [dObj (entsS s.toks l)]) := by
    rw [hh, ← pushAll_snoc, put_main]
  dsimp only at mg
  rw [e] at mg
  rw [show 6 + 19 * l.length = (1 + 13 * l.length) + ((5 + 6 * l.length) + 0) by omega]
  exact Goes.bind (Goes.holding hs) (Goes.bind (Goes.onRaise (Goes.holding mg)) Goes.pure)

/-- an item of the display -/
abbrev itemR (q : Pos) (x : Int × Str) : Option (Sem Value) × Sem Value := (some (pr q x).1, (pr q x).2)
abbrev StepR := Option (Sem Value) × Sem Value → Option Addr × List (Sem Value × Sem Value) → Sem (ForInStep (Option Addr × List (Sem Value × Sem Value)))
/-- what the display's loop does of an item -/
def OnItem (q : Pos) (f : StepR) : Prop := ∀ (x : Int × Str) (main : Option Addr) (run : List (Sem Value × Sem Value)), f (itemR q x) (main, run) =
  if ((run ++ [pr q x]).length == 17) = true then (do let m ← flushR (run ++ [pr q x]) main; pure (.yield (m, []))) else pure (.yield (main, run ++ [pr q x]))
variable {f : StepR}
theorem gather_few (hf : OnItem q f) : ∀ (xs : List (Int × Str)) (run : List (Sem Value × Sem Value)) (main : Option Addr), run.length + xs.length < 17 → forIn (xs.map (itemR q)) (main, run) f = pure (main, run ++ xs.map (pr q))
  | [], run, main, _ => by simp
  | x :: r, run, main, h => by
    rw [List.length_cons] at h
    rw [List.map_cons, List.forIn_cons, hf, if_neg (by simp; omega), pure_bind]
    dsimp only
    rw [gather_few hf r _ main (by simp; omega)]
    simp
theorem gather_full (hf : OnItem q f) : ∀ (xs : List (Int × Str)) (run : List (Sem Value × Sem Value)) (main : Option Addr) (rest : List (Option (Sem Value) × Sem Value)), xs ≠ [] → run.length + xs.length = 17 →
    forIn (xs.map (itemR q) ++ rest) (main, run) f = (do let m ← flushR (run ++ xs.map (pr q)) main; forIn rest (m, []) f)
  | [], _, _, _, h, _ => absurd rfl h
  | [x], run, main, rest, _, h => by
    rw [List.map_cons, List.map_nil, List.cons_append, List.nil_append, List.forIn_cons, hf, if_pos (by simp at h ⊢; omega), bind_assoc]
    simp
  | x :: y :: r, run, main, rest, _, h => by
    rw [List.length_cons] at h
    rw [List.map_cons, List.cons_append, List.forIn_cons, hf, if_neg (by simp at h ⊢; omega), pure_bind]
    dsimp only
    rw [gather_full hf (y :: r) _ main rest (by simp) (by simp at h ⊢; omega)]
    simp

def subsOf : Nat → List (List (Int × Str)) → List Obj
  | _, [] => []
  | t, c :: cs => dObj (entsL t c) :: subsOf (t + 3 * c.length) cs
theorem entsL_app : ∀ (t : Nat) (a c : List (Int × Str)), entsL t (a ++ c) = entsL t a ++ entsL (t + 3 * a.length) c
  | t, [], c => by simp [entsL]
  | t, x :: a, c => by
    rw [List.cons_append, entsL, entsL_app, entsL, List.cons_append, List.length_cons, show t + 3 + 3 * a.length = t + 3 * (a.length + 1) by omega]

theorem chunks (hf : OnItem q f) {h : Heap} (h11 : 11 ≤ h.objs.size) {β : Type} {g : Option Addr × List (Sem Value × Sem Value) → Sem β} {rest : List (Option (Sem Value) × Sem Value)} {r : β} {s' : Shared} {kr : Nat} :
    ∀ (cs : List (List (Int × Str))) (M : List DictEntry) (subs : List Obj) (s : Shared), s.heap = pushAll (h.push (dObj M)) subs → M ≠ [] → (∀ c ∈ cs, c.length = 17) → (∀ x ∈ cs.flatten, 0 ≤ x.1 ∧ x.1 < 2000000) →
      (M.map (·.hash) ++ cs.flatten.map (·.1)).Nodup → M.length + cs.flatten.length ≤ 1000 →
      GoesE w b env f₀ kr (forIn rest (some h.objs.size, []) f >>= g) { s with heap := pushAll (h.push (dObj (M ++ entsL s.toks cs.flatten))) (subs ++ subsOf s.toks cs), toks := s.toks + 3 * cs.flatten.length } r s' →
      GoesE w b env f₀ (330 * cs.length + kr) (forIn (cs.flatten.map (itemR q) ++ rest) (some h.objs.size, []) f >>= g) s r s'
  | [], M, subs, s, hh, _, _, _, _, _, k => by
    simp only [List.flatten_nil, entsL, List.append_nil, subsOf, List.length_nil, Nat.mul_zero, Nat.add_zero] at k
    rw [← hh] at k
    simpa using k
  | c :: cs, M, subs, s, hh, hM, h17, hsm, hnd, hz, k => by
    have hc : c.length = 17 := h17 c (List.mem_cons_self ..)
    rw [List.flatten_cons] at hsm hnd hz
    rw [List.map_append, ← List.append_assoc] at hnd
    have hnd1 := (List.nodup_append.mp hnd).1
    have kc : KeysOk c := ⟨fun x hx => hsm x (List.mem_append_left _ hx), (List.nodup_append.mp hnd1).2.1⟩
    rw [List.length_append] at hz
    have fl := flush_next (w := w) (b := b) (env := env) (f₀ := f₀) (q := q) (l := c) hh hM (by omega) (by omega) kc hnd1 h11
    rw [List.flatten_cons, List.map_append, List.append_assoc, gather_full hf c [] _ _ (by intro e; rw [e] at hc; cases hc) (by simpa using hc), List.nil_append, bind_assoc]
    rw [show 330 * (c :: cs).length + kr = (7 + 19 * c.length) + (330 * cs.length + kr) by rw [hc, List.length_cons]; omega]
    refine GoesE.bind fl (chunks hf h11 cs _ _ _ rfl (by simp [hM]) (fun x hx => h17 x (List.mem_cons_of_mem _ hx)) (fun x hx => hsm x (List.mem_append_right _ hx)) ?_ ?_ ?_)
    · rw [List.map_append, entsL_hash]; exact hnd
    · rw [List.length_append, entsL_len]; omega
    · dsimp only
      rw [List.flatten_cons, entsL_app, subsOf, List.length_append] at k
      have e1 : M ++ entsL s.toks c ++ entsL (s.toks + 3 * c.length) cs.flatten = M ++ (entsL s.toks c ++ entsL (s.toks + 3 * c.length) cs.flatten) := List.append_assoc ..
      have e2 : subs ++ [dObj (entsL s.toks c)] ++ subsOf (s.toks + 3 * c.length) cs = subs ++ dObj (entsL s.toks c) :: subsOf (s.toks + 3 * c.length) cs := by simp
      rw [e1, e2, show s.toks + 3 * c.length + 3 * cs.flatten.length = s.toks + 3 * (c.length + cs.flatten.length) by omega]
      exact k

theorem display_goes {c : List (Int × Str)} {cs : List (List (Int × Str))} {last : List (Int × Str)} {s : Shared} (hc : c.length = 17) (hcs : ∀ x ∈ cs, x.length = 17) (hl0 : last ≠ []) (hl : last.length ≤ 15)
    (hk : KeysOk (c ++ cs.flatten ++ last)) (hz : (c ++ cs.flatten ++ last).length ≤ 1000) (h11 : 11 ≤ s.heap.objs.size) :
    GoesE w b env f₀ (2 + 13 * 17 + (330 * cs.length + (6 + 19 * last.length))) (dictDisplay ((c ++ cs.flatten ++ last).map (itemR q))) s (.ref s.heap.objs.size)
      { s with heap := pushAll (s.heap.push (dObj (entsL s.toks (c ++ cs.flatten) ++ entsS (s.toks + 3 * (c ++ cs.flatten).length) last))) (subsOf (s.toks + 51) cs ++ [dObj (entsS (s.toks + 3 * (c ++ cs.flatten).length) last)]),
               toks := s.toks + 3 * (c ++ cs.flatten ++ last).length } := by
  unfold dictDisplay
  dsimp only
  have key : ∀ f : StepR, OnItem q f → GoesE w b env f₀ (2 + 13 * 17 + (330 * cs.length + (6 + 19 * last.length))) (forIn ((c ++ cs.flatten ++ last).map (itemR q)) ((none : Option Addr), ([] : List (Sem Value × Sem Value))) f >>= fun x => do
      match ← flushR x.2 x.1 with
      | some d => pure (Value.ref d)
      | none => newDict) s (.ref s.heap.objs.size)
      { s with heap := pushAll (s.heap.push (dObj (entsL s.toks (c ++ cs.flatten) ++ entsS (s.toks + 3 * (c ++ cs.flatten).length) last))) (subsOf (s.toks + 51) cs ++ [dObj (entsS (s.toks + 3 * (c ++ cs.flatten).length) last)]),
               toks := s.toks + 3 * (c ++ cs.flatten ++ last).length } := fun f hf => by
    have hnd := hk.2
    rw [List.map_append] at hnd
    have hnd1 := (List.nodup_append.mp hnd).1
    have hnd2 := hnd1
    rw [List.map_append] at hnd2
    rw [List.length_append, List.length_append] at hz
    have kc : KeysOk c := ⟨fun x hx => hk.1 x (by simp [hx]), (List.nodup_append.mp hnd2).1⟩
    have kl : KeysOk last := ⟨fun x hx => hk.1 x (by simp [hx]), (List.nodup_append.mp hnd).2.1⟩
    have fl := flush_first (w := w) (b := b) (env := env) (f₀ := f₀) (q := q) (s := s) (l := c) (by omega) (by omega) kc h11
    rw [List.append_assoc, List.map_append, gather_full hf c [] _ _ (by intro e; rw [e] at hc; cases hc) (by simpa using hc), List.nil_append, bind_assoc]
    rw [show 2 + 13 * 17 = 2 + 13 * c.length by rw [hc]]
    refine GoesE.bind fl ?_
    rw [List.map_append]
    have hne : entsL s.toks c ≠ [] := by
      intro e
      have := entsL_len s.toks c
      rw [e, hc] at this
      cases this
    refine chunks hf h11 cs (entsL s.toks c) [] _ rfl hne hcs (fun x hx => hk.1 x (by simp [hx])) (by rw [entsL_hash]; exact hnd2) (by rw [entsL_len]; omega) ?_
    dsimp only
    rw [gather_few hf last [] _ (by simp; omega), pure_bind]
    dsimp only
    have e1 : entsL s.toks c ++ entsL (s.toks + 3 * c.length) cs.flatten = entsL s.toks (c ++ cs.flatten) := (entsL_app ..).symm
    have e2 : s.toks + 3 * c.length + 3 * cs.flatten.length = s.toks + 3 * (c ++ cs.flatten).length := by rw [List.length_append]; omega
    rw [e1, e2, List.nil_append, List.nil_append]
    have fl2 := flush_last (w := w) (b := b) (env := env) (f₀ := f₀) (q := q) (h := s.heap) (M := entsL s.toks (c ++ cs.flatten)) (subs := subsOf (s.toks + 3 * c.length) cs) (l := last)
      (s := { s with heap := pushAll (s.heap.push (dObj (entsL s.toks (c ++ cs.flatten)))) (subsOf (s.toks + 3 * c.length) cs), toks := s.toks + 3 * (c ++ cs.flatten).length }) rfl
      (by intro e; have := entsL_len s.toks (c ++ cs.flatten); rw [e, List.length_append, hc] at this; simp at this; omega) hl0 hl (by rw [entsL_len, List.length_append]; omega) kl (by rw [entsL_hash]; exact hnd) h11
    dsimp only at fl2
    rw [show s.toks + 3 * c.length = s.toks + 51 by rw [hc]] at fl2 ⊢
    rw [show s.toks + 3 * (c ++ cs.flatten).length + 3 * last.length = s.toks + 3 * (c ++ (cs.flatten ++ last)).length by simp only [List.length_append]; omega] at fl2
    exact GoesE.bind (j := 0) fl2 GoesE.pure
  exact key _ (fun x main run => by rfl)
end
end Mine
end
section
set_option maxRecDepth 100000
namespace Mine
noncomputable section
open PySem PySem.W PySem.Calls PyProof.Rows

abbrev S (x : String) : Str := Str.ofString x
def de (P : Params) (x : String) (t : Tok) (v : Value) : DictEntry := ⟨PyData.keyHash P (S x), .str (S x) t, v⟩
def stm (i : Nat) : Stmt := pw.main.body.getD i (.Pass default)
def sts (i n : Nat) : List Stmt := (pw.main.body.drop i).take n
def dA : Stmt → Arguments | .FunctionDef _ a _ _ _ _ _ _ _ _ => a | _ => default
def dB : Stmt → List Stmt | .FunctionDef _ _ b _ _ _ _ _ _ _ => b | _ => []
def dS : Stmt → Scope | .FunctionDef _ _ _ _ _ _ s _ _ _ => s | _ => default
def fnO (cls : Value) (nm : Str) (i : Nat) (globals : Addr) (dflt kwd pm code : Value) (bi : Addr) : Obj :=
  ⟨cls, none, .func { name := nm, qualname := nm, params := dA (stm i), body := .stmts (dB (stm i)), scope := dS (stm i), globals := globals, closure := [], defaults := dflt, kwdefaults := kwd, doc := .none, pyModule := pm, annotations := none, code := code, closureTuple := .none, builtins := bi }, #[]⟩
def conInt : Option Expr → Option Int
  | some (.Constant (.int n) _ _) => some n
  | _ => none
def conStr : Expr → Option Str
  | .Constant (.str s) _ _ => some s
  | _ => none
def kvOf : List (Option Expr) → List Expr → List (Int × Str)
  | k :: ks, v :: vs => match conInt k, conStr v with
    | some n, some s => (n, s) :: kvOf ks vs
    | _, _ => []
  | _, _ => []
def b3Keys : List (Option Expr) := match stm 10 with | .Assign _ (.Dict ks _ _) _ => ks | _ => []
def b3Vals : List Expr := match stm 10 with | .Assign _ (.Dict _ vs _) _ => vs | _ => []
def b3kv : List (Int × Str) := kvOf b3Keys b3Vals
def chunk17 : Nat → List (Int × Str) → List (List (Int × Str))
  | 0, _ => []
  | n + 1, l => l.take 17 :: chunk17 n (l.drop 17)
def b3c : List (Int × Str) := b3kv.take 17
def b3cs : List (List (Int × Str)) := chunk17 37 (b3kv.drop 17)
def b3l : List (Int × Str) := b3kv.drop 646
def b3es : List DictEntry := entsL 320 (b3c ++ b3cs.flatten) ++ entsS 2258 b3l
def b3subs : List Obj := subsOf 371 b3cs ++ [dObj (entsS 2258 b3l)]
def b3o0 (_ : Params) : Obj := dObj b3es
def b3o1 (_ : Params) : Obj := b3subs.getD 0 default
def b3o2 (_ : Params) : Obj := b3subs.getD 1 default
def b3o3 (_ : Params) : Obj := b3subs.getD 2 default
def b3o4 (_ : Params) : Obj := b3subs.getD 3 default
def b3o5 (_ : Params) : Obj := b3subs.getD 4 default
def b3o6 (_ : Params) : Obj := b3subs.getD 5 default
def b3o7 (_ : Params) : Obj := b3subs.getD 6 default
def b3o8 (_ : Params) : Obj := b3subs.getD 7 default
def b3o9 (_ : Params) : Obj := b3subs.getD 8 default
def b3o10 (_ : Params) : Obj := b3subs.getD 9 default
def b3o11 (_ : Params) : Obj := b3subs.getD 10 default
def b3o12 (_ : Params) : Obj := b3subs.getD 11 default
def b3o13 (_ : Params) : Obj := b3subs.getD 12 default
def b3o14 (_ : Params) : Obj := b3subs.getD 13 default
def b3o15 (_ : Params) : Obj := b3subs.getD 14 default
def b3o16 (_ : Params) : Obj := b3subs.getD 15 default
def b3o17 (_ : Params) : Obj := b3subs.getD 16 default
def b3o18 (_ : Params) : Obj := b3subs.getD 17 default
def b3o19 (_ : Params) : Obj := b3subs.getD 18 default
def b3o20 (_ : Params) : Obj := b3subs.getD 19 default
def b3o21 (_ : Params) : Obj := b3subs.getD 20 default
def b3o22 (_ : Params) : Obj := b3subs.getD 21 default
def b3o23 (_ : Params) : Obj := b3subs.getD 22 default
def b3o24 (_ : Params) : Obj := b3subs.getD 23 default
def b3o25 (_ : Params) : Obj := b3subs.getD 24 default
def b3o26 (_ : Params) : Obj := b3subs.getD 25 default
def b3o27 (_ : Params) : Obj := b3subs.getD 26 default
def b3o28 (_ : Params) : Obj := b3subs.getD 27 default
def b3o29 (_ : Params) : Obj := b3subs.getD 28 default
def b3o30 (_ : Params) : Obj := b3subs.getD 29 default
def b3o31 (_ : Params) : Obj := b3subs.getD 30 default
def b3o32 (_ : Params) : Obj := b3subs.getD 31 default
def b3o33 (_ : Params) : Obj := b3subs.getD 32 default
def b3o34 (_ : Params) : Obj := b3subs.getD 33 default
def b3o35 (_ : Params) : Obj := b3subs.getD 34 default
def b3o36 (_ : Params) : Obj := b3subs.getD 35 default
def b3o37 (_ : Params) : Obj := b3subs.getD 36 default
def b3o38 (_ : Params) : Obj := b3subs.getD 37 default
def oa_11 (P : Params) : Obj := ⟨(.type "tuple"), none, (.seq #[] 0), #[]⟩
def oa_12 (P : Params) : Obj := ⟨.none, none, (.fields #[]), #[]⟩
def oa_13 (P : Params) : Obj := ⟨(.type "code"), none, (.fields #[(.str (S "<module>") 182), (.str (S "<module>") 183), (.str (S "/claim/cut.py") 184), (.int 1 0), (.int 0 0), (.int 0 0), (.int 0 0), (.int 0 0), (.ref 11), (.bool false), (.int 181 0), (.ref 12), .none, .none, .none, .none, (.int 185 0), (.int 1 0), (.str (S "/claim/cut.py") 186)]), #[]⟩
def oa_14 (P : Params) : Obj := ⟨(.type "frame"), none, .plain, #[(some (.ref 13)), (some (.ref 3)), (some (.ref 3)), none, (some (.str (S "__main__") 164)), none, (some (.ref 0))]⟩
def ta (P : Params) : BT := (.node (boot_o_0 P) (.node (boot_o_1 P) (.node (boot_o_3 P) (.node (boot_o_7 P) .nil .nil) (.node (oa_11 P) .nil .nil)) (.node (boot_o_5 P) (.node (boot_o_9 P) .nil .nil) (.node (oa_13 P) .nil .nil))) (.node (boot_o_2 P) (.node (boot_o_4 P) (.node (boot_o_8 P) .nil .nil) (.node (oa_12 P) .nil .nil)) (.node (boot_o_6 P) (.node (boot_o_10 P) .nil .nil) (.node (oa_14 P) .nil .nil))))
def hpa (P : Params) : Heap := ⟨⟨[boot_o_0 P, boot_o_1 P, boot_o_2 P, boot_o_3 P, boot_o_4 P, boot_o_5 P, boot_o_6 P, boot_o_7 P, boot_o_8 P, boot_o_9 P, boot_o_10 P, oa_11 P, oa_12 P, oa_13 P, oa_14 P]⟩, {}⟩
def t0 (P : Params) : BT := (.node (boot_o_0 P) (.node (boot_o_1 P) (.node (boot_o_3 P) (.node (boot_o_7 P) .nil .nil) (.node (oa_11 P) .nil .nil)) (.node (boot_o_5 P) (.node (boot_o_9 P) .nil .nil) (.node (oa_13 P) .nil .nil))) (.node (boot_o_2 P) (.node (boot_o_4 P) (.node (boot_o_8 P) .nil .nil) (.node (oa_12 P) .nil .nil)) (.node (boot_o_6 P) (.node (boot_o_10 P) .nil .nil) (.node (oa_14 P) .nil .nil))))
def o1_3 (P : Params) : Obj := ⟨(.type "dict"), none, (.dict #[(de P "__name__" 165 (.str (S "cpy313.stringprep") 251)), (de P "__doc__" 166 .none), (de P "__package__" 167 .none), (de P "__loader__" 168 (.builtin "__main__.__loader__#opaque")), (de P "__spec__" 169 .none), (de P "__annotations__" 170 (.ref 6)), (de P "__builtins__" 171 (.ref 4)), (de P "__file__" 173 (.str (S "/claim/cut.py") 172)), (de P "__cached__" 174 .none), (de P "_iter_escaped_chars" 198 (.ref 21)), (de P "_strip_quoted_realnames" 210 (.ref 28)), (de P "_check_parenthesis" 220 (.ref 35)), (de P "bisect_right" 236 (.ref 44)), (de P "bisect_left" 250 (.ref 53))] 14), #[]⟩
def o1_12 (P : Params) : Obj := ⟨.none, none, (.fields #[(.int 2 0), (.int 0 0), (.ref 20), (.int 15 0), (.int 0 0), (.ref 27), (.int 33 0), (.int 0 0), (.ref 34), (.int 45 0), (.int 0 0), (.ref 43), (.int 65 0), (.int 0 0), (.ref 52)]), #[]⟩
def o1_15 (P : Params) : Obj := ⟨(.type "tuple"), none, (.seq #[] 0), #[]⟩
def o1_16 (P : Params) : Obj := ⟨.none, none, (.fields #[]), #[]⟩
def o1_17 (P : Params) : Obj := ⟨(.type "tuple"), none, (.seq #[(.str (S "addr") 192), (.str (S "pos") 193), (.str (S "escape") 194), (.str (S "ch") 195)] 0), #[]⟩
def o1_18 (P : Params) : Obj := ⟨(.type "tuple"), none, (.seq #[] 0), #[]⟩
def o1_19 (P : Params) : Obj := fnO .none (S "_iter_escaped_chars") 1 0 .none .none .none .none 0
def o1_20 (P : Params) : Obj := ⟨(.type "code"), none, (.fields #[(.str (S "_iter_escaped_chars") 189), (.str (S "_iter_escaped_chars") 190), (.str (S "/claim/cut.py") 191), (.int 2 0), (.int 1 0), (.int 0 0), (.int 0 0), (.int 35 0), (.ref 15), (.bool true), (.int 181 0), (.ref 16), .none, (.ref 17), (.ref 18), (.ref 19), (.int 196 0), (.int 2 0), (.str (S "/claim/cut.py") 197)]), #[]⟩
def o1_21 (P : Params) : Obj := fnO (.type "function") (S "_iter_escaped_chars") 1 3 .none .none (.str (S "cpy313.email.utils") 187) (.ref 20) 0
def o1_22 (P : Params) : Obj := ⟨(.type "tuple"), none, (.seq #[] 0), #[]⟩
def o1_23 (P : Params) : Obj := ⟨.none, none, (.fields #[]), #[]⟩
def o1_24 (P : Params) : Obj := ⟨(.type "tuple"), none, (.seq #[(.str (S "addr") 202), (.str (S "start") 203), (.str (S "open_pos") 204), (.str (S "result") 205), (.str (S "pos") 206), (.str (S "ch") 207)] 0), #[]⟩
def o1_25 (P : Params) : Obj := ⟨(.type "tuple"), none, (.seq #[] 0), #[]⟩
def o1_26 (P : Params) : Obj := fnO .none (S "_strip_quoted_realnames") 2 0 .none .none .none .none 0
def o1_27 (P : Params) : Obj := ⟨(.type "code"), none, (.fields #[(.str (S "_strip_quoted_realnames") 199), (.str (S "_strip_quoted_realnames") 200), (.str (S "/claim/cut.py") 201), (.int 15 0), (.int 1 0), (.int 0 0), (.int 0 0), (.int 3 0), (.ref 22), (.bool true), (.int 181 0), (.ref 23), .none, (.ref 24), (.ref 25), (.ref 26), (.int 208 0), (.int 15 0), (.str (S "/claim/cut.py") 209)]), #[]⟩
def o1_28 (P : Params) : Obj := fnO (.type "function") (S "_strip_quoted_realnames") 2 3 .none .none (.str (S "cpy313.email.utils") 187) (.ref 27) 0
def o1_29 (P : Params) : Obj := ⟨(.type "tuple"), none, (.seq #[] 0), #[]⟩
def o1_30 (P : Params) : Obj := ⟨.none, none, (.fields #[]), #[]⟩
def o1_31 (P : Params) : Obj := ⟨(.type "tuple"), none, (.seq #[(.str (S "addr") 214), (.str (S "opens") 215), (.str (S "pos") 216), (.str (S "ch") 217)] 0), #[]⟩
def o1_32 (P : Params) : Obj := ⟨(.type "tuple"), none, (.seq #[] 0), #[]⟩
def o1_33 (P : Params) : Obj := fnO .none (S "_check_parenthesis") 3 0 .none .none .none .none 0
def o1_34 (P : Params) : Obj := ⟨(.type "code"), none, (.fields #[(.str (S "_check_parenthesis") 211), (.str (S "_check_parenthesis") 212), (.str (S "/claim/cut.py") 213), (.int 33 0), (.int 1 0), (.int 0 0), (.int 0 0), (.int 3 0), (.ref 29), (.bool true), (.int 181 0), (.ref 30), .none, (.ref 31), (.ref 32), (.ref 33), (.int 218 0), (.int 33 0), (.str (S "/claim/cut.py") 219)]), #[]⟩
def o1_35 (P : Params) : Obj := fnO (.type "function") (S "_check_parenthesis") 3 3 .none .none (.str (S "cpy313.email.utils") 187) (.ref 34) 0
def o1_36 (P : Params) : Obj := ⟨(.type "tuple"), none, (.seq #[(.int 0 223), .none] 0), #[]⟩
def o1_37 (P : Params) : Obj := ⟨(.type "dict"), none, (.dict #[(de P "key" 224 .none)] 1), #[]⟩
def o1_38 (P : Params) : Obj := ⟨(.type "tuple"), none, (.seq #[] 0), #[]⟩
def o1_39 (P : Params) : Obj := ⟨.none, none, (.fields #[]), #[]⟩
def o1_40 (P : Params) : Obj := ⟨(.type "tuple"), none, (.seq #[(.str (S "a") 228), (.str (S "x") 229), (.str (S "lo") 230), (.str (S "hi") 231), (.str (S "key") 232), (.str (S "mid") 233)] 0), #[]⟩
def o1_41 (P : Params) : Obj := ⟨(.type "tuple"), none, (.seq #[] 0), #[]⟩
def o1_42 (P : Params) : Obj := fnO .none (S "bisect_right") 5 0 .none .none .none .none 0
def o1_43 (P : Params) : Obj := ⟨(.type "code"), none, (.fields #[(.str (S "bisect_right") 225), (.str (S "bisect_right") 226), (.str (S "/claim/cut.py") 227), (.int 45 0), (.int 4 0), (.int 0 0), (.int 1 0), (.int 3 0), (.ref 38), (.bool true), (.int 181 0), (.ref 39), .none, (.ref 40), (.ref 41), (.ref 42), (.int 234 0), (.int 45 0), (.str (S "/claim/cut.py") 235)]), #[]⟩
def o1_44 (P : Params) : Obj := fnO (.type "function") (S "bisect_right") 5 3 (.ref 36) (.ref 37) (.str (S "cpy313.bisect") 221) (.ref 43) 0
def o1_45 (P : Params) : Obj := ⟨(.type "tuple"), none, (.seq #[(.int 0 237), .none] 0), #[]⟩
def o1_46 (P : Params) : Obj := ⟨(.type "dict"), none, (.dict #[(de P "key" 238 .none)] 1), #[]⟩
def o1_47 (P : Params) : Obj := ⟨(.type "tuple"), none, (.seq #[] 0), #[]⟩
def o1_48 (P : Params) : Obj := ⟨.none, none, (.fields #[]), #[]⟩
def o1_49 (P : Params) : Obj := ⟨(.type "tuple"), none, (.seq #[(.str (S "a") 242), (.str (S "x") 243), (.str (S "lo") 244), (.str (S "hi") 245), (.str (S "key") 246), (.str (S "mid") 247)] 0), #[]⟩
def o1_50 (P : Params) : Obj := ⟨(.type "tuple"), none, (.seq #[] 0), #[]⟩
def o1_51 (P : Params) : Obj := fnO .none (S "bisect_left") 6 0 .none .none .none .none 0
def o1_52 (P : Params) : Obj := ⟨(.type "code"), none, (.fields #[(.str (S "bisect_left") 239), (.str (S "bisect_left") 240), (.str (S "/claim/cut.py") 241), (.int 65 0), (.int 4 0), (.int 0 0), (.int 1 0), (.int 3 0), (.ref 47), (.bool true), (.int 181 0), (.ref 48), .none, (.ref 49), (.ref 50), (.ref 51), (.int 248 0), (.int 65 0), (.str (S "/claim/cut.py") 249)]), #[]⟩
def o1_53 (P : Params) : Obj := fnO (.type "function") (S "bisect_left") 6 3 (.ref 45) (.ref 46) (.str (S "cpy313.bisect") 221) (.ref 52) 0
def t1 (P : Params) : BT := (.node (boot_o_0 P) (.node (boot_o_1 P) (.node (o1_3 P) (.node (boot_o_7 P) (.node (o1_15 P) (.node (o1_31 P) .nil .nil) (.node (o1_47 P) .nil .nil)) (.node (o1_23 P) (.node (o1_39 P) .nil .nil) .nil)) (.node (oa_11 P) (.node (o1_19 P) (.node (o1_35 P) .nil .nil) (.node (o1_51 P) .nil .nil)) (.node (o1_27 P) (.node (o1_43 P) .nil .nil) .nil))) (.node (boot_o_5 P) (.node (boot_o_9 P) (.node (o1_17 P) (.node (o1_33 P) .nil .nil) (.node (o1_49 P) .nil .nil)) (.node (o1_25 P) (.node (o1_41 P) .nil .nil) .nil)) (.node (oa_13 P) (.node (o1_21 P) (.node (o1_37 P) .nil .nil) (.node (o1_53 P) .nil .nil)) (.node (o1_29 P) (.node (o1_45 P) .nil .nil) .nil)))) (.node (boot_o_2 P) (.node (boot_o_4 P) (.node (boot_o_8 P) (.node (o1_16 P) (.node (o1_32 P) .nil .nil) (.node (o1_48 P) .nil .nil)) (.node (o1_24 P) (.node (o1_40 P) .nil .nil) .nil)) (.node (o1_12 P) (.node (o1_20 P) (.node (o1_36 P) .nil .nil) (.node (o1_52 P) .nil .nil)) (.node (o1_28 P) (.node (o1_44 P) .nil .nil) .nil))) (.node (boot_o_6 P) (.node (boot_o_10 P) (.node (o1_18 P) (.node (o1_34 P) .nil .nil) (.node (o1_50 P) .nil .nil)) (.node (o1_26 P) (.node (o1_42 P) .nil .nil) .nil)) (.node (oa_14 P) (.node (o1_22 P) (.node (o1_38 P) .nil .nil) .nil) (.node (o1_30 P) (.node (o1_46 P) .nil .nil) .nil)))))
def o2_3 (P : Params) : Obj := ⟨(.type "dict"), none, (.dict #[(de P "__name__" 165 (.str (S "cpy313.stringprep") 251)), (de P "__doc__" 166 .none), (de P "__package__" 167 .none), (de P "__loader__" 168 (.builtin "__main__.__loader__#opaque")), (de P "__spec__" 169 .none), (de P "__annotations__" 170 (.ref 6)), (de P "__builtins__" 171 (.ref 4)), (de P "__file__" 173 (.str (S "/claim/cut.py") 172)), (de P "__cached__" 174 .none), (de P "_iter_escaped_chars" 198 (.ref 21)), (de P "_strip_quoted_realnames" 210 (.ref 28)), (de P "_check_parenthesis" 220 (.ref 35)), (de P "bisect_right" 236 (.ref 44)), (de P "bisect_left" 250 (.ref 53)), (de P "b1_set" 312 (.ref 61))] 15), #[]⟩
def o2_54 (P : Params) : Obj := ⟨(.type "list"), none, (.seq #[(.int 173 253), (.int 847 254), (.int 6150 255), (.int 6155 256), (.int 6156 257), (.int 6157 258), (.int 8203 259), (.int 8204 260), (.int 8205 261), (.int 8288 262), (.int 65279 263)] 0), #[]⟩
def o2_55 (P : Params) : Obj := ⟨(.type "range"), none, (.fields #[(.int 65024 264), (.int 65040 265), (.int 1 266)]), #[]⟩
def o2_56 (P : Params) : Obj := ⟨(.type "list"), none, (.seq #[(.int 65024 269), (.int 65025 270), (.int 65026 271), (.int 65027 272), (.int 65028 273), (.int 65029 274), (.int 65030 275), (.int 65031 276), (.int 65032 277), (.int 65033 278), (.int 65034 279), (.int 65035 280), (.int 65036 281), (.int 65037 282), (.int 65038 283), (.int 65039 284)] 18), #[]⟩
def o2_57 (P : Params) : Obj := ⟨(.type "range_iterator"), none, (.fields #[(.int 65040 0), (.int 0 0), (.int 1 0)]), #[]⟩
def o2_58 (P : Params) : Obj := ⟨(.type "tuple"), none, (.seq #[] 0), #[]⟩
def o2_59 (P : Params) : Obj := ⟨(.type "StopIteration"), none, (.fields #[(.ref 58), .none, .none, .none, (.bool false), .none]), #[]⟩
def o2_60 (P : Params) : Obj := ⟨(.type "list"), none, (.seq #[(.int 173 253), (.int 847 254), (.int 6150 255), (.int 6155 256), (.int 6156 257), (.int 6157 258), (.int 8203 259), (.int 8204 260), (.int 8205 261), (.int 8288 262), (.int 65279 263), (.int 65024 269), (.int 65025 270), (.int 65026 271), (.int 65027 272), (.int 65028 273), (.int 65029 274), (.int 65030 275), (.int 65031 276), (.int 65032 277), (.int 65033 278), (.int 65034 279), (.int 65035 280), (.int 65036 281), (.int 65037 282), (.int 65038 283), (.int 65039 284)] 0), #[]⟩
def o2_61 (P : Params) : Obj := ⟨(.type "set"), none, (.set #[(65024, (.int 65024 269)), (65025, (.int 65025 270)), (65026, (.int 65026 271)), (65027, (.int 65027 272)), (65028, (.int 65028 273)), (65029, (.int 65029 274)), (6150, (.int 6150 255)), (65030, (.int 65030 275)), (65031, (.int 65031 276)), (65032, (.int 65032 277)), (65033, (.int 65033 278)), (6155, (.int 6155 256)), (6156, (.int 6156 257)), (6157, (.int 6157 258)), (8203, (.int 8203 259)), (8204, (.int 8204 260)), (8205, (.int 8205 261)), (65034, (.int 65034 279)), (65035, (.int 65035 280)), (65036, (.int 65036 281)), (65037, (.int 65037 282)), (65038, (.int 65038 283)), (65039, (.int 65039 284)), (173, (.int 173 253)), (847, (.int 847 254)), (8288, (.int 8288 262)), (65279, (.int 65279 263))] 29 { mask := 127, place := #[0, 1, 2, 3, 4, 5, 6, 7, 8, 9, 10, 11, 12, 13, 14, 15, 16, 17, 18, 19, 20, 21, 22, 45, 79, 96, 127], dummies := #[], finger := 0, led := !P.followText "set-order", moves := 2, plain := true }), #[]⟩
def o2_62 (P : Params) : Obj := ⟨(.type "list_iterator"), none, (.fields #[.none, (.int 27 0)]), #[]⟩
def o2_63 (P : Params) : Obj := ⟨(.type "tuple"), none, (.seq #[] 0), #[]⟩
def o2_64 (P : Params) : Obj := ⟨(.type "StopIteration"), none, (.fields #[(.ref 63), .none, .none, .none, (.bool false), .none]), #[]⟩
def t2 (P : Params) : BT := (.node (boot_o_0 P) (.node (boot_o_1 P) (.node (o2_3 P) (.node (boot_o_7 P) (.node (o1_15 P) (.node (o1_31 P) (.node (o2_63 P) .nil .nil) .nil) (.node (o1_47 P) .nil .nil)) (.node (o1_23 P) (.node (o1_39 P) .nil .nil) (.node (o2_55 P) .nil .nil))) (.node (oa_11 P) (.node (o1_19 P) (.node (o1_35 P) .nil .nil) (.node (o1_51 P) .nil .nil)) (.node (o1_27 P) (.node (o1_43 P) .nil .nil) (.node (o2_59 P) .nil .nil)))) (.node (boot_o_5 P) (.node (boot_o_9 P) (.node (o1_17 P) (.node (o1_33 P) .nil .nil) (.node (o1_49 P) .nil .nil)) (.node (o1_25 P) (.node (o1_41 P) .nil .nil) (.node (o2_57 P) .nil .nil))) (.node (oa_13 P) (.node (o1_21 P) (.node (o1_37 P) .nil .nil) (.node (o1_53 P) .nil .nil)) (.node (o1_29 P) (.node (o1_45 P) .nil .nil) (.node (o2_61 P) .nil .nil))))) (.node (boot_o_2 P) (.node (boot_o_4 P) (.node (boot_o_8 P) (.node (o1_16 P) (.node (o1_32 P) (.node (o2_64 P) .nil .nil) .nil) (.node (o1_48 P) .nil .nil)) (.node (o1_24 P) (.node (o1_40 P) .nil .nil) (.node (o2_56 P) .nil .nil))) (.node (o1_12 P) (.node (o1_20 P) (.node (o1_36 P) .nil .nil) (.node (o1_52 P) .nil .nil)) (.node (o1_28 P) (.node (o1_44 P) .nil .nil) (.node (o2_60 P) .nil .nil)))) (.node (boot_o_6 P) (.node (boot_o_10 P) (.node (o1_18 P) (.node (o1_34 P) .nil .nil) (.node (o1_50 P) .nil .nil)) (.node (o1_26 P) (.node (o1_42 P) .nil .nil) (.node (o2_58 P) .nil .nil))) (.node (oa_14 P) (.node (o1_22 P) (.node (o1_38 P) .nil .nil) (.node (o2_54 P) .nil .nil)) (.node (o1_30 P) (.node (o1_46 P) .nil .nil) (.node (o2_62 P) .nil .nil))))))
def o3_3 (P : Params) : Obj := ⟨(.type "dict"), none, (.dict #[(de P "__name__" 165 (.str (S "cpy313.stringprep") 251)), (de P "__doc__" 166 .none), (de P "__package__" 167 .none), (de P "__loader__" 168 (.builtin "__main__.__loader__#opaque")), (de P "__spec__" 169 .none), (de P "__annotations__" 170 (.ref 6)), (de P "__builtins__" 171 (.ref 4)), (de P "__file__" 173 (.str (S "/claim/cut.py") 172)), (de P "__cached__" 174 .none), (de P "_iter_escaped_chars" 198 (.ref 21)), (de P "_strip_quoted_realnames" 210 (.ref 28)), (de P "_check_parenthesis" 220 (.ref 35)), (de P "bisect_right" 236 (.ref 44)), (de P "bisect_left" 250 (.ref 53)), (de P "b1_set" 312 (.ref 61)), (de P "in_table_b1" 319 (.ref 71))] 16), #[]⟩
def o3_12 (P : Params) : Obj := ⟨.none, none, (.fields #[(.int 2 0), (.int 0 0), (.ref 20), (.int 15 0), (.int 0 0), (.ref 27), (.int 33 0), (.int 0 0), (.ref 34), (.int 45 0), (.int 0 0), (.ref 43), (.int 65 0), (.int 0 0), (.ref 52), (.int 87 0), (.int 0 0), (.ref 70)]), #[]⟩
def o3_65 (P : Params) : Obj := ⟨(.type "tuple"), none, (.seq #[] 0), #[]⟩
def o3_66 (P : Params) : Obj := ⟨.none, none, (.fields #[]), #[]⟩
def o3_67 (P : Params) : Obj := ⟨(.type "tuple"), none, (.seq #[(.str (S "code") 316)] 0), #[]⟩
def o3_68 (P : Params) : Obj := ⟨(.type "tuple"), none, (.seq #[] 0), #[]⟩
def o3_69 (P : Params) : Obj := fnO .none (S "in_table_b1") 9 0 .none .none .none .none 0
def o3_70 (P : Params) : Obj := ⟨(.type "code"), none, (.fields #[(.str (S "in_table_b1") 313), (.str (S "in_table_b1") 314), (.str (S "/claim/cut.py") 315), (.int 87 0), (.int 1 0), (.int 0 0), (.int 0 0), (.int 3 0), (.ref 65), (.bool true), (.int 181 0), (.ref 66), .none, (.ref 67), (.ref 68), (.ref 69), (.int 317 0), (.int 87 0), (.str (S "/claim/cut.py") 318)]), #[]⟩
def o3_71 (P : Params) : Obj := fnO (.type "function") (S "in_table_b1") 9 3 .none .none (.str (S "cpy313.stringprep") 251) (.ref 70) 0
def t3 (P : Params) : BT := (.node (boot_o_0 P) (.node (boot_o_1 P) (.node (o3_3 P) (.node (boot_o_7 P) (.node (o1_15 P) (.node (o1_31 P) (.node (o2_63 P) .nil .nil) .nil) (.node (o1_47 P) .nil .nil)) (.node (o1_23 P) (.node (o1_39 P) (.node (o3_71 P) .nil .nil) .nil) (.node (o2_55 P) .nil .nil))) (.node (oa_11 P) (.node (o1_19 P) (.node (o1_35 P) (.node (o3_67 P) .nil .nil) .nil) (.node (o1_51 P) .nil .nil)) (.node (o1_27 P) (.node (o1_43 P) .nil .nil) (.node (o2_59 P) .nil .nil)))) (.node (boot_o_5 P) (.node (boot_o_9 P) (.node (o1_17 P) (.node (o1_33 P) (.node (o3_65 P) .nil .nil) .nil) (.node (o1_49 P) .nil .nil)) (.node (o1_25 P) (.node (o1_41 P) .nil .nil) (.node (o2_57 P) .nil .nil))) (.node (oa_13 P) (.node (o1_21 P) (.node (o1_37 P) (.node (o3_69 P) .nil .nil) .nil) (.node (o1_53 P) .nil .nil)) (.node (o1_29 P) (.node (o1_45 P) .nil .nil) (.node (o2_61 P) .nil .nil))))) (.node (boot_o_2 P) (.node (boot_o_4 P) (.node (boot_o_8 P) (.node (o1_16 P) (.node (o1_32 P) (.node (o2_64 P) .nil .nil) .nil) (.node (o1_48 P) .nil .nil)) (.node (o1_24 P) (.node (o1_40 P) .nil .nil) (.node (o2_56 P) .nil .nil))) (.node (o3_12 P) (.node (o1_20 P) (.node (o1_36 P) (.node (o3_68 P) .nil .nil) .nil) (.node (o1_52 P) .nil .nil)) (.node (o1_28 P) (.node (o1_44 P) .nil .nil) (.node (o2_60 P) .nil .nil)))) (.node (boot_o_6 P) (.node (boot_o_10 P) (.node (o1_18 P) (.node (o1_34 P) (.node (o3_66 P) .nil .nil) .nil) (.node (o1_50 P) .nil .nil)) (.node (o1_26 P) (.node (o1_42 P) .nil .nil) (.node (o2_58 P) .nil .nil))) (.node (oa_14 P) (.node (o1_22 P) (.node (o1_38 P) (.node (o3_70 P) .nil .nil) .nil) (.node (o2_54 P) .nil .nil)) (.node (o1_30 P) (.node (o1_46 P) .nil .nil) (.node (o2_62 P) .nil .nil))))))
def o4_3 (P : Params) : Obj := ⟨(.type "dict"), none, (.dict #[(de P "__name__" 165 (.str (S "cpy313.stringprep") 251)), (de P "__doc__" 166 .none), (de P "__package__" 167 .none), (de P "__loader__" 168 (.builtin "__main__.__loader__#opaque")), (de P "__spec__" 169 .none), (de P "__annotations__" 170 (.ref 6)), (de P "__builtins__" 171 (.ref 4)), (de P "__file__" 173 (.str (S "/claim/cut.py") 172)), (de P "__cached__" 174 .none), (de P "_iter_escaped_chars" 198 (.ref 21)), (de P "_strip_quoted_realnames" 210 (.ref 28)), (de P "_check_parenthesis" 220 (.ref 35)), (de P "bisect_right" 236 (.ref 44)), (de P "bisect_left" 250 (.ref 53)), (de P "b1_set" 312 (.ref 61)), (de P "in_table_b1" 319 (.ref 71)), (de P "b3_exceptions" 2270 (.ref 72))] 17), #[]⟩
def t4 (P : Params) : BT := (.node (boot_o_0 P) (.node (boot_o_1 P) (.node (o4_3 P) (.node (boot_o_7 P) (.node (o1_15 P) (.node (o1_31 P) (.node (o2_63 P) .nil .nil) (.node (b3o23 P) .nil .nil)) (.node (o1_47 P) (.node (b3o7 P) .nil .nil) .nil)) (.node (o1_23 P) (.node (o1_39 P) (.node (o3_71 P) .nil .nil) (.node (b3o31 P) .nil .nil)) (.node (o2_55 P) (.node (b3o15 P) .nil .nil) .nil))) (.node (oa_11 P) (.node (o1_19 P) (.node (o1_35 P) (.node (o3_67 P) .nil .nil) (.node (b3o27 P) .nil .nil)) (.node (o1_51 P) (.node (b3o11 P) .nil .nil) .nil)) (.node (o1_27 P) (.node (o1_43 P) (.node (b3o3 P) .nil .nil) (.node (b3o35 P) .nil .nil)) (.node (o2_59 P) (.node (b3o19 P) .nil .nil) .nil)))) (.node (boot_o_5 P) (.node (boot_o_9 P) (.node (o1_17 P) (.node (o1_33 P) (.node (o3_65 P) .nil .nil) (.node (b3o25 P) .nil .nil)) (.node (o1_49 P) (.node (b3o9 P) .nil .nil) .nil)) (.node (o1_25 P) (.node (o1_41 P) (.node (b3o1 P) .nil .nil) (.node (b3o33 P) .nil .nil)) (.node (o2_57 P) (.node (b3o17 P) .nil .nil) .nil))) (.node (oa_13 P) (.node (o1_21 P) (.node (o1_37 P) (.node (o3_69 P) .nil .nil) (.node (b3o29 P) .nil .nil)) (.node (o1_53 P) (.node (b3o13 P) .nil .nil) .nil)) (.node (o1_29 P) (.node (o1_45 P) (.node (b3o5 P) .nil .nil) (.node (b3o37 P) .nil .nil)) (.node (o2_61 P) (.node (b3o21 P) .nil .nil) .nil))))) (.node (boot_o_2 P) (.node (boot_o_4 P) (.node (boot_o_8 P) (.node (o1_16 P) (.node (o1_32 P) (.node (o2_64 P) .nil .nil) (.node (b3o24 P) .nil .nil)) (.node (o1_48 P) (.node (b3o8 P) .nil .nil) .nil)) (.node (o1_24 P) (.node (o1_40 P) (.node (b3o0 P) .nil .nil) (.node (b3o32 P) .nil .nil)) (.node (o2_56 P) (.node (b3o16 P) .nil .nil) .nil))) (.node (o3_12 P) (.node (o1_20 P) (.node (o1_36 P) (.node (o3_68 P) .nil .nil) (.node (b3o28 P) .nil .nil)) (.node (o1_52 P) (.node (b3o12 P) .nil .nil) .nil)) (.node (o1_28 P) (.node (o1_44 P) (.node (b3o4 P) .nil .nil) (.node (b3o36 P) .nil .nil)) (.node (o2_60 P) (.node (b3o20 P) .nil .nil) .nil)))) (.node (boot_o_6 P) (.node (boot_o_10 P) (.node (o1_18 P) (.node (o1_34 P) (.node (o3_66 P) .nil .nil) (.node (b3o26 P) .nil .nil)) (.node (o1_50 P) (.node (b3o10 P) .nil .nil) .nil)) (.node (o1_26 P) (.node (o1_42 P) (.node (b3o2 P) .nil .nil) (.node (b3o34 P) .nil .nil)) (.node (o2_58 P) (.node (b3o18 P) .nil .nil) .nil))) (.node (oa_14 P) (.node (o1_22 P) (.node (o1_38 P) (.node (o3_70 P) .nil .nil) (.node (b3o30 P) .nil .nil)) (.node (o2_54 P) (.node (b3o14 P) .nil .nil) .nil)) (.node (o1_30 P) (.node (o1_46 P) (.node (b3o6 P) .nil .nil) (.node (b3o38 P) .nil .nil)) (.node (o2_62 P) (.node (b3o22 P) .nil .nil) .nil))))))
def o5_3 (P : Params) : Obj := ⟨(.type "dict"), none, (.dict #[(de P "__name__" 165 (.str (S "cpy313.token") 2279)), (de P "__doc__" 166 .none), (de P "__package__" 167 .none), (de P "__loader__" 168 (.builtin "__main__.__loader__#opaque")), (de P "__spec__" 169 .none), (de P "__annotations__" 170 (.ref 6)), (de P "__builtins__" 171 (.ref 4)), (de P "__file__" 173 (.str (S "/claim/cut.py") 172)), (de P "__cached__" 174 .none), (de P "_iter_escaped_chars" 198 (.ref 21)), (de P "_strip_quoted_realnames" 210 (.ref 28)), (de P "_check_parenthesis" 220 (.ref 35)), (de P "bisect_right" 236 (.ref 44)), (de P "bisect_left" 250 (.ref 53)), (de P "b1_set" 312 (.ref 61)), (de P "in_table_b1" 319 (.ref 71)), (de P "b3_exceptions" 2270 (.ref 72)), (de P "map_table_b3" 2278 (.ref 117)), (de P "ENDMARKER" 2282 (.int 0 2281)), (de P "LPAR" 2284 (.int 7 2283)), (de P "RPAR" 2286 (.int 8 2285)), (de P "LSQB" 2288 (.int 9 2287)), (de P "RSQB" 2290 (.int 10 2289)), (de P "COLON" 2292 (.int 11 2291)), (de P "COMMA" 2294 (.int 12 2293)), (de P "SEMI" 2296 (.int 13 2295)), (de P "PLUS" 2298 (.int 14 2297)), (de P "MINUS" 2300 (.int 15 2299)), (de P "STAR" 2302 (.int 16 2301)), (de P "SLASH" 2304 (.int 17 2303)), (de P "VBAR" 2306 (.int 18 2305)), (de P "AMPER" 2308 (.int 19 2307)), (de P "LESS" 2310 (.int 20 2309)), (de P "GREATER" 2312 (.int 21 2311)), (de P "EQUAL" 2314 (.int 22 2313)), (de P "DOT" 2316 (.int 23 2315)), (de P "PERCENT" 2318 (.int 24 2317)), (de P "LBRACE" 2320 (.int 25 2319)), (de P "RBRACE" 2322 (.int 26 2321)), (de P "EQEQUAL" 2324 (.int 27 2323)), (de P "NOTEQUAL" 2326 (.int 28 2325)), (de P "LESSEQUAL" 2328 (.int 29 2327)), (de P "GREATEREQUAL" 2330 (.int 30 2329)), (de P "TILDE" 2332 (.int 31 2331)), (de P "CIRCUMFLEX" 2334 (.int 32 2333)), (de P "LEFTSHIFT" 2336 (.int 33 2335)), (de P "RIGHTSHIFT" 2338 (.int 34 2337)), (de P "DOUBLESTAR" 2340 (.int 35 2339)), (de P "PLUSEQUAL" 2342 (.int 36 2341)), (de P "MINEQUAL" 2344 (.int 37 2343)), (de P "STAREQUAL" 2346 (.int 38 2345)), (de P "SLASHEQUAL" 2348 (.int 39 2347)), (de P "PERCENTEQUAL" 2350 (.int 40 2349)), (de P "AMPEREQUAL" 2352 (.int 41 2351)), (de P "VBAREQUAL" 2354 (.int 42 2353)), (de P "CIRCUMFLEXEQUAL" 2356 (.int 43 2355)), (de P "LEFTSHIFTEQUAL" 2358 (.int 44 2357)), (de P "RIGHTSHIFTEQUAL" 2360 (.int 45 2359)), (de P "DOUBLESTAREQUAL" 2362 (.int 46 2361)), (de P "DOUBLESLASH" 2364 (.int 47 2363)), (de P "DOUBLESLASHEQUAL" 2366 (.int 48 2365)), (de P "AT" 2368 (.int 49 2367)), (de P "ATEQUAL" 2370 (.int 50 2369)), (de P "RARROW" 2372 (.int 51 2371)), (de P "ELLIPSIS" 2374 (.int 52 2373)), (de P "COLONEQUAL" 2376 (.int 53 2375)), (de P "EXCLAMATION" 2378 (.int 54 2377)), (de P "NT_OFFSET" 2380 (.int 256 2379))] 68), #[]⟩
def o5_12 (P : Params) : Obj := ⟨.none, none, (.fields #[(.int 2 0), (.int 0 0), (.ref 20), (.int 15 0), (.int 0 0), (.ref 27), (.int 33 0), (.int 0 0), (.ref 34), (.int 45 0), (.int 0 0), (.ref 43), (.int 65 0), (.int 0 0), (.ref 52), (.int 87 0), (.int 0 0), (.ref 70), (.int 90 0), (.int 0 0), (.ref 116)]), #[]⟩
def o5_111 (P : Params) : Obj := ⟨(.type "tuple"), none, (.seq #[] 0), #[]⟩
def o5_112 (P : Params) : Obj := ⟨.none, none, (.fields #[]), #[]⟩
def o5_113 (P : Params) : Obj := ⟨(.type "tuple"), none, (.seq #[(.str (S "code") 2274), (.str (S "r") 2275)] 0), #[]⟩
def o5_114 (P : Params) : Obj := ⟨(.type "tuple"), none, (.seq #[] 0), #[]⟩
def o5_115 (P : Params) : Obj := fnO .none (S "map_table_b3") 11 0 .none .none .none .none 0
def o5_116 (P : Params) : Obj := ⟨(.type "code"), none, (.fields #[(.str (S "map_table_b3") 2271), (.str (S "map_table_b3") 2272), (.str (S "/claim/cut.py") 2273), (.int 90 0), (.int 1 0), (.int 0 0), (.int 0 0), (.int 3 0), (.ref 111), (.bool true), (.int 181 0), (.ref 112), .none, (.ref 113), (.ref 114), (.ref 115), (.int 2276 0), (.int 90 0), (.str (S "/claim/cut.py") 2277)]), #[]⟩
def o5_117 (P : Params) : Obj := fnO (.type "function") (S "map_table_b3") 11 3 .none .none (.str (S "cpy313.stringprep") 251) (.ref 116) 0
def t5 (P : Params) : BT := (.node (boot_o_0 P) (.node (boot_o_1 P) (.node (o5_3 P) (.node (boot_o_7 P) (.node (o1_15 P) (.node (o1_31 P) (.node (o2_63 P) .nil .nil) (.node (b3o23 P) .nil .nil)) (.node (o1_47 P) (.node (b3o7 P) .nil .nil) (.node (o5_111 P) .nil .nil))) (.node (o1_23 P) (.node (o1_39 P) (.node (o3_71 P) .nil .nil) (.node (b3o31 P) .nil .nil)) (.node (o2_55 P) (.node (b3o15 P) .nil .nil) .nil))) (.node (oa_11 P) (.node (o1_19 P) (.node (o1_35 P) (.node (o3_67 P) .nil .nil) (.node (b3o27 P) .nil .nil)) (.node (o1_51 P) (.node (b3o11 P) .nil .nil) (.node (o5_115 P) .nil .nil))) (.node (o1_27 P) (.node (o1_43 P) (.node (b3o3 P) .nil .nil) (.node (b3o35 P) .nil .nil)) (.node (o2_59 P) (.node (b3o19 P) .nil .nil) .nil)))) (.node (boot_o_5 P) (.node (boot_o_9 P) (.node (o1_17 P) (.node (o1_33 P) (.node (o3_65 P) .nil .nil) (.node (b3o25 P) .nil .nil)) (.node (o1_49 P) (.node (b3o9 P) .nil .nil) (.node (o5_113 P) .nil .nil))) (.node (o1_25 P) (.node (o1_41 P) (.node (b3o1 P) .nil .nil) (.node (b3o33 P) .nil .nil)) (.node (o2_57 P) (.node (b3o17 P) .nil .nil) .nil))) (.node (oa_13 P) (.node (o1_21 P) (.node (o1_37 P) (.node (o3_69 P) .nil .nil) (.node (b3o29 P) .nil .nil)) (.node (o1_53 P) (.node (b3o13 P) .nil .nil) (.node (o5_117 P) .nil .nil))) (.node (o1_29 P) (.node (o1_45 P) (.node (b3o5 P) .nil .nil) (.node (b3o37 P) .nil .nil)) (.node (o2_61 P) (.node (b3o21 P) .nil .nil) .nil))))) (.node (boot_o_2 P) (.node (boot_o_4 P) (.node (boot_o_8 P) (.node (o1_16 P) (.node (o1_32 P) (.node (o2_64 P) .nil .nil) (.node (b3o24 P) .nil .nil)) (.node (o1_48 P) (.node (b3o8 P) .nil .nil) (.node (o5_112 P) .nil .nil))) (.node (o1_24 P) (.node (o1_40 P) (.node (b3o0 P) .nil .nil) (.node (b3o32 P) .nil .nil)) (.node (o2_56 P) (.node (b3o16 P) .nil .nil) .nil))) (.node (o5_12 P) (.node (o1_20 P) (.node (o1_36 P) (.node (o3_68 P) .nil .nil) (.node (b3o28 P) .nil .nil)) (.node (o1_52 P) (.node (b3o12 P) .nil .nil) (.node (o5_116 P) .nil .nil))) (.node (o1_28 P) (.node (o1_44 P) (.node (b3o4 P) .nil .nil) (.node (b3o36 P) .nil .nil)) (.node (o2_60 P) (.node (b3o20 P) .nil .nil) .nil)))) (.node (boot_o_6 P) (.node (boot_o_10 P) (.node (o1_18 P) (.node (o1_34 P) (.node (o3_66 P) .nil .nil) (.node (b3o26 P) .nil .nil)) (.node (o1_50 P) (.node (b3o10 P) .nil .nil) (.node (o5_114 P) .nil .nil))) (.node (o1_26 P) (.node (o1_42 P) (.node (b3o2 P) .nil .nil) (.node (b3o34 P) .nil .nil)) (.node (o2_58 P) (.node (b3o18 P) .nil .nil) .nil))) (.node (oa_14 P) (.node (o1_22 P) (.node (o1_38 P) (.node (o3_70 P) .nil .nil) (.node (b3o30 P) .nil .nil)) (.node (o2_54 P) (.node (b3o14 P) .nil .nil) .nil)) (.node (o1_30 P) (.node (o1_46 P) (.node (b3o6 P) .nil .nil) (.node (b3o38 P) .nil .nil)) (.node (o2_62 P) (.node (b3o22 P) .nil .nil) .nil))))))
def o6_3 (P : Params) : Obj := ⟨(.type "dict"), none, (.dict #[(de P "__name__" 165 (.str (S "cpy313.token") 2279)), (de P "__doc__" 166 .none), (de P "__package__" 167 .none), (de P "__loader__" 168 (.builtin "__main__.__loader__#opaque")), (de P "__spec__" 169 .none), (de P "__annotations__" 170 (.ref 6)), (de P "__builtins__" 171 (.ref 4)), (de P "__file__" 173 (.str (S "/claim/cut.py") 172)), (de P "__cached__" 174 .none), (de P "_iter_escaped_chars" 198 (.ref 21)), (de P "_strip_quoted_realnames" 210 (.ref 28)), (de P "_check_parenthesis" 220 (.ref 35)), (de P "bisect_right" 236 (.ref 44)), (de P "bisect_left" 250 (.ref 53)), (de P "b1_set" 312 (.ref 61)), (de P "in_table_b1" 319 (.ref 71)), (de P "b3_exceptions" 2270 (.ref 72)), (de P "map_table_b3" 2278 (.ref 117)), (de P "ENDMARKER" 2282 (.int 0 2281)), (de P "LPAR" 2284 (.int 7 2283)), (de P "RPAR" 2286 (.int 8 2285)), (de P "LSQB" 2288 (.int 9 2287)), (de P "RSQB" 2290 (.int 10 2289)), (de P "COLON" 2292 (.int 11 2291)), (de P "COMMA" 2294 (.int 12 2293)), (de P "SEMI" 2296 (.int 13 2295)), (de P "PLUS" 2298 (.int 14 2297)), (de P "MINUS" 2300 (.int 15 2299)), (de P "STAR" 2302 (.int 16 2301)), (de P "SLASH" 2304 (.int 17 2303)), (de P "VBAR" 2306 (.int 18 2305)), (de P "AMPER" 2308 (.int 19 2307)), (de P "LESS" 2310 (.int 20 2309)), (de P "GREATER" 2312 (.int 21 2311)), (de P "EQUAL" 2314 (.int 22 2313)), (de P "DOT" 2316 (.int 23 2315)), (de P "PERCENT" 2318 (.int 24 2317)), (de P "LBRACE" 2320 (.int 25 2319)), (de P "RBRACE" 2322 (.int 26 2321)), (de P "EQEQUAL" 2324 (.int 27 2323)), (de P "NOTEQUAL" 2326 (.int 28 2325)), (de P "LESSEQUAL" 2328 (.int 29 2327)), (de P "GREATEREQUAL" 2330 (.int 30 2329)), (de P "TILDE" 2332 (.int 31 2331)), (de P "CIRCUMFLEX" 2334 (.int 32 2333)), (de P "LEFTSHIFT" 2336 (.int 33 2335)), (de P "RIGHTSHIFT" 2338 (.int 34 2337)), (de P "DOUBLESTAR" 2340 (.int 35 2339)), (de P "PLUSEQUAL" 2342 (.int 36 2341)), (de P "MINEQUAL" 2344 (.int 37 2343)), (de P "STAREQUAL" 2346 (.int 38 2345)), (de P "SLASHEQUAL" 2348 (.int 39 2347)), (de P "PERCENTEQUAL" 2350 (.int 40 2349)), (de P "AMPEREQUAL" 2352 (.int 41 2351)), (de P "VBAREQUAL" 2354 (.int 42 2353)), (de P "CIRCUMFLEXEQUAL" 2356 (.int 43 2355)), (de P "LEFTSHIFTEQUAL" 2358 (.int 44 2357)), (de P "RIGHTSHIFTEQUAL" 2360 (.int 45 2359)), (de P "DOUBLESTAREQUAL" 2362 (.int 46 2361)), (de P "DOUBLESLASH" 2364 (.int 47 2363)), (de P "DOUBLESLASHEQUAL" 2366 (.int 48 2365)), (de P "AT" 2368 (.int 49 2367)), (de P "ATEQUAL" 2370 (.int 50 2369)), (de P "RARROW" 2372 (.int 51 2371)), (de P "ELLIPSIS" 2374 (.int 52 2373)), (de P "COLONEQUAL" 2376 (.int 53 2375)), (de P "EXCLAMATION" 2378 (.int 54 2377)), (de P "NT_OFFSET" 2380 (.int 256 2379)), (de P "EXACT_TOKEN_TYPES" 2477 (.ref 118))] 69), #[]⟩
def o6_118 (P : Params) : Obj := ⟨(.type "dict"), none, (.dict #[(de P "!" 2381 (.int 54 2377)), (de P "!=" 2383 (.int 28 2325)), (de P "%" 2385 (.int 24 2317)), (de P "%=" 2387 (.int 40 2349)), (de P "&" 2389 (.int 19 2307)), (de P "&=" 2391 (.int 41 2351)), (de P "(" 2393 (.int 7 2283)), (de P ")" 2395 (.int 8 2285)), (de P "*" 2397 (.int 16 2301)), (de P "**" 2399 (.int 35 2339)), (de P "**=" 2401 (.int 46 2361)), (de P "*=" 2403 (.int 38 2345)), (de P "+" 2405 (.int 14 2297)), (de P "+=" 2407 (.int 36 2341)), (de P "," 2409 (.int 12 2293)), (de P "-" 2411 (.int 15 2299)), (de P "-=" 2413 (.int 37 2343)), (de P "->" 2415 (.int 51 2371)), (de P "." 2417 (.int 23 2315)), (de P "..." 2419 (.int 52 2373)), (de P "/" 2421 (.int 17 2303)), (de P "//" 2423 (.int 47 2363)), (de P "//=" 2425 (.int 48 2365)), (de P "/=" 2427 (.int 39 2347)), (de P ":" 2429 (.int 11 2291)), (de P ":=" 2431 (.int 53 2375)), (de P ";" 2433 (.int 13 2295)), (de P "<" 2435 (.int 20 2309)), (de P "<<" 2437 (.int 33 2335)), (de P "<<=" 2439 (.int 44 2357)), (de P "<=" 2441 (.int 29 2327)), (de P "=" 2443 (.int 22 2313)), (de P "==" 2445 (.int 27 2323)), (de P ">" 2447 (.int 21 2311)), (de P ">=" 2449 (.int 30 2329)), (de P ">>" 2450 (.int 34 2337)), (de P ">>=" 2451 (.int 45 2359)), (de P "@" 2452 (.int 49 2367)), (de P "@=" 2453 (.int 50 2369)), (de P "[" 2454 (.int 9 2287)), (de P "]" 2455 (.int 10 2289)), (de P "^" 2456 (.int 32 2333)), (de P "^=" 2457 (.int 43 2355)), (de P "{" 2458 (.int 25 2319)), (de P "|" 2459 (.int 18 2305)), (de P "|=" 2460 (.int 42 2353)), (de P "}" 2461 (.int 26 2321)), (de P "~" 2462 (.int 31 2331))] 48), #[]⟩
def o6_119 (P : Params) : Obj := ⟨(.type "dict"), none, (.dict #[(de P "->" 2415 (.int 51 2371)), (de P "." 2417 (.int 23 2315)), (de P "..." 2419 (.int 52 2373)), (de P "/" 2421 (.int 17 2303)), (de P "//" 2423 (.int 47 2363)), (de P "//=" 2425 (.int 48 2365)), (de P "/=" 2427 (.int 39 2347)), (de P ":" 2429 (.int 11 2291)), (de P ":=" 2431 (.int 53 2375)), (de P ";" 2433 (.int 13 2295)), (de P "<" 2435 (.int 20 2309)), (de P "<<" 2437 (.int 33 2335)), (de P "<<=" 2439 (.int 44 2357)), (de P "<=" 2441 (.int 29 2327)), (de P "=" 2443 (.int 22 2313)), (de P "==" 2445 (.int 27 2323)), (de P ">" 2447 (.int 21 2311))] 17), #[]⟩
def o6_120 (P : Params) : Obj := ⟨(.type "dict"), none, (.dict #[(de P ">=" 2449 (.int 30 2329)), (de P ">>" 2450 (.int 34 2337)), (de P ">>=" 2451 (.int 45 2359)), (de P "@" 2452 (.int 49 2367)), (de P "@=" 2453 (.int 50 2369)), (de P "[" 2454 (.int 9 2287)), (de P "]" 2455 (.int 10 2289)), (de P "^" 2456 (.int 32 2333)), (de P "^=" 2457 (.int 43 2355)), (de P "{" 2458 (.int 25 2319)), (de P "|" 2459 (.int 18 2305)), (de P "|=" 2460 (.int 42 2353)), (de P "}" 2461 (.int 26 2321)), (de P "~" 2462 (.int 31 2331))] 14), #[]⟩
def t6 (P : Params) : BT := (.node (boot_o_0 P) (.node (boot_o_1 P) (.node (o6_3 P) (.node (boot_o_7 P) (.node (o1_15 P) (.node (o1_31 P) (.node (o2_63 P) .nil .nil) (.node (b3o23 P) .nil .nil)) (.node (o1_47 P) (.node (b3o7 P) .nil .nil) (.node (o5_111 P) .nil .nil))) (.node (o1_23 P) (.node (o1_39 P) (.node (o3_71 P) .nil .nil) (.node (b3o31 P) .nil .nil)) (.node (o2_55 P) (.node (b3o15 P) .nil .nil) (.node (o6_119 P) .nil .nil)))) (.node (oa_11 P) (.node (o1_19 P) (.node (o1_35 P) (.node (o3_67 P) .nil .nil) (.node (b3o27 P) .nil .nil)) (.node (o1_51 P) (.node (b3o11 P) .nil .nil) (.node (o5_115 P) .nil .nil))) (.node (o1_27 P) (.node (o1_43 P) (.node (b3o3 P) .nil .nil) (.node (b3o35 P) .nil .nil)) (.node (o2_59 P) (.node (b3o19 P) .nil .nil) .nil)))) (.node (boot_o_5 P) (.node (boot_o_9 P) (.node (o1_17 P) (.node (o1_33 P) (.node (o3_65 P) .nil .nil) (.node (b3o25 P) .nil .nil)) (.node (o1_49 P) (.node (b3o9 P) .nil .nil) (.node (o5_113 P) .nil .nil))) (.node (o1_25 P) (.node (o1_41 P) (.node (b3o1 P) .nil .nil) (.node (b3o33 P) .nil .nil)) (.node (o2_57 P) (.node (b3o17 P) .nil .nil) .nil))) (.node (oa_13 P) (.node (o1_21 P) (.node (o1_37 P) (.node (o3_69 P) .nil .nil) (.node (b3o29 P) .nil .nil)) (.node (o1_53 P) (.node (b3o13 P) .nil .nil) (.node (o5_117 P) .nil .nil))) (.node (o1_29 P) (.node (o1_45 P) (.node (b3o5 P) .nil .nil) (.node (b3o37 P) .nil .nil)) (.node (o2_61 P) (.node (b3o21 P) .nil .nil) .nil))))) (.node (boot_o_2 P) (.node (boot_o_4 P) (.node (boot_o_8 P) (.node (o1_16 P) (.node (o1_32 P) (.node (o2_64 P) .nil .nil) (.node (b3o24 P) .nil .nil)) (.node (o1_48 P) (.node (b3o8 P) .nil .nil) (.node (o5_112 P) .nil .nil))) (.node (o1_24 P) (.node (o1_40 P) (.node (b3o0 P) .nil .nil) (.node (b3o32 P) .nil .nil)) (.node (o2_56 P) (.node (b3o16 P) .nil .nil) (.node (o6_120 P) .nil .nil)))) (.node (o5_12 P) (.node (o1_20 P) (.node (o1_36 P) (.node (o3_68 P) .nil .nil) (.node (b3o28 P) .nil .nil)) (.node (o1_52 P) (.node (b3o12 P) .nil .nil) (.node (o5_116 P) .nil .nil))) (.node (o1_28 P) (.node (o1_44 P) (.node (b3o4 P) .nil .nil) (.node (b3o36 P) .nil .nil)) (.node (o2_60 P) (.node (b3o20 P) .nil .nil) .nil)))) (.node (boot_o_6 P) (.node (boot_o_10 P) (.node (o1_18 P) (.node (o1_34 P) (.node (o3_66 P) .nil .nil) (.node (b3o26 P) .nil .nil)) (.node (o1_50 P) (.node (b3o10 P) .nil .nil) (.node (o5_114 P) .nil .nil))) (.node (o1_26 P) (.node (o1_42 P) (.node (b3o2 P) .nil .nil) (.node (b3o34 P) .nil .nil)) (.node (o2_58 P) (.node (b3o18 P) .nil .nil) .nil))) (.node (oa_14 P) (.node (o1_22 P) (.node (o1_38 P) (.node (o3_70 P) .nil .nil) (.node (b3o30 P) .nil .nil)) (.node (o2_54 P) (.node (b3o14 P) .nil .nil) (.node (o6_118 P) .nil .nil))) (.node (o1_30 P) (.node (o1_46 P) (.node (b3o6 P) .nil .nil) (.node (b3o38 P) .nil .nil)) (.node (o2_62 P) (.node (b3o22 P) .nil .nil) .nil))))))
def o7_3 (P : Params) : Obj := ⟨(.type "dict"), none, (.dict #[(de P "__name__" 165 (.str (S "law_wf0103_01") 2492)), (de P "__doc__" 166 .none), (de P "__package__" 167 .none), (de P "__loader__" 168 (.builtin "__main__.__loader__#opaque")), (de P "__spec__" 169 .none), (de P "__annotations__" 170 (.ref 6)), (de P "__builtins__" 171 (.ref 4)), (de P "__file__" 173 (.str (S "/claim/cut.py") 172)), (de P "__cached__" 174 .none), (de P "_iter_escaped_chars" 198 (.ref 21)), (de P "_strip_quoted_realnames" 210 (.ref 28)), (de P "_check_parenthesis" 220 (.ref 35)), (de P "bisect_right" 236 (.ref 44)), (de P "bisect_left" 250 (.ref 53)), (de P "b1_set" 312 (.ref 61)), (de P "in_table_b1" 319 (.ref 71)), (de P "b3_exceptions" 2270 (.ref 72)), (de P "map_table_b3" 2278 (.ref 117)), (de P "ENDMARKER" 2282 (.int 0 2281)), (de P "LPAR" 2284 (.int 7 2283)), (de P "RPAR" 2286 (.int 8 2285)), (de P "LSQB" 2288 (.int 9 2287)), (de P "RSQB" 2290 (.int 10 2289)), (de P "COLON" 2292 (.int 11 2291)), (de P "COMMA" 2294 (.int 12 2293)), (de P "SEMI" 2296 (.int 13 2295)), (de P "PLUS" 2298 (.int 14 2297)), (de P "MINUS" 2300 (.int 15 2299)), (de P "STAR" 2302 (.int 16 2301)), (de P "SLASH" 2304 (.int 17 2303)), (de P "VBAR" 2306 (.int 18 2305)), (de P "AMPER" 2308 (.int 19 2307)), (de P "LESS" 2310 (.int 20 2309)), (de P "GREATER" 2312 (.int 21 2311)), (de P "EQUAL" 2314 (.int 22 2313)), (de P "DOT" 2316 (.int 23 2315)), (de P "PERCENT" 2318 (.int 24 2317)), (de P "LBRACE" 2320 (.int 25 2319)), (de P "RBRACE" 2322 (.int 26 2321)), (de P "EQEQUAL" 2324 (.int 27 2323)), (de P "NOTEQUAL" 2326 (.int 28 2325)), (de P "LESSEQUAL" 2328 (.int 29 2327)), (de P "GREATEREQUAL" 2330 (.int 30 2329)), (de P "TILDE" 2332 (.int 31 2331)), (de P "CIRCUMFLEX" 2334 (.int 32 2333)), (de P "LEFTSHIFT" 2336 (.int 33 2335)), (de P "RIGHTSHIFT" 2338 (.int 34 2337)), (de P "DOUBLESTAR" 2340 (.int 35 2339)), (de P "PLUSEQUAL" 2342 (.int 36 2341)), (de P "MINEQUAL" 2344 (.int 37 2343)), (de P "STAREQUAL" 2346 (.int 38 2345)), (de P "SLASHEQUAL" 2348 (.int 39 2347)), (de P "PERCENTEQUAL" 2350 (.int 40 2349)), (de P "AMPEREQUAL" 2352 (.int 41 2351)), (de P "VBAREQUAL" 2354 (.int 42 2353)), (de P "CIRCUMFLEXEQUAL" 2356 (.int 43 2355)), (de P "LEFTSHIFTEQUAL" 2358 (.int 44 2357)), (de P "RIGHTSHIFTEQUAL" 2360 (.int 45 2359)), (de P "DOUBLESTAREQUAL" 2362 (.int 46 2361)), (de P "DOUBLESLASH" 2364 (.int 47 2363)), (de P "DOUBLESLASHEQUAL" 2366 (.int 48 2365)), (de P "AT" 2368 (.int 49 2367)), (de P "ATEQUAL" 2370 (.int 50 2369)), (de P "RARROW" 2372 (.int 51 2371)), (de P "ELLIPSIS" 2374 (.int 52 2373)), (de P "COLONEQUAL" 2376 (.int 53 2375)), (de P "EXCLAMATION" 2378 (.int 54 2377)), (de P "NT_OFFSET" 2380 (.int 256 2379)), (de P "EXACT_TOKEN_TYPES" 2477 (.ref 118)), (de P "ISTERMINAL" 2484 (.ref 127)), (de P "ISEOF" 2491 (.ref 134)), (de P "_law_sign" 2503 (.ref 141)), (de P "_law_rank" 2511 (.ref 148)), (de P "law" 2517 (.ref 153))] 74), #[]⟩
def o7_12 (P : Params) : Obj := ⟨.none, none, (.fields #[(.int 2 0), (.int 0 0), (.ref 20), (.int 15 0), (.int 0 0), (.ref 27), (.int 33 0), (.int 0 0), (.ref 34), (.int 45 0), (.int 0 0), (.ref 43), (.int 65 0), (.int 0 0), (.ref 52), (.int 87 0), (.int 0 0), (.ref 70), (.int 90 0), (.int 0 0), (.ref 116), (.int 147 0), (.int 0 0), (.ref 126), (.int 149 0), (.int 0 0), (.ref 133), (.int 152 0), (.int 0 0), (.ref 140), (.int 165 0), (.int 0 0), (.ref 147), (.int 170 0), (.int 0 0), (.ref 152)]), #[]⟩
def o7_121 (P : Params) : Obj := ⟨(.type "tuple"), none, (.seq #[] 0), #[]⟩
def o7_122 (P : Params) : Obj := ⟨.none, none, (.fields #[]), #[]⟩
def o7_123 (P : Params) : Obj := ⟨(.type "tuple"), none, (.seq #[(.str (S "x") 2481)] 0), #[]⟩
def o7_124 (P : Params) : Obj := ⟨(.type "tuple"), none, (.seq #[] 0), #[]⟩
def o7_125 (P : Params) : Obj := fnO .none (S "ISTERMINAL") 64 0 .none .none .none .none 0
def o7_126 (P : Params) : Obj := ⟨(.type "code"), none, (.fields #[(.str (S "ISTERMINAL") 2478), (.str (S "ISTERMINAL") 2479), (.str (S "/claim/cut.py") 2480), (.int 147 0), (.int 1 0), (.int 0 0), (.int 0 0), (.int 3 0), (.ref 121), (.bool true), (.int 181 0), (.ref 122), .none, (.ref 123), (.ref 124), (.ref 125), (.int 2482 0), (.int 147 0), (.str (S "/claim/cut.py") 2483)]), #[]⟩
def o7_127 (P : Params) : Obj := fnO (.type "function") (S "ISTERMINAL") 64 3 .none .none (.str (S "cpy313.token") 2279) (.ref 126) 0
def o7_128 (P : Params) : Obj := ⟨(.type "tuple"), none, (.seq #[] 0), #[]⟩
def o7_129 (P : Params) : Obj := ⟨.none, none, (.fields #[]), #[]⟩
def o7_130 (P : Params) : Obj := ⟨(.type "tuple"), none, (.seq #[(.str (S "x") 2488)] 0), #[]⟩
def o7_131 (P : Params) : Obj := ⟨(.type "tuple"), none, (.seq #[] 0), #[]⟩
def o7_132 (P : Params) : Obj := fnO .none (S "ISEOF") 65 0 .none .none .none .none 0
def o7_133 (P : Params) : Obj := ⟨(.type "code"), none, (.fields #[(.str (S "ISEOF") 2485), (.str (S "ISEOF") 2486), (.str (S "/claim/cut.py") 2487), (.int 149 0), (.int 1 0), (.int 0 0), (.int 0 0), (.int 3 0), (.ref 128), (.bool true), (.int 181 0), (.ref 129), .none, (.ref 130), (.ref 131), (.ref 132), (.int 2489 0), (.int 149 0), (.str (S "/claim/cut.py") 2490)]), #[]⟩
def o7_134 (P : Params) : Obj := fnO (.type "function") (S "ISEOF") 65 3 .none .none (.str (S "cpy313.token") 2279) (.ref 133) 0
def o7_135 (P : Params) : Obj := ⟨(.type "tuple"), none, (.seq #[] 0), #[]⟩
def o7_136 (P : Params) : Obj := ⟨.none, none, (.fields #[]), #[]⟩
def o7_137 (P : Params) : Obj := ⟨(.type "tuple"), none, (.seq #[(.str (S "v") 2497), (.str (S "which") 2498), (.str (S "plain") 2499), (.str (S "unseen") 2500)] 0), #[]⟩
def o7_138 (P : Params) : Obj := ⟨(.type "tuple"), none, (.seq #[] 0), #[]⟩
def o7_139 (P : Params) : Obj := fnO .none (S "_law_sign") 67 0 .none .none .none .none 0
def o7_140 (P : Params) : Obj := ⟨(.type "code"), none, (.fields #[(.str (S "_law_sign") 2494), (.str (S "_law_sign") 2495), (.str (S "/claim/cut.py") 2496), (.int 152 0), (.int 1 0), (.int 0 0), (.int 0 0), (.int 3 0), (.ref 135), (.bool true), (.int 181 0), (.ref 136), .none, (.ref 137), (.ref 138), (.ref 139), (.int 2501 0), (.int 152 0), (.str (S "/claim/cut.py") 2502)]), #[]⟩
def o7_141 (P : Params) : Obj := fnO (.type "function") (S "_law_sign") 67 3 .none .none (.str (S "law_wf0103_01") 2492) (.ref 140) 0
def o7_142 (P : Params) : Obj := ⟨(.type "tuple"), none, (.seq #[] 0), #[]⟩
def o7_143 (P : Params) : Obj := ⟨.none, none, (.fields #[]), #[]⟩
def o7_144 (P : Params) : Obj := ⟨(.type "tuple"), none, (.seq #[(.str (S "sign") 2507), (.str (S "order") 2508)] 0), #[]⟩
def o7_145 (P : Params) : Obj := ⟨(.type "tuple"), none, (.seq #[] 0), #[]⟩
def o7_146 (P : Params) : Obj := fnO .none (S "_law_rank") 68 0 .none .none .none .none 0
def o7_147 (P : Params) : Obj := ⟨(.type "code"), none, (.fields #[(.str (S "_law_rank") 2504), (.str (S "_law_rank") 2505), (.str (S "/claim/cut.py") 2506), (.int 165 0), (.int 1 0), (.int 0 0), (.int 0 0), (.int 3 0), (.ref 142), (.bool true), (.int 181 0), (.ref 143), .none, (.ref 144), (.ref 145), (.ref 146), (.int 2509 0), (.int 165 0), (.str (S "/claim/cut.py") 2510)]), #[]⟩
def o7_148 (P : Params) : Obj := fnO (.type "function") (S "_law_rank") 68 3 .none .none (.str (S "law_wf0103_01") 2492) (.ref 147) 0
def o7_149 (P : Params) : Obj := ⟨(.type "tuple"), none, (.seq #[] 0), #[]⟩
def o7_150 (P : Params) : Obj := ⟨.none, none, (.fields #[]), #[]⟩
def o7_151 (P : Params) : Obj := fnO .none (S "law") 69 0 .none .none .none .none 0
def o7_152 (P : Params) : Obj := ⟨(.type "code"), none, (.fields #[(.str (S "law") 2512), (.str (S "law") 2513), (.str (S "/claim/cut.py") 2514), (.int 170 0), (.int 1 0), (.int 0 0), (.int 0 0), (.int 3 0), (.ref 149), (.bool true), (.int 181 0), (.ref 150), .none, .none, .none, (.ref 151), (.int 2515 0), (.int 170 0), (.str (S "/claim/cut.py") 2516)]), #[]⟩
def o7_153 (P : Params) : Obj := fnO (.type "function") (S "law") 69 3 .none .none (.str (S "law_wf0103_01") 2492) (.ref 152) 0
def t7 (P : Params) : BT := (.node (boot_o_0 P) (.node (boot_o_1 P) (.node (o7_3 P) (.node (boot_o_7 P) (.node (o1_15 P) (.node (o1_31 P) (.node (o2_63 P) (.node (o7_127 P) .nil .nil) .nil) (.node (b3o23 P) .nil .nil)) (.node (o1_47 P) (.node (b3o7 P) (.node (o7_143 P) .nil .nil) .nil) (.node (o5_111 P) .nil .nil))) (.node (o1_23 P) (.node (o1_39 P) (.node (o3_71 P) (.node (o7_135 P) .nil .nil) .nil) (.node (b3o31 P) .nil .nil)) (.node (o2_55 P) (.node (b3o15 P) (.node (o7_151 P) .nil .nil) .nil) (.node (o6_119 P) .nil .nil)))) (.node (oa_11 P) (.node (o1_19 P) (.node (o1_35 P) (.node (o3_67 P) (.node (o7_131 P) .nil .nil) .nil) (.node (b3o27 P) .nil .nil)) (.node (o1_51 P) (.node (b3o11 P) (.node (o7_147 P) .nil .nil) .nil) (.node (o5_115 P) .nil .nil))) (.node (o1_27 P) (.node (o1_43 P) (.node (b3o3 P) (.node (o7_139 P) .nil .nil) .nil) (.node (b3o35 P) .nil .nil)) (.node (o2_59 P) (.node (b3o19 P) .nil .nil) (.node (o7_123 P) .nil .nil))))) (.node (boot_o_5 P) (.node (boot_o_9 P) (.node (o1_17 P) (.node (o1_33 P) (.node (o3_65 P) (.node (o7_129 P) .nil .nil) .nil) (.node (b3o25 P) .nil .nil)) (.node (o1_49 P) (.node (b3o9 P) (.node (o7_145 P) .nil .nil) .nil) (.node (o5_113 P) .nil .nil))) (.node (o1_25 P) (.node (o1_41 P) (.node (b3o1 P) (.node (o7_137 P) .nil .nil) .nil) (.node (b3o33 P) .nil .nil)) (.node (o2_57 P) (.node (b3o17 P) (.node (o7_153 P) .nil .nil) .nil) (.node (o7_121 P) .nil .nil)))) (.node (oa_13 P) (.node (o1_21 P) (.node (o1_37 P) (.node (o3_69 P) (.node (o7_133 P) .nil .nil) .nil) (.node (b3o29 P) .nil .nil)) (.node (o1_53 P) (.node (b3o13 P) (.node (o7_149 P) .nil .nil) .nil) (.node (o5_117 P) .nil .nil))) (.node (o1_29 P) (.node (o1_45 P) (.node (b3o5 P) (.node (o7_141 P) .nil .nil) .nil) (.node (b3o37 P) .nil .nil)) (.node (o2_61 P) (.node (b3o21 P) .nil .nil) (.node (o7_125 P) .nil .nil)))))) (.node (boot_o_2 P) (.node (boot_o_4 P) (.node (boot_o_8 P) (.node (o1_16 P) (.node (o1_32 P) (.node (o2_64 P) (.node (o7_128 P) .nil .nil) .nil) (.node (b3o24 P) .nil .nil)) (.node (o1_48 P) (.node (b3o8 P) (.node (o7_144 P) .nil .nil) .nil) (.node (o5_112 P) .nil .nil))) (.node (o1_24 P) (.node (o1_40 P) (.node (b3o0 P) (.node (o7_136 P) .nil .nil) .nil) (.node (b3o32 P) .nil .nil)) (.node (o2_56 P) (.node (b3o16 P) (.node (o7_152 P) .nil .nil) .nil) (.node (o6_120 P) .nil .nil)))) (.node (o7_12 P) (.node (o1_20 P) (.node (o1_36 P) (.node (o3_68 P) (.node (o7_132 P) .nil .nil) .nil) (.node (b3o28 P) .nil .nil)) (.node (o1_52 P) (.node (b3o12 P) (.node (o7_148 P) .nil .nil) .nil) (.node (o5_116 P) .nil .nil))) (.node (o1_28 P) (.node (o1_44 P) (.node (b3o4 P) (.node (o7_140 P) .nil .nil) .nil) (.node (b3o36 P) .nil .nil)) (.node (o2_60 P) (.node (b3o20 P) .nil .nil) (.node (o7_124 P) .nil .nil))))) (.node (boot_o_6 P) (.node (boot_o_10 P) (.node (o1_18 P) (.node (o1_34 P) (.node (o3_66 P) (.node (o7_130 P) .nil .nil) .nil) (.node (b3o26 P) .nil .nil)) (.node (o1_50 P) (.node (b3o10 P) (.node (o7_146 P) .nil .nil) .nil) (.node (o5_114 P) .nil .nil))) (.node (o1_26 P) (.node (o1_42 P) (.node (b3o2 P) (.node (o7_138 P) .nil .nil) .nil) (.node (b3o34 P) .nil .nil)) (.node (o2_58 P) (.node (b3o18 P) .nil .nil) (.node (o7_122 P) .nil .nil)))) (.node (oa_14 P) (.node (o1_22 P) (.node (o1_38 P) (.node (o3_70 P) (.node (o7_134 P) .nil .nil) .nil) (.node (b3o30 P) .nil .nil)) (.node (o2_54 P) (.node (b3o14 P) (.node (o7_150 P) .nil .nil) .nil) (.node (o6_118 P) .nil .nil))) (.node (o1_30 P) (.node (o1_46 P) (.node (b3o6 P) (.node (o7_142 P) .nil .nil) .nil) (.node (b3o38 P) .nil .nil)) (.node (o2_62 P) (.node (b3o22 P) .nil .nil) (.node (o7_126 P) .nil .nil)))))))
def t8 (P : Params) : BT := (.node (boot_o_0 P) (.node (boot_o_1 P) (.node (o7_3 P) (.node (boot_o_7 P) (.node (o1_15 P) (.node (o1_31 P) (.node (o2_63 P) (.node (o7_127 P) .nil .nil) .nil) (.node (b3o23 P) .nil .nil)) (.node (o1_47 P) (.node (b3o7 P) (.node (o7_143 P) .nil .nil) .nil) (.node (o5_111 P) .nil .nil))) (.node (o1_23 P) (.node (o1_39 P) (.node (o3_71 P) (.node (o7_135 P) .nil .nil) .nil) (.node (b3o31 P) .nil .nil)) (.node (o2_55 P) (.node (b3o15 P) (.node (o7_151 P) .nil .nil) .nil) (.node (o6_119 P) .nil .nil)))) (.node (oa_11 P) (.node (o1_19 P) (.node (o1_35 P) (.node (o3_67 P) (.node (o7_131 P) .nil .nil) .nil) (.node (b3o27 P) .nil .nil)) (.node (o1_51 P) (.node (b3o11 P) (.node (o7_147 P) .nil .nil) .nil) (.node (o5_115 P) .nil .nil))) (.node (o1_27 P) (.node (o1_43 P) (.node (b3o3 P) (.node (o7_139 P) .nil .nil) .nil) (.node (b3o35 P) .nil .nil)) (.node (o2_59 P) (.node (b3o19 P) .nil .nil) (.node (o7_123 P) .nil .nil))))) (.node (boot_o_5 P) (.node (boot_o_9 P) (.node (o1_17 P) (.node (o1_33 P) (.node (o3_65 P) (.node (o7_129 P) .nil .nil) .nil) (.node (b3o25 P) .nil .nil)) (.node (o1_49 P) (.node (b3o9 P) (.node (o7_145 P) .nil .nil) .nil) (.node (o5_113 P) .nil .nil))) (.node (o1_25 P) (.node (o1_41 P) (.node (b3o1 P) (.node (o7_137 P) .nil .nil) .nil) (.node (b3o33 P) .nil .nil)) (.node (o2_57 P) (.node (b3o17 P) (.node (o7_153 P) .nil .nil) .nil) (.node (o7_121 P) .nil .nil)))) (.node (oa_13 P) (.node (o1_21 P) (.node (o1_37 P) (.node (o3_69 P) (.node (o7_133 P) .nil .nil) .nil) (.node (b3o29 P) .nil .nil)) (.node (o1_53 P) (.node (b3o13 P) (.node (o7_149 P) .nil .nil) .nil) (.node (o5_117 P) .nil .nil))) (.node (o1_29 P) (.node (o1_45 P) (.node (b3o5 P) (.node (o7_141 P) .nil .nil) .nil) (.node (b3o37 P) .nil .nil)) (.node (o2_61 P) (.node (b3o21 P) .nil .nil) (.node (o7_125 P) .nil .nil)))))) (.node (boot_o_2 P) (.node (boot_o_4 P) (.node (boot_o_8 P) (.node (o1_16 P) (.node (o1_32 P) (.node (o2_64 P) (.node (o7_128 P) .nil .nil) .nil) (.node (b3o24 P) .nil .nil)) (.node (o1_48 P) (.node (b3o8 P) (.node (o7_144 P) .nil .nil) .nil) (.node (o5_112 P) .nil .nil))) (.node (o1_24 P) (.node (o1_40 P) (.node (b3o0 P) (.node (o7_136 P) .nil .nil) .nil) (.node (b3o32 P) .nil .nil)) (.node (o2_56 P) (.node (b3o16 P) (.node (o7_152 P) .nil .nil) .nil) (.node (o6_120 P) .nil .nil)))) (.node (o7_12 P) (.node (o1_20 P) (.node (o1_36 P) (.node (o3_68 P) (.node (o7_132 P) .nil .nil) .nil) (.node (b3o28 P) .nil .nil)) (.node (o1_52 P) (.node (b3o12 P) (.node (o7_148 P) .nil .nil) .nil) (.node (o5_116 P) .nil .nil))) (.node (o1_28 P) (.node (o1_44 P) (.node (b3o4 P) (.node (o7_140 P) .nil .nil) .nil) (.node (b3o36 P) .nil .nil)) (.node (o2_60 P) (.node (b3o20 P) .nil .nil) (.node (o7_124 P) .nil .nil))))) (.node (boot_o_6 P) (.node (boot_o_10 P) (.node (o1_18 P) (.node (o1_34 P) (.node (o3_66 P) (.node (o7_130 P) .nil .nil) .nil) (.node (b3o26 P) .nil .nil)) (.node (o1_50 P) (.node (b3o10 P) (.node (o7_146 P) .nil .nil) .nil) (.node (o5_114 P) .nil .nil))) (.node (o1_26 P) (.node (o1_42 P) (.node (b3o2 P) (.node (o7_138 P) .nil .nil) .nil) (.node (b3o34 P) .nil .nil)) (.node (o2_58 P) (.node (b3o18 P) .nil .nil) (.node (o7_122 P) .nil .nil)))) (.node (oa_14 P) (.node (o1_22 P) (.node (o1_38 P) (.node (o3_70 P) (.node (o7_134 P) .nil .nil) .nil) (.node (b3o30 P) .nil .nil)) (.node (o2_54 P) (.node (b3o14 P) (.node (o7_150 P) .nil .nil) .nil) (.node (o6_118 P) .nil .nil))) (.node (o1_30 P) (.node (o1_46 P) (.node (b3o6 P) (.node (o7_142 P) .nil .nil) .nil) (.node (b3o38 P) .nil .nil)) (.node (o2_62 P) (.node (b3o22 P) .nil .nil) (.node (o7_126 P) .nil .nil)))))))
def hp8 (P : Params) : Heap := ⟨⟨[boot_o_0 P, boot_o_1 P, boot_o_2 P, o7_3 P, boot_o_4 P, boot_o_5 P, boot_o_6 P, boot_o_7 P, boot_o_8 P, boot_o_9 P, boot_o_10 P, oa_11 P, o7_12 P, oa_13 P, oa_14 P, o1_15 P, o1_16 P, o1_17 P, o1_18 P, o1_19 P, o1_20 P, o1_21 P, o1_22 P, o1_23 P, o1_24 P, o1_25 P, o1_26 P, o1_27 P, o1_28 P, o1_29 P, o1_30 P, o1_31 P, o1_32 P, o1_33 P, o1_34 P, o1_35 P, o1_36 P, o1_37 P, o1_38 P, o1_39 P, o1_40 P, o1_41 P, o1_42 P, o1_43 P, o1_44 P, o1_45 P, o1_46 P, o1_47 P, o1_48 P, o1_49 P, o1_50 P, o1_51 P, o1_52 P, o1_53 P, o2_54 P, o2_55 P, o2_56 P, o2_57 P, o2_58 P, o2_59 P, o2_60 P, o2_61 P, o2_62 P, o2_63 P, o2_64 P, o3_65 P, o3_66 P, o3_67 P, o3_68 P, o3_69 P, o3_70 P, o3_71 P, b3o0 P, b3o1 P, b3o2 P, b3o3 P, b3o4 P, b3o5 P, b3o6 P, b3o7 P, b3o8 P, b3o9 P, b3o10 P, b3o11 P, b3o12 P, b3o13 P, b3o14 P, b3o15 P, b3o16 P, b3o17 P, b3o18 P, b3o19 P, b3o20 P, b3o21 P, b3o22 P, b3o23 P, b3o24 P, b3o25 P, b3o26 P, b3o27 P, b3o28 P, b3o29 P, b3o30 P, b3o31 P, b3o32 P, b3o33 P, b3o34 P, b3o35 P, b3o36 P, b3o37 P, b3o38 P, o5_111 P, o5_112 P, o5_113 P, o5_114 P, o5_115 P, o5_116 P, o5_117 P, o6_118 P, o6_119 P, o6_120 P, o7_121 P, o7_122 P, o7_123 P, o7_124 P, o7_125 P, o7_126 P, o7_127 P, o7_128 P, o7_129 P, o7_130 P, o7_131 P, o7_132 P, o7_133 P, o7_134 P, o7_135 P, o7_136 P, o7_137 P, o7_138 P, o7_139 P, o7_140 P, o7_141 P, o7_142 P, o7_143 P, o7_144 P, o7_145 P, o7_146 P, o7_147 P, o7_148 P, o7_149 P, o7_150 P, o7_151 P, o7_152 P, o7_153 P]⟩, {}⟩
def KF : Params → Frag := fun P => [(nat_lit 0, boot_o_0 P), (nat_lit 1, boot_o_1 P), (nat_lit 2, boot_o_2 P), (nat_lit 3, o7_3 P), (nat_lit 4, boot_o_4 P), (nat_lit 5, boot_o_5 P), (nat_lit 6, boot_o_6 P), (nat_lit 7, boot_o_7 P), (nat_lit 9, boot_o_9 P), (nat_lit 10, boot_o_10 P), (nat_lit 11, oa_11 P), (nat_lit 13, oa_13 P), (nat_lit 14, oa_14 P), (nat_lit 15, o1_15 P), (nat_lit 17, o1_17 P), (nat_lit 18, o1_18 P), (nat_lit 20, o1_20 P), (nat_lit 21, o1_21 P), (nat_lit 22, o1_22 P), (nat_lit 24, o1_24 P), (nat_lit 25, o1_25 P), (nat_lit 27, o1_27 P), (nat_lit 28, o1_28 P), (nat_lit 29, o1_29 P), (nat_lit 31, o1_31 P), (nat_lit 32, o1_32 P), (nat_lit 34, o1_34 P), (nat_lit 35, o1_35 P), (nat_lit 36, o1_36 P), (nat_lit 37, o1_37 P), (nat_lit 38, o1_38 P), (nat_lit 40, o1_40 P), (nat_lit 41, o1_41 P), (nat_lit 43, o1_43 P), (nat_lit 44, o1_44 P), (nat_lit 45, o1_45 P), (nat_lit 46, o1_46 P), (nat_lit 47, o1_47 P), (nat_lit 49, o1_49 P), (nat_lit 50, o1_50 P), (nat_lit 52, o1_52 P), (nat_lit 53, o1_53 P), (nat_lit 54, o2_54 P), (nat_lit 55, o2_55 P), (nat_lit 56, o2_56 P), (nat_lit 57, o2_57 P), (nat_lit 58, o2_58 P), (nat_lit 59, o2_59 P), (nat_lit 60, o2_60 P), (nat_lit 61, o2_61 P), (nat_lit 62, o2_62 P), (nat_lit 63, o2_63 P), (nat_lit 64, o2_64 P), (nat_lit 65, o3_65 P), (nat_lit 67, o3_67 P), (nat_lit 68, o3_68 P), (nat_lit 70, o3_70 P), (nat_lit 71, o3_71 P), (nat_lit 72, b3o0 P), (nat_lit 111, o5_111 P), (nat_lit 113, o5_113 P), (nat_lit 114, o5_114 P), (nat_lit 116, o5_116 P), (nat_lit 117, o5_117 P), (nat_lit 118, o6_118 P), (nat_lit 119, o6_119 P), (nat_lit 120, o6_120 P), (nat_lit 121, o7_121 P), (nat_lit 123, o7_123 P), (nat_lit 124, o7_124 P), (nat_lit 126, o7_126 P), (nat_lit 127, o7_127 P), (nat_lit 128, o7_128 P), (nat_lit 130, o7_130 P), (nat_lit 131, o7_131 P), (nat_lit 133, o7_133 P), (nat_lit 134, o7_134 P), (nat_lit 135, o7_135 P), (nat_lit 137, o7_137 P), (nat_lit 138, o7_138 P), (nat_lit 140, o7_140 P), (nat_lit 141, o7_141 P), (nat_lit 142, o7_142 P), (nat_lit 144, o7_144 P), (nat_lit 145, o7_145 P), (nat_lit 147, o7_147 P), (nat_lit 148, o7_148 P), (nat_lit 149, o7_149 P), (nat_lit 152, o7_152 P), (nat_lit 153, o7_153 P)]
def KA : List Addr := [nat_lit 0, nat_lit 1, nat_lit 2, nat_lit 3, nat_lit 4, nat_lit 5, nat_lit 6, nat_lit 7, nat_lit 9, nat_lit 10, nat_lit 11, nat_lit 13, nat_lit 14, nat_lit 15, nat_lit 17, nat_lit 18, nat_lit 20, nat_lit 21, nat_lit 22, nat_lit 24, nat_lit 25, nat_lit 27, nat_lit 28, nat_lit 29, nat_lit 31, nat_lit 32, nat_lit 34, nat_lit 35, nat_lit 36, nat_lit 37, nat_lit 38, nat_lit 40, nat_lit 41, nat_lit 43, nat_lit 44, nat_lit 45, nat_lit 46, nat_lit 47, nat_lit 49, nat_lit 50, nat_lit 52, nat_lit 53, nat_lit 54, nat_lit 55, nat_lit 56, nat_lit 57, nat_lit 58, nat_lit 59, nat_lit 60, nat_lit 61, nat_lit 62, nat_lit 63, nat_lit 64, nat_lit 65, nat_lit 67, nat_lit 68, nat_lit 70, nat_lit 71, nat_lit 72, nat_lit 111, nat_lit 113, nat_lit 114, nat_lit 116, nat_lit 117, nat_lit 118, nat_lit 119, nat_lit 120, nat_lit 121, nat_lit 123, nat_lit 124, nat_lit 126, nat_lit 127, nat_lit 128, nat_lit 130, nat_lit 131, nat_lit 133, nat_lit 134, nat_lit 135, nat_lit 137, nat_lit 138, nat_lit 140, nat_lit 141, nat_lit 142, nat_lit 144, nat_lit 145, nat_lit 147, nat_lit 148, nat_lit 149, nat_lit 152, nat_lit 153]
def t3b (P : Params) : BT := (.node (boot_o_0 P) (.node (boot_o_1 P) (.node (o3_3 P) (.node (boot_o_7 P) (.node (o1_15 P) (.node (o1_31 P) (.node (o2_63 P) .nil .nil) (.node (b3o23 P) .nil .nil)) (.node (o1_47 P) (.node (b3o7 P) .nil .nil) .nil)) (.node (o1_23 P) (.node (o1_39 P) (.node (o3_71 P) .nil .nil) (.node (b3o31 P) .nil .nil)) (.node (o2_55 P) (.node (b3o15 P) .nil .nil) .nil))) (.node (oa_11 P) (.node (o1_19 P) (.node (o1_35 P) (.node (o3_67 P) .nil .nil) (.node (b3o27 P) .nil .nil)) (.node (o1_51 P) (.node (b3o11 P) .nil .nil) .nil)) (.node (o1_27 P) (.node (o1_43 P) (.node (b3o3 P) .nil .nil) (.node (b3o35 P) .nil .nil)) (.node (o2_59 P) (.node (b3o19 P) .nil .nil) .nil)))) (.node (boot_o_5 P) (.node (boot_o_9 P) (.node (o1_17 P) (.node (o1_33 P) (.node (o3_65 P) .nil .nil) (.node (b3o25 P) .nil .nil)) (.node (o1_49 P) (.node (b3o9 P) .nil .nil) .nil)) (.node (o1_25 P) (.node (o1_41 P) (.node (b3o1 P) .nil .nil) (.node (b3o33 P) .nil .nil)) (.node (o2_57 P) (.node (b3o17 P) .nil .nil) .nil))) (.node (oa_13 P) (.node (o1_21 P) (.node (o1_37 P) (.node (o3_69 P) .nil .nil) (.node (b3o29 P) .nil .nil)) (.node (o1_53 P) (.node (b3o13 P) .nil .nil) .nil)) (.node (o1_29 P) (.node (o1_45 P) (.node (b3o5 P) .nil .nil) (.node (b3o37 P) .nil .nil)) (.node (o2_61 P) (.node (b3o21 P) .nil .nil) .nil))))) (.node (boot_o_2 P) (.node (boot_o_4 P) (.node (boot_o_8 P) (.node (o1_16 P) (.node (o1_32 P) (.node (o2_64 P) .nil .nil) (.node (b3o24 P) .nil .nil)) (.node (o1_48 P) (.node (b3o8 P) .nil .nil) .nil)) (.node (o1_24 P) (.node (o1_40 P) (.node (b3o0 P) .nil .nil) (.node (b3o32 P) .nil .nil)) (.node (o2_56 P) (.node (b3o16 P) .nil .nil) .nil))) (.node (o3_12 P) (.node (o1_20 P) (.node (o1_36 P) (.node (o3_68 P) .nil .nil) (.node (b3o28 P) .nil .nil)) (.node (o1_52 P) (.node (b3o12 P) .nil .nil) .nil)) (.node (o1_28 P) (.node (o1_44 P) (.node (b3o4 P) .nil .nil) (.node (b3o36 P) .nil .nil)) (.node (o2_60 P) (.node (b3o20 P) .nil .nil) .nil)))) (.node (boot_o_6 P) (.node (boot_o_10 P) (.node (o1_18 P) (.node (o1_34 P) (.node (o3_66 P) .nil .nil) (.node (b3o26 P) .nil .nil)) (.node (o1_50 P) (.node (b3o10 P) .nil .nil) .nil)) (.node (o1_26 P) (.node (o1_42 P) (.node (b3o2 P) .nil .nil) (.node (b3o34 P) .nil .nil)) (.node (o2_58 P) (.node (b3o18 P) .nil .nil) .nil))) (.node (oa_14 P) (.node (o1_22 P) (.node (o1_38 P) (.node (o3_70 P) .nil .nil) (.node (b3o30 P) .nil .nil)) (.node (o2_54 P) (.node (b3o14 P) .nil .nil) .nil)) (.node (o1_30 P) (.node (o1_46 P) (.node (b3o6 P) .nil .nil) (.node (b3o38 P) .nil .nil)) (.node (o2_62 P) (.node (b3o22 P) .nil .nil) .nil))))))
end
end Mine
end
section
set_option maxRecDepth 100000
set_option maxHeartbeats 0
namespace Mine
open PySem PySem.W PySem.Calls PyProof.Rows
noncomputable section
def bE : List Stmt := behindTheImports pw
def envT : Env := { scope := pw.main.scope, locals := mainNs, globals := mainNs, cells := [], code := .ref 13, frame := some 14 }
def cT : Code := .body bE envT
def pos0 : Pos := ⟨0, 0, 0, 0⟩
def BT0 : List Frame := [topFrame pos0]
abbrev at_ (t : Params → BT) (n tk : Nat) (w : World) (os : OsState) : SharedT := ⟨t w.params, n, {}, #[], {}, tk, os⟩
abbrev grp (w : World) (n : Nat) (s s' : SharedT) (l : List Stmt) (p p' : Pos) : Prop := segRunT treeTable pw w 11 annV 1 n s (piecesOf l envT cT p BT0) = some (.next, s', cT, p')

theorem pre_goes (w : World) (os : OsState) : topGo treeTable pw w 11 annV 12 ⟨boot_heap w.params, #[], boot_drawn, boot_toks, os⟩ (topStub pw) = some (⟨hpa w.params, #[], {}, 187, os⟩, ⟨denote treeTable cT, cT, pos0, BT0⟩) := by kernel_rfl
theorem block_goes (w : World) (os : OsState) : segRun treeTable pw w 11 annV 1 1 ⟨hpa w.params, #[], {}, 187, os⟩ (blockOf bE envT cT pos0 BT0) = some (.next, (at_ t0 15 187 w os).abs, cT, pos0) := by kernel_rfl
theorem g1 (w : World) (os : OsState) : grp w 208 (at_ t0 15 187 w os) (at_ t1 54 253 w os) (sts 0 8) pos0 ⟨85, 0, 85, 8⟩ := by kernel_rfl
end
end Mine
end
section
set_option maxRecDepth 100000
set_option maxHeartbeats 0
namespace Mine
open PySem PySem.W PySem.Calls PyProof.Rows
noncomputable section
theorem quick_grp {w : World} {n : Nat} {s s' : SharedT} {l : List Stmt} {p p' : Pos} (h : Fast.tw10110043849684766642 Fast.tw14364793385576792824 pw w 11 annV 1 n s (piecesOf l envT cT p BT0) = some (.next, s', cT, p')) : grp w n s s' l p p' := by
  unfold grp
  rw [Fast.te10110043849684766642, Fast.te14364793385576792824]
  exact h
theorem g2 : ∀ (w : World) (os : OsState), grp w 999 (at_ t1 54 253 w os) (at_ t2 65 313 w os) (sts 8 1) ⟨85, 0, 85, 8⟩ ⟨86, 0, 86, 6⟩ := by
  refine byRow2 "set-order" (P := fun w => ∀ os, grp w 999 (at_ t1 54 253 w os) (at_ t2 65 313 w os) (sts 8 1) ⟨85, 0, 85, 8⟩ ⟨86, 0, 86, 6⟩) ?_ ?_
  · refine byRow2 "special-get-raises" (P := fun w => ∀ os, grp (w.withFollow "set-order" false) 999 (at_ t1 54 253 (w.withFollow "set-order" false) os) (at_ t2 65 313 (w.withFollow "set-order" false) os) (sts 8 1) ⟨85, 0, 85, 8⟩ ⟨86, 0, 86, 6⟩) ?_ ?_
    · intro w os; exact quick_grp (by kernel_rfl)
    · intro w os; exact quick_grp (by kernel_rfl)
  · refine byRow2 "special-get-raises" (P := fun w => ∀ os, grp (w.withFollow "set-order" true) 999 (at_ t1 54 253 (w.withFollow "set-order" true) os) (at_ t2 65 313 (w.withFollow "set-order" true) os) (sts 8 1) ⟨85, 0, 85, 8⟩ ⟨86, 0, 86, 6⟩) ?_ ?_
    · intro w os; exact quick_grp (by kernel_rfl)
    · intro w os; exact quick_grp (by kernel_rfl)
end
end Mine
end
section
set_option maxRecDepth 100000
set_option maxHeartbeats 0
namespace Mine
open PySem PySem.W PySem.Calls PyProof.Rows
noncomputable section
theorem g3 (w : World) (os : OsState) : grp w 30 (at_ t2 65 313 w os) (at_ t3 72 320 w os) (sts 9 1) ⟨86, 0, 86, 6⟩ ⟨87, 0, 88, 30⟩ := by kernel_rfl
theorem g5 (w : World) (os : OsState) : grp w 490 (at_ t4 111 2271 w os) (at_ t5 118 2381 w os) (sts 11 52) ⟨89, 0, 89, 13⟩ ⟨145, 0, 145, 9⟩ := by kernel_rfl
theorem g6 : ∀ (w : World) (os : OsState), grp w 979 (at_ t5 118 2381 w os) (at_ t6 121 2478 w os) (sts 63 1) ⟨145, 0, 145, 9⟩ ⟨146, 0, 146, 17⟩ := by
  refine byRow2 "special-get-raises" (P := fun w => ∀ os, grp w 979 (at_ t5 118 2381 w os) (at_ t6 121 2478 w os) (sts 63 1) ⟨145, 0, 145, 9⟩ ⟨146, 0, 146, 17⟩) ?_ ?_
  · intro w os; kernel_rfl
  · intro w os; kernel_rfl
theorem g7 (w : World) (os : OsState) : grp w 156 (at_ t6 121 2478 w os) (at_ t7 154 2518 w os) (sts 64 6) ⟨146, 0, 146, 17⟩ ⟨170, 0, 213, 15⟩ := by kernel_rfl
theorem fin_goes (w : World) (os : OsState) : topRun treeTable pw w 11 annV 2 (at_ t7 154 2518 w os).abs ⟨doneF .next, cT, ⟨170, 0, 213, 15⟩, BT0⟩ = some ⟨hp8 w.params, #[], {}, 2518, os⟩ := by kernel_rfl
end
end Mine
end
section
set_option maxRecDepth 100000
set_option maxHeartbeats 0
namespace Mine
open PySem PySem.W PySem.Calls PyProof.Rows
noncomputable section
/-- the display's statement -/
def b3Tgt : List Expr := match stm 10 with | .Assign ts _ _ => ts | _ => []
def b3Val : Expr := match stm 10 with | .Assign _ v _ => v | _ => default
def b3Pos : Pos := match stm 10 with | .Assign _ _ p => p | _ => default
def b3DPos : Pos := match stm 10 with | .Assign _ (.Dict _ _ p) _ => p | _ => default
theorem b3_stm : stm 10 = .Assign b3Tgt (.Dict b3Keys b3Vals b3DPos) b3Pos := by kernel_rfl
theorem b3_parts : b3c ++ b3cs.flatten ++ b3l = b3kv := by kernel_rfl

theorem conInt_of {k : Option Expr} {n : Int} (h : conInt k = some n) : ∃ p q, k = some (.Constant (.int n) p q) := by
  unfold conInt at h
  split at h
  · cases h; exact ⟨_, _, rfl⟩
  · cases h
theorem conStr_of {k : Expr} {s : Str} (h : conStr k = some s) : ∃ p q, k = .Constant (.str s) p q := by
  unfold conStr at h
  split at h
  · cases h; exact ⟨_, _, rfl⟩
  · cases h
def allConst : List (Option Expr) → List Expr → Bool
  | k :: ks, v :: vs => (conInt k).isSome && (conStr v).isSome && allConst ks vs
  | [], [] => true
  | _, _ => false
theorem items_of (env : Env) (q : Pos) : ∀ (ks : List (Option Expr)) (vs : List Expr), allConst ks vs = true →
    (evalEachOpt ks env).zip ((evalEach vs env).map fun v => do let x ← v; standAt q; pure x) = (kvOf ks vs).map (itemR q)
  | k :: ks, v :: vs, h => by
    simp only [allConst, Bool.and_eq_true, Option.isSome_iff_exists] at h
    obtain ⟨⟨⟨n, h1⟩, s, h2⟩, h3⟩ := h
    have ih := items_of env q ks vs h3
    have e : kvOf (k :: ks) (v :: vs) = (n, s) :: kvOf ks vs := by rw [kvOf, h1, h2]
    obtain ⟨p1, p2, rfl⟩ := conInt_of h1
    obtain ⟨q1, q2, rfl⟩ := conStr_of h2
    rw [e]
    show _ :: (evalEachOpt ks env).zip ((evalEach vs env).map _) = itemR q (n, s) :: (kvOf ks vs).map (itemR q)
    rw [ih]
    rfl
  | [], [], _ => rfl
  | [], _ :: _, h => by cases h
  | _ :: _, [], h => by cases h
def rising : List Int → Bool
  | a :: b :: r => decide (a < b) && rising (b :: r)
  | _ => true
theorem rising_lt : ∀ (a : Int) (l : List Int), rising (a :: l) = true → ∀ x ∈ l, a < x
  | _, [], _, x, hx => nomatch hx
  | a, b :: r, h, x, hx => by
    simp only [rising, Bool.and_eq_true, decide_eq_true_eq] at h
    rcases List.mem_cons.mp hx with rfl | hx
    · exact h.1
    · exact Int.lt_trans h.1 (rising_lt b r h.2 x hx)
theorem rising_nodup : ∀ (l : List Int), rising l = true → l.Nodup
  | [], _ => List.nodup_nil
  | [a], _ => by simp
  | a :: b :: r, h => by
    have h' := h
    simp only [rising, Bool.and_eq_true, decide_eq_true_eq] at h'
    exact List.nodup_cons.mpr ⟨fun hm => Int.lt_irrefl _ (rising_lt a (b :: r) h a hm), rising_nodup (b :: r) h'.2⟩
def b3Small : Bool := b3kv.all fun x => decide (0 ≤ x.1) && decide (x.1 < 2000000)
theorem b3_ok : KeysOk b3kv := by
  have h : b3Small = true := by kernel_rfl
  have h2 : rising (b3kv.map (·.1)) = true := by kernel_rfl
  refine ⟨fun x hx => ?_, rising_nodup _ h2⟩
  have := List.all_eq_true.mp h x hx
  simpa using this
theorem b3_all : allConst b3Keys b3Vals = true := by kernel_rfl
theorem b3_len : b3kv.length = 650 := by kernel_rfl
theorem b3cs_len : b3cs.length = 37 := by kernel_rfl
theorem b3c_len : b3c.length = 17 := by kernel_rfl
theorem b3l_len : b3l.length = 4 := by kernel_rfl
theorem b3cs_each : ∀ x ∈ b3cs, x.length = 17 := by
  have h : (b3cs.all fun x => x.length == 17) = true := by kernel_rfl
  intro x hx
  simpa using List.all_eq_true.mp h x hx

/-- what the statement does behind its value -/
def b3Rest (v : Value) : Sem Flow := do assignStores envT v (← swappedStores b3Tgt (.Dict b3Keys b3Vals b3DPos) envT) ((assignEach b3Tgt envT).map (·.2))
theorem b3_tree : exec (stm 10) envT = (standAt b3Pos >>= fun _ => (standAt b3DPos >>= fun _ => dictDisplay (b3kv.map (itemR b3DPos))) >>= b3Rest) := by
  have e : (evalEachOpt b3Keys envT).zip ((evalEach b3Vals envT).map fun v => do let x ← v; standAt b3DPos; pure x) = b3kv.map (itemR b3DPos) := items_of envT b3DPos b3Keys b3Vals b3_all
  rw [b3_stm, arm_exec_Assign]
  have sw : swapsWithSole b3Tgt (.Dict b3Keys b3Vals b3DPos) b3Pos.line envT = pure false := by kernel_rfl
  rw [sw, ← e]
  rfl

/-- the heap behind the display -/
def hb3 (h : Heap) : Heap := pushAll (h.push (dObj b3es)) b3subs
theorem b3_run (w : World) (os : OsState) (p : Pos) : ∃ k p', segGo treeTable pw w 11 annV 1 k (at_ t3 72 320 w os).abs ⟨(exec (stm 10) envT).wrap doneF deadEnd id id, cT, p, BT0⟩ =
    some ({ (at_ t3 72 320 w os).abs with heap := hb3 (at_ t3 72 320 w os).abs.heap, toks := 2270 }, ⟨(b3Rest (.ref 72)).wrap doneF deadEnd id id, cT, p', BT0⟩) ∧ k = 12517 := by
  have sz : (at_ t3 72 320 w os).abs.heap.objs.size = 72 := absHeap_size _ _ _
  have D := display_goes (w := w) (b := bE) (env := envT) (f₀ := topFrame pos0) (q := b3DPos) (s := (at_ t3 72 320 w os).abs) (c := b3c) (cs := b3cs) (last := b3l) b3c_len b3cs_each (by intro e; have := b3l_len; rw [e] at this; cases this) (by rw [b3l_len]; decide)
    (by rw [b3_parts]; exact b3_ok) (by rw [b3_parts, b3_len]; decide) (by rw [sz]; decide)
  rw [b3_parts, b3_len, b3cs_len, b3l_len, sz] at D
  obtain ⟨p', h⟩ := D b3DPos
  have h1 : Goes w bE envT BT0 (1 + (1 + (2 + 13 * 17 + (330 * 37 + (6 + 19 * 4))))) (standAt b3Pos >>= fun _ => (standAt b3DPos >>= fun _ => dictDisplay (b3kv.map (itemR b3DPos)))) (at_ t3 72 320 w os).abs p _ _ p' := Goes.bind Goes.standAt (Goes.bind Goes.standAt h)
  refine ⟨1 + (1 + (2 + 13 * 17 + (330 * 37 + (6 + 19 * 4)))), p', ?_, rfl⟩
  rw [b3_tree, ← bind_assoc, Sem.bind_eq_wrap', Sem.wrap_wrap]
  have := h1 (fun v => (b3Rest v).wrap doneF deadEnd id id) (fun x => (Sem.raise x : Sem Flow).wrap doneF deadEnd id id) (fun g => id (id g)) (fun l => id (id l))
  exact this

theorem b3_state (w : World) (os : OsState) : ({ (at_ t3 72 320 w os).abs with heap := hb3 (at_ t3 72 320 w os).abs.heap, toks := 2270 } : Shared) = (at_ t3b 111 2270 w os).abs := by kernel_rfl
theorem b3_name (w : World) (os : OsState) (p : Pos) : segRunT treeTable pw w 11 annV 1 8 (at_ t3b 111 2270 w os) ⟨(b3Rest (.ref 72)).wrap doneF deadEnd id id, cT, p, BT0⟩ = some (.next, at_ t4 111 2271 w os, cT, ⟨89, 0, 89, 13⟩) := by kernel_rfl
theorem g4 (w : World) (os : OsState) (p : Pos) : segRun treeTable pw w 11 annV 1 (12517 + 8) (at_ t3 72 320 w os).abs (pieceOf (stm 10) envT cT p BT0) = some (.next, (at_ t4 111 2271 w os).abs, cT, ⟨89, 0, 89, 13⟩) := by
  obtain ⟨k, p', h, rfl⟩ := b3_run w os p
  rw [b3_state] at h
  exact seg_go h (segRun_of (b3_name w os p'))
end
end Mine
end
section
set_option maxRecDepth 100000
set_option maxHeartbeats 0
namespace Mine
open PySem PySem.W PySem.Calls PyProof.Rows
noncomputable section
theorem body_parts : bE = sts 0 8 ++ (sts 8 1 ++ (sts 9 1 ++ (stm 10 :: (sts 11 52 ++ (sts 63 1 ++ (sts 64 6 ++ [])))))) := by kernel_rfl
def nTop : Nat := 12 + (1 + (208 + (999 + (30 + (12517 + 8 + (490 + (979 + (156 + 2))))))))
theorem top_runs (w : World) (os : OsState) : topRun treeTable pw w 11 annV nTop ⟨boot_heap w.params, #[], boot_drawn, boot_toks, os⟩ (topStub pw) = some ⟨hp8 w.params, #[], {}, 2518, os⟩ := by
  refine go_top (pre_goes w os) ?_
  refine piece_block (q := pos0) (env := envT) (block_goes w os) ?_
  rw [body_parts]
  refine piece_app (segRun_of (g1 w os)) ?_
  refine piece_app (segRun_of (g2 w os)) ?_
  refine piece_app (segRun_of (g3 w os)) ?_
  refine piece_cons (g4 w os _) ?_
  refine piece_app (segRun_of (g5 w os)) ?_
  refine piece_app (segRun_of (g6 w os)) ?_
  refine piece_app (segRun_of (g7 w os)) ?_
  exact piece_nil (fin_goes w os)
end
end Mine
end
section
set_option maxRecDepth 100000
set_option maxHeartbeats 0
namespace Mine
open PySem PySem.W PySem.Calls PyProof.Rows
noncomputable section
def qV : Program := { pw with main := { pw.main with body := [stm 69] } }
def looseV : List Str := [S "_iter_escaped_chars", S "_strip_quoted_realnames", S "_check_parenthesis", S "bisect_right", S "bisect_left", S "b1_set", S "in_table_b1", S "b3_exceptions", S "map_table_b3", S "ENDMARKER", S "LPAR", S "RPAR", S "LSQB", S "RSQB", S "COLON", S "COMMA", S "SEMI", S "PLUS", S "MINUS", S "STAR", S "SLASH", S "VBAR", S "AMPER", S "LESS", S "GREATER", S "EQUAL", S "DOT", S "PERCENT", S "LBRACE", S "RBRACE", S "EQEQUAL", S "NOTEQUAL", S "LESSEQUAL", S "GREATEREQUAL", S "TILDE", S "CIRCUMFLEX", S "LEFTSHIFT", S "RIGHTSHIFT", S "DOUBLESTAR", S "PLUSEQUAL", S "MINEQUAL", S "STAREQUAL", S "SLASHEQUAL", S "PERCENTEQUAL", S "AMPEREQUAL", S "VBAREQUAL", S "CIRCUMFLEXEQUAL", S "LEFTSHIFTEQUAL", S "RIGHTSHIFTEQUAL", S "DOUBLESTAREQUAL", S "DOUBLESLASH", S "DOUBLESLASHEQUAL", S "AT", S "ATEQUAL", S "RARROW", S "ELLIPSIS", S "COLONEQUAL", S "EXCLAMATION", S "NT_OFFSET", S "EXACT_TOKEN_TYPES", S "ISTERMINAL", S "ISEOF", S "_law_sign", S "_law_rank"]
abbrev rowL : OpenRow := PySem.Challenge.rw_wf0103_01.row
def HK : Hook := kHook KF KA (fun _ => by kernel_rfl)
abbrev XtL : Shared → Bool := fun s => xlAt qV [] s && recOk (RowW.records rowL.toRowW) s
theorem top_open (w : World) : (fencedOpening treeTable pw w nTop).map (fun s => (s.heap, s.gens, s.drawn, s.toks)) = some (boot_heap w.params, #[], boot_drawn, boot_toks) :=
  boot_open (p := pw) (by kernel_rfl) (by kernel_rfl) (fun s => by kernel_rfl) w
theorem top_size (w : World) : ((boot_heap w.params).isNs mainGlobals && (#[] : Array GenState).size == 0, (boot_heap w.params).objs.size, (boot_heap w.params).nsMap mainGlobals "__annotations__") = (true, 11, annV) := by kernel_rfl
theorem look1 (w : World) (os : OsState) : (staticsOk (importedModules pw.main.body) (boot_heap w.params) (hp8 w.params) && namesBound pw (hp8 w.params) && gensDone ⟨hp8 w.params, #[], {}, 2518, os⟩ && laidKept (boot_heap w.params) (hp8 w.params)) = true := by kernel_rfl
theorem look3 (w : World) (os : OsState) : HK.obs ⟨hp8 w.params, #[], {}, 2518, os⟩ = HK.val w := by kernel_rfl
end
end Mine
end
section
set_option maxRecDepth 100000
set_option maxHeartbeats 0
namespace Mine
open PySem PySem.W PySem.Calls PyProof.Rows
noncomputable section
theorem look2 (w : World) (os : OsState) : openSeen qV looseV (importedModules pw.main.body) XtL true ⟨hp8 w.params, #[], {}, 2518, os⟩ = openGood qV looseV := by kernel_rfl
theorem leftL : LeftO rowL.toRowW.prog qV looseV XtL HK.obs HK.val nTop := by
  refine LeftO.of_pieces (p := pw) (H₀ := boot_heap) (H₁ := hp8) (gs₀ := #[]) (gs₁ := #[]) (d₀ := boot_drawn) (d₁ := {}) (k₀ := boot_toks) (k₁ := 2518) (m₀ := 11) (ann := annV) (M := nTop) top_open top_size top_runs (Nat.ble_self_eq_true nTop) ?_
  intro w
  funext os
  rw [look1 w os, look2 w os, look3 w os]
end
end Mine
end
section
set_option maxRecDepth 100000
set_option maxHeartbeats 0
namespace Mine
open PySem PySem.W PySem.Calls PyProof.Rows
noncomputable section
def dP : Stmt → Pos | .FunctionDef _ _ _ _ _ _ _ _ _ p => p | _ => default
def dL : DefRec := { name := S "law", params := dA (stm 69), body := dB (stm 69), scope := dS (stm 69), pos := dP (stm 69) }
theorem said0 : PySem.Challenge.rw_wf0103_01.wellSaid = true := by kernel_rfl
theorem law_holds (hc : WalkO qV looseV (XL qV []) HK.says rowL.toRowW dL [] fun f vs => PySem.call f vs) : PySem.Challenge.rw_wf0103_01.Holds := by
  w_on
  refine holds_law said0 fun said => ?_
  refine PySem.W.holds_open (r := rowL) (q := qV) (loose := looseV) (Xt := XtL) (XP := XL qV []) (Yf := HK.obs) (Ya := HK.val) (YP := HK.says) (d := dL) (kwd := []) (N := nTop) leftL HK.of HK.keeps
    (fun s e => xl_of s (Bool.and_eq_true_iff.mp e).1) XL.keeps (by kernel_rfl) (by kernel_rfl) (by kernel_rfl) (fun s e => recFacts_of (Bool.and_eq_true_iff.mp e).2) (by rfl) (by assumption) (by decide +kernel) ⟨rfl, rfl, rfl, rfl, rfl, by decide +kernel⟩ ?hw hc
  exact ⟨[.list []], by decide +kernel, by decide +kernel⟩
end
end Mine
end
section
set_option maxRecDepth 100000
set_option maxHeartbeats 4000000
namespace Mine
open PySem PySem.W PySem.Calls PyProof.Rows
noncomputable section
def KG : Params → Frag := fun P => (nat_lit 0, boot_o_0 P) :: (nat_lit 1, boot_o_1 P) :: (nat_lit 2, boot_o_2 P) :: (nat_lit 3, o7_3 P) :: (nat_lit 4, boot_o_4 P) :: (nat_lit 5, boot_o_5 P) :: (nat_lit 6, boot_o_6 P) :: (nat_lit 7, boot_o_7 P) :: (nat_lit 9, boot_o_9 P) :: (nat_lit 10, boot_o_10 P) :: (nat_lit 11, oa_11 P) :: (nat_lit 13, oa_13 P) :: (nat_lit 14, oa_14 P) :: (nat_lit 15, o1_15 P) :: (nat_lit 17, o1_17 P) :: (nat_lit 18, o1_18 P) :: (nat_lit 20, o1_20 P) :: (nat_lit 21, o1_21 P) :: (nat_lit 22, o1_22 P) :: (nat_lit 24, o1_24 P) :: (nat_lit 25, o1_25 P) :: (nat_lit 27, o1_27 P) :: (nat_lit 28, o1_28 P) :: (nat_lit 29, o1_29 P) :: (nat_lit 31, o1_31 P) :: (nat_lit 32, o1_32 P) :: (nat_lit 34, o1_34 P) :: (nat_lit 35, o1_35 P) :: (nat_lit 36, o1_36 P) :: (nat_lit 37, o1_37 P) :: (nat_lit 38, o1_38 P) :: (nat_lit 40, o1_40 P) :: (nat_lit 41, o1_41 P) :: (nat_lit 43, o1_43 P) :: (nat_lit 44, o1_44 P) :: (nat_lit 45, o1_45 P) :: (nat_lit 46, o1_46 P) :: (nat_lit 47, o1_47 P) :: (nat_lit 49, o1_49 P) :: (nat_lit 50, o1_50 P) :: (nat_lit 52, o1_52 P) :: (nat_lit 53, o1_53 P) :: (nat_lit 54, o2_54 P) :: (nat_lit 55, o2_55 P) :: (nat_lit 56, o2_56 P) :: (nat_lit 57, o2_57 P) :: (nat_lit 58, o2_58 P) :: (nat_lit 59, o2_59 P) :: (nat_lit 60, o2_60 P) :: (nat_lit 61, o2_61 P) :: (nat_lit 62, o2_62 P) :: (nat_lit 63, o2_63 P) :: (nat_lit 64, o2_64 P) :: (nat_lit 65, o3_65 P) :: (nat_lit 67, o3_67 P) :: (nat_lit 68, o3_68 P) :: (nat_lit 70, o3_70 P) :: (nat_lit 71, o3_71 P) :: (nat_lit 72, b3o0 P) :: (nat_lit 111, o5_111 P) :: (nat_lit 113, o5_113 P) :: (nat_lit 114, o5_114 P) :: (nat_lit 116, o5_116 P) :: (nat_lit 117, o5_117 P) :: (nat_lit 118, o6_118 P) :: (nat_lit 119, o6_119 P) :: (nat_lit 120, o6_120 P) :: (nat_lit 121, o7_121 P) :: (nat_lit 123, o7_123 P) :: (nat_lit 124, o7_124 P) :: (nat_lit 126, o7_126 P) :: (nat_lit 127, o7_127 P) :: (nat_lit 128, o7_128 P) :: (nat_lit 130, o7_130 P) :: (nat_lit 131, o7_131 P) :: (nat_lit 133, o7_133 P) :: (nat_lit 134, o7_134 P) :: (nat_lit 135, o7_135 P) :: (nat_lit 137, o7_137 P) :: (nat_lit 138, o7_138 P) :: (nat_lit 140, o7_140 P) :: (nat_lit 141, o7_141 P) :: (nat_lit 142, o7_142 P) :: (nat_lit 144, o7_144 P) :: (nat_lit 145, o7_145 P) :: (nat_lit 147, o7_147 P) :: (nat_lit 148, o7_148 P) :: (nat_lit 149, o7_149 P) :: (nat_lit 152, o7_152 P) :: (nat_lit 153, o7_153 P) :: []
theorem KG_eq (P : Params) : KF P = KG P := rfl
theorem fill_ : (fun (_ : OpenLaw) (_ : Params → Frag) => True) PySem.Challenge.rw_wf0103_01 KG := by
  k_fill
  trivial
end
end Mine
end
section
set_option maxRecDepth 100000
set_option maxHeartbeats 4000000
namespace Mine
open PySem PySem.W PySem.Calls PyProof.Rows
def Seal (P : Prop) : Prop := P
/-- the world that every call meets -/
structure Wd (w : World) (mg mb : Str → Option Value) (h : Heap) : Prop where
  K : (KG w.params).In h
  T : TopRead qV looseV mg mb h
theorem Wd.keeps {w : World} {mg mb : Str → Option Value} {h h' : Heap} (x : Wd w mg mb h) (k : ∀ b o, h.get? b = some o → h'.get? b = some o) : Wd w mg mb h' := ⟨x.K.keeps k, x.T.keeps k⟩

theorem isterm {w : World} {A : Around} {s : Shared} {mg mb : Str → Option Value} (W : Wd w mg mb s.heap) (hA : A.depth ≤ 500) (x : Int) (t : Tok) :
    codeAny (model pw w) A (.call (.ref 127) ⟨[.int x t], []⟩) (fun r s' => r = .ok (.ret (.bool (decide (x < 256)))) ∧ Keeps s s') s := by
  obtain ⟨KX, T⟩ := W
  have ho := KX 127 (o7_127 w.params) (by kernel_rfl)
  refine call_plain_ret (name := S "ISTERMINAL") (params := dA (stm 64)) (body := dB (stm 64)) (scope := dS (stm 64)) (pm := .str (S "cpy313.token") 2279) (cd := .ref 126) (doc := .none) (o := o7_127 w.params) (binds := [(S "x", .int x t)]) (Nat.lt_of_le_of_lt hA (by decide)) ho (by kernel_rfl) T.nolimit ?_ (by rfl) ?_ ?_ (by rfl) (by rfl) (by rfl) (by decide)
  · exact codeRec_of KX (by kernel_rfl)
  · intro y hy
    rcases List.mem_singleton.mp hy with rfl
    kernel_rfl
  · intro h₁ F
    have N : News s.heap s.heap.objs.size h₁ [] := News.nil
    show wpAny (model pw w) _ (execs [Stmt.Return _ _] _) _ _ _
    repeat' walk1
    all_goals exact ⟨_, _, rfl, F.keep⟩
theorem iseof {w : World} {A : Around} {s : Shared} {mg mb : Str → Option Value} (W : Wd w mg mb s.heap) (hA : A.depth ≤ 500) (x : Int) (t : Tok) :
    codeAny (model pw w) A (.call (.ref 134) ⟨[.int x t], []⟩) (fun r s' => r = .ok (.ret (.bool (decide (x = 0)))) ∧ Keeps s s') s := by
  obtain ⟨KX, T⟩ := W
  have ho := KX 134 (o7_134 w.params) (by kernel_rfl)
  refine call_plain_ret (name := S "ISEOF") (params := dA (stm 65)) (body := dB (stm 65)) (scope := dS (stm 65)) (pm := .str (S "cpy313.token") 2279) (cd := .ref 133) (doc := .none) (o := o7_134 w.params) (binds := [(S "x", .int x t)]) (Nat.lt_of_le_of_lt hA (by decide)) ho (by kernel_rfl) T.nolimit ?_ (by rfl) ?_ ?_ (by rfl) (by rfl) (by rfl) (by decide)
  · exact codeRec_of KX (by kernel_rfl)
  · intro y hy
    rcases List.mem_singleton.mp hy with rfl
    kernel_rfl
  · intro h₁ F
    have N : News s.heap s.heap.objs.size h₁ [] := News.nil
    show wpAny (model pw w) _ (execs [Stmt.Return _ _] _) _ _ _
    repeat' walk1
    all_goals exact ⟨_, _, rfl, F.keep⟩
def ordS : Str := Str.ofString "()[]:,;+-*/|&<>=.%{}~^@!"
def alph : List Nat := [40, 41, 91, 93, 58, 44, 59, 43, 45, 42, 47, 124, 38, 60, 62, 61, 46, 37, 123, 125, 126, 94, 64, 33, 34, 92, 97, 98, 99, 100, 101, 102, 103, 104, 105, 106, 107, 108, 109, 110, 111, 112, 113, 114, 115, 116, 117, 118, 119, 120, 121, 122]
def rankOf (c : Nat) : Int := if (alph.take 24).contains c then ((alph.take 24).idxOf c : Nat) else 100 + c
theorem rank_tab : ∀ c ∈ alph, (Builtin.Str.occurrences ordS ⟨#[c]⟩ 0 ordS.length 1).isEmpty = !((alph.take 24).contains c) ∧ ((alph.take 24).contains c = true → Txt.find ordS ⟨#[c]⟩ = rankOf c) := by decide +kernel
theorem lrank {w : World} {A : Around} {s : Shared} {mg mb : Str → Option Value} (W : Wd w mg mb s.heap) (hh : A.handled = none) (hA : A.depth ≤ 500) (c : Nat) (hc : c ∈ alph) (t : Tok) :
    codeAny (model pw w) A (.call (.ref 148) ⟨[.str ⟨#[c]⟩ t], []⟩) (fun r s' => Seal ((∃ t', r = .ok (.ret (.int (rankOf c) t'))) ∧ Keeps s s')) s := by
  obtain ⟨KX, T⟩ := W
  have ho := KX 148 (o7_148 w.params) (by kernel_rfl)
  obtain ⟨hoc, hfi⟩ := rank_tab c hc
  refine call_plain_ret (name := S "_law_rank") (params := dA (stm 68)) (body := dB (stm 68)) (scope := dS (stm 68)) (pm := .str (S "law_wf0103_01") 2492) (cd := .ref 147) (doc := .none) (o := o7_148 w.params) (binds := [(S "sign", .str ⟨#[c]⟩ t)]) (Nat.lt_of_le_of_lt hA (by decide)) ho (by kernel_rfl) T.nolimit ?_ (by rfl) ?_ ?_ (by rfl) (by rfl) (by rfl) (by decide)
  · exact codeRec_of KX (by kernel_rfl)
  · intro y hy
    rcases List.mem_singleton.mp hy with rfl
    kernel_rfl
  · intro h₁ F
    have N : News s.heap s.heap.objs.size h₁ [] := News.nil
    show wpAny (model pw w) _ (execs [_, _, _] _) _ _ _
    repeat' walk1
    · rename _ = true => hx
      replace hx : (Builtin.Str.occurrences ordS ⟨#[c]⟩ 0 ordS.length 1).isEmpty = true := hx
      rw [hoc] at hx
      exact ⟨⟨_, by rw [rankOf, if_neg (by simpa using hx)]⟩, _, _, rfl, Fr.keep (by assumption)⟩
    · rename _ = false => hx
      replace hx : (Builtin.Str.occurrences ordS ⟨#[c]⟩ 0 ordS.length 1).isEmpty = false := hx
      rw [hoc] at hx
      have hin : (alph.take 24).contains c = true := by simpa using hx
      refine index_or hh (fun h _ => ?_) fun h _ => ?_
      · replace h : Txt.find ordS ⟨#[c]⟩ = -1 := h
        rw [hfi hin, rankOf, if_pos hin] at h
        omega
      · exact ⟨⟨_, by rw [← hfi hin]; rfl⟩, _, _, rfl, Fr.keep (by assumption)⟩
end Mine
end
section
set_option maxRecDepth 100000
set_option maxHeartbeats 4000000
namespace Mine
open PySem PySem.W PySem.Calls PyProof.Rows
/-- the raw signs with what each stands for -/
def plainL : List Nat := alph.take 26
def sigTab : List (Nat × List Nat) :=
  plainL.map (fun c => (c, [c])) ++ (List.range 26).map (fun i => (65 + i, [97 + i])) ++ (List.range 26).map (fun i => (119808 + i, [97 + i])) ++
  [(223, [115, 115]), (64259, [102, 102, 105]), (13255, [99, 111, 46]), (8470, [110, 111])] ++
  ([173, 847, 6150, 6155, 6156, 6157, 8203, 8204, 8205, 8288, 65279] ++ (List.range 16).map (65024 + ·)).map (fun c => (c, []))
def b1L : List Nat := [173, 847, 6150, 6155, 6156, 6157, 8203, 8204, 8205, 8288, 65279] ++ (List.range 16).map (65024 + ·)
theorem b1_get (P : Params) : (KG P).lookup 61 = some (o2_61 P) := by kernel_rfl
def setEs (P : Params) : Array (Int × Value) := match (o2_61 P).data with | .set es _ _ => es | _ => #[]
def setT (P : Params) : SetTable := match (o2_61 P).data with | .set _ _ t => t | _ => default
theorem set_all : ∀ P, ((setEs P).toList.all fun e => (match e.2 with | .int k _ => e.1 == hashInt k | _ => false)) = true := fun P => by kernel_rfl
theorem set_scan : ∀ P, ((setEs P).toList.all fun e => e.2.scannable) = true := fun P => by kernel_rfl
theorem set_fits : ∀ P, (setT P).fits (setEs P).size = true := fun P => by kernel_rfl
theorem b1_set (w : World) (h : Heap) (X : (KG w.params).In h) : h.SetOf (intKind pw w) 61 (fun k => (setEs w.params).toList.any fun e => Value.isInt k e.2) 27 := by
  refine ⟨o2_61 w.params, setEs w.params, 29, setT w.params, X _ _ (b1_get _), ⟨rfl, rfl, rfl⟩, rfl, ?_, ?_, (by show (27 : Nat) < scanBound; decide), set_fits _, rfl⟩
  · intro e he
    have h1 := List.all_eq_true.mp (set_all w.params) e he
    have h2 := List.all_eq_true.mp (set_scan w.params) e he
    refine ⟨?_, h2⟩
    obtain ⟨a, v⟩ := e
    cases v <;> simp at h1
    exact ⟨_, intKind_is _ _ _ _, h1⟩
  · intro k
    rw [List.any_eq_true]
    rfl
theorem b1_tab (P : Params) : (sigTab.all fun p => ((setEs P).toList.any fun e => Value.isInt (p.1 : Int) e.2) == p.2.isEmpty) = true := by kernel_rfl
theorem inb1 {w : World} {A : Around} {s : Shared} {mg mb : Str → Option Value} (W : Wd w mg mb s.heap) (hA : A.depth ≤ 500) (c : Nat) (m : List Nat) (hc : (c, m) ∈ sigTab) (t : Tok) :
    codeAny (model pw w) A (.call (.ref 71) ⟨[.str ⟨#[c]⟩ t], []⟩) (fun r s' => Seal (r = .ok (.ret (.bool m.isEmpty)) ∧ Keeps s s')) s := by
  obtain ⟨KX, T⟩ := W
  have ho := KX 71 (o3_71 w.params) (by kernel_rfl)
  refine call_plain_ret (name := S "in_table_b1") (params := dA (stm 9)) (body := dB (stm 9)) (scope := dS (stm 9)) (pm := _) (cd := .ref 70) (doc := .none) (o := o3_71 w.params) (binds := [(S "code", .str ⟨#[c]⟩ t)]) (Nat.lt_of_le_of_lt hA (by decide)) ho (by rfl) T.nolimit ?_ (by rfl) ?_ ?_ (by rfl) (by rfl) (by rfl) (by decide)
  · exact codeRec_of KX (by kernel_rfl)
  · intro y hy
    rcases List.mem_singleton.mp hy with rfl
    kernel_rfl
  · intro h₁ F
    have N : News s.heap s.heap.objs.size h₁ [] := News.nil
    show wpAny (model pw w) _ (execs [_] _) _ _ _
    repeat' walk1
    refine wpAny_inSet_of (intKind_is _ _ _ _) rfl (b1_set w _ (KX.keeps F.keep)) ?_
    have := List.all_eq_true.mp (b1_tab w.params) _ hc
    exact ⟨by rw [beq_iff_eq.mp this], _, _, rfl, F.keep⟩
theorem b3_get (P : Params) : (KG P).lookup 72 = some (b3o0 P) := by kernel_rfl
theorem b3_keyed : (b3es.all fun e => match e.key with | .int k _ => e.hash == hashInt k | _ => false) = true := by kernel_rfl
theorem b3_map (w : World) (h : Heap) (X : (KG w.params).In h) : h.MapOf (intKind pw w) 72 (fun k => findBy Value.isInt b3es.toArray k) := by
  refine ⟨b3o0 w.params, b3es.toArray, _, X _ _ (b3_get _), ⟨rfl, rfl, rfl⟩, rfl, ?_, fun _ => rfl⟩
  intro e he
  have h1 := List.all_eq_true.mp b3_keyed e (by simpa using he)
  obtain ⟨a, k, v⟩ := e
  cases k <;> simp at h1
  exact ⟨_, intKind_is _ _ _ _, h1⟩
theorem b3_tab : (sigTab.all fun p => p.2.isEmpty || match (b3es.find? fun e => Value.isInt (p.1 : Int) e.key) with | some e => (match e.val with | .str x _ => x == ⟨p.2.toArray⟩ | _ => false) | none => p.1 < 128 && (Txt.lower ⟨#[p.1]⟩ == ⟨p.2.toArray⟩)) = true := by kernel_rfl
theorem sig_len : ∀ p ∈ sigTab, p.2.length ≤ 3 := by decide
theorem mapb3 {w : World} {A : Around} {s : Shared} {mg mb : Str → Option Value} (W : Wd w mg mb s.heap) (hA : A.depth ≤ 500) (c : Nat) (m : List Nat) (hc : (c, m) ∈ sigTab) (hm : m ≠ []) (t : Tok) :
    codeAny (model pw w) A (.call (.ref 117) ⟨[.str ⟨#[c]⟩ t], []⟩) (fun r s' => Seal ((∃ t', r = .ok (.ret (.str ⟨m.toArray⟩ t'))) ∧ Keeps s s')) s := by
  obtain ⟨KX, T⟩ := W
  have ho := KX 117 (o5_117 w.params) (by kernel_rfl)
  have hmm := fun h (k : ∀ b o, s.heap.get? b = some o → Heap.get? h b = some o) => b3_map w h (KX.keeps k)
  have htab := List.all_eq_true.mp b3_tab _ hc
  refine call_plain_ret (name := S "map_table_b3") (params := dA (stm 11)) (body := dB (stm 11)) (scope := dS (stm 11)) (pm := _) (cd := .ref 116) (doc := .none) (o := o5_117 w.params) (binds := [(S "code", .str ⟨#[c]⟩ t)]) (Nat.lt_of_le_of_lt hA (by decide)) ho (by rfl) T.nolimit ?_ (by rfl) ?_ ?_ (by rfl) (by rfl) (by rfl) (by decide)
  · exact codeRec_of KX (by kernel_rfl)
  · intro y hy
    rcases List.mem_singleton.mp hy with rfl
    kernel_rfl
  · intro h₁ F
    have N : News s.heap s.heap.objs.size h₁ [] := News.nil
    show wpAny (model pw w) _ (execs [_,_,_] _) _ _ _
    repeat' walk1
    refine getMethod_builtin (hmm _ F.keep).typeIs PySem.F.plainAttrs_dict PySem.F.slot_dict_get (by first | rfl | exact PySem.F.type_dict_get) (hmm _ F.keep).noDict ?_
    repeat' walk1
    have hfb : findBy Value.isInt b3es.toArray (c : Int) = (b3es.find? fun e => Value.isInt (c : Int) e.key).map (·.val) := by
      unfold findBy
      rw [List.find?_toArray]
    cases hfind : b3es.find? (fun e => Value.isInt (c : Int) e.key) with
    | some e =>
      obtain ⟨eh, ek, ev⟩ := e
      simp only [hfind] at htab hfb
      have hme : m.isEmpty = false := by cases m <;> simp at hm ⊢
      rw [hme, Bool.false_or] at htab
      cases ev with
      | str x tok =>
        have hx := beq_iff_eq.mp htab
        subst hx
        refine call_meetsIn PySem.F.slot_dict_get (hmm _ F.keep).typeIs PySem.F.entry_dict_get (PySem.F.args_dict_get_2 _ _) (meets_dict_get (intKind pw w) 72 (intKind_is _ _ _ _) (by decide)) ⟨_, hmm _ F.keep, ?_⟩
        dsimp only
        rw [hfb]
        show wpAny _ _ (storeName _ _ (Value.str _ tok)) _ _ _
        repeat' walk1
        exact ⟨⟨_, rfl⟩, _, _, rfl, Fr.keep (by assumption)⟩
      | _ => cases htab
    | none =>
      simp only [hfind] at htab hfb
      have hme : m.isEmpty = false := by cases m <;> simp at hm ⊢
      rw [hme, Bool.false_or] at htab
      obtain ⟨h1, h2⟩ := Bool.and_eq_true_iff.mp htab
      have hx := beq_iff_eq.mp h2
      refine call_meetsIn PySem.F.slot_dict_get (hmm _ F.keep).typeIs PySem.F.entry_dict_get (PySem.F.args_dict_get_2 _ _) (meets_dict_get (intKind pw w) 72 (intKind_is _ _ _ _) (by decide)) ⟨_, hmm _ F.keep, ?_⟩
      dsimp only
      rw [hfb]
      show wpAny _ _ (storeName _ _ Value.none) _ _ _
      repeat' walk1
      have hl3 : m.length ≤ 3 := sig_len _ hc
      refine SC.lower (x := ⟨#[c]⟩) (by rw [hx]; unfold Builtin.Str.tooLong; exact decide_eq_false (Nat.not_lt.mpr (Nat.le_trans (show (Str.mk m.toArray).length ≤ 3 by simpa [Str.length] using hl3) (by decide)))) ?_
      rw [hx]
      exact ⟨⟨_, rfl⟩, _, _, rfl, Fr.keep (by assumption)⟩
end Mine
end
section
set_option maxRecDepth 100000
set_option maxHeartbeats 4000000
namespace Mine
open PySem PySem.W PySem.Calls PyProof.Rows
def SignPost (s : Shared) (r : Result) (s' : Shared) : Prop :=
  ∃ T c m t u, r = .ok (.ret (.ref T)) ∧ (c, m) ∈ sigTab ∧ s.heap.get? T = none ∧ s'.heap.get? T = some { cls := .type "tuple", data := .seq #[.str ⟨#[c]⟩ t, .str ⟨m.toArray⟩ u] } ∧ Keeps s s'
theorem signPost_of {s : Shared} {h' : Heap} {L D : Addr} {mm : Str → Option Value} {tk : Nat} {a b : Str} {t u : Tok} {rest : List (Addr × Obj)} {c : Nat} {m : List Nat}
    (N : News s.heap L h' ((D, { cls := .type "tuple", data := .seq #[.str a t, .str b u] }) :: rest)) (F : Fr s.heap L h' mm) (ea : a = ⟨#[c]⟩) (eb : b = ⟨m.toArray⟩) (hm : (c, m) ∈ sigTab) :
    SignPost s (.ok (.ret (.ref D))) { s with heap := h', toks := tk } := by
  subst ea eb
  exact ⟨D, c, m, t, u, rfl, hm, N.fresh (.head _), N.get (.head _), _, _, rfl, F.keep⟩
theorem carried_ints : ∀ {ys : List Value} {ns : List Int}, CarriedAll ys (ns.map .int) → IntsAre ys ns
  | _, [], .nil => .nil
  | _, _ :: _, .cons h r => by
    cases h
    exact .cons _ _ (carried_ints r)
theorem nat_of_fmod (v : Int) (n : Nat) (hn : 0 < (n : Int)) : ∃ k : Nat, k < n ∧ v.fmod n = (k : Int) := by
  have h0 := Int.fmod_nonneg_of_pos v hn
  have h1 := Int.fmod_lt_of_pos v hn
  exact ⟨(v.fmod n).toNat, by omega, by omega⟩
theorem kind0_tab : ∀ k : Nat, k < 26 → Txt.item (Str.ofString "()[]:,;+-*/|&<>=.%{}~^@!\"\\") (k : Int) = ⟨#[plainL.getD k 0]⟩ ∧ (plainL.getD k 0, [plainL.getD k 0]) ∈ sigTab := by decide +kernel
theorem kind12_tab : ∀ k : Nat, k < 26 → (65 + k, [97 + k]) ∈ sigTab ∧ (119808 + k, [97 + k]) ∈ sigTab := by decide +kernel
theorem kind4_tab : ∀ k : Nat, k < 27 → 0 ≤ ([173, 847, 6150, 6155, 6156, 6157, 8203, 8204, 8205, 8288, 65279] ++ rangeInts 65024 1 16).getD k 0 ∧ ([173, 847, 6150, 6155, 6156, 6157, 8203, 8204, 8205, 8288, 65279] ++ rangeInts 65024 1 16).getD k 0 ≤ 1114111 ∧
    ((([173, 847, 6150, 6155, 6156, 6157, 8203, 8204, 8205, 8288, 65279] ++ rangeInts 65024 1 16).getD k 0).toNat, []) ∈ sigTab := by decide +kernel
theorem kind3_tab : Txt.item (Str.ofString "ßﬃ㏇№") 0 = ⟨#[223]⟩ ∧ Txt.item (Str.ofString "ßﬃ㏇№") 1 = ⟨#[64259]⟩ ∧ Txt.item (Str.ofString "ßﬃ㏇№") 2 = ⟨#[13255]⟩ ∧ Txt.item (Str.ofString "ßﬃ㏇№") 3 = ⟨#[8470]⟩ := by decide +kernel
theorem lsign {w : World} {A : Around} {s : Shared} {mg mb : Str → Option Value} (W : Wd w mg mb s.heap) (hh : A.handled = none) (hA : A.depth ≤ 500) (v : Int) (t : Tok) :
    codeAny (model pw w) A (.call (.ref 141) ⟨[.int v t], []⟩) (SignPost s) s := by
  obtain ⟨KX, T⟩ := W
  have ho := KX 141 (o7_141 w.params) (by kernel_rfl)
  refine call_plain_ret (name := S "_law_sign") (params := dA (stm 67)) (body := dB (stm 67)) (scope := dS (stm 67)) (pm := _) (cd := .ref 140) (doc := .none) (o := o7_141 w.params) (binds := [(S "v", .int v t)]) (Nat.lt_of_le_of_lt hA (by decide)) ho (by rfl) T.nolimit ?_ (by rfl) ?_ ?_ (by rfl) (by rfl) (by rfl) (by decide)
  · exact codeRec_of KX (by kernel_rfl)
  · intro y hy
    rcases List.mem_singleton.mp hy with rfl
    kernel_rfl
  · intro h₁ F
    have N : News s.heap s.heap.objs.size h₁ [] := News.nil
    show wpAny (model pw w) _ (execs [_,_,_,_,_,_,_] _) _ _ _
    repeat' walk1
    · rename News _ _ _ _ => N'
      rename Fr _ _ _ _ => F'
      obtain ⟨k, hk, e⟩ := nat_of_fmod (v.fdiv 5) 26 (by decide)
      exact signPost_of N' F' (by rw [show ((26 : Nat) : Int) = 26 from rfl] at e; rw [e]; exact (kind0_tab k hk).1) (by rw [show ((26 : Nat) : Int) = 26 from rfl] at e; rw [e]; exact (kind0_tab k hk).1) (kind0_tab k hk).2
    · rename News _ _ _ _ => N'
      rename Fr _ _ _ _ => F'
      obtain ⟨k, hk, e⟩ := nat_of_fmod (v.fdiv 5) 26 (by decide)
      rw [show ((26 : Nat) : Int) = 26 from rfl] at e
      exact signPost_of (c := 65 + k) (m := [97 + k]) N' F' (by rw [e, show (65 + (k : Int)).toNat = 65 + k by omega]) (by rw [e, show (97 + (k : Int)).toNat = 97 + k by omega]) (kind12_tab k hk).1
    · rename News _ _ _ _ => N'
      rename Fr _ _ _ _ => F'
      obtain ⟨k, hk, e⟩ := nat_of_fmod (v.fdiv 5) 26 (by decide)
      rw [show ((26 : Nat) : Int) = 26 from rfl] at e
      exact signPost_of (c := 119808 + k) (m := [97 + k]) N' F' (by rw [e, show (119808 + (k : Int)).toNat = 119808 + k by omega]) (by rw [e, show (97 + (k : Int)).toNat = 97 + k by omega]) (kind12_tab k hk).2
    · rename News _ _ _ _ => N'
      rename Fr _ _ _ _ => F'
      rename Int.fmod _ 4 = _ => e
      exact signPost_of (c := 223) (m := [115, 115]) N' F' (by rw [e]; exact kind3_tab.1) (by rfl) (by decide)
    · rename News _ _ _ _ => N'
      rename Fr _ _ _ _ => F'
      rename Int.fmod _ 4 = _ => e
      exact signPost_of (c := 64259) (m := [102, 102, 105]) N' F' (by rw [e]; exact kind3_tab.2.1) (by rfl) (by decide)
    · rename News _ _ _ _ => N'
      rename Fr _ _ _ _ => F'
      rename Int.fmod _ 4 = _ => e
      exact signPost_of (c := 13255) (m := [99, 111, 46]) N' F' (by rw [e]; exact kind3_tab.2.2.1) (by rfl) (by decide)
    · rename News _ _ _ _ => N'
      rename Fr _ _ _ _ => F'
      rename Int.fmod _ 4 = _ => e
      exact signPost_of (c := 8470) (m := [110, 111]) N' F' (by rw [e]; exact kind3_tab.2.2.2) (by rfl) (by decide)
    · rename News _ _ _ _ => N'
      rename Fr _ _ _ _ => F'
      rename IsRange _ _ _ _ _ _ _ _ => R'
      refine list_rangeD hh F' N' R' (by decide) (n := 16) (by decide) (by decide) ?_
      intro h₅ tk₅ ys F₅ N₅ k₅ hn hl hp hc
      refine add_lists_ints F₅ N₅ (N₅.isList (.head _)) hl (ns := [173, 847, 6150, 6155, 6156, 6157, 8203, 8204, 8205, 8288, 65279]) (by repeat' constructor) (carried_ints hc) ?_
      intro h₆ F₆ N₆ hI
      repeat' walk1
      obtain ⟨k, hk, e⟩ := nat_of_fmod (v.fdiv 5) 27 (by decide)
      rw [show ((27 : Nat) : Int) = 27 from rfl] at e
      rw [e, Int.toNat_natCast]
      obtain ⟨e1, e2, e3⟩ := kind4_tab k hk
      refine chr_of_range e1 e2 ?_
      repeat' walk1
      rename News _ _ _ _ => N''
      rename Fr _ _ _ _ => F''
      exact signPost_of N'' F'' rfl rfl e3
end Mine
end
section
set_option maxRecDepth 100000
set_option maxHeartbeats 4000000
namespace Mine
open PySem PySem.W PySem.Calls PyProof.Rows
def fdOf (o : Obj) : FuncData := match o.data with | .func fd => fd | _ => default
theorem bindsR (w : World) {s : Shared} (X : (KG w.params).In s.heap) (a : Addr) (x : Int) (t : Tok) : BindsTo s (fdOf (o1_44 w.params)) ⟨[.ref a, .int x t], []⟩ [(S "a", .ref a), (S "x", .int x t), (S "lo", .int 0 223), (S "hi", .none), (S "key", .none)] := by
  intro M A E Q hq Γ p hΓ
  exact wp_of_peek X hq _ (by kernel_rfl)
theorem bindsL (w : World) {s : Shared} (X : (KG w.params).In s.heap) (a : Addr) (x : Int) (t : Tok) : BindsTo s (fdOf (o1_53 w.params)) ⟨[.ref a, .int x t], []⟩ [(S "a", .ref a), (S "x", .int x t), (S "lo", .int 0 237), (S "hi", .none), (S "key", .none)] := by
  intro M A E Q hq Γ p hΓ
  exact wp_of_peek X hq _ (by kernel_rfl)
/-- the locals of a bisection -/
def bisM (a : Addr) (x : Int) (t : Tok) (lo hi : Nat) (t1 t2 : Tok) (g : Str → Option Value) : Str → Option Value := fun y =>
  if y = Str.ofString "lo" then some (.int (lo : Nat) t1) else if y = Str.ofString "hi" then some (.int (hi : Nat) t2) else if y = Str.ofString "a" then some (.ref a) else if y = Str.ofString "x" then some (.int x t) else g y
theorem bisM_of {a : Addr} {x : Int} {t : Tok} {lo hi : Nat} {t1 t2 : Tok} {m : Str → Option Value} (e1 : m (Str.ofString "lo") = some (.int (lo : Nat) t1)) (e2 : m (Str.ofString "hi") = some (.int (hi : Nat) t2))
    (e3 : m (Str.ofString "a") = some (.ref a)) (e4 : m (Str.ofString "x") = some (.int x t)) : m = bisM a x t lo hi t1 t2 m := by
  funext y
  unfold bisM
  by_cases h1 : y = Str.ofString "lo"
  · rw [if_pos h1, h1]; exact e1
  rw [if_neg h1]
  by_cases h2 : y = Str.ofString "hi"
  · rw [if_pos h2, h2]; exact e2
  rw [if_neg h2]
  by_cases h3 : y = Str.ofString "a"
  · rw [if_pos h3, h3]; exact e3
  rw [if_neg h3]
  by_cases h4 : y = Str.ofString "x"
  · rw [if_pos h4, h4]; exact e4
  rw [if_neg h4]
theorem frBis {h₀ h : Heap} {L : Addr} {a : Addr} {x : Int} {t : Tok} {lo hi : Nat} {t1 t2 : Tok} {m : Str → Option Value} (F : Fr h₀ L h m) (e1 : m (Str.ofString "lo") = some (.int (lo : Nat) t1)) (e2 : m (Str.ofString "hi") = some (.int (hi : Nat) t2))
    (e3 : m (Str.ofString "a") = some (.ref a)) (e4 : m (Str.ofString "x") = some (.int x t)) : Fr h₀ L h (bisM a x t lo hi t1 t2 m) := bisM_of e1 e2 e3 e4 ▸ F
theorem getD_lt {ns : List Int} {i : Nat} {d : Int} (h : i < ns.length) : ns.getD i d = ns[i] := by
  rw [List.getD, List.getElem?_eq_getElem h]; rfl
theorem whileS {prog : Program} {w : World} {A : Around} {R : Result → Shared → Prop} {s : Shared} {test body orelse env} (I : Nat → Shared → Prop)
    (turn : ∀ n s, I n s →
      wpAny (model prog w) A (isTrue test env (eval test env)) (fun b s₂ =>
        if b then wpAny (model prog w) A (execs body env) (fun f s₃ => match f with
            | .next | .cont => Seal (∃ m, m < n ∧ I m s₃)
            | .brk => R (.ok .next) s₃
            | .ret v => R (.ok (.ret v)) s₃) (fun _ _ => False) s₂
        else wpAny (model prog w) A (execs orelse env) (fun f s₃ => R (.ok f) s₃) (fun _ _ => False) s₂)
        (fun _ _ => False) s)
    (n : Nat) (h : I n s) : codeAny (model prog w) A (.whileLoop test body orelse env) R s :=
  codeAny_whileLoop I (fun n s hI => wpAny_mono (turn n s hI) (fun b s₂ hb => by
    cases b
    · exact wpAny_mono hb (fun _ _ x => x) fun _ _ x => x.elim
    · exact wpAny_mono hb (fun f _ x => by cases f <;> exact x) fun _ _ x => x.elim) fun _ _ x => x.elim) n h
theorem mid_of (lo hi : Nat) : ((lo : Int) + hi).fdiv 2 = (((lo + hi) / 2 : Nat) : Int) := by
  rw [Int.fdiv_eq_ediv_of_nonneg _ (by decide)]
  omega
theorem ints_get {vs : List Value} {ns : List Int} (h : IntsAre vs ns) : ∀ {i : Nat} (hi : i < ns.length), ∃ t, vs[i]? = some (.int ns[i] t) := by
  induction h with
  | nil => intro i hi; cases hi
  | cons n t h ih =>
    intro i hi
    cases i with
    | zero => exact ⟨t, rfl⟩
    | succ i => exact ih (i := i) (by simpa using hi)
theorem ints_len {vs : List Value} {ns : List Int} (h : IntsAre vs ns) : vs.length = ns.length := h.length
theorem count_split (p : Int → Bool) (ns : List Int) (k : Nat) (hk : k ≤ ns.length) (h1 : ∀ i (h : i < ns.length), i < k → p ns[i] = true) (h2 : ∀ i (h : i < ns.length), k ≤ i → p ns[i] = false) : ns.countP p = k := by
  rw [← List.take_append_drop k ns, List.countP_append]
  have e1 : (ns.take k).countP p = (ns.take k).length := List.countP_eq_length.mpr fun a ha => by
    obtain ⟨i, hi, rfl⟩ := List.mem_iff_getElem.mp ha
    rw [List.length_take] at hi
    rw [List.getElem_take]
    exact h1 i (by omega) (by omega)
  have e2 : (ns.drop k).countP p = 0 := List.countP_eq_zero.mpr fun a ha => by
    obtain ⟨i, hi, rfl⟩ := List.mem_iff_getElem.mp ha
    rw [List.getElem_drop]
    simp [h2 (k + i) (by rw [List.length_drop] at hi; omega) (by omega)]
  rw [e1, e2, List.length_take]
  omega
theorem sorted_le {ns : List Int} (hso : ∀ i j (hj : j < ns.length) (hij : i < j), ns[i] ≤ ns[j]) {i j : Nat} (hj : j < ns.length) (hi : i < ns.length) (hij : i ≤ j) : ns[i] ≤ ns[j] := by
  rcases Nat.lt_or_eq_of_le hij with h | h
  · exact hso i j hj h
  · subst h; exact Int.le_refl _

theorem bisR {w : World} {A : Around} {s : Shared} {mg mb : Str → Option Value} (W : Wd w mg mb s.heap) (hh : A.handled = none) (hA : A.depth ≤ 500) (a : Addr) (vs : List Value) (ns : List Int) (x : Int) (t : Tok)
    (hl : s.heap.IsList a vs.toArray) (hi : IntsAre vs ns) (hlen : ns.length ≤ 1000) (hso : ∀ i j (hj : j < ns.length) (hij : i < j), ns[i] ≤ ns[j]) :
    codeAny (model pw w) A (.call (.ref 44) ⟨[.ref a, .int x t], []⟩) (fun r s' => Seal ((∃ t', r = .ok (.ret (.int (ns.countP (fun y => decide (y ≤ x)) : Nat) t'))) ∧ Keeps s s')) s := by
  obtain ⟨KX, T⟩ := W
  have ho := KX 44 (o1_44 w.params) (by kernel_rfl)
  refine codeAny_call_def (fd := fdOf (o1_44 w.params)) (body := dB (stm 5)) (binds := [(S "a", .ref a), (S "x", .int x t), (S "lo", .int 0 223), (S "hi", .none), (S "key", .none)]) (Nat.lt_of_le_of_lt hA (by decide)) ho (by kernel_rfl) T.nolimit (codeRec_of KX (by kernel_rfl)) (by rfl) (bindsR w KX a x t) ?_ ?_ ?_ (by rfl) (by rfl) (by rfl)
  · show ∀ x ∈ (dS (stm 5)).names, x.2 ≠ .cell
    decide
  · exact locs (scope := dS (stm 5)) (by rfl)
  · intro h₁ hn hk
    have F : Fr s.heap s.heap.objs.size h₁ _ := ⟨hn, hk, Nat.le_refl _⟩
    have N : News s.heap s.heap.objs.size h₁ [] := News.nil
    refine wpAny_mono ?_ (fun _ _ x => x) (fun (e : Value) (s' : Shared) (x : False) => x.elim)
    show wpAny (model pw w) _ (execs [_, _, _, _] (envOf (S "bisect_right") (dS (stm 5)) s.heap.objs.size 44 (.ref 43))) _ _ _
    generalize A.deeper (callEnv (fdOf (o1_44 w.params)) s.heap.objs.size 44) = A'
    repeat' (fail_if_success (with_reducible refine wpAny_While ?_)); walk1
    rename Fr _ _ _ _ => F'
    refine wpAny_While ?_
    refine whileS (fun k s' => ∃ h' tk m' lo hi t1 t2, s' = { s with heap := h', toks := tk } ∧ Fr s.heap s.heap.objs.size h' (bisM a x t lo hi t1 t2 m') ∧ lo ≤ hi ∧ hi ≤ ns.length ∧
      (∀ i (h : i < ns.length), i < lo → ns[i] ≤ x) ∧ (∀ i (h : i < ns.length), hi ≤ i → x < ns[i]) ∧ k = hi - lo) ?_ ns.length ?_
    · rintro k s' ⟨h', tk, m', lo, hi', t1, t2, rfl, F₂, hlh, hhn, i1, i2, rfl⟩
      have N₂ : News s.heap s.heap.objs.size h' [] := News.nil
      unfold bisM at F₂
      repeat' walk1
      · rename Fr _ _ _ _ => F'
        rename (lo : Int) < hi' => hlt
        rename _ < List.getD _ _ _ => hx
        have hlt' : lo < hi' := by omega
        rw [mid_of] at F' hx
        rw [Int.toNat_natCast, getD_lt (by omega : (lo + hi') / 2 < ns.length)] at hx
        refine ⟨(lo + hi') / 2 - lo, by omega, _, _, _, lo, (lo + hi') / 2, t1, _, rfl, frBis F' rfl rfl rfl rfl, by omega, by omega, i1, ?_, rfl⟩
        intro i h hmi
        exact Int.lt_of_lt_of_le hx (sorted_le hso h (by omega) hmi)
      · rename Fr _ _ _ _ => F'
        rename (lo : Int) < hi' => hlt
        rename ¬ (_ < List.getD _ _ _) => hx
        have hlt' : lo < hi' := by omega
        rw [mid_of] at F' hx
        rw [Int.toNat_natCast, getD_lt (by omega : (lo + hi') / 2 < ns.length)] at hx
        refine ⟨hi' - ((lo + hi') / 2 + 1), by omega, _, _, _, (lo + hi') / 2 + 1, hi', _, t2, rfl, frBis F' rfl rfl rfl rfl, by omega, hhn, ?_, i2, rfl⟩
        intro i h hmi
        exact Int.le_trans (sorted_le hso (by omega : (lo + hi') / 2 < ns.length) h (by omega)) (Int.not_lt.mp hx)
      · rename ¬ ((lo : Int) < hi') => hlt
        have e : lo = hi' := by omega
        subst e
        refine ⟨⟨t1, ?_⟩, _, _, rfl, F₂.keep⟩
        rw [count_split _ ns lo hhn (fun i h hl => decide_eq_true (i1 i h hl)) (fun i h hl => decide_eq_false (Int.not_le.mpr (i2 i h hl)))]
    · exact ⟨_, _, _, 0, ns.length, _, _, rfl, frBis F' rfl rfl rfl rfl, Nat.zero_le _, Nat.le_refl _, fun _ _ h => absurd h (Nat.not_lt_zero _), fun i h h2 => absurd h (Nat.not_lt.mpr h2), rfl⟩

theorem bisL {w : World} {A : Around} {s : Shared} {mg mb : Str → Option Value} (W : Wd w mg mb s.heap) (hh : A.handled = none) (hA : A.depth ≤ 500) (a : Addr) (vs : List Value) (ns : List Int) (x : Int) (t : Tok)
    (hl : s.heap.IsList a vs.toArray) (hi : IntsAre vs ns) (hlen : ns.length ≤ 1000) (hso : ∀ i j (hj : j < ns.length) (hij : i < j), ns[i] ≤ ns[j]) :
    codeAny (model pw w) A (.call (.ref 53) ⟨[.ref a, .int x t], []⟩) (fun r s' => Seal ((∃ t', r = .ok (.ret (.int (ns.countP (fun y => decide (y < x)) : Nat) t'))) ∧ Keeps s s')) s := by
  obtain ⟨KX, T⟩ := W
  have ho := KX 53 (o1_53 w.params) (by kernel_rfl)
  refine codeAny_call_def (fd := fdOf (o1_53 w.params)) (body := dB (stm 6)) (binds := [(S "a", .ref a), (S "x", .int x t), (S "lo", .int 0 237), (S "hi", .none), (S "key", .none)]) (Nat.lt_of_le_of_lt hA (by decide)) ho (by kernel_rfl) T.nolimit (codeRec_of KX (by kernel_rfl)) (by rfl) (bindsL w KX a x t) ?_ ?_ ?_ (by rfl) (by rfl) (by rfl)
  · show ∀ x ∈ (dS (stm 6)).names, x.2 ≠ .cell
    decide
  · exact locs (scope := dS (stm 6)) (by rfl)
  · intro h₁ hn hk
    have F : Fr s.heap s.heap.objs.size h₁ _ := ⟨hn, hk, Nat.le_refl _⟩
    have N : News s.heap s.heap.objs.size h₁ [] := News.nil
    refine wpAny_mono ?_ (fun _ _ x => x) (fun (e : Value) (s' : Shared) (x : False) => x.elim)
    show wpAny (model pw w) _ (execs [_, _, _, _] (envOf (S "bisect_left") (dS (stm 6)) s.heap.objs.size 53 (.ref 52))) _ _ _
    generalize A.deeper (callEnv (fdOf (o1_53 w.params)) s.heap.objs.size 53) = A'
    repeat' (fail_if_success (with_reducible refine wpAny_While ?_)); walk1
    rename Fr _ _ _ _ => F'
    refine wpAny_While ?_
    refine whileS (fun k s' => ∃ h' tk m' lo hi t1 t2, s' = { s with heap := h', toks := tk } ∧ Fr s.heap s.heap.objs.size h' (bisM a x t lo hi t1 t2 m') ∧ lo ≤ hi ∧ hi ≤ ns.length ∧
      (∀ i (h : i < ns.length), i < lo → ns[i] < x) ∧ (∀ i (h : i < ns.length), hi ≤ i → x ≤ ns[i]) ∧ k = hi - lo) ?_ ns.length ?_
    · rintro k s' ⟨h', tk, m', lo, hi', t1, t2, rfl, F₂, hlh, hhn, i1, i2, rfl⟩
      have N₂ : News s.heap s.heap.objs.size h' [] := News.nil
      unfold bisM at F₂
      repeat' walk1
      · rename Fr _ _ _ _ => F'
        rename (lo : Int) < hi' => hlt
        rename List.getD _ _ _ < _ => hx
        have hlt' : lo < hi' := by omega
        rw [mid_of] at F' hx
        rw [Int.toNat_natCast, getD_lt (by omega : (lo + hi') / 2 < ns.length)] at hx
        refine ⟨hi' - ((lo + hi') / 2 + 1), by omega, _, _, _, (lo + hi') / 2 + 1, hi', _, t2, rfl, frBis F' rfl rfl rfl rfl, by omega, hhn, ?_, i2, rfl⟩
        intro i h hmi
        exact Int.lt_of_le_of_lt (sorted_le hso (by omega : (lo + hi') / 2 < ns.length) h (by omega)) hx
      · rename Fr _ _ _ _ => F'
        rename (lo : Int) < hi' => hlt
        rename ¬ (List.getD _ _ _ < _) => hx
        have hlt' : lo < hi' := by omega
        rw [mid_of] at F' hx
        rw [Int.toNat_natCast, getD_lt (by omega : (lo + hi') / 2 < ns.length)] at hx
        refine ⟨(lo + hi') / 2 - lo, by omega, _, _, _, lo, (lo + hi') / 2, t1, _, rfl, frBis F' rfl rfl rfl rfl, by omega, by omega, i1, ?_, rfl⟩
        intro i h hmi
        exact Int.le_trans (Int.not_lt.mp hx) (sorted_le hso h (by omega) hmi)
      · rename ¬ ((lo : Int) < hi') => hlt
        have e : lo = hi' := by omega
        subst e
        refine ⟨⟨t1, ?_⟩, _, _, rfl, F₂.keep⟩
        rw [count_split _ ns lo hhn (fun i h hl => decide_eq_true (i1 i h hl)) (fun i h hl => decide_eq_false (Int.not_lt.mpr (i2 i h hl)))]
    · exact ⟨_, _, _, 0, ns.length, _, _, rfl, frBis F' rfl rfl rfl rfl, Nat.zero_le _, Nat.le_refl _, fun _ _ h => absurd h (Nat.not_lt_zero _), fun i h h2 => absurd h (Nat.not_lt.mpr h2), rfl⟩

end Mine
end
section
set_option maxRecDepth 100000
set_option maxHeartbeats 4000000
namespace Mine
open PySem PySem.W PySem.Calls PyProof.Rows
section
variable {prog : Program} {w : World} {A : Around} {R : GenEnd} {Y : Protocol} {n : Nat} {s₀ : Shared} {c : Code} {fs : List Frame} {s : Shared} {env : Env}
  {K : Flow → Sem Fin} {H : Value → Sem Fin} {gd : Bool → Bool} {lv : List Value → List Value}

/-- an if within a generator's body -/
theorem seg_If {test : Expr} {body orelse : List Stmt} {pos : Pos}
    (h : wpAny (model prog w) (A.over c fs) (isTrue test env (eval test env)) (fun b s' =>
      if b = true then Seg (model prog w) A R Y n s₀ c ((execs body env).wrap K H gd lv) fs s' else Seg (model prog w) A R Y n s₀ c ((execs orelse env).wrap K H gd lv) fs s') (fun _ _ => False) s) :
    Seg (model prog w) A R Y n s₀ c ((exec (.If test body orelse pos) env).wrap K H gd lv) fs s := by
  rw [exec_If]
  refine seg_bind_wrap (wpAny_standAt (seg_bind_wrap (wpAny_mono h (fun b s' hb => ?_) fun _ _ x => x.elim)))
  cases b
  · exact hb
  · exact hb
/-- a plain statement within a generator's body -/
theorem seg_plain {st : Stmt} (h : wpAny (model prog w) (A.over c fs) (exec st env) (fun f s' => Seg (model prog w) A R Y n s₀ c (K f) fs s') (fun _ _ => False) s) :
    Seg (model prog w) A R Y n s₀ c ((exec st env).wrap K H gd lv) fs s := seg_wrap (wpAny_mono h (fun _ _ x => x) fun _ _ x => x.elim)

/-- the frame that waits for a loop's end -/
def loopRet (env : Env) (K : Flow → Sem Fin) (H : Value → Sem Fin) (gd : Bool → Bool) (lv : List Value → List Value) (c : Code) (p : Pos) : Frame :=
  .ret (fun r => ((match r with | .ok f => (.pure f : Sem Flow) | .error e => .raise e).onRaise fun (x : Value) => do
        if (← field x 1) == Value.none then unsupported "frame.own-activation:exception-without-traceback"
        setFlight x env.frame).wrap K H gd lv) none (gd false) (lv []) c p []
theorem seg_runOwn {c' : Code} (h : ∀ p, Seg (model prog w) A R Y n s₀ c' ((model prog w).den c') (loopRet env K H gd lv c p :: fs) s) :
    Seg (model prog w) A R Y n s₀ c ((runOwn c' env).wrap K H gd lv) fs s := seg_call h
theorem seg_For {target iter : Expr} {body orelse : List Stmt} {pos : Pos}
    (h : wpAny (model prog w) (A.over c fs) (eval iter env) (fun x s₁ => wpAny (model prog w) (A.over c fs) (pyIter x) (fun it s₂ =>
      ∀ p, Seg (model prog w) A R Y n s₀ (.forLoop target it body orelse env) ((model prog w).den (.forLoop target it body orelse env)) (loopRet env K H gd lv c p :: fs) s₂) (fun _ _ => False) s₁) (fun _ _ => False) s)
    (hs : ∀ x, foldedSetIterable iter env x = pure x := by intro _; rfl) :
    Seg (model prog w) A R Y n s₀ c ((exec (.For target iter body orelse pos) env).wrap K H gd lv) fs s := by
  rw [exec_For]
  refine seg_bind_wrap (wpAny_standAt (seg_bind_wrap (wpAny_mono h (fun x s₁ h₁ => ?_) fun _ _ x => x.elim)))
  refine seg_bind_wrap (wpAny_of_eq (hs x) (seg_bind_wrap (wpAny_standAt (seg_bind_wrap (wpAny_holding (wpAny_mono h₁ (fun it s₂ h₂ => ?_) fun _ _ x => x.elim))))))
  exact seg_runOwn h₂

def turnK (target : Expr) (it : Value) (body orelse : List Stmt) (env : Env) : Flow → Sem Fin := fun f => match f with
  | .next | .cont => .pure (.again (.forLoop target it body orelse env))
  | .brk => .pure (.done .next)
  | .ret v => .pure (.done (.ret v))
def turnH (env : Env) : Value → Sem Fin := fun e => (do noteFrame e env; theTreesLotGoes e : Sem Unit).wrap (fun _ => .raise e) .raise id id

/-- one turn of a for loop within a generator's body -/
theorem seg_forLoop {target : Expr} {it : Value} {body orelse : List Stmt}
    (h : wpAny (model prog w) (A.over (.forLoop target it body orelse env) fs) (pyNext it) (fun r s₁ => match r with
      | none => Seg (model prog w) A R Y n s₀ (.block orelse env) ((model prog w).den (.block orelse env)) fs s₁
      | some v => wpAny (model prog w) (A.over (.forLoop target it body orelse env) fs) (letOwnedTupleGo target it v) (fun _ s₂ =>
          wpAny (model prog w) (A.over (.forLoop target it body orelse env) fs) (assign target env v) (fun _ s₃ =>
            Seg (model prog w) A R Y n s₀ (.forLoop target it body orelse env) ((execs body env).wrap (turnK target it body orelse env) (turnH env) id id) fs s₃) (fun _ _ => False) s₂) (fun _ _ => False) s₁) (fun _ _ => False) s) :
    Seg (model prog w) A R Y n s₀ (.forLoop target it body orelse env) ((model prog w).den (.forLoop target it body orelse env)) fs s := by
  show Seg _ A R Y n s₀ _ ((forTurn target it body orelse env).onRaise (fun x => do noteFrame x env; theTreesLotGoes x)) fs s
  unfold forTurn
  rw [Sem.onRaise_eq_wrap]
  refine seg_bind_wrap (wpAny_standAt (seg_bind_wrap (wpAny_onRaise (wpAny_mono h (fun r s₁ h₁ => ?_) fun _ _ x => x.elim))))
  cases r with
  | none => exact seg_again rfl h₁
  | some v =>
    refine seg_bind_wrap (wpAny_mono h₁ (fun _ s₂ h₂ => seg_bind_wrap (wpAny_mono h₂ (fun _ s₃ h₃ => ?_) fun _ _ x => x.elim)) fun _ _ x => x.elim)
    rw [Sem.bind_eq_wrap', Sem.wrap_wrap]
    rw [Sem.wrap_congr (execs body env) _ _ (K' := turnK target it body orelse env) (H' := turnH env) (fun f => by cases f <;> rfl)
      (fun e => by first | exact Sem.bind_eq_wrap _ _ | (show (do noteFrame e env; theTreesLotGoes e : Sem Unit).bind (fun _ => .raise e) = _; rw [Sem.bind_eq_wrap]; rfl))]
    exact h₃
/-- a for loop's end -/
theorem seg_forEnd {p : Pos} (h : Seg (model prog w) A R Y n s₀ c (K .next) fs s) :
    Seg (model prog w) A R Y n s₀ (.block [] env) ((model prog w).den (.block [] env)) (loopRet env K H gd lv c p :: fs) s := seg_leaf (.ok .next) h
end

section
variable {prog : Program} {w : World} {A : Around} {E : Value → Shared → Prop} {s : Shared}
theorem pyNext_genQ {a : Addr} {g n : Nat} {gs : GenState} {P : Nat → Shared → Shared → Prop} {Y : Protocol} {Q : Option Value → Shared → Prop} (hh : A.handled = none)
    (hl : s.heap.NoLimit) (hroom : A.depth < recursionLimit) (hg : s.heap.IsGen a g) (hgs : s.gens[g]? = some gs)
    (hgo : gs.Goes (model prog w) A.in1 (fun n s₀ r s₁ => r = .ok (.ret .none) ∧ P n s₀ s₁) Y n (.send .none) (s.setGen g .running))
    (hY : ∀ v s₁ gs', gs'.bare = true → Y (n - 1) (s.setGen g .running) v s₁ (fun r' s'' => match n with
        | 0 => False
        | m + 1 => gs'.Goes (model prog w) A.in1 (fun n s₀ r s₁ => r = .ok (.ret .none) ∧ P n s₀ s₁) Y m r' s'') → Q (some v) (s₁.setGen g gs'))
    (hP : ∀ s₁, P n (s.setGen g .running) s₁ → ∀ h', (∀ b o, s₁.heap.get? b = some o → h'.get? b = some o) → Q none { s₁.setGen g .finished with heap := h' }) :
    wpAny (model prog w) A (pyNext (.ref a)) Q E s := by
  unfold pyNext
  refine wpAny_bind (wpAny_attempt (wpAny_callSpecial?_slot (name := Str.ofString "__next__") hg.typeIs slot_gen_next
    (wpAny_call_entry slot_gen_next hg.typeIs entry_gen_next ?_ (args_gen_next _))))
  show wpAny _ A.in1 (Builtin.Generator.genWake (.ref a) (.send .none)) _ _ s
  unfold Builtin.Generator.genWake
  refine wpAny_bind (wpAny_holding (wpAny_genNumber hg (wpAny_bind (wpAny_genState hgs ?_))))
  cases gs with
  | running => exact hgo.elim
  | finished => exact hgo.elim
  | _ =>
    refine wpAny_bind (wpAny_roomToWake hl hroom ?_)
    show wpAny _ A.in1 (.resume g (.send .none) [] _) _ _ s
    refine wpAny_resumeQ hgs hgo (fun x s₁ hx => ?_) (fun v s₁ gs' hb hv => wpAny_pure ⟨v, rfl, wpAny_pure (hY v s₁ gs' hb hv)⟩)
    obtain ⟨rfl, hp⟩ := hx
    show wpAny _ _ (newExc (.type "StopIteration") [] >>= _) _ _ _
    refine wpAny_bind ?_
    simp only [newExc, newTuple]
    refine wpAny_bind (wpAny_newObj_type ?_ (by size_fits))
    refine wpAny_bind (m := firstArgMember _ _) (wpAny_of_eq (a := Value.none) (by first | rfl | (simp only [firstArgMember]; rfl)) ?_)
    refine wpAny_newObj_type ?_ (by size_fits)
    simp only [raiseNew]
    refine wpAny_bind (wpAny_bind (wpAny_handled ?_))
    first | rw [show A.in1.handled = none from hh] | rw [hh]
    refine wpAny_throw ?_
    refine wpAny_bind (wpAny_isInstance (T := "StopIteration") (b := true) ⟨_, Heap.get?_push_size _ rfl, rfl⟩ isSubtype_stop ?_)
    exact wpAny_pure (hP s₁ hp _ fun b o hb => Heap.get?_push_of_some _ (Heap.get?_push_of_some _ hb))
end
end Mine
end
section
set_option maxRecDepth 100000
set_option maxHeartbeats 4000000
namespace Mine
open PySem PySem.W PySem.Calls PyProof.Rows
/-- what a waiting generator may turn -/
def Loud (o : Obj) : Prop := (o.cls = .type "enumerate" ∨ o.cls = .type "str_iterator" ∨ o.cls = .type "str_ascii_iterator") ∧ ∃ vs, o.data = .fields vs
def escU : Nat → Bool → List Nat → List (Nat × List Nat)
  | i, e, [] => if e then [(i - 1, [92])] else []
  | i, true, c :: r => (i, [92, c]) :: escU (i + 1) false r
  | i, false, c :: r => if c = 92 then escU (i + 1) true r else (i, [c]) :: escU (i + 1) false r
def EG (C : Addr) : Env := envOf (S "_iter_escaped_chars") (dS (stm 1)) C 21 (.ref 20)
def gBody : List Stmt := dB (stm 1)
def gFor : Stmt := gBody.getD 2 (.Pass default)
def gIf : Stmt := gBody.getD 3 (.Pass default)
def forT : Stmt → Expr | .For t _ _ _ _ => t | _ => default
def forI : Stmt → Expr | .For _ i _ _ _ => i | _ => default
def forB : Stmt → List Stmt | .For _ _ b _ _ => b | _ => []
def K0 : Flow → Sem Fin := fun f => .pure (.done (.ret (match f with | .ret v => v | _ => .none)))
def H0 (env : Env) : Value → Sem Fin := fun e => (leaving env e).wrap (fun _ => .raise e) .raise id id
def KF1 (C : Addr) : Flow → Sem Fin := fun f => match f with | .next => (execs [gIf] (EG C)).wrap K0 (H0 (EG C)) id id | f => K0 f
def GSince (hw : Heap) (C : Addr) (s₀ s : Shared) : Prop :=
  ∃ h tk, s = { s₀ with heap := h, toks := tk } ∧ (∀ b o, b ≠ C → ¬ Loud o → s₀.heap.get? b = some o → h.get? b = some o) ∧ (∀ b o, hw.get? b = some o → h.get? b = some o) ∧ ∃ o, h.get? C = some o
theorem nsGet {h : Heap} {L : Addr} {m : Str → Option Value} (x : h.Ns L m) : ∃ o, h.get? L = some o := let ⟨o, _, _, ho, _⟩ := x; ⟨o, ho⟩
def tup2 (p : Int) (u : List Nat) (t1 t2 : Tok) : Obj := { cls := .type "tuple", data := .seq #[.int p t1, .str ⟨u.toArray⟩ t2] }
def gY (hw : Heap) (C : Addr) (us : List (Nat × List Nat)) : Protocol := fun m s₀ v s kap =>
  (∃ T p u t1 t2, us[us.length - 1 - m]? = some (p, u) ∧ v = .ref T ∧ s.heap.get? T = some (tup2 p u t1 t2)) ∧ GSince hw C s₀ s ∧
    ∀ s'' : Shared, (∀ b o, (b = C ∨ Loud o) → s.heap.get? b = some o → s''.heap.get? b = some o) → (∀ b o, hw.get? b = some o → s''.heap.get? b = some o) → kap (.send .none) s''
def gR (hw : Heap) (C : Addr) : GenEnd := fun n s₀ r s₁ => r = .ok (.ret .none) ∧ (n = 0 ∧ GSince hw C s₀ s₁)
theorem drawsU {w : World} {A : Around} (hh : A.handled = none) (it : Addr) (x : Str) (t : Tok) :
    Draws pw w A it [it] x.cps.size (fun i v => ∃ c u, x.cps[i]? = some c ∧ v = .str ⟨#[c]⟩ u) (fun i h => h.IsStrIter it (strIterType x) x t i) := by
  cases ha : x.cps.all (· < 128)
  · simpa [strIterType, ha] using Draws.strWide hh it x t
  · simpa [strIterType, ha] using Draws.strAscii hh it x t
/-- the generator's frame and its two iterators -/
structure GInv (hw : Heap) (C : Addr) (x : Str) (t : Tok) (en it : Addr) (i : Nat) (e : Bool) (h : Heap) : Prop where
  fr : ∃ m tp, Fr hw C h m ∧ m (Str.ofString "escape") = some (.bool e) ∧ m (Str.ofString "pos") = some (.int ((i - 1 : Nat) : Int) tp)
  isEn : ∃ old, IsEnum h en it i old
  isIt : h.IsStrIter it (strIterType x) x t i
  ne : en ≠ it
  ce : C ≠ en
  ci : C ≠ it
  he : hw.get? en = none
  hi : hw.get? it = none
theorem loudEn {h : Heap} {en it : Addr} {i : Int} {old : Value} (x : IsEnum h en it i old) : ∀ o, h.get? en = some o → Loud o := fun o e => by
  have := x
  unfold IsEnum at this
  rw [e] at this
  cases this
  exact ⟨.inl rfl, _, rfl⟩
theorem loudIt {h : Heap} {it : Addr} {x : Str} {t : Tok} {i : Nat} (y : h.IsStrIter it (strIterType x) x t i) : ∀ o, h.get? it = some o → Loud o := fun o e => by
  obtain ⟨o', ho, hc, hd⟩ := y
  rw [e] at ho
  cases ho
  refine ⟨?_, _, hd⟩
  rw [hc]
  unfold strIterType
  split
  · exact .inr (.inr rfl)
  · exact .inr (.inl rfl)
end Mine
end
section
set_option maxRecDepth 100000
set_option maxHeartbeats 4000000
namespace Mine
open PySem PySem.W PySem.Calls PyProof.Rows
abbrev gLoop (en : Addr) (C : Addr) : Code := .forLoop (forT gFor) (.ref en) (forB gFor) [] (EG C)
abbrev gRet (C : Addr) (p : Pos) : Frame := loopRet (EG C) (KF1 C) (H0 (EG C)) id id (.func gBody (EG C)) p
theorem GSince.refl (hw : Heap) (C : Addr) (s : Shared) (k : ∀ b o, hw.get? b = some o → s.heap.get? b = some o) (hC : ∃ o, s.heap.get? C = some o) : GSince hw C s s := ⟨_, _, rfl, fun _ _ _ _ e => e, k, hC⟩
theorem GSince.step {hw : Heap} {C : Addr} {s₀ s : Shared} (x : GSince hw C s₀ s) {h' : Heap} {tk : Nat} (hk : ∀ b o, b ≠ C → ¬ Loud o → s.heap.get? b = some o → h'.get? b = some o) (hk2 : ∀ b o, hw.get? b = some o → h'.get? b = some o) (hC : ∃ o, h'.get? C = some o) :
    GSince hw C s₀ { s with heap := h', toks := tk } := by
  obtain ⟨h, t, rfl, k1, k2, _⟩ := x
  exact ⟨h', tk, rfl, fun b o hb hl e => hk b o hb hl (k1 b o hb hl e), hk2, hC⟩
theorem escU_at {cs : List Nat} {i : Nat} {e : Bool} {c : Nat} (h : cs[i]? = some c) : escU i e (cs.drop i) = match e with
    | true => (i, [92, c]) :: escU (i + 1) false (cs.drop (i + 1))
    | false => if c = 92 then escU (i + 1) true (cs.drop (i + 1)) else (i, [c]) :: escU (i + 1) false (cs.drop (i + 1)) := by
  have hi : i < cs.length := (List.getElem?_eq_some_iff.mp h).1
  rw [List.drop_eq_getElem_cons hi, show cs[i] = c from (List.getElem?_eq_some_iff.mp h).2]
  cases e <;> rfl
theorem us_at {us pre post : List (Nat × List Nat)} {q : Nat × List Nat} (h : us = pre ++ q :: post) : us[us.length - 1 - post.length]? = some q := by
  subst h
  rw [List.length_append, List.length_cons, List.getElem?_append_right (by omega)]
  have : pre.length + (post.length + 1) - 1 - post.length - pre.length = 0 := by omega
  rw [this]; rfl
theorem ch_eq (c d : Nat) (y : Str) (hy : y = ⟨#[d]⟩) : ((⟨#[c]⟩ : Str) == y) = decide (c = d) := by
  subst hy
  by_cases h : c = d
  · subst h; simp
  · simp [h]
theorem KF1_next (C : Addr) : KF1 C .next = (execs [gIf] (EG C)).wrap K0 (H0 (EG C)) id id := rfl
theorem storeC {M : Model} {A : Around} {E : Value → Shared → Prop} {s : Shared} {name : Str} {scope : Scope} {L a : Addr} {cd : Value} {hw : Heap} {m : Str → Option Value} {x : Str} {v : Value} {Q : Unit → Shared → Prop} (F : Fr hw L s.heap m)
    (h : ∀ h', Fr hw L h' (fun y => if y = x then some v else m y) → Heap.SameBut L s.heap h' → Q () { s with heap := h', toks := s.toks + 1 })
    (hk : scope.kind = .function := by rfl) (hl : (envOf name scope L a cd).kindOf x = some .local := by rfl) : wpAny M A (storeName (envOf name scope L a cd) x v) Q E s :=
  wpAny_storeName_local hl F.ns (fun h' hn hs => h h' (F.set hn hs) hs) (by show (scope.kind == .class || (scope.kind == .module && L != mainGlobals)) = false; rw [hk]; rfl)
theorem GSince.store {hw : Heap} {C : Addr} {s₀ s : Shared} (x : GSince hw C s₀ s) {h' : Heap} {tk : Nat} {m : Str → Option Value} (hs : Heap.SameBut C s.heap h') (F : Fr hw C h' m) : GSince hw C s₀ { s with heap := h', toks := tk } :=
  x.step (fun b o hb _ e => (hs.2 b hb).trans e) F.keep (nsGet F.ns)
theorem GSince.push {hw : Heap} {C : Addr} {s₀ s : Shared} (x : GSince hw C s₀ s) (o : Obj) {tk : Nat} : GSince hw C s₀ { s with heap := s.heap.push o, toks := tk } := by
  have k2 := x
  obtain ⟨_, _, e, _, k, hC⟩ := k2
  exact x.step (fun b o' _ _ e' => Heap.get?_push_of_some _ e') (fun b o' e' => Heap.get?_push_of_some _ (by rw [e]; exact k b o' e')) (let ⟨o', ho⟩ := hC; ⟨o', Heap.get?_push_of_some _ (by rw [e]; exact ho)⟩)
/-- the end: the escape that waits for a sign -/
theorem seg_tail {w : World} {A : Around} {mg mb : Str → Option Value} {hw : Heap} (W : Wd w mg mb hw) {C : Addr} {us : List (Nat × List Nat)} {e : Bool} {s₀ s : Shared} {pre : List (Nat × List Nat)} {i : Nat} {m : Str → Option Value} {tp : Tok}
    (F : Fr hw C s.heap m) (m1 : m (Str.ofString "escape") = some (.bool e)) (m2 : m (Str.ofString "pos") = some (.int ((i - 1 : Nat) : Int) tp)) (hs : GSince hw C s₀ s) (hus : us = pre ++ escU i e []) :
    Seg (model pw w) A (gR hw C) (gY hw C us) (escU i e []).length s₀ (.func gBody (EG C)) (KF1 C .next) [] s := by
  rw [KF1_next]
  obtain ⟨KX, T⟩ := W
  have N : News hw C s.heap [] := News.nil
  have hm : m = fun y => if y = Str.ofString "escape" then some (.bool e) else if y = Str.ofString "pos" then some (.int ((i - 1 : Nat) : Int) tp) else m y := by
    funext y
    by_cases h1 : y = Str.ofString "escape"
    · rw [if_pos h1, h1]; exact m1
    rw [if_neg h1]
    by_cases h2 : y = Str.ofString "pos"
    · rw [if_pos h2, h2]; exact m2
    rw [if_neg h2]
  rw [hm] at F
  refine seg_execs_cons ?_
  refine seg_If ?_
  show wpAny _ _ (isTrue (Expr.Name _ _) _ _) _ _ _
  repeat' walk1
  · rename e = true => he
    subst he
    show Seg (model pw w) A (gR hw C) (gY hw C us) (0 + 1) _ _ _ _ _
    refine seg_execs_cons (seg_Expr_Yield rfl rfl rfl ?_)
    refine wpAny_mono (E := fun _ _ => False) ?_ (fun _ _ x => x) (fun _ _ x => x.elim)
    repeat' (fail_if_success (with_reducible show wpAny _ _ (newTuple _) _ _ _)); walk1
    refine wpAny_newObj_type ?_ (by size_fits)
    intro kap hk
    refine ⟨⟨_, i - 1, [92], tp, s.toks, ?_, rfl, ?_⟩, (hs.step (fun b o _ _ e => e) F.keep (nsGet F.ns)).push _, fun s'' h1 h2 => hk .none s'' ?_⟩
    · exact us_at (post := []) hus
    · exact Heap.get?_push_size _ rfl
    · obtain ⟨oC, _, _, hoC, _⟩ := F.ns
      exact seg_end (.ok (.ret .none)) ⟨rfl, rfl, GSince.refl _ _ _ h2 ⟨oC, h1 C oC (.inl rfl) (Heap.get?_push_of_some _ hoC)⟩⟩
  · rename e = false => he
    subst he
    exact seg_end (.ok (.ret .none)) ⟨rfl, rfl, hs⟩
/-- the loop of the generator, from any sign on -/
theorem seg_gloop {w : World} {A : Around} {mg mb : Str → Option Value} {hw : Heap} (W : Wd w mg mb hw) (hh : A.handled = none) {C : Addr} {x : Str} {t : Tok} {en it : Addr} {us : List (Nat × List Nat)} {p : Pos} :
    ∀ (k i : Nat) (e : Bool) (s₀ s : Shared) (pre : List (Nat × List Nat)), x.cps.size - i = k → i ≤ x.cps.size → GInv hw C x t en it i e s.heap → GSince hw C s₀ s → us = pre ++ escU i e (x.cps.toList.drop i) →
      Seg (model pw w) A (gR hw C) (gY hw C us) (escU i e (x.cps.toList.drop i)).length s₀ (gLoop en C) ((model pw w).den (gLoop en C)) [gRet C p] s := by
  have hh' : (A.over (gLoop en C) [gRet C p]).handled = none := hh
  have hh1 : (A.over (gLoop en C) [gRet C p]).in1.handled = none := hh
  intro k
  induction k with
  | zero =>
    intro i e s₀ s pre hk hi G hs hus
    have hin : i = x.cps.size := by omega
    subst hin
    obtain ⟨m, tp, F, m1, m2⟩ := G.fr
    have W₀ := WalksT.enumerateD (drawsU (w := w) hh1 it x t) en G.ne (by simpa using G.ne) (by simp)
    rw [List.drop_of_length_le (by simp)] at hus ⊢
    refine seg_forLoop (W₀.done s _ _ ⟨G.isEn, G.isIt⟩ fun h' tk hk' => ?_)
    have keep : ∀ b o, b ≠ en → b ≠ it → s.heap.get? b = some o → h'.get? b = some o := fun b o h1 h2 e => hk' b o (by simp [h1, h2]) e
    have F' : Fr hw C h' m := ⟨F.ns.at' fun o e => keep C o G.ce G.ci e, fun b o e => keep b o (fun q => by rw [q, G.he] at e; cases e) (fun q => by rw [q, G.hi] at e; cases e) (F.keep b o e), F.above⟩
    obtain ⟨old, hen⟩ := G.isEn
    refine seg_forEnd (seg_tail W F' m1 m2 (hs.step (fun b o _ hl e => keep b o (fun q => ?_) (fun q => ?_) e) F'.keep (nsGet F'.ns)) hus)
    · subst q; exact hl (loudEn hen o e)
    · subst q; exact hl (loudIt G.isIt o e)
  | succ k ih =>
    intro i e s₀ s pre hk hi G hs hus
    have hlt : i < x.cps.size := by omega
    obtain ⟨m, tp, F, m1, m2⟩ := G.fr
    have W₀ := WalksT.enumerateD (drawsU (w := w) hh1 it x t) en G.ne (by simpa using G.ne) (by simp)
    obtain ⟨old, hen⟩ := G.isEn
    refine seg_forLoop (W₀.item i s _ _ hlt ⟨G.isEn, G.isIt⟩ fun T vals h₁ tk₁ hP hT hTup hMid hk₁ => ?_)
    obtain ⟨tt, v, ⟨c, u, hc, rfl⟩, rfl⟩ := hP
    have keep₁ : ∀ b o, b ≠ en → b ≠ it → s.heap.get? b = some o → h₁.get? b = some o := fun b o h1 h2 e => hk₁ b o (by simp [h1, h2]) e
    refine W₀.go _ _ _ i T _ _ _ hMid fun h₂ hSt hk₂ => ?_
    replace hk₂ : ∀ b o, b ∉ [en, it] → h₁.get? b = some o → h₂.get? b = some o := hk₂
    have hT₂ : h₂.IsTuple T #[.int (i : Int) tt, .str ⟨#[c]⟩ u] := by
      obtain ⟨o, ho, r⟩ := hTup
      exact ⟨o, hk₂ T o (W₀.apart _ _ _ hMid) ho, r⟩
    have keep₂ : ∀ b o, b ≠ en → b ≠ it → s.heap.get? b = some o → h₂.get? b = some o := fun b o h1 h2 e => hk₂ b o (by simp [h1, h2]) (keep₁ b o h1 h2 e)
    show wpAny _ _ (assign (Expr.Tuple _ _ _) _ _) _ _ _
    refine wpAny_assign_Tuple hh' hT₂ rfl rfl fun h₃ hx₃ => ?_
    replace hx₃ : ∀ b o, h₂.get? b = some o → h₃.get? b = some o := fun b o e => hx₃ b o (Nat.ne_of_lt (Heap.lt_size e)) e
    have keep₃ : ∀ b o, b ≠ en → b ≠ it → s.heap.get? b = some o → h₃.get? b = some o := fun b o h1 h2 e => hx₃ b o (keep₂ b o h1 h2 e)
    have F₃ : Fr hw C h₃ m := ⟨F.ns.at' fun o e => keep₃ C o G.ce G.ci e, fun b o e => keep₃ b o (fun q => by rw [q, G.he] at e; cases e) (fun q => by rw [q, G.hi] at e; cases e) (F.keep b o e), F.above⟩
    show wpAny _ _ (do holding [Value.str ⟨#[c]⟩ u] (assign (Expr.Name _ _) (EG C) (.int (i : Int) tt)); do holding [] (assign (Expr.Name _ _) (EG C) (Value.str ⟨#[c]⟩ u)); pure ()) _ _ _
    refine wpAny_bind (wpAny_holding (wpAny_assign_Name (storeC F₃ fun h₄ F₄ hs₄ => ?_)))
    refine wpAny_bind (wpAny_holding (wpAny_assign_Name (storeC F₄ fun h₅ F₅ hs₅ => wpAny_pure ?_)))
    replace hs₄ : Heap.SameBut C h₃ h₄ := hs₄
    replace hs₅ : Heap.SameBut C h₄ h₅ := hs₅
    have keep₅ : ∀ b o, b ≠ C → h₂.get? b = some o → h₅.get? b = some o := fun b o hb e => (hs₅.2 b hb).trans ((hs₄.2 b hb).trans (hx₃ b o e))
    obtain ⟨⟨old', hen'⟩, hit'⟩ := hSt
    have hen₅ : IsEnum h₅ en it ((i + 1 : Nat) : Int) old' := keep₅ en _ (fun q => G.ce q.symm) hen'
    have hit₅ : h₅.IsStrIter it (strIterType x) x t (i + 1) := by
      obtain ⟨o, ho, r⟩ := hit'
      exact ⟨o, keep₅ it o (fun q => G.ci q.symm) ho, r⟩
    have hc' : x.cps.toList[i]? = some c := by simpa using hc
    have since₅ : ∀ tk, GSince hw C s₀ { s with heap := h₅, toks := tk } := fun tk => hs.step (fun b o hb hl e => keep₅ b o hb (keep₂ b o (fun q => by subst q; exact hl (loudEn hen o e)) (fun q => by subst q; exact hl (loudIt G.isIt o e)) e)) F₅.keep (nsGet F₅.ns)
    have hm : (fun y => if y = Str.ofString "ch" then some (Value.str ⟨#[c]⟩ u) else if y = Str.ofString "pos" then some (Value.int (i : Int) tt) else m y) =
        (fun y => if y = Str.ofString "ch" then some (Value.str ⟨#[c]⟩ u) else if y = Str.ofString "pos" then some (Value.int (i : Int) tt) else if y = Str.ofString "escape" then some (Value.bool e) else m y) := by
      funext y
      by_cases h1 : y = Str.ofString "ch"
      · rw [if_pos h1, if_pos h1]
      rw [if_neg h1, if_neg h1]
      by_cases h2 : y = Str.ofString "pos"
      · rw [if_pos h2, if_pos h2]
      rw [if_neg h2, if_neg h2]
      by_cases h3 : y = Str.ofString "escape"
      · rw [if_pos h3, h3]; exact m1
      rw [if_neg h3]
    replace F₅ : Fr hw C h₅ (fun y => if y = Str.ofString "ch" then some (Value.str ⟨#[c]⟩ u) else if y = Str.ofString "pos" then some (Value.int (i : Int) tt) else m y) := F₅
    rw [hm] at F₅
    obtain ⟨KX, TT⟩ := W
    have N : News hw C h₅ [] := News.nil
    have next : ∀ (e' : Bool) (s₀' s' : Shared) (h' : Heap) (tk' : Nat) (pre' : List (Nat × List Nat)) (m' : Str → Option Value), Fr hw C h' m' → m' (Str.ofString "escape") = some (.bool e') → (∃ tp', m' (Str.ofString "pos") = some (.int (i : Int) tp')) →
        (∃ o, IsEnum h' en it ((i + 1 : Nat) : Int) o) → h'.IsStrIter it (strIterType x) x t (i + 1) → GSince hw C s₀' { s' with heap := h', toks := tk' } → us = pre' ++ escU (i + 1) e' (x.cps.toList.drop (i + 1)) →
        Seg (model pw w) A (gR hw C) (gY hw C us) (escU (i + 1) e' (x.cps.toList.drop (i + 1))).length s₀' (gLoop en C) (.pure (.again (gLoop en C))) [gRet C p] { s' with heap := h', toks := tk' } := fun e' s₀' s' h' tk' pre' m' F' n1 n2 n3 n4 n5 n6 => by
      obtain ⟨tp', n2⟩ := n2
      exact seg_again rfl (ih (i + 1) e' s₀' _ pre' (by omega) hlt ⟨⟨m', tp', F', n1, by rw [n2]; congr⟩, n3, n4, G.ne, G.ce, G.ci, G.he, G.hi⟩ n5 n6)
    refine seg_execs_cons (seg_If ?_)
    show wpAny _ _ (isTrue (Expr.Name _ _) _ _) _ _ _
    repeat' walk1
    · rename e = true => he
      subst he
      rw [escU_at hc'] at hus ⊢
      show Seg (model pw w) A (gR hw C) (gY hw C us) ((escU (i + 1) false (x.cps.toList.drop (i + 1))).length + 1) _ _ _ _ _
      refine seg_execs_cons (seg_Expr_Yield rfl rfl rfl ?_)
      refine wpAny_mono (E := fun _ _ => False) ?_ (fun _ _ x => x) (fun _ _ x => x.elim)
      repeat' (fail_if_success (with_reducible show wpAny _ _ (newTuple _) _ _ _)); walk1
      refine wpAny_newObj_type ?_ (by size_fits)
      intro kap hkap
      refine ⟨⟨_, i, [92, c], _, _, us_at hus, rfl, Heap.get?_push_size _ rfl⟩, (since₅ _).push _, fun s'' h1 h2 => hkap .none s'' ?_⟩
      have p5 : ∀ b o, (b = C ∨ Loud o) → h₅.get? b = some o → s''.heap.get? b = some o := fun b o hb e => h1 b o hb (Heap.get?_push_of_some _ e)
      have F₆ : Fr hw C s''.heap _ := ⟨F₅.ns.at' fun o e => p5 C o (.inl rfl) e, h2, F₅.above⟩
      have hen₆ : IsEnum s''.heap en it ((i + 1 : Nat) : Int) old' := p5 en _ (.inr (loudEn hen₅ _ hen₅)) hen₅
      have hit₆ : s''.heap.IsStrIter it (strIterType x) x t (i + 1) := by
        obtain ⟨o, ho, r⟩ := id hit₅
        exact ⟨o, p5 it o (.inr (loudIt hit₅ o ho)) ho, r⟩
      refine seg_execs_cons (seg_plain ?_)
      repeat' (fail_if_success (with_reducible show wpAny _ _ (storeName _ _ _) _ _ _)); walk1
      refine storeC F₆ fun h₇ F₇ hs₇ => ?_
      exact next false s'' s'' h₇ _ (pre ++ [(i, [92, c])]) _ F₇ rfl ⟨_, rfl⟩ ⟨_, (hs₇.2 en G.ce.symm).trans hen₆⟩ (by
        obtain ⟨o, ho, r⟩ := id hit₆
        exact ⟨o, (hs₇.2 it G.ci.symm).trans ho, r⟩) ((GSince.refl hw C s'' h2 (nsGet F₆.ns)).store hs₇ F₇) (by rw [hus]; simp)
    · rename e = false => he
      subst he
      rw [escU_at hc'] at hus ⊢
      dsimp only at hus ⊢
      refine seg_execs_cons (seg_If ?_)
      repeat' walk1
      · rename (_ == _) = true => h92
        rw [ch_eq c 92 _ (by decide), decide_eq_true_eq] at h92
        rw [if_pos h92] at hus ⊢
        refine seg_execs_cons (seg_plain ?_)
        repeat' (fail_if_success (with_reducible show wpAny _ _ (storeName _ _ _) _ _ _)); walk1
        refine storeC F₅ fun h₇ F₇ hs₇ => ?_
        exact next true s₀ s h₇ _ pre _ F₇ rfl ⟨_, rfl⟩ ⟨_, (hs₇.2 en G.ce.symm).trans hen₅⟩ (by
          obtain ⟨o, ho, r⟩ := id hit₅
          exact ⟨o, (hs₇.2 it G.ci.symm).trans ho, r⟩) ((since₅ 0).store hs₇ F₇) hus
      · rename (_ == _) = false => h92
        rw [ch_eq c 92 _ (by decide), decide_eq_false_iff_not] at h92
        rw [if_neg h92] at hus ⊢
        show Seg (model pw w) A (gR hw C) (gY hw C us) ((escU (i + 1) false (x.cps.toList.drop (i + 1))).length + 1) _ _ _ _ _
        refine seg_execs_cons (seg_Expr_Yield rfl rfl rfl ?_)
        refine wpAny_mono (E := fun _ _ => False) ?_ (fun _ _ x => x) (fun _ _ x => x.elim)
        repeat' (fail_if_success (with_reducible show wpAny _ _ (newTuple _) _ _ _)); walk1
        refine wpAny_newObj_type ?_ (by size_fits)
        intro kap hkap
        refine ⟨⟨_, i, [c], _, _, us_at hus, rfl, Heap.get?_push_size _ rfl⟩, (since₅ _).push _, fun s'' h1 h2 => hkap .none s'' ?_⟩
        have p5 : ∀ b o, (b = C ∨ Loud o) → h₅.get? b = some o → s''.heap.get? b = some o := fun b o hb e => h1 b o hb (Heap.get?_push_of_some _ e)
        have F₆ : Fr hw C s''.heap _ := ⟨F₅.ns.at' fun o e => p5 C o (.inl rfl) e, h2, F₅.above⟩
        have hen₆ : IsEnum s''.heap en it ((i + 1 : Nat) : Int) old' := p5 en _ (.inr (loudEn hen₅ _ hen₅)) hen₅
        have hit₆ : s''.heap.IsStrIter it (strIterType x) x t (i + 1) := by
          obtain ⟨o, ho, r⟩ := id hit₅
          exact ⟨o, p5 it o (.inr (loudIt hit₅ o ho)) ho, r⟩
        exact next false s'' s'' s''.heap s''.toks (pre ++ [(i, [c])]) _ F₆ rfl ⟨_, rfl⟩ ⟨_, hen₆⟩ hit₆ (GSince.refl hw C s'' h2 (nsGet F₆.ns)) (by rw [hus]; simp)
end Mine
end
section
set_option maxRecDepth 100000
set_option maxHeartbeats 4000000
namespace Mine
open PySem PySem.W PySem.Calls PyProof.Rows
theorem seg_gstart {w : World} {A : Around} {mg mb : Str → Option Value} {hw : Heap} (W : Wd w mg mb hw) (hh : A.handled = none) {C : Addr} {x : Str} {t : Tok} {us : List (Nat × List Nat)} {s₀ s : Shared} {m : Str → Option Value}
    (F : Fr hw C s.heap m) (hm : m (Str.ofString "addr") = some (.str x t)) (hs : GSince hw C s₀ s) (hus : us = escU 0 false x.cps.toList) :
    Seg (model pw w) A (gR hw C) (gY hw C us) us.length s₀ (.func gBody (EG C)) ((model pw w).den (.func gBody (EG C))) [] s := by
  have hh' : (A.over (.func gBody (EG C)) []).handled = none := hh
  refine seg_func ?_
  show Seg _ _ _ _ _ _ _ ((execs [_, _, _, _] (EG C)).wrap K0 (H0 (EG C)) id id) _ _
  refine seg_execs_cons (seg_plain ?_)
  repeat' (fail_if_success (with_reducible show wpAny _ _ (storeName _ _ _) _ _ _)); walk1
  refine storeC F fun h₁ F₁ hs₁ => ?_
  refine seg_execs_cons (seg_plain ?_)
  repeat' (fail_if_success (with_reducible show wpAny _ _ (storeName _ _ _) _ _ _)); walk1
  refine storeC F₁ fun h₂ F₂ hs₂ => ?_
  have since : ∀ tk, GSince hw C s₀ { s with heap := h₂, toks := tk } := fun tk => (hs.store (tk := 0) hs₁ F₁).store (tk := tk) hs₂ F₂
  refine seg_execs_cons (seg_For ?_)
  have hm' : m = fun y => if y = Str.ofString "addr" then some (.str x t) else m y := by
    funext y
    by_cases h1 : y = Str.ofString "addr"
    · rw [if_pos h1, h1]; exact hm
    rw [if_neg h1]
  replace F₂ : Fr hw C h₂ (fun y => if y = Str.ofString "escape" then some (Value.bool false) else if y = Str.ofString "pos" then some (Value.int 0 s.toks) else m y) := F₂
  rw [hm'] at F₂
  obtain ⟨KX, TT⟩ := W
  have N : News hw C h₂ [] := News.nil
  repeat' (fail_if_success (with_reducible show wpAny _ _ (call _ _ _) _ _ _)); walk1
  refine call_enumerate_str fun h₃ hen hit hsz hk₃ => ?_
  refine wpAny_pyIter_enum hen fun p => ?_
  have hC : C < h₂.objs.size := F₂.ns.lt
  have none_of : ∀ b, h₂.objs.size ≤ b → hw.get? b = none := fun b hb => by
    cases e : hw.get? b with
    | none => rfl
    | some o => exact absurd (Heap.lt_size (F₂.keep _ _ e)) (Nat.not_lt.mpr hb)
  have F₃ : Fr hw C h₃ _ := ⟨F₂.ns.keeps hk₃, fun b o e => hk₃ b o (F₂.keep b o e), F₂.above⟩
  have G : GInv hw C x t (h₂.objs.size + 1) h₂.objs.size 0 false h₃ :=
    ⟨⟨_, _, F₃, rfl, rfl⟩, ⟨_, hen⟩, hit, Nat.succ_ne_self _, Nat.ne_of_lt (Nat.lt_succ_of_lt hC), Nat.ne_of_lt hC, none_of _ (Nat.le_succ _), none_of _ (Nat.le_refl _)⟩
  have e : us.length = (escU 0 false (x.cps.toList.drop 0)).length := by rw [hus, List.drop_zero]
  rw [e]
  exact seg_gloop ⟨KX, TT⟩ hh x.cps.size 0 false s₀ _ [] rfl (Nat.zero_le _) G ((since s.toks).step (fun b o _ _ e => hk₃ b o e) F₃.keep (nsGet F₃.ns)) (by rw [List.drop_zero]; exact hus)
/-- a generator object of _iter_escaped_chars that has yielded j units -/
def GenIt (w : World) (A : Around) (hw : Heap) (a g : Nat) (C : Addr) (us : List (Nat × List Nat)) (j : Nat) (s : Shared) : Prop :=
  s.heap.IsGen a g ∧ a ≠ C ∧ hw.get? C = none ∧ (∃ o, s.heap.get? C = some o) ∧ ∃ gs, s.gens[g]? = some gs ∧ ∀ s'' : Shared, (∀ b o, (b = C ∨ Loud o) → s.heap.get? b = some o → s''.heap.get? b = some o) → (∀ b o, hw.get? b = some o → s''.heap.get? b = some o) →
    gs.Goes (model pw w) A.in1 (gR hw C) (gY hw C us) (us.length - j) (.send .none) s''
theorem gen_quiet {h : Heap} {a g : Nat} (x : h.IsGen a g) : ∀ o, h.get? a = some o → ¬ Loud o := fun o e l => by
  obtain ⟨o', nm, qn, ho, hc, hd, _⟩ := x
  rw [e] at ho
  cases ho
  obtain ⟨l, _⟩ := l
  rw [hc] at l
  rcases l with l | l | l <;> exact absurd l (by decide)
/-- what a step of the generator may turn -/
structure GMoved (hw : Heap) (C : Addr) (g : Nat) (s s' : Shared) : Prop where
  same : ∃ h tk gs, s' = { s with heap := h, toks := tk, gens := gs }
  quiet : ∀ b o, b ≠ C → ¬ Loud o → s.heap.get? b = some o → s'.heap.get? b = some o
  base : ∀ b o, hw.get? b = some o → s'.heap.get? b = some o
  bare : AllBare s.gens → AllBare s'.gens
theorem allBare_set {s : Shared} {g : Nat} {x : GenState} (h : AllBare s.gens) (hx : x.bare = true) : AllBare (s.setGen g x).gens := fun y hy => by
  have hy' : y ∈ s.gens.setIfInBounds g x := hy
  obtain ⟨i, hi, rfl⟩ := Array.mem_iff_getElem.mp hy'
  have hi' : i < s.gens.size := by simpa using hi
  rw [Array.getElem_setIfInBounds hi']
  split
  · exact hx
  · exact h _ (Array.getElem_mem (by simpa using hi))
theorem genIt_next {w : World} {A : Around} {mg mb : Str → Option Value} {hw : Heap} (W : Wd w mg mb hw) (hh : A.handled = none) (hroom : A.depth < recursionLimit) {a g : Nat} {C : Addr} {us : List (Nat × List Nat)} {j : Nat} {s : Shared} {p : Nat} {u : List Nat}
    {Q : Option Value → Shared → Prop} {E : Value → Shared → Prop} (G : GenIt w A hw a g C us j s) (hk : ∀ b o, hw.get? b = some o → s.heap.get? b = some o) (hj : us[j]? = some (p, u))
    (hQ : ∀ T t1 t2 s', s'.heap.get? T = some (tup2 p u t1 t2) → GMoved hw C g s s' → GenIt w A hw a g C us (j + 1) s' → Q (some (.ref T)) s') : wpAny (model pw w) A (pyNext (.ref a)) Q E s := by
  obtain ⟨hg, haC, hC, hCs, gs, hgs, hgo⟩ := G
  have hlt : j < us.length := (List.getElem?_eq_some_iff.mp hj).1
  obtain ⟨m, hm⟩ : ∃ m, us.length - j = m + 1 := ⟨us.length - j - 1, by omega⟩
  rw [hm] at hgo
  refine pyNext_genQ (P := fun n s₀ s₁ => n = 0 ∧ GSince hw C s₀ s₁) hh ((W.keeps hk).T.nolimit) hroom hg hgs (hgo _ (fun _ _ _ e => e) hk) (fun v s₁ gs' hb hv => ?_) (fun s₁ hp h' hk => ?_)
  · obtain ⟨⟨T, p', u', t1, t2, hu, rfl, hT⟩, ⟨h₁, tk₁, rfl, hk₁, hb₁, hC₁⟩, hkap⟩ := hv
    have hidx : us.length - 1 - (m + 1 - 1) = j := by omega
    rw [hidx, hj] at hu
    cases hu
    refine hQ T t1 t2 _ hT ⟨⟨h₁, tk₁, _, rfl⟩, hk₁, hb₁, fun h => allBare_set (allBare_set h rfl) hb⟩ ⟨?_, haC, hC, ?_, gs', setGen_self (gs := .running) (setGen_self hgs), fun s'' h1 h2 => ?_⟩
    · obtain ⟨o, nm, qn, ho, r⟩ := id hg
      exact ⟨o, nm, qn, hk₁ a o haC (gen_quiet hg o ho) ho, r⟩
    · exact hC₁
    · have e : us.length - (j + 1) = m := by omega
      rw [e]
      exact hkap s'' h1 h2
  · exact absurd hp.1 (Nat.succ_ne_zero m)
theorem genIt_done {w : World} {A : Around} {mg mb : Str → Option Value} {hw : Heap} (W : Wd w mg mb hw) (hh : A.handled = none) (hroom : A.depth < recursionLimit) {a g : Nat} {C : Addr} {us : List (Nat × List Nat)} {s : Shared}
    {Q : Option Value → Shared → Prop} {E : Value → Shared → Prop} (G : GenIt w A hw a g C us us.length s) (hk : ∀ b o, hw.get? b = some o → s.heap.get? b = some o)
    (hQ : ∀ s', GMoved hw C g s s' → Q none s') : wpAny (model pw w) A (pyNext (.ref a)) Q E s := by
  obtain ⟨hg, haC, hC, hCs, gs, hgs, hgo⟩ := G
  rw [Nat.sub_self] at hgo
  refine pyNext_genQ (P := fun n s₀ s₁ => n = 0 ∧ GSince hw C s₀ s₁) hh ((W.keeps hk).T.nolimit) hroom hg hgs (hgo _ (fun _ _ _ e => e) hk) (fun v s₁ gs' hb hv => ?_) (fun s₁ hp h' hk' => ?_)
  · obtain ⟨_, ⟨h₁, tk₁, rfl, hk₁, hb₁, hC₁⟩, hkap⟩ := hv
    exact False.elim (hkap _ (fun _ _ _ e => e) hb₁)
  · obtain ⟨_, h₁, tk₁, rfl, hk₁, hb₁, hC₁⟩ := hp
    exact hQ _ ⟨⟨h', tk₁, _, rfl⟩, fun b o h1 h2 e => hk' b o (hk₁ b o h1 h2 e), fun b o e => hk' b o (hb₁ b o e), fun h => allBare_set (allBare_set h rfl) rfl⟩
end Mine
end
section
set_option maxRecDepth 100000
set_option maxHeartbeats 4000000
namespace Mine
open PySem PySem.W PySem.Calls PyProof.Rows
theorem call_iter {w : World} {A : Around} {mg mb : Str → Option Value} {hw : Heap} (W : Wd w mg mb hw) (hh : A.handled = none) (hA : A.depth ≤ 500) {s : Shared} (hk : ∀ b o, hw.get? b = some o → s.heap.get? b = some o) (hsz : hw.objs.size ≤ s.heap.objs.size) (x : Str) (t : Tok)
    {R : Result → Shared → Prop}
    (hR : ∀ a g C s', GenIt w A hw a g C (escU 0 false x.cps.toList) 0 s' → (∃ h tk gs, s' = { s with heap := h, toks := tk, gens := gs }) → (∀ b o, s.heap.get? b = some o → s'.heap.get? b = some o) → (AllBare s.gens → AllBare s'.gens) → s.heap.objs.size ≤ C → s.heap.objs.size ≤ a →
      R (.ok (.ret (.ref a))) s') :
    codeAny (model pw w) A (.call (.ref 21) ⟨[.str x t], []⟩) R s := by
  have W' := W.keeps hk
  have ho := W'.K 21 (o1_21 w.params) (by kernel_rfl)
  refine codeAny_call_generator (fd := fdOf (o1_21 w.params)) (body := gBody) (Nat.lt_of_le_of_lt hA (by decide)) ho (by rfl) (by rfl) (by rfl) (by rfl) (codeRec_of W'.K (by kernel_rfl)) ?_
  show wpAny _ _ (pure [(S "addr", Value.str x t)]) _ _ _
  refine wpAny_pure ?_
  refine wpAny_newFunctionEnv (by show ∀ x ∈ (dS (stm 1)).names, x.2 ≠ .cell; decide) (locs (scope := dS (stm 1)) (by rfl)) (fun h₁ hns hsb => ?_) (by rfl)
  have keep₁ : ∀ b o, s.heap.get? b = some o → h₁.get? b = some o := fun b o e => hsb.extBut b o (Nat.ne_of_lt (Heap.lt_size e)) (Heap.get?_push_of_some _ e)
  have hC : s.heap.objs.size < h₁.objs.size := hns.lt
  have F₁ : Fr hw s.heap.objs.size h₁ _ := ⟨hns, fun b o e => keep₁ b o (hk b o e), hsz⟩
  refine ⟨W'.T.nolimit.fresh _ hsb, ?_⟩
  have hCn : hw.get? s.heap.objs.size = none := by
    cases e : hw.get? s.heap.objs.size with
    | none => rfl
    | some o => exact absurd (Heap.lt_size (hk _ _ e)) (Nat.lt_irrefl _)
  refine hR h₁.objs.size s.gens.size s.heap.objs.size _ ⟨⟨_, _, _, Heap.get?_push_size _ rfl, rfl, rfl, rfl⟩, Nat.ne_of_gt hC, hCn, (let ⟨o, ho⟩ := nsGet F₁.ns; ⟨o, Heap.get?_push_of_some _ ho⟩), _, Array.getElem?_push_size .., fun s'' h1 h2 => ⟨rfl, ?_⟩⟩
    ⟨_, _, _, rfl⟩ (fun b o e => Heap.get?_push_of_some _ (keep₁ b o e)) (fun h => h.push rfl) (Nat.le_refl _) (Nat.le_of_lt hC)
  obtain ⟨oC, a1, a2, hoC, a3⟩ := id F₁.ns
  have hoC' := h1 _ oC (.inl rfl) (Heap.get?_push_of_some _ hoC)
  have F' : Fr hw s.heap.objs.size s''.heap (fun y => [(S "addr", Value.str x t)].reverse.lookup y) := ⟨⟨oC, a1, a2, hoC', a3⟩, h2, hsz⟩
  exact seg_gstart (A := A.in1) W hh F' rfl (GSince.refl _ _ _ h2 (nsGet F'.ns)) rfl
end Mine
end
section
set_option maxRecDepth 100000
set_option maxHeartbeats 4000000
namespace Mine
open PySem PySem.W PySem.Calls PyProof.Rows
theorem letGo_gen {w : World} {A : Around} {s : Shared} {E : Value → Shared → Prop} {Q : Unit → Shared → Prop} {elts : List Expr} {k : Nat} {pos : Pos} {a g T : Addr} (hg : s.heap.IsGen a g) (h : Q () s) :
    wpAny (model pw w) A (letOwnedTupleGo (.Tuple elts k pos) (.ref a) (.ref T)) Q E s := by
  obtain ⟨o, nm, qn, ho, hc, hd, hs⟩ := hg
  unfold letOwnedTupleGo
  refine wpAny_bind (wpAny_load ho ?_)
  obtain ⟨cls, dct, dat, sl⟩ := o
  simp only at hc hd hs
  subst hc hd hs
  exact wpAny_pure h
/-- how a state follows another one, gens and all -/
def Rel (s s' : Shared) : Prop := (∃ h tk gs, s' = { s with heap := h, toks := tk, gens := gs }) ∧ (AllBare s.gens → AllBare s'.gens)
theorem Rel.refl (s : Shared) : Rel s s := ⟨⟨_, _, _, rfl⟩, id⟩
theorem Rel.trans {s s' s'' : Shared} (x : Rel s s') (y : Rel s' s'') : Rel s s'' := by
  obtain ⟨⟨_, _, _, rfl⟩, h1⟩ := x
  obtain ⟨⟨_, _, _, rfl⟩, h2⟩ := y
  exact ⟨⟨_, _, _, rfl⟩, fun h => h2 (h1 h)⟩
theorem Rel.heap {s : Shared} (h : Heap) (tk : Nat) : Rel s { s with heap := h, toks := tk } := ⟨⟨_, _, _, rfl⟩, id⟩
theorem Rel.of_moved {hw : Heap} {C : Addr} {g : Nat} {s s' : Shared} (x : GMoved hw C g s s') : Rel s s' := ⟨x.same, x.bare⟩
theorem frame_quiet {h : Heap} {L : Addr} {m : Str → Option Value} (x : h.Ns L m) : ∀ o, h.get? L = some o → ¬ Loud o := fun o e l => by
  obtain ⟨o', es, ep, ho, hd, _⟩ := x
  rw [e] at ho
  cases ho
  obtain ⟨_, vs, hv⟩ := l
  rw [hd] at hv
  cases hv
theorem GenIt.kept {w : World} {A : Around} {hw : Heap} {a g : Nat} {C : Addr} {us : List (Nat × List Nat)} {j : Nat} {s : Shared} (G : GenIt w A hw a g C us j s) {h' : Heap} {tk : Nat}
    (hk : ∀ b o, (b = C ∨ b = a ∨ Loud o) → s.heap.get? b = some o → h'.get? b = some o) : GenIt w A hw a g C us j { s with heap := h', toks := tk } := by
  obtain ⟨hg, haC, hC, hCs, gs, hgs, hgo⟩ := G
  refine ⟨?_, haC, hC, (let ⟨o, ho⟩ := hCs; ⟨o, hk C o (.inl rfl) ho⟩), gs, hgs, fun s'' h1 h2 => hgo s'' (fun b o hb e => h1 b o hb (hk b o (hb.imp id .inr) e)) h2⟩
  obtain ⟨o, nm, qn, ho, r⟩ := hg
  exact ⟨o, nm, qn, hk a o (.inr (.inl rfl)) ho, r⟩
end Mine
end
section
set_option maxRecDepth 100000
set_option maxHeartbeats 4000000
namespace Mine
open PySem PySem.W PySem.Calls PyProof.Rows
/-- what a turn of the loop's body must leave alone -/
def GKeeps (C a : Addr) (h h' : Heap) : Prop := ∀ b o, (b = C ∨ b = a ∨ Loud o) → h.get? b = some o → h'.get? b = some o
theorem forGen {w : World} {A : Around} {mg mb : Str → Option Value} {h₀ : Heap} (W : Wd w mg mb h₀) (hh : A.handled = none) (hroom : A.depth < recursionLimit) {name : Str} {scope : Scope} {L fa : Addr} {cd : Value} {xp xc : Str} {pp pc pt : Pos} {x1 : Nat} {body : List Stmt}
    {us : List (Nat × List Nat)} {a g C : Addr} {s : Shared} {m : Str → Option Value} {R : Result → Shared → Prop}
    (hk : scope.kind = .function) (hxp : (envOf name scope L fa cd).kindOf xp = some .local) (hxc : (envOf name scope L fa cd).kindOf xc = some .local)
    (G : GenIt w A h₀ a g C us 0 s) (F : Fr h₀ L s.heap m) (hLC : L ≠ C) (hLa : L ≠ a) (J : Nat → (Str → Option Value) → Heap → Prop) (h0 : J 0 m s.heap)
    (hJ : ∀ j m h h', J j m h → (∀ b o, b ≠ C → b ≠ L → ¬ Loud o → h.get? b = some o → h'.get? b = some o) → J j m h')
    (step : ∀ j p u t1 t2 m₁ (s₁ : Shared), us[j]? = some (p, u) → J j m₁ s₁.heap → Rel s s₁ → Fr h₀ L s₁.heap (fun y => if y = xc then some (.str ⟨u.toArray⟩ t2) else if y = xp then some (.int (p : Nat) t1) else m₁ y) →
      wpAny (model pw w) A (execs body (envOf name scope L fa cd)) (fun f s₂ => match f with
        | .next | .cont => Seal (∃ h₂ tk₂ m₂, s₂ = { s₁ with heap := h₂, toks := tk₂ } ∧ Fr h₀ L h₂ m₂ ∧ GKeeps C a s₁.heap h₂ ∧ J (j + 1) m₂ h₂)
        | .brk => False
        | .ret v => R (.ok (.ret v)) s₂) (fun _ _ => False) s₁)
    (done : ∀ m' s', Rel s s' → Fr h₀ L s'.heap m' → J us.length m' s'.heap → R (.ok .next) s') :
    codeAny (model pw w) A (.forLoop (.Tuple [.Name xp pp, .Name xc pc] x1 pt) (.ref a) body [] (envOf name scope L fa cd)) R s := by
  have quietL : ∀ {h : Heap} {m : Str → Option Value}, Fr h₀ L h m → ∀ o, h.get? L = some o → ¬ Loud o := fun F => frame_quiet F.ns
  refine codeAny_forLoop_any (fun k s' => ∃ j m', Rel s s' ∧ GenIt w A h₀ a g C us j s' ∧ Fr h₀ L s'.heap m' ∧ J j m' s'.heap ∧ j ≤ us.length ∧ k = us.length - j) ?_ us.length ⟨0, m, Rel.refl s, G, F, h0, Nat.zero_le _, rfl⟩
  rintro k s' ⟨j, m', hrel, G', F', hJ', hj, rfl⟩
  cases hu : us[j]? with
  | none =>
    have hjl : j = us.length := Nat.le_antisymm hj (by simpa using hu)
    subst hjl
    refine genIt_done W hh hroom G' F'.keep fun s₁ hm => wpAny_execs_nil ?_
    have F₁ : Fr h₀ L s₁.heap m' := ⟨F'.ns.at' fun o e => hm.quiet L o hLC (quietL F' o e) e, hm.base, F'.above⟩
    exact done m' s₁ (hrel.trans (.of_moved hm)) F₁ (hJ _ _ _ _ hJ' fun b o h1 _ h3 e => hm.quiet b o h1 h3 e)
  | some q =>
    obtain ⟨p, u⟩ := q
    have hlt : j < us.length := (List.getElem?_eq_some_iff.mp hu).1
    refine genIt_next W hh hroom G' F'.keep hu fun T t1 t2 s₁ hT hm G₁ => ?_
    have F₁ : Fr h₀ L s₁.heap m' := ⟨F'.ns.at' fun o e => hm.quiet L o hLC (quietL F' o e) e, hm.base, F'.above⟩
    refine letGo_gen G₁.1 ?_
    refine wpAny_assign_Tuple hh ⟨_, hT, rfl, _, rfl⟩ rfl rfl fun h₃ hx₃ => ?_
    replace hx₃ : ∀ b o, s₁.heap.get? b = some o → h₃.get? b = some o := fun b o e => hx₃ b o (Nat.ne_of_lt (Heap.lt_size e)) e
    have F₃ : Fr h₀ L h₃ m' := F₁.keeps hx₃
    show wpAny _ _ (do holding [Value.str ⟨u.toArray⟩ t2] (assign (Expr.Name xp pp) _ (.int (p : Nat) t1)); do holding [] (assign (Expr.Name xc pc) _ (Value.str ⟨u.toArray⟩ t2)); pure ()) _ _ _
    refine wpAny_bind (wpAny_holding (wpAny_assign_Name (storeC F₃ (fun h₄ F₄ hs₄ => ?_) hk hxp)))
    refine wpAny_bind (wpAny_holding (wpAny_assign_Name (storeC F₄ (fun h₅ F₅ hs₅ => wpAny_pure ?_) hk hxc)))
    replace hs₄ : Heap.SameBut L h₃ h₄ := hs₄
    replace hs₅ : Heap.SameBut L h₄ h₅ := hs₅
    have up : ∀ b o, b ≠ L → s₁.heap.get? b = some o → h₅.get? b = some o := fun b o hb e => (hs₅.2 b hb).trans ((hs₄.2 b hb).trans (hx₃ b o e))
    have J₅ : J j m' h₅ := hJ _ _ _ _ hJ' fun b o h1 h2 h3 e => up b o h2 (hm.quiet b o h1 h3 e)
    have hr₅ : ∀ tk, Rel s { s₁ with heap := h₅, toks := tk } := fun tk => (hrel.trans (.of_moved hm)).trans (Rel.heap _ _)
    have G₅ : ∀ tk, GenIt w A h₀ a g C us (j + 1) { s₁ with heap := h₅, toks := tk } := fun tk => G₁.kept fun b o hb e => up b o (fun q => by
      subst q
      rcases hb with h | h | h
      · exact hLC h
      · exact hLa h
      · exact quietL F₁ o e h) e
    refine wpAny_mono (step j p u t1 t2 m' _ hu J₅ (hr₅ _) F₅) (fun f s₂ h₂ => ?_) fun _ _ x => x.elim
    cases f with
    | brk => exact h₂.elim
    | ret v => exact h₂
    | next =>
      obtain ⟨h₆, tk₆, m₆, rfl, F₆, hk₆, J₆⟩ := h₂
      exact ⟨us.length - (j + 1), by omega, j + 1, m₆, (hr₅ 0).trans (Rel.heap (s := { s₁ with heap := h₅, toks := 0 }) _ _), (G₅ 0).kept hk₆, F₆, J₆, hlt, rfl⟩
    | cont =>
      obtain ⟨h₆, tk₆, m₆, rfl, F₆, hk₆, J₆⟩ := h₂
      exact ⟨us.length - (j + 1), by omega, j + 1, m₆, (hr₅ 0).trans (Rel.heap (s := { s₁ with heap := h₅, toks := 0 }) _ _), (G₅ 0).kept hk₆, F₆, J₆, hlt, rfl⟩
end Mine
end
section
set_option maxRecDepth 100000
set_option maxHeartbeats 4000000
namespace Mine
open PySem PySem.W PySem.Calls PyProof.Rows
theorem escU_pos : ∀ (cs : List Nat) (i : Nat) (e : Bool), (e = true → 0 < i) → ∀ q ∈ escU i e cs, (if e then i - 1 else i) ≤ q.1 ∧ q.1 < i + cs.length ∨ (e = true ∧ cs = [] ∧ q = (i - 1, [92]))
  | [], i, e, h, q, hq => by
    cases e with
    | true => right; simp only [escU, if_true, List.mem_singleton] at hq; exact ⟨rfl, rfl, hq⟩
    | false => simp [escU] at hq
  | c :: r, i, true, h, q, hq => by
    left
    simp only [escU, List.mem_cons] at hq
    rcases hq with rfl | hq
    · simp
    · have := escU_pos r (i + 1) false (by simp) q hq
      simp only [Bool.false_eq_true, if_false, false_and, or_false] at this
      simp only [if_true, List.length_cons]
      omega
  | c :: r, i, false, h, q, hq => by
    left
    simp only [escU] at hq
    simp only [Bool.false_eq_true, if_false, List.length_cons]
    by_cases hc : c = 92
    · rw [if_pos hc] at hq
      rcases escU_pos r (i + 1) true (by simp) q hq with h' | ⟨_, rfl, rfl⟩
      · simp only [if_true] at h'
        omega
      · simp
    · rw [if_neg hc, List.mem_cons] at hq
      rcases hq with rfl | hq
      · simp
      · have := escU_pos r (i + 1) false (by simp) q hq
        simp only [Bool.false_eq_true, if_false, false_and, or_false] at this
        omega
theorem escU_sorted : ∀ (cs : List Nat) (i : Nat) (e : Bool), (e = true → 0 < i) → (escU i e cs).Pairwise (fun a b => a.1 < b.1)
  | [], i, e, h => by cases e <;> simp [escU]
  | c :: r, i, true, h => by
    simp only [escU, List.pairwise_cons]
    refine ⟨fun q hq => ?_, escU_sorted r (i + 1) false (by simp)⟩
    have := escU_pos r (i + 1) false (by simp) q hq
    simp only [Bool.false_eq_true, if_false, false_and, or_false] at this
    show i < q.1
    omega
  | c :: r, i, false, h => by
    simp only [escU]
    by_cases hc : c = 92
    · rw [if_pos hc]; exact escU_sorted r (i + 1) true (by simp)
    · rw [if_neg hc, List.pairwise_cons]
      refine ⟨fun q hq => ?_, escU_sorted r (i + 1) false (by simp)⟩
      have := escU_pos r (i + 1) false (by simp) q hq
      simp only [Bool.false_eq_true, if_false, false_and, or_false] at this
      show i < q.1
      omega
theorem escU_lt {cs : List Nat} {q : Nat × List Nat} (h : q ∈ escU 0 false cs) : q.1 < cs.length := by
  have := escU_pos cs 0 false (by simp) q h
  simp only [Bool.false_eq_true, if_false, false_and, or_false] at this
  omega
def stripStep (cs : List Nat) (st : Nat × Option Nat × List (List Nat)) (q : Nat × List Nat) : Nat × Option Nat × List (List Nat) :=
  if q.2 = [34] then
    match st.2.1 with
    | none => (st.1, some q.1, st.2.2)
    | some o => (q.1 + 1, none, if st.1 = o then st.2.2 else st.2.2 ++ [(cs.drop st.1).take (o - st.1)])
  else st
def stripSt (cs : List Nat) (j : Nat) : Nat × Option Nat × List (List Nat) := ((escU 0 false cs).take j).foldl (stripStep cs) (0, none, [])
def stripF (cs : List Nat) : List Nat :=
  if 34 ∈ cs then
    let st := stripSt cs (escU 0 false cs).length
    (if st.1 < cs.length then st.2.2 ++ [cs.drop st.1] else st.2.2).flatten
  else cs
theorem stripSt_succ {cs : List Nat} {j : Nat} {q : Nat × List Nat} (h : (escU 0 false cs)[j]? = some q) : stripSt cs (j + 1) = stripStep cs (stripSt cs j) q := by
  unfold stripSt
  rw [List.take_add_one, h, Option.toList_some, List.foldl_append]; rfl
/-- what holds of the stripping's state before unit j -/
theorem strip_inv (cs : List Nat) : ∀ j, j ≤ (escU 0 false cs).length → (∀ j' q, j ≤ j' → (escU 0 false cs)[j']? = some q → (stripSt cs j).1 ≤ q.1 ∧ ∀ o, (stripSt cs j).2.1 = some o → o < q.1) ∧ (stripSt cs j).1 ≤ cs.length ∧
    (∀ o, (stripSt cs j).2.1 = some o → (stripSt cs j).1 ≤ o ∧ o < cs.length) ∧ ((stripSt cs j).2.2.map List.length).sum + (stripSt cs j).2.2.length ≤ 2 * (stripSt cs j).1
  | 0, _ => ⟨fun j' q _ _ => ⟨Nat.zero_le _, fun o h => by simp [stripSt] at h⟩, Nat.zero_le _, fun o h => by simp [stripSt] at h, by simp [stripSt]⟩
  | j + 1, hj => by
    obtain ⟨q, hq⟩ : ∃ q, (escU 0 false cs)[j]? = some q := ⟨_, List.getElem?_eq_getElem (by omega)⟩
    obtain ⟨h1, h2, h3, h4⟩ := strip_inv cs j (by omega)
    have hqm := escU_lt (List.mem_of_getElem? hq)
    have hlt : ∀ j' q', j + 1 ≤ j' → (escU 0 false cs)[j']? = some q' → q.1 < q'.1 := fun j' q' hjj hq' => by
      have hs := escU_sorted cs 0 false (by simp)
      obtain ⟨hl1, rfl⟩ := List.getElem?_eq_some_iff.mp hq
      obtain ⟨hl2, rfl⟩ := List.getElem?_eq_some_iff.mp hq'
      exact List.pairwise_iff_getElem.mp hs j j' hl1 hl2 (by omega)
    have g1 := h1 j q (Nat.le_refl _) hq
    rw [stripSt_succ hq]
    generalize stripSt cs j = st at *
    unfold stripStep
    by_cases hc : q.2 = [34]
    · rw [if_pos hc]
      cases ho : st.2.1 with
      | none =>
        refine ⟨fun j' q' hjj hq' => ⟨(h1 j' q' (by omega) hq').1, fun o e => ?_⟩, h2, fun o e => ?_, h4⟩
        · cases e; exact hlt j' q' hjj hq'
        · cases e; exact ⟨g1.1, hqm⟩
      | some o =>
        have g3 := h3 o ho
        have g2 := g1.2 o ho
        refine ⟨fun j' q' hjj hq' => ⟨hlt j' q' hjj hq', fun o e => by cases e⟩, hqm, (fun o e => by cases e), ?_⟩
        show (List.map List.length (if st.1 = o then st.2.2 else st.2.2 ++ [(cs.drop st.1).take (o - st.1)])).sum + (if st.1 = o then st.2.2 else st.2.2 ++ [(cs.drop st.1).take (o - st.1)]).length ≤ 2 * (q.1 + 1)
        split
        · omega
        · simp only [List.map_append, List.map_cons, List.map_nil, List.sum_append, List.sum_cons, List.sum_nil, List.length_append, List.length_cons, List.length_nil, List.length_take, List.length_drop]
          omega
    · rw [if_neg hc]
      exact ⟨fun j' q' hjj hq' => h1 j' q' (by omega) hq', h2, h3, h4⟩
end Mine
end
section
set_option maxRecDepth 100000
set_option maxHeartbeats 4000000
namespace Mine
def parStep (n : Option Nat) (q : Nat × List Nat) : Option Nat :=
  match n with
  | none => none
  | some n => if q.2 = [40] then some (n + 1) else if q.2 = [41] then (if n = 0 then none else some (n - 1)) else some n
def checkF (cs : List Nat) : Bool := (escU 0 false (stripF cs)).foldl parStep (some 0) == some 0
theorem parStep_none (l : List (Nat × List Nat)) : l.foldl parStep none = none := by
  induction l with
  | nil => rfl
  | cons q r ih => exact ih
end Mine
end
section
set_option maxRecDepth 100000
set_option maxHeartbeats 4000000
namespace Mine
open PySem PySem.W PySem.Calls PyProof.Rows
def tx (u : List Nat) : Str := ⟨u.toArray⟩
theorem tx_toList (x : Str) : tx x.cps.toList = x := by cases x; simp [tx]
theorem join_tx : ∀ (l : List (List Nat)), Str.join ⟨#[]⟩ (l.map tx) = tx l.flatten
  | [] => rfl
  | [u] => by simp [Str.join]
  | u :: v :: r => by
    have := join_tx (v :: r)
    simp only [List.map_cons, Str.join] at this ⊢
    rw [this]
    simp only [tx, List.flatten_cons]
    apply Str.ext'
    simp [Str.cps_append]
theorem joinT (l : List (List Nat)) : Txt.join (Str.ofString "") (l.map tx) = tx l.flatten := by
  rw [← join_tx]
  exact StrLaws.glued_eq_join _ _
def optV : Option Nat → Tok → Value
  | none, _ => .none
  | some o, t => .int (o : Nat) t
/-- the locals of the stripping -/
def stripM (x : Str) (t : Tok) (l : Addr) (st : Nat × Option Nat × List (List Nat)) (t1 t2 : Tok) (g : Str → Option Value) : Str → Option Value := fun y =>
  if y = Str.ofString "start" then some (.int (st.1 : Nat) t1) else if y = Str.ofString "open_pos" then some (optV st.2.1 t2) else if y = Str.ofString "result" then some (.ref l) else if y = Str.ofString "addr" then some (.str x t) else g y
theorem stripM_of {x : Str} {t : Tok} {l : Addr} {st : Nat × Option Nat × List (List Nat)} {t1 t2 : Tok} {m : Str → Option Value} (e1 : m (Str.ofString "start") = some (.int (st.1 : Nat) t1)) (e2 : m (Str.ofString "open_pos") = some (optV st.2.1 t2))
    (e3 : m (Str.ofString "result") = some (.ref l)) (e4 : m (Str.ofString "addr") = some (.str x t)) : m = stripM x t l st t1 t2 m := by
  funext y
  unfold stripM
  by_cases h1 : y = Str.ofString "start"
  · rw [if_pos h1, h1]; exact e1
  rw [if_neg h1]
  by_cases h2 : y = Str.ofString "open_pos"
  · rw [if_pos h2, h2]; exact e2
  rw [if_neg h2]
  by_cases h3 : y = Str.ofString "result"
  · rw [if_pos h3, h3]; exact e3
  rw [if_neg h3]
  by_cases h4 : y = Str.ofString "addr"
  · rw [if_pos h4, h4]; exact e4
  rw [if_neg h4]
def StrL (h : Heap) (l : Addr) (acc : List (List Nat)) : Prop := ∃ ps : List (Str × Tok), ps.map (·.1) = acc.map tx ∧ h.PlainList l (strValues ps).toArray
def StripJ (x : Str) (t : Tok) (l : Addr) (j : Nat) (m : Str → Option Value) (h : Heap) : Prop :=
  ∃ t1 t2, m (Str.ofString "start") = some (.int ((stripSt x.cps.toList j).1 : Nat) t1) ∧ m (Str.ofString "open_pos") = some (optV (stripSt x.cps.toList j).2.1 t2) ∧ m (Str.ofString "result") = some (.ref l) ∧ m (Str.ofString "addr") = some (.str x t) ∧
    StrL h l (stripSt x.cps.toList j).2.2
theorem list_quiet {o : Obj} {items : Array Value} {n : Nat} (h : o = { cls := .type "list", data := .seq items n }) : ¬ Loud o := by
  subst h
  rintro ⟨_, vs, hv⟩
  cases hv
theorem gkeeps_of {h₀ h h' : Heap} {L C a : Addr} {m : Str → Option Value} (F : Fr h₀ L h m) (hLC : L ≠ C) (hLa : L ≠ a) (k : ∀ b o, b ≠ L → h.get? b = some o → h'.get? b = some o) : GKeeps C a h h' := fun b o hb e => k b o (fun q => by
  subst q
  rcases hb with h | h | h
  · exact hLC h
  · exact hLa h
  · exact frame_quiet F.ns o e h) e
theorem tx_eq (u : List Nat) (y : Str) (v : List Nat) (hy : y = tx v) : ((⟨u.toArray⟩ : Str) == y) = decide (u = v) := by
  subst hy
  by_cases h : u = v
  · subst h; simp [tx]
  · have : ¬ (⟨u.toArray⟩ : Str) = tx v := fun e => h (by simpa [tx] using e)
    simp [h, this]
theorem strip {w : World} {A : Around} {s : Shared} {mg mb : Str → Option Value} (W : Wd w mg mb s.heap) (hh : A.handled = none) (hA : A.depth ≤ 450) (x : Str) (t : Tok) (hlen : x.cps.size ≤ 1000) :
    codeAny (model pw w) A (.call (.ref 28) ⟨[.str x t], []⟩) (fun r s' => Seal ((∃ t', r = .ok (.ret (.str (tx (stripF x.cps.toList)) t'))) ∧ Rel s s' ∧ ∀ b o, s.heap.get? b = some o → s'.heap.get? b = some o)) s := by
  obtain ⟨KX, T⟩ := id W
  have ho := KX 28 (o1_28 w.params) (by kernel_rfl)
  refine call_plain_ret (name := S "_strip_quoted_realnames") (params := dA (stm 2)) (body := dB (stm 2)) (scope := dS (stm 2)) (pm := _) (cd := .ref 27) (doc := .none) (o := o1_28 w.params) (binds := [(S "addr", .str x t)]) (Nat.lt_of_le_of_lt hA (by decide)) ho (by rfl) T.nolimit ?_ (by rfl) ?_ ?_ (by rfl) (by rfl) (by rfl) (by decide)
  · exact codeRec_of KX (by kernel_rfl)
  · intro y hy
    rcases List.mem_singleton.mp hy with rfl
    kernel_rfl
  · intro h₁ F
    have N : News s.heap s.heap.objs.size h₁ [] := News.nil
    show wpAny (model pw w) _ (execs [_,_,_,_,_,_,_] _) _ _ _
    have hd : (A.deeper (envOf (S "_strip_quoted_realnames") (dS (stm 2)) s.heap.objs.size 28 (.ref 27))).depth ≤ 500 := by
      show A.depth + 1 ≤ 500
      omega
    have hh' : (A.deeper (envOf (S "_strip_quoted_realnames") (dS (stm 2)) s.heap.objs.size 28 (.ref 27))).handled = none := hh
    generalize (A.deeper (envOf (S "_strip_quoted_realnames") (dS (stm 2)) s.heap.objs.size 28 (.ref 27))) = A' at hd hh' ⊢
    repeat' (fail_if_success (with_reducible refine wpAny_For ?_)); walk1
    · rename _ = true => hq
      have h34 : ¬ 34 ∈ x.cps.toList := by
        intro hm
        have := StrLaws.found_one x 34
        rw [show (⟨#[34]⟩ : Str) = Str.ofString "\"" by decide, hq, decide_eq_true hm] at this
        cases this
      refine ⟨⟨t, ?_⟩, Rel.heap _ _, F.keep⟩
      rw [stripF, if_neg h34, tx_toList]
    · rename _ = false => hq
      have h34 : 34 ∈ x.cps.toList := by
        have := StrLaws.found_one x 34
        rw [show (⟨#[34]⟩ : Str) = Str.ofString "\"" by decide, hq] at this
        exact of_decide_eq_true this.symm
      rename Fr _ _ _ _ => F₂
      rename News _ _ _ _ => N₂
      rename_i l _ _ hB
      refine wpAny_For ?_
      repeat' (fail_if_success (with_reducible show wpAny _ _ (call (Value.ref 21) _ _) _ _ _)); walk1
      refine wpAny_call (call_iter W hh' hd F₂.keep (Nat.le_trans F₂.above (Nat.le_of_lt F₂.ns.lt)) x t ?_)
      intro a g C s₂ G hsame hk₂ hbare hC ha
      show wpAny _ _ (pyIter (.ref a)) _ _ _
      refine wpAny_pyIter_gen G.1 ?_
      have hLh : s.heap.objs.size < hB.objs.size := F₂.ns.lt
      replace hC : hB.objs.size ≤ C := hC
      replace ha : hB.objs.size ≤ a := ha
      replace hk₂ : ∀ b o, hB.get? b = some o → s₂.heap.get? b = some o := hk₂
      have hl₂ : hB.PlainList l #[] := ⟨_, N₂.get (.head _)⟩
      have hlt : l < hB.objs.size := Heap.lt_size (N₂.get (.head _))
      have hlL : l ≠ s.heap.objs.size := N₂.ne (.head _)
      have hln : s.heap.get? l = none := N₂.fresh (.head _)
      have hrel : Rel s s₂ := by
        obtain ⟨h, tk, gs, rfl⟩ := hsame
        exact ⟨⟨_, _, _, rfl⟩, hbare⟩
      refine forGen W hh' (Nat.lt_of_le_of_lt hd (by decide)) rfl rfl rfl G (F₂.keeps hk₂) (Nat.ne_of_lt (Nat.lt_of_lt_of_le hLh hC)) (Nat.ne_of_lt (Nat.lt_of_lt_of_le hLh ha)) (StripJ x t l) ?_ ?_ ?_ ?_
      · exact ⟨_, 0, rfl, rfl, rfl, rfl, [], rfl, hl₂.at fun o e => hk₂ l o e⟩
      · rintro j m h h' ⟨t1, t2, e1, e2, e3, e4, ps, e5, n, e6⟩ hk
        exact ⟨t1, t2, e1, e2, e3, e4, ps, e5, n, hk l _ (Nat.ne_of_lt (Nat.lt_of_lt_of_le hlt hC)) hlL (list_quiet rfl) e6⟩
      · rintro j p u tp tu m₁ s₃ hu ⟨t1, t2, e1, e2, e3, e4, ps, e5, hpl⟩ hr₃ F₃
        obtain ⟨i1, i2, i3, i4⟩ := strip_inv x.cps.toList j (Nat.le_of_lt (List.getElem?_eq_some_iff.mp hu).1)
        rw [stripM_of e1 e2 e3 e4] at F₃
        have hsucc := stripSt_succ hu
        have hLC : s.heap.objs.size ≠ C := Nat.ne_of_lt (Nat.lt_of_lt_of_le hLh hC)
        have hLa : s.heap.objs.size ≠ a := Nat.ne_of_lt (Nat.lt_of_lt_of_le hLh ha)
        generalize stripSt x.cps.toList j = st at *
        obtain ⟨start, op, acc⟩ := st
        have N₃ : News s.heap s.heap.objs.size s₃.heap [] := News.nil
        unfold stripM at F₃
        cases op with
        | none =>
          simp only [optV] at F₃
          repeat' (fail_if_success (with_reducible show wpAny _ _ (storeName _ _ _) _ _ _)); (fail_if_success (with_reducible show wpAny _ _ (getMethod _ _ _) _ _ _)); walk1
          · rename (_ == _) = true => hq
            rw [tx_eq u _ [34] (by decide), decide_eq_true_eq] at hq
            refine storeC F₃ fun h₄ F₄ hs₄ => ?_
            repeat' walk1
            refine ⟨h₄, _, _, rfl, F₄, gkeeps_of F₃ hLC hLa (fun b o hb e => (hs₄.2 b hb).trans e), t1, tp, ?_⟩
            rw [hsucc, stripStep, if_pos hq]
            exact ⟨rfl, rfl, rfl, rfl, ps, e5, hpl.at fun o e => (hs₄.2 l hlL).trans e⟩
          · rename (_ == _) = false => hq
            rw [tx_eq u _ [34] (by decide), decide_eq_false_iff_not] at hq
            refine ⟨s₃.heap, _, _, rfl, F₃, fun _ _ _ e => e, t1, t2, ?_⟩
            rw [hsucc, stripStep, if_neg hq]
            exact ⟨rfl, rfl, rfl, rfl, ps, e5, hpl⟩
        | some o =>
          simp only [optV] at F₃
          repeat' (fail_if_success (with_reducible show wpAny _ _ (storeName _ _ _) _ _ _)); (fail_if_success (with_reducible show wpAny _ _ (getMethod _ _ _) _ _ _)); walk1
          · rename (_ == _) = true => hq
            rw [tx_eq u _ [34] (by decide), decide_eq_true_eq] at hq
            rename (start : Int) ≠ (o : Int) => hne
            obtain ⟨n3, hol⟩ := id hpl
            refine getMethod_builtin (T := "list") ⟨_, hol, rfl⟩ PySem.F.plainAttrs_list PySem.F.slot_list_append PySem.F.type_list_append (fun b e => by cases e; exact ⟨_, hol, rfl⟩) ?_
            repeat' (fail_if_success (with_reducible show wpAny _ _ (subscriptTail _ _ _ _) _ _ _)); walk1
            have i3' := i3 o rfl
            have hkk : KeptH (fun h' => ∀ b o, s₃.heap.get? b = some o → h'.get? b = some o) := fun h ob k b o e => Heap.get?_push_of_some _ (k b o e)
            refine tail_of_ItemOn (SBH.sliceItem_ss (s := { s₃ with toks := tk }) hkk (fun b o e => e) (fun h₄ t₄ k₄ hk₄ => ?_) (Nat.le_trans hlen (by decide))) (by with_unfolding_all rfl) (by intro _; with_unfolding_all rfl)
            have F₄ := F₃.keeps hk₄
            repeat' (fail_if_success (with_reducible show wpAny _ _ (call _ _ _) _ _ _)); walk1
            refine wpAny_list_append_plain (hpl.at fun o e => hk₄ l o e) (fun h₅ hl₅ hs₅ => ?_) ?_
            · have F₅ : Fr s.heap s.heap.objs.size h₅ _ := ⟨F₄.ns.sameBut hs₅ hlL.symm, fun b o e => (hs₅.2 b (fun q => by rw [q, hln] at e; cases e)).trans (F₄.keep b o e), F₄.above⟩
              repeat' (fail_if_success (with_reducible show wpAny _ _ (storeName _ _ _) _ _ _)); walk1
              refine storeC F₅ fun h₆ F₆ hs₆ => ?_
              repeat' (fail_if_success (with_reducible show wpAny _ _ (storeName _ _ _) _ _ _)); walk1
              refine storeC F₆ fun h₇ F₇ hs₇ => ?_
              repeat' walk1
              refine ⟨h₇, _, _, rfl, F₇, ?_, ?_⟩
              · intro b ob hb e
                have hbL : b ≠ s.heap.objs.size := fun q => by
                  subst q
                  rcases hb with h | h | h
                  · exact hLC h
                  · exact hLa h
                  · exact frame_quiet F₃.ns ob e h
                have hbl : b ≠ l := fun q => by
                  subst q
                  rcases hb with h | h | h
                  · exact Nat.ne_of_lt (Nat.lt_of_lt_of_le hlt hC) h
                  · exact Nat.ne_of_lt (Nat.lt_of_lt_of_le hlt ha) h
                  · rw [hol] at e; cases e; exact list_quiet rfl h
                exact (hs₇.2 b hbL).trans ((hs₆.2 b hbL).trans ((hs₅.2 b hbl).trans (hk₄ b ob e)))
              · have hne' : ¬ start = o := by omega
                unfold StripJ
                rw [hsucc, stripStep, if_pos hq]
                simp only [if_neg hne']
                refine ⟨_, 0, rfl, rfl, rfl, rfl, ps ++ [(tx ((x.cps.toList.drop start).take (o - start)), t₄)], by simp [e5], ?_⟩
                have hsl : Txt.slice x (some (start : Int)) (some (o : Int)) = tx ((x.cps.toList.drop start).take (o - start)) := by
                  have := slice_closes (x := x) (i := (start : Int)) (j := (o : Int)) ⟨by omega, by have := i3'.1; omega, by have := i3'.2; omega⟩
                  rw [beq_iff_eq] at this
                  rw [this, tx, Int.toNat_natCast, show ((o : Int) - (start : Int)).toNat = o - start by omega]
                have hl₇ := (hl₅.at fun o e => (hs₆.2 l hlL).trans e).at fun o e => (hs₇.2 l hlL).trans e
                rw [hsl] at hl₇
                simpa [strValues] using hl₇
            · have : ps.length = acc.length := by rw [← List.length_map (f := (·.1)), e5, List.length_map]
              simp only [strValues, List.size_toArray, List.length_map, this]
              have h1 := i4
              have h2 := i2
              simp only [Array.length_toList] at h2 h1
              have h3 : acc.length ≤ 2 * start := by omega
              have h4 : start ≤ 1000 := Nat.le_trans h2 hlen
              exact Nat.le_trans (by omega : acc.length ≤ 2000) (by decide)
          · rename (_ == _) = true => hq
            rw [tx_eq u _ [34] (by decide), decide_eq_true_eq] at hq
            rename (start : Int) = (o : Int) => hne
            refine storeC F₃ fun h₄ F₄ hs₄ => ?_
            repeat' (fail_if_success (with_reducible show wpAny _ _ (storeName _ _ _) _ _ _)); walk1
            refine storeC F₄ fun h₅ F₅ hs₅ => ?_
            repeat' walk1
            refine ⟨h₅, _, _, rfl, F₅, gkeeps_of F₃ hLC hLa (fun b o hb e => (hs₅.2 b hb).trans ((hs₄.2 b hb).trans e)), ?_⟩
            have hne' : start = o := by omega
            unfold StripJ
            rw [hsucc, stripStep, if_pos hq]
            simp only [if_pos hne']
            exact ⟨_, 0, rfl, rfl, rfl, rfl, ps, e5, hpl.at fun o e => (hs₅.2 l hlL).trans ((hs₄.2 l hlL).trans e)⟩
          · rename (_ == _) = false => hq
            rw [tx_eq u _ [34] (by decide), decide_eq_false_iff_not] at hq
            refine ⟨s₃.heap, _, _, rfl, F₃, fun _ _ _ e => e, t1, t2, ?_⟩
            rw [hsucc, stripStep, if_neg hq]
            exact ⟨rfl, rfl, rfl, rfl, ps, e5, hpl⟩
      · rintro m₃ s₃ hr₃ F₃ ⟨t1, t2, e1, e2, e3, e4, ps, e5, hpl⟩
        obtain ⟨_, i2, i3, i4⟩ := strip_inv x.cps.toList (escU 0 false x.cps.toList).length (Nat.le_refl _)
        have hst : stripF x.cps.toList = (if (stripSt x.cps.toList (escU 0 false x.cps.toList).length).1 < x.cps.toList.length then (stripSt x.cps.toList (escU 0 false x.cps.toList).length).2.2 ++ [x.cps.toList.drop (stripSt x.cps.toList (escU 0 false x.cps.toList).length).1] else (stripSt x.cps.toList (escU 0 false x.cps.toList).length).2.2).flatten := by
          rw [stripF, if_pos h34]
        rw [stripM_of e1 e2 e3 e4] at F₃
        generalize stripSt x.cps.toList (escU 0 false x.cps.toList).length = st at *
        obtain ⟨start, op, acc⟩ := st
        have N₃ : News s.heap s.heap.objs.size s₃.heap [] := News.nil
        unfold stripM at F₃
        show wpAny _ _ (execs [_, _] _) _ _ _
        have hlen' : acc.length ≤ 2000 := by
          have h1 := i4
          have h2 := i2
          simp only [Array.length_toList] at h2 h1
          omega
        have hxl : (x.length : Int) ≤ 1000 := by exact_mod_cast hlen
        have hps : ps.length = acc.length := by rw [← List.length_map (f := (·.1)), e5, List.length_map]
        have jok : ∀ (ps' : List (Str × Tok)) (acc' : List (List Nat)), (acc'.map List.length).sum + acc'.length ≤ 10000 → JoinOk (Str.ofString "") (acc'.map tx) = true := fun ps' acc' hsz => by
          refine joinOk_of_weight ?_ (by decide)
          rw [List.map_map, List.length_map]
          have : (Str.length ∘ tx) = List.length := funext fun u => by simp [tx, Str.length]
          rw [show ((fun x => Str.length x) ∘ tx) = List.length from this]
          exact Nat.le_trans hsz (by decide)
        have h24 : (acc.map List.length).sum + acc.length ≤ 2000 := by
          have h1 := i4
          have h2 := i2
          simp only [Array.length_toList] at h2 h1
          omega
        repeat' (fail_if_success (with_reducible show wpAny _ _ (getMethod (Value.ref _) _ _) _ _ _)); (fail_if_success (with_reducible show wpAny _ _ (call (Value.builtin "str.join") _ _) _ _ _)); walk1
        · rename (start : Int) < (x.length : Int) => hlt'
          have hlt'' : start < x.cps.toList.length := by
            have : (x.length : Int) = (x.cps.toList.length : Nat) := by simp [Str.length]
            omega
          rw [if_pos hlt''] at hst
          obtain ⟨n3, hol⟩ := id hpl
          refine getMethod_builtin (T := "list") ⟨_, hol, rfl⟩ PySem.F.plainAttrs_list PySem.F.slot_list_append PySem.F.type_list_append (fun b e => by cases e; exact ⟨_, hol, rfl⟩) ?_
          repeat' (fail_if_success (with_reducible show wpAny _ _ (subscriptTail _ _ _ _) _ _ _)); walk1
          have hkk : KeptH (fun h' => ∀ b o, s₃.heap.get? b = some o → h'.get? b = some o) := fun h ob k b o e => Heap.get?_push_of_some _ (k b o e)
          refine tail_of_ItemOn (SBH.sliceItem_sn (s := { s₃ with toks := tk }) hkk (fun b o e => e) (fun h₄ t₄ k₄ hk₄ => ?_) (Nat.le_trans hlen (by decide))) (by with_unfolding_all rfl) (by intro _; with_unfolding_all rfl)
          have F₄ := F₃.keeps hk₄
          repeat' (fail_if_success (with_reducible show wpAny _ _ (call _ _ _) _ _ _)); walk1
          refine wpAny_list_append_plain (hpl.at fun o e => hk₄ l o e) (fun h₅ hl₅ hs₅ => ?_) ?_
          · have F₅ : Fr s.heap s.heap.objs.size h₅ _ := ⟨F₄.ns.sameBut hs₅ hlL.symm, fun b o e => (hs₅.2 b (fun q => by rw [q, hln] at e; cases e)).trans (F₄.keep b o e), F₄.above⟩
            repeat' (fail_if_success (with_reducible show wpAny _ _ (call (Value.builtin "str.join") _ _) _ _ _)); walk1
            have hsl : Txt.slice x (some (start : Int)) none = tx (x.cps.toList.drop start) := by
              have := slice_closes_fromL (x := x) (i := (start : Int)) (b := (x.length : Int)) (by omega) (by omega) rfl
              rw [beq_iff_eq] at this
              rw [this, tx, Int.toNat_natCast, List.take_of_length_le]
              have : (x.length : Int) = (x.cps.toList.length : Nat) := by simp [Str.length]
              rw [List.length_drop]
              omega
            rw [hsl] at hl₅
            refine SC.join (l := ps ++ [(tx (x.cps.toList.drop start), t₄)]) (texts := (acc ++ [x.cps.toList.drop start]).map tx) ?_ ?_ (jok [] _ ?_) fun t' k => ?_
            · exact Heap.PlainList.isList (by simpa [strValues] using hl₅)
            · simp [e5]
            · have : (x.cps.toList.drop start).length ≤ 1000 := by simp; omega
              simp only [List.map_append, List.map_cons, List.map_nil, List.sum_append, List.sum_cons, List.sum_nil, List.length_append, List.length_cons, List.length_nil]
              omega
            · exact ⟨⟨t', by rw [hst, ← joinT]⟩, hrel.trans (hr₃.trans (Rel.heap _ _)), F₅.keep⟩
          · simp only [strValues, List.size_toArray, List.length_map, hps]
            exact Nat.le_trans hlen' (by decide)
        · rename ¬ ((start : Int) < (x.length : Int)) => hlt'
          have hlt'' : ¬ start < x.cps.toList.length := by
            have : (x.length : Int) = (x.cps.toList.length : Nat) := by simp [Str.length]
            omega
          rw [if_neg hlt''] at hst
          refine SC.join (l := ps) (texts := acc.map tx) ?_ e5 (jok [] _ (by omega)) fun t' k => ?_
          · exact hpl.isList
          · exact ⟨⟨t', by rw [hst, ← joinT]⟩, hrel.trans (hr₃.trans (Rel.heap _ _)), F₃.keep⟩
end Mine
end
section
set_option maxRecDepth 100000
set_option maxHeartbeats 4000000
namespace Mine
open PySem PySem.W PySem.Calls PyProof.Rows
def CheckJ (us : List (Nat × List Nat)) (j : Nat) (m : Str → Option Value) (h : Heap) : Prop :=
  ∃ n t1, m (Str.ofString "opens") = some (.int (n : Nat) t1) ∧ (us.take j).foldl parStep (some 0) = some n
theorem checkP {w : World} {A : Around} {s : Shared} {mg mb : Str → Option Value} (W : Wd w mg mb s.heap) (hh : A.handled = none) (hA : A.depth ≤ 440) (x : Str) (t : Tok) (hlen : x.cps.size ≤ 1000) :
    codeAny (model pw w) A (.call (.ref 35) ⟨[.str x t], []⟩) (fun r s' => Seal (r = .ok (.ret (.bool (checkF x.cps.toList))) ∧ Rel s s' ∧ ∀ b o, s.heap.get? b = some o → s'.heap.get? b = some o)) s := by
  obtain ⟨KX, T⟩ := id W
  have ho := KX 35 (o1_35 w.params) (by kernel_rfl)
  refine call_plain_ret (name := S "_check_parenthesis") (params := dA (stm 3)) (body := dB (stm 3)) (scope := dS (stm 3)) (pm := _) (cd := .ref 34) (doc := .none) (o := o1_35 w.params) (binds := [(S "addr", .str x t)]) (Nat.lt_of_le_of_lt hA (by decide)) ho (by rfl) T.nolimit ?_ (by rfl) ?_ ?_ (by rfl) (by rfl) (by rfl) (by decide)
  · exact codeRec_of KX (by kernel_rfl)
  · intro y hy
    rcases List.mem_singleton.mp hy with rfl
    kernel_rfl
  · intro h₁ F
    have N : News s.heap s.heap.objs.size h₁ [] := News.nil
    show wpAny (model pw w) _ (execs [_,_,_,_] _) _ _ _
    have hd : (A.deeper (envOf (S "_check_parenthesis") (dS (stm 3)) s.heap.objs.size 35 (.ref 34))).depth ≤ 450 := by
      show A.depth + 1 ≤ 450
      omega
    have hh' : (A.deeper (envOf (S "_check_parenthesis") (dS (stm 3)) s.heap.objs.size 35 (.ref 34))).handled = none := hh
    generalize (A.deeper (envOf (S "_check_parenthesis") (dS (stm 3)) s.heap.objs.size 35 (.ref 34))) = A' at hd hh' ⊢
    repeat' (fail_if_success (with_reducible show wpAny _ _ (call (Value.ref 28) _ _) _ _ _)); walk1
    refine wpAny_call (codeAny_mono (strip (W.keeps F.keep) hh' hd x t hlen) fun r s' hr => ?_)
    obtain ⟨⟨t', rfl⟩, hrel, hkeep⟩ := hr
    have hr1 : Rel s s' := (Rel.heap _ _).trans hrel
    have F₁ := F.keeps hkeep
    have N₁ : News s.heap s.heap.objs.size s'.heap [] := News.nil
    clear hrel hkeep F N
    show wpAny _ _ (storeName _ _ _) _ _ _
    repeat' (fail_if_success (with_reducible refine wpAny_For ?_)); walk1
    refine wpAny_For ?_
    repeat' (fail_if_success (with_reducible show wpAny _ _ (call (Value.ref 21) _ _) _ _ _)); walk1
    rename Fr _ _ _ _ => F₂
    refine wpAny_call (call_iter W hh' (Nat.le_trans hd (by decide)) F₂.keep (Nat.le_trans F₂.above (Nat.le_of_lt F₂.ns.lt)) (tx (stripF x.cps.toList)) t' ?_)
    intro a g C s₂ G hsame hk₂ hbare hC ha
    show wpAny _ _ (pyIter (.ref a)) _ _ _
    refine wpAny_pyIter_gen G.1 ?_
    have hrel : Rel s s₂ := by
      refine hr1.trans ?_
      obtain ⟨h, tk, gs, rfl⟩ := hsame
      exact ⟨⟨_, _, _, rfl⟩, hbare⟩
    have hLh := F₂.ns.lt
    have hLC : s.heap.objs.size ≠ C := Nat.ne_of_lt (Nat.lt_of_lt_of_le hLh hC)
    have hLa : s.heap.objs.size ≠ a := Nat.ne_of_lt (Nat.lt_of_lt_of_le hLh ha)
    refine forGen W hh' (Nat.lt_of_le_of_lt hd (by decide)) rfl rfl rfl G (F₂.keeps hk₂) hLC hLa (CheckJ (escU 0 false (tx (stripF x.cps.toList)).cps.toList)) ?_ ?_ ?_ ?_
    · exact ⟨0, _, rfl, rfl⟩
    · exact fun j m h h' hj _ => hj
    · rintro j p u tp tu m₁ s₃ hu ⟨n, t1, e1, e2⟩ hr₃ F₃
      have hm : (fun y => if y = Str.ofString "ch" then some (Value.str ⟨u.toArray⟩ tu) else if y = Str.ofString "pos" then some (Value.int (p : Nat) tp) else m₁ y) =
          (fun y => if y = Str.ofString "ch" then some (Value.str ⟨u.toArray⟩ tu) else if y = Str.ofString "pos" then some (Value.int (p : Nat) tp) else if y = Str.ofString "opens" then some (Value.int (n : Nat) t1) else m₁ y) := by
        funext y
        by_cases h1 : y = Str.ofString "ch"
        · rw [if_pos h1, if_pos h1]
        rw [if_neg h1, if_neg h1]
        by_cases h2 : y = Str.ofString "pos"
        · rw [if_pos h2, if_pos h2]
        rw [if_neg h2, if_neg h2]
        by_cases h3 : y = Str.ofString "opens"
        · rw [if_pos h3, h3]; exact e1
        rw [if_neg h3]
      replace F₃ : Fr s.heap s.heap.objs.size s₃.heap (fun y => if y = Str.ofString "ch" then some (Value.str ⟨u.toArray⟩ tu) else if y = Str.ofString "pos" then some (Value.int (p : Nat) tp) else m₁ y) := F₃
      rw [hm] at F₃
      have N₃ : News s.heap s.heap.objs.size s₃.heap [] := News.nil
      have hsucc : (((escU 0 false (tx (stripF x.cps.toList)).cps.toList).take (j + 1)).foldl parStep (some 0)) = parStep (some n) (p, u) := by
        rw [List.take_add_one, hu, Option.toList_some, List.foldl_append, e2]; rfl
      repeat' (fail_if_success (with_reducible show wpAny _ _ (storeName _ _ _) _ _ _)); walk1
      · rename (_ == _) = true => hq
        rw [tx_eq u _ [40] (by decide), decide_eq_true_eq] at hq
        refine storeC F₃ fun h₄ F₄ hs₄ => ?_
        repeat' walk1
        exact ⟨h₄, _, _, rfl, F₄, gkeeps_of F₃ hLC hLa (fun b o hb e => (hs₄.2 b hb).trans e), n + 1, _, rfl, by rw [hsucc, parStep]; simp only [if_pos hq]⟩
      · rename (_ == _) = true => hq2
        rename (_ == _) = false => hq1
        rw [tx_eq u _ [40] (by decide), decide_eq_false_iff_not] at hq1
        rw [tx_eq u _ [41] (by decide), decide_eq_true_eq] at hq2
        refine storeC F₃ fun h₄ F₄ hs₄ => ?_
        repeat' walk1
        · rename (n : Int) - 1 < 0 => hn
          have hn0 : n = 0 := by omega
          have hnone : (escU 0 false (stripF x.cps.toList)).foldl parStep (some 0) = none := by
            have e : escU 0 false (tx (stripF x.cps.toList)).cps.toList = escU 0 false (stripF x.cps.toList) := by simp [tx]
            rw [e] at hsucc hu
            have h1 : parStep (some n) (p, u) = none := by rw [parStep]; simp only [if_neg hq1, if_pos hq2, hn0, if_true]
            rw [h1] at hsucc
            rw [← List.take_append_drop (j + 1) (escU 0 false (stripF x.cps.toList)), List.foldl_append, hsucc, parStep_none]
          refine ⟨by rw [checkF, hnone]; rfl, hrel.trans (hr₃.trans (Rel.heap _ _)), F₄.keep⟩
        · rename ¬ ((n : Int) - 1 < 0) => hn
          have hn1 : n ≠ 0 := by omega
          exact ⟨h₄, _, _, rfl, F₄, gkeeps_of F₃ hLC hLa (fun b o hb e => (hs₄.2 b hb).trans e), n - 1, _, by rw [Int.ofNat_sub (Nat.one_le_iff_ne_zero.mpr hn1)]; rfl, by rw [hsucc, parStep]; simp only [if_neg hq1, if_pos hq2, if_neg hn1]⟩
      · rename (_ == Str.ofString ")") = false => hq2
        rename (_ == Str.ofString "(") = false => hq1
        rw [tx_eq u _ [40] (by decide), decide_eq_false_iff_not] at hq1
        rw [tx_eq u _ [41] (by decide), decide_eq_false_iff_not] at hq2
        exact ⟨s₃.heap, _, _, rfl, F₃, fun _ _ _ e => e, n, t1, rfl, by rw [hsucc, parStep]; simp only [if_neg hq1, if_neg hq2]⟩
    · rintro m₃ s₃ hr₃ F₃ ⟨n, t1, e1, e2⟩
      rw [List.take_of_length_le (Nat.le_refl _)] at e2
      have e : escU 0 false (tx (stripF x.cps.toList)).cps.toList = escU 0 false (stripF x.cps.toList) := by simp [tx]
      rw [e] at e2
      have hm : m₃ = fun y => if y = Str.ofString "opens" then some (Value.int (n : Nat) t1) else m₃ y := by
        funext y
        by_cases h3 : y = Str.ofString "opens"
        · rw [if_pos h3, h3]; exact e1
        rw [if_neg h3]
      rw [hm] at F₃
      have N₃ : News s.heap s.heap.objs.size s₃.heap [] := News.nil
      show wpAny _ _ (execs [_] _) _ _ _
      repeat' walk1
      refine ⟨?_, hrel.trans (hr₃.trans (Rel.heap _ _)), F₃.keep⟩
      rw [checkF, e2]
      have : (some n == some 0) = ((n : Int) == 0) := by
        by_cases h : n = 0
        · subst h; rfl
        · have h' : ¬ ((n : Int) = 0) := by omega
          rw [beq_eq_false_iff_ne.mpr h']
          simp [h]
      rw [this]
end Mine
end
section
set_option maxRecDepth 100000
set_option maxHeartbeats 4000000
namespace Mine
open PySem PySem.W PySem.Calls PyProof.Rows
/-- something that a loop draws from -/
structure Src (w : World) (A : Around) (hw : Heap) (it : Addr) (n : Nat) (P : Nat → Value → Heap → Prop) (St : Nat → Shared → Prop) (keep dep : Addr → Obj → Prop) : Prop where
  item : ∀ i (s : Shared) (Q : Option Value → Shared → Prop) (E : Value → Shared → Prop), i < n → St i s → (∀ b o, hw.get? b = some o → s.heap.get? b = some o) →
    (∀ v s', P i v s'.heap → St (i + 1) s' → Rel s s' → (∀ b o, keep b o → s.heap.get? b = some o → s'.heap.get? b = some o) → (∀ b o, hw.get? b = some o → s'.heap.get? b = some o) → Q (some v) s') → wpAny (model pw w) A (pyNext (.ref it)) Q E s
  done : ∀ (s : Shared) (Q : Option Value → Shared → Prop) (E : Value → Shared → Prop), St n s → (∀ b o, hw.get? b = some o → s.heap.get? b = some o) →
    (∀ s', Rel s s' → (∀ b o, keep b o → s.heap.get? b = some o → s'.heap.get? b = some o) → (∀ b o, hw.get? b = some o → s'.heap.get? b = some o) → Q none s') → wpAny (model pw w) A (pyNext (.ref it)) Q E s
  go : ∀ i (s : Shared) (v : Value) (target : Expr) (Q : Unit → Shared → Prop) (E : Value → Shared → Prop), St i s → Q () s → wpAny (model pw w) A (letOwnedTupleGo target (.ref it) v) Q E s
  frame : ∀ i (s : Shared) h' tk, St i s → (∀ b o, hw.get? b = some o → h'.get? b = some o) → (∀ b o, dep b o → s.heap.get? b = some o → h'.get? b = some o) → St i { s with heap := h', toks := tk }
  live : ∀ i (s : Shared) b o, St i s → ¬ Loud o → s.heap.get? b = none → keep b o
  self : ∀ i (s : Shared) (Q : Value → Shared → Prop) (E : Value → Shared → Prop), St i s → Q (.ref it) s → wpAny (model pw w) A (pyIter (.ref it)) Q E s
theorem compLoop_any {w : World} {A : Around} {elt target iter : Expr} {ifs : List Expr} {scope : Scope} {pos : Pos} {it acc : Value} {env : Env} {R : Result → Shared → Prop} {s : Shared} (I : Nat → Shared → Prop)
    (turn : ∀ n s, I n s → wpAny (model pw w) A (pyNext it) (fun r s₁ => match r with
      | none => R (.ok .next) s₁
      | some v => wpAny (model pw w) A (letOwnedTupleGo target it v) (fun _ s₁' => wpAny (model pw w) A (assign target env v) (fun _ s₂ =>
          wpAny (model pw w) A (forIn ifs true fun c r => if r = true then do let ok ← isTrue c env (eval c env); pure (ForInStep.yield ok) else pure (ForInStep.yield r)) (fun ok s₃ =>
            if ok = true then wpAny (model pw w) A (eval elt env) (fun x s₄ =>
              wpAny (model pw w) A (call (.builtin "list.append") [acc, x]) (fun _ s₅ => ∃ m, m < n ∧ I m s₅) (fun _ _ => False) s₄) (fun _ _ => False) s₃
            else ∃ m, m < n ∧ I m s₃) (fun _ _ => False) s₂) (fun _ _ => False) s₁') (fun _ _ => False) s₁) (fun _ _ => False) s)
    (n : Nat) (h : I n s) : codeAny (model pw w) A (.compLoop (.ListComp elt [⟨target, iter, ifs, 0⟩] scope pos) 0 it acc env) R s := by
  refine codeAny_loop rfl I (fun n s hI => ?_) n h
  show wpAny _ A ((compTurn (.ListComp elt [⟨target, iter, ifs, 0⟩] scope pos) 0 it acc env).onRaise (fun x => do noteFrame x env; theTreesLotGoes x)) _ _ s
  refine wpAny_noted ?_
  rw [compTurn_list]
  refine wpAny_bind (wpAny_standAt (wpAny_bind (wpAny_mono (turn n s hI) (fun r s₁ h₁ => ?_) fun _ _ h' => h'.elim)))
  cases r with
  | none => exact wpAny_pure h₁
  | some v =>
    refine wpAny_bind (wpAny_mono h₁ (fun _ s₁' h₁' => ?_) fun _ _ h' => h'.elim)
    refine wpAny_bind (wpAny_mono h₁' (fun _ s₂ h₂ => wpAny_bind (wpAny_mono h₂ (fun ok s₃ h₃ => ?_) fun _ _ h' => h'.elim)) fun _ _ h' => h'.elim)
    cases ok with
    | false => exact wpAny_pure ⟨rfl, h₃⟩
    | true =>
      exact wpAny_bind (wpAny_bind (wpAny_mono h₃ (fun x s₄ h₄ => wpAny_bind (wpAny_mono h₄ (fun _ s₅ h₅ => wpAny_pure (wpAny_pure ⟨rfl, h₅⟩)) fun _ _ h' => h'.elim)) fun _ _ h' => h'.elim))
/-- an item that was gathered, with its own new objects -/
def Got (G : Nat → Value → List (Addr × Obj) → Prop) (h : Heap) (i : Nat) (y : Value) : Prop := ∃ own : List (Addr × Obj), (∀ q ∈ own, h.get? q.1 = some q.2 ∧ ¬ Loud q.2) ∧ G i y own
theorem Got.keeps {G : Nat → Value → List (Addr × Obj) → Prop} {h h' : Heap} {i : Nat} {y : Value} (x : Got G h i y) (k : ∀ b o, ¬ Loud o → h.get? b = some o → h'.get? b = some o) : Got G h' i y := by
  obtain ⟨own, h1, h2⟩ := x
  exact ⟨own, fun q hq => ⟨k _ _ (h1 q hq).2 (h1 q hq).1, (h1 q hq).2⟩, h2⟩
/-- like Got, and out of the way of the block's own objects -/
def GotB (bad : List Addr) (G : Nat → Value → List (Addr × Obj) → Prop) (keep : Addr → Obj → Prop) (h : Heap) (i : Nat) (y : Value) : Prop := ∃ own : List (Addr × Obj), (∀ q ∈ own, h.get? q.1 = some q.2 ∧ ¬ Loud q.2 ∧ q.1 ∉ bad ∧ keep q.1 q.2) ∧ G i y own
theorem paired_mono {α β : Type} {F F' : α → β → Prop} (hm : ∀ a b, F a b → F' a b) : ∀ {l₁ : List α} {l₂ : List β}, Paired F l₁ l₂ → Paired F' l₁ l₂
  | _, _, .nil => .nil
  | _, _, .cons h t => .cons (hm _ _ h) (paired_mono hm t)
theorem codeAny_compS {w : World} {A : Around} {hw : Heap} {it : Addr} {n : Nat} {P : Nat → Value → Heap → Prop} {St : Nat → Shared → Prop} {keep dep : Addr → Obj → Prop} (S : Src w A hw it n P St keep dep) (hsz : n ≤ sizeLine)
    {elt target iter : Expr} {ifs : List Expr} {scope : Scope} {pos : Pos} {cenv : Env} {D : Addr} {s : Shared} {m : Str → Option Value} {R : Result → Shared → Prop} (p : Nat → Bool) (G : Nat → Value → List (Addr × Obj) → Prop) (B : Nat → (Str → Option Value) → Prop) (more : List Addr) (hmore : ∀ b ∈ more, b ≠ cenv.locals ∧ b ≠ D ∧ ∃ o, s.heap.get? b = some o ∧ keep b o)
    (hDC : D ≠ cenv.locals) (hC : ∀ o, ¬ Loud o → keep cenv.locals o ∧ ¬ dep cenv.locals o) (hD : ∀ o, ¬ Loud o → keep D o ∧ ¬ dep D o)
    (hst : St 0 s) (hn : s.heap.Ns cenv.locals m) (hacc : s.heap.PlainList D #[]) (hhw : ∀ b o, hw.get? b = some o → s.heap.get? b = some o) (hwC : hw.get? cenv.locals = none) (hwD : hw.get? D = none)
    (hassign : ∀ i v (s₁ : Shared) m₁, i < n → P i v s₁.heap → s₁.heap.Ns cenv.locals m₁ → (∀ b o, keep b o → b ≠ cenv.locals → b ≠ D → s.heap.get? b = some o → s₁.heap.get? b = some o) → (∀ b o, hw.get? b = some o → s₁.heap.get? b = some o) →
      wpAny (model pw w) A (assign target cenv v) (fun _ s₂ => ∃ h₂ tk₂ m₂, s₂ = { s₁ with heap := h₂, toks := tk₂ } ∧ h₂.Ns cenv.locals m₂ ∧ B i m₂ ∧ ∀ b o, b ≠ cenv.locals → s₁.heap.get? b = some o → h₂.get? b = some o) (fun _ _ => False) s₁)
    (htests : ∀ i (s₁ : Shared) m₁, i < n → B i m₁ → s₁.heap.Ns cenv.locals m₁ → (∀ b o, keep b o → b ≠ cenv.locals → b ≠ D → s.heap.get? b = some o → s₁.heap.get? b = some o) → (∀ b o, hw.get? b = some o → s₁.heap.get? b = some o) →
      wpAny (model pw w) A (forIn ifs true fun c r => if r = true then do let ok ← isTrue c cenv (eval c cenv); pure (ForInStep.yield ok) else pure (ForInStep.yield r)) (fun ok s₂ => ok = p i ∧ Keeps s₁ s₂) (fun _ _ => False) s₁)
    (helt : ∀ i (s₁ : Shared) m₁, i < n → p i = true → B i m₁ → s₁.heap.Ns cenv.locals m₁ → (∀ b o, keep b o → b ≠ cenv.locals → b ≠ D → s.heap.get? b = some o → s₁.heap.get? b = some o) → (∀ b o, hw.get? b = some o → s₁.heap.get? b = some o) →
      wpAny (model pw w) A (eval elt cenv) (fun y s₂ => Keeps s₁ s₂ ∧ ∃ own : List (Addr × Obj), (∀ q ∈ own, s₁.heap.get? q.1 = none ∧ s₂.heap.get? q.1 = some q.2 ∧ ¬ Loud q.2) ∧ G i y own) (fun _ _ => False) s₁)
    (hR : ∀ s' m' ys, Rel s s' → s'.heap.Ns cenv.locals m' → s'.heap.PlainList D ys → Paired (GotB (cenv.locals :: D :: more) G keep s'.heap) ((List.range n).filter p) ys.toList →
      (∀ b o, keep b o → b ≠ cenv.locals → b ≠ D → s.heap.get? b = some o → s'.heap.get? b = some o) → (∀ b o, hw.get? b = some o → s'.heap.get? b = some o) → R (.ok .next) s') :
    codeAny (model pw w) A (.compLoop (.ListComp elt [⟨target, iter, ifs, 0⟩] scope pos) 0 (.ref it) (.ref D) cenv) R s := by
  have quietC : ∀ {h : Heap} {m : Str → Option Value}, h.Ns cenv.locals m → ∀ o, h.get? cenv.locals = some o → ¬ Loud o := fun F => frame_quiet F
  have quietD : ∀ {h : Heap} {ys : Array Value}, h.PlainList D ys → ∀ o, h.get? D = some o → ¬ Loud o := fun ⟨k, e⟩ o e' => by rw [e] at e'; cases e'; exact list_quiet rfl
  refine compLoop_any (fun k s' => ∃ i m' ys, Rel s s' ∧ St i s' ∧ s'.heap.Ns cenv.locals m' ∧ s'.heap.PlainList D ys ∧ Paired (GotB (cenv.locals :: D :: more) G keep s'.heap) ((List.range i).filter p) ys.toList ∧
      (∀ b o, keep b o → b ≠ cenv.locals → b ≠ D → s.heap.get? b = some o → s'.heap.get? b = some o) ∧ (∀ b o, hw.get? b = some o → s'.heap.get? b = some o) ∧ i ≤ n ∧ k = n - i) ?_ n
    ⟨0, m, #[], Rel.refl s, hst, hn, hacc, by simpa using Paired.nil, fun _ _ _ _ _ e => e, hhw, Nat.zero_le _, rfl⟩
  rintro k s' ⟨i, m', ys, hrel, hst', hn', hacc', hG, hb, hhw', hi, rfl⟩
  by_cases hlt : i < n
  · refine S.item i s' _ _ hlt hst' hhw' fun v s₁ hP hst₁ hr₁ hk₁ hhw₁ => ?_
    refine S.go (i + 1) s₁ v target _ _ hst₁ ?_
    have hn₁ : s₁.heap.Ns cenv.locals m' := hn'.at' fun o e => hk₁ _ o (hC o (quietC hn' o e)).1 e
    have hacc₁ : s₁.heap.PlainList D ys := hacc'.at fun o e => hk₁ _ o (hD o (quietD hacc' o e)).1 e
    have hG₁ : Paired (GotB (cenv.locals :: D :: more) G keep s₁.heap) ((List.range i).filter p) ys.toList := paired_mono (fun a b ⟨own, h1, h2⟩ => ⟨own, fun q hq => ⟨hk₁ _ _ (h1 q hq).2.2.2 (h1 q hq).1, (h1 q hq).2⟩, h2⟩) hG
    have hb₁ : ∀ b o, keep b o → b ≠ cenv.locals → b ≠ D → s.heap.get? b = some o → s₁.heap.get? b = some o := fun b o h1 h2 h3 e => hk₁ b o h1 (hb b o h1 h2 h3 e)
    refine wpAny_mono (hassign i v s₁ m' hlt hP hn₁ hb₁ hhw₁) (fun _ s₂ h₂ => ?_) fun _ _ x => x
    obtain ⟨h₂, tk₂, m₂, rfl, hn₂, hB₂, hk₂⟩ := h₂
    have hhw₂ : ∀ b o, hw.get? b = some o → h₂.get? b = some o := fun b o e => hk₂ b o (fun q => by rw [q, hwC] at e; cases e) (hhw₁ b o e)
    have hb₂ : ∀ b o, keep b o → b ≠ cenv.locals → b ≠ D → s.heap.get? b = some o → h₂.get? b = some o := fun b o h1 h2 h3 e => hk₂ b o h2 (hb₁ b o h1 h2 h3 e)
    have hacc₂ : h₂.PlainList D ys := hacc₁.at fun o e => hk₂ D o hDC e
    have hst₂ : St (i + 1) { s₁ with heap := h₂, toks := tk₂ } := S.frame _ _ _ _ hst₁ hhw₂ fun b o hd e => hk₂ b o (fun q => by subst q; exact (hC o (quietC hn₁ o e)).2 hd) e
    have hG₂ : Paired (GotB (cenv.locals :: D :: more) G keep h₂) ((List.range i).filter p) ys.toList := paired_mono (fun a b ⟨own, h1, h2⟩ => ⟨own, fun q hq => ⟨hk₂ _ _ (fun e => (h1 q hq).2.2.1 (by simp [e])) (h1 q hq).1, (h1 q hq).2⟩, h2⟩) hG₁
    refine wpAny_mono (htests i { s₁ with heap := h₂, toks := tk₂ } m₂ hlt hB₂ hn₂ hb₂ hhw₂) (fun ok s₃ h₃ => ?_) fun _ _ x => x
    obtain ⟨rfl, h₃, tk₃, rfl, hk₃⟩ := h₃
    replace hk₃ : ∀ b o, h₂.get? b = some o → h₃.get? b = some o := hk₃
    have hrel₃ : ∀ h tk, Rel s { s₁ with heap := h, toks := tk } := fun h tk => (hrel.trans hr₁).trans (Rel.heap _ _)
    have hn₃ : h₃.Ns cenv.locals m₂ := hn₂.keeps hk₃
    have hacc₃ : h₃.PlainList D ys := hacc₂.at fun o e => hk₃ _ o e
    have hb₃ : ∀ b o, keep b o → b ≠ cenv.locals → b ≠ D → s.heap.get? b = some o → h₃.get? b = some o := fun b o h1 h2 h3 e => hk₃ b o (hb₂ b o h1 h2 h3 e)
    have hhw₃ : ∀ b o, hw.get? b = some o → h₃.get? b = some o := fun b o e => hk₃ b o (hhw₂ b o e)
    have hG₃ : Paired (GotB (cenv.locals :: D :: more) G keep h₃) ((List.range i).filter p) ys.toList := paired_mono (fun a b ⟨own, h1, h2⟩ => ⟨own, fun q hq => ⟨hk₃ _ _ (h1 q hq).1, (h1 q hq).2⟩, h2⟩) hG₂
    have hst₃ : ∀ tk, St (i + 1) { s₁ with heap := h₃, toks := tk } := fun tk => S.frame (i + 1) { s₁ with heap := h₂, toks := tk₂ } h₃ tk hst₂ hhw₃ fun b o _ e => hk₃ b o e
    cases hp : p i with
    | false =>
      rw [if_neg Bool.false_ne_true]
      refine ⟨n - (i + 1), by omega, i + 1, m₂, ys, hrel₃ _ _, hst₃ _, hn₃, hacc₃, ?_, hb₃, hhw₃, hlt, rfl⟩
      rw [List.range_succ, List.filter_append]
      simpa [hp] using hG₃
    | true =>
      rw [if_pos rfl]
      refine wpAny_mono (helt i { s₁ with heap := h₃, toks := tk₃ } m₂ hlt hp hB₂ hn₃ hb₃ hhw₃) (fun y s₄ h₄ => ?_) fun _ _ x => x
      obtain ⟨⟨h₄, tk₄, rfl, hk₄⟩, own, hown, hGy⟩ := h₄
      replace hk₄ : ∀ b o, h₃.get? b = some o → h₄.get? b = some o := hk₄
      have hysz : ys.size ≤ sizeLine := by
        have e1 := hG.length
        have e2 : ((List.range i).filter p).length ≤ (List.range i).length := List.length_filter_le _ _
        rw [List.length_range] at e2
        have e4 : ys.toList.length = ys.size := by simp
        omega
      refine wpAny_list_append_plain (hsz := hysz) (hacc₃.at fun o e => hk₄ _ o e) fun h₅ hl₅ hs₅ => ?_
      replace hs₅ : Heap.SameBut D h₄ h₅ := hs₅
      have aliveC : ∃ o, h₃.get? cenv.locals = some o := nsGet hn₃
      have aliveD : ∃ o, h₃.get? D = some o := let ⟨k, e⟩ := hacc₃; ⟨_, e⟩
      refine ⟨n - (i + 1), by omega, i + 1, m₂, ys.push y, hrel₃ _ _, S.frame (i + 1) { s₁ with heap := h₃, toks := tk₄ } h₅ tk₄ (hst₃ tk₄) (fun b o e => (hs₅.2 b (fun q => by rw [q, hwD] at e; cases e)).trans (hk₄ b o (hhw₃ b o e))) fun b o hd e => ?_, (hn₃.keeps hk₄).sameBut hs₅ hDC.symm, hl₅, ?_,
        fun b o h1 h2 h3 e => (hs₅.2 b h3).trans (hk₄ b o (hb₃ b o h1 h2 h3 e)), fun b o e => (hs₅.2 b (fun q => by rw [q, hwD] at e; cases e)).trans (hk₄ b o (hhw₃ b o e)), hlt, rfl⟩
      · replace e : h₃.get? b = some o := e
        refine (hs₅.2 b (fun q => ?_)).trans (hk₄ b o e)
        subst q
        exact (hD o (quietD hacc₃ o e)).2 hd
      · rw [List.range_succ, List.filter_append]
        have hlast : List.filter p [i] = [i] := by simp [hp]
        rw [hlast, Array.toList_push]
        refine Paired.snoc (paired_mono (fun a b ⟨own, h1, h2⟩ => ⟨own, fun q hq => ⟨(hs₅.2 _ (fun e => (h1 q hq).2.2.1 (by simp [e]))).trans (hk₄ _ _ (h1 q hq).1), (h1 q hq).2⟩, h2⟩) hG₃) ⟨own, fun q hq => ?_, hGy⟩
        obtain ⟨o1, o2, o3⟩ := hown q hq
        replace o1 : h₃.get? q.1 = none := o1
        have ne1 : q.1 ≠ cenv.locals := fun e => by obtain ⟨o, ho⟩ := aliveC; rw [e, ho] at o1; cases o1
        have ne2 : q.1 ≠ D := fun e => by obtain ⟨o, ho⟩ := aliveD; rw [e, ho] at o1; cases o1
        have ne3 : q.1 ∉ more := fun hm => by
          obtain ⟨a1, a2, o, a3, a4⟩ := hmore _ hm
          have := hb₃ _ o a4 a1 a2 a3
          rw [this] at o1; cases o1
        exact ⟨(hs₅.2 _ ne2).trans o2, o3, by simp [ne1, ne2, ne3], S.live _ _ _ _ (hst₃ 0) o3 o1⟩
  · have hin : i = n := by omega
    subst hin
    refine S.done s' _ _ hst' hhw' fun s₁ hr₁ hk₁ hhw₁ => ?_
    refine hR s₁ m' ys (hrel.trans hr₁) (hn'.at' fun o e => hk₁ _ o (hC o (quietC hn' o e)).1 e) (hacc'.at fun o e => hk₁ _ o (hD o (quietD hacc' o e)).1 e) (paired_mono (fun a b ⟨own, h1, h2⟩ => ⟨own, fun q hq => ⟨hk₁ _ _ (h1 q hq).2.2.2 (h1 q hq).1, (h1 q hq).2⟩, h2⟩) hG)
      (fun b o h1 h2 h3 e => hk₁ b o h1 (hb b o h1 h2 h3 e)) hhw₁
end Mine
end
section
set_option maxRecDepth 100000
set_option maxHeartbeats 4000000
namespace Mine
open PySem PySem.W PySem.Calls PyProof.Rows
/-- what a comprehension's parts do -/
structure CompDoes (w : World) (A : Around) (hw : Heap) (env : Env) (scope : Scope) (cl : List (Str × Addr)) (elt target : Expr) (ifs : List Expr) (s₂ : Shared) (I n : Nat) (P : Nat → Value → Heap → Prop) (St : Nat → Shared → Prop) (keep dep : Addr → Obj → Prop)
    (p : Nat → Bool) (G : Nat → Value → List (Addr × Obj) → Prop) (B : Nat → (Str → Option Value) → Prop) : Prop where
  src : Src w A hw I n P St keep dep
  size : n ≤ sizeLine
  st : St 0 s₂
  base : ∀ b o, hw.get? b = some o → s₂.heap.get? b = some o
  fresh : ∀ b o, s₂.heap.objs.size ≤ b → ¬ Loud o → keep b o ∧ ¬ dep b o
  assign : ∀ C i v (s₁ : Shared) m₁, s₂.heap.objs.size ≤ C → i < n → P i v s₁.heap → s₁.heap.Ns C m₁ → (∀ b o, keep b o → s₂.heap.get? b = some o → s₁.heap.get? b = some o) → (∀ b o, hw.get? b = some o → s₁.heap.get? b = some o) →
      wpAny (model pw w) A (assign target (compEnvC scope cl C env) v) (fun _ s₂ => ∃ h₂ tk₂ m₂, s₂ = { s₁ with heap := h₂, toks := tk₂ } ∧ h₂.Ns C m₂ ∧ B i m₂ ∧ ∀ b o, b ≠ C → s₁.heap.get? b = some o → h₂.get? b = some o) (fun _ _ => False) s₁
  tests : ∀ C i (s₁ : Shared) m₁, s₂.heap.objs.size ≤ C → i < n → B i m₁ → s₁.heap.Ns C m₁ → (∀ b o, keep b o → s₂.heap.get? b = some o → s₁.heap.get? b = some o) → (∀ b o, hw.get? b = some o → s₁.heap.get? b = some o) →
      wpAny (model pw w) A (forIn ifs true fun c r => if r = true then do let ok ← isTrue c (compEnvC scope cl C env) (eval c (compEnvC scope cl C env)); pure (ForInStep.yield ok) else pure (ForInStep.yield r)) (fun ok s₂ => ok = p i ∧ Keeps s₁ s₂) (fun _ _ => False) s₁
  elt : ∀ C i (s₁ : Shared) m₁, s₂.heap.objs.size ≤ C → i < n → p i = true → B i m₁ → s₁.heap.Ns C m₁ → (∀ b o, keep b o → s₂.heap.get? b = some o → s₁.heap.get? b = some o) → (∀ b o, hw.get? b = some o → s₁.heap.get? b = some o) →
      wpAny (model pw w) A (eval elt (compEnvC scope cl C env)) (fun y s₂ => Keeps s₁ s₂ ∧ ∃ own : List (Addr × Obj), (∀ q ∈ own, s₁.heap.get? q.1 = none ∧ s₂.heap.get? q.1 = some q.2 ∧ ¬ Loud q.2) ∧ G i y own) (fun _ _ => False) s₁
theorem comp_blockS {w : World} {A : Around} {hw : Heap} {env : Env} {scope : Scope} {cl : List (Str × Addr)} {elt target iter : Expr} {ifs : List Expr} {pos : Pos} {s₂ : Shared} {I n : Nat} {P : Nat → Value → Heap → Prop} {St : Nat → Shared → Prop} {keep dep : Addr → Obj → Prop}
    {p : Nat → Bool} {G : Nat → Value → List (Addr × Obj) → Prop} {B : Nat → (Str → Option Value) → Prop} (X : CompDoes w A hw env scope cl elt target ifs s₂ I n P St keep dep p G B) {RR : Value → Addr → Result → Shared → Prop} {E : Value → Shared → Prop} (more : List Addr) (hmore : ∀ b ∈ more, ∃ o, s₂.heap.get? b = some o ∧ keep b o)
    (hcell : ∀ y ∈ scope.names, y.2 ≠ .cell) (hkind : scope.kind = .function) (hhw : hw.objs.size ≤ s₂.heap.objs.size)
    (hRR : ∀ D C s' m' ys, Rel s₂ s' → s₂.heap.objs.size ≤ D → s₂.heap.objs.size ≤ C → D ≠ C → s'.heap.Ns C m' → s'.heap.PlainList D ys → Paired (GotB (C :: D :: more) G keep s'.heap) ((List.range n).filter p) ys.toList →
      (∀ b o, keep b o → s₂.heap.get? b = some o → s'.heap.get? b = some o) → (∀ b o, hw.get? b = some o → s'.heap.get? b = some o) → RR (.ref D) C (.ok .next) s') :
    wpAny (model pw w) A (newList []) (fun acc s₃ => wpAny (model pw w) A (newFunctionEnv scope env.globals cl [] env.qual none .none (some env)) (fun cenv s₄ =>
      codeAny (model pw w) A (.compStart (.ListComp elt [⟨target, iter, ifs, 0⟩] scope pos) 0 (.ref I) acc { cenv with scope := relabel scope env }) (RR acc cenv.locals) s₄) E s₃) E s₂ := by
  refine wpAny_newObj_type (wpAny_newFunctionEnv hcell (by intro y hy; simp at hy) (fun h₁ hns₁ hsb₁ => ?_) hkind)
  dsimp only at hns₁ hsb₁ ⊢
  generalize hH2 : s₂.heap.push { cls := .type "list", dict := none, data := .seq ([] : List Value).toArray } = H2 at hns₁ hsb₁ ⊢
  have hC : H2.objs.size = s₂.heap.objs.size + 1 := by rw [← hH2, Heap.size_push]
  have hDC : s₂.heap.objs.size ≠ H2.objs.size := by rw [hC]; exact Nat.ne_of_lt (Nat.lt_succ_self _)
  have hCle : s₂.heap.objs.size ≤ H2.objs.size := by rw [hC]; exact Nat.le_succ _
  have below : ∀ b, b < s₂.heap.objs.size → b ≠ H2.objs.size ∧ b ≠ s₂.heap.objs.size := fun b hb => ⟨by rw [hC]; exact Nat.ne_of_lt (Nat.lt_succ_of_lt hb), Nat.ne_of_lt hb⟩
  have old : ∀ b o, s₂.heap.get? b = some o → h₁.get? b = some o := fun b o e => hsb₁.extBut b o (below b (Heap.lt_size e)).1 (Heap.get?_push_of_some _ (hH2 ▸ Heap.get?_push_of_some _ e))
  have hacc : h₁.PlainList s₂.heap.objs.size #[] := ⟨_, hsb₁.extBut _ _ hDC (Heap.get?_push_of_some _ (hH2 ▸ Heap.get?_push_size _ rfl))⟩
  have none_of : ∀ b, s₂.heap.objs.size ≤ b → hw.get? b = none := fun b hb => by
    cases e : hw.get? b with
    | none => rfl
    | some o => exact absurd (Heap.lt_size e) (Nat.not_lt.mpr (Nat.le_trans hhw hb))
  have hhw₁ : ∀ b o, hw.get? b = some o → h₁.get? b = some o := fun b o e => old b o (X.base b o e)
  have up : ∀ {s₁ : Shared}, (∀ b o, keep b o → b ≠ H2.objs.size → b ≠ s₂.heap.objs.size → h₁.get? b = some o → s₁.heap.get? b = some o) → ∀ b o, keep b o → s₂.heap.get? b = some o → s₁.heap.get? b = some o := fun hk b o h1 e => hk b o h1 (below b (Heap.lt_size e)).1 (below b (Heap.lt_size e)).2 (old b o e)
  have hst₁ : ∀ tk, St 0 { s₂ with heap := h₁, toks := tk } := fun tk => X.src.frame _ _ _ _ X.st hhw₁ fun b o _ e => old b o e
  have loop : ∀ tk, codeAny (model pw w) A (.compLoop (.ListComp elt [⟨target, iter, ifs, 0⟩] scope pos) 0 (.ref I) (.ref s₂.heap.objs.size) (compEnvC scope cl H2.objs.size env))
        (RR (.ref s₂.heap.objs.size) H2.objs.size) { s₂ with heap := h₁, toks := tk } := by
    intro tk
    refine codeAny_compS (cenv := compEnvC scope cl H2.objs.size env) X.src X.size p G B more (fun b hb => let ⟨o, ho, hk⟩ := hmore b hb; ⟨(below b (Heap.lt_size ho)).1, (below b (Heap.lt_size ho)).2, o, old b o ho, hk⟩) hDC (fun o ho => X.fresh _ o hCle ho) (fun o ho => X.fresh _ o (Nat.le_refl _) ho) (hst₁ tk) hns₁ hacc hhw₁ (none_of _ hCle) (none_of _ (Nat.le_refl _))
      (fun i v s₁ m₁ hi hP hn hk hh => X.assign _ i v s₁ m₁ hCle hi hP hn (up hk) hh) (fun i s₁ m₁ hi hB hn hk hh => X.tests _ i s₁ m₁ hCle hi hB hn (up hk) hh) (fun i s₁ m₁ hi hp hB hn hk hh => X.elt _ i s₁ m₁ hCle hi hp hB hn (up hk) hh) ?_
    intro s' m' ys hr hn hl hG hk hh
    exact hRR _ _ s' m' ys ((Rel.heap _ _).trans hr) (Nat.le_refl _) hCle hDC hn hl hG (up hk) hh
  exact codeAny_compStart_list (loop _) (X.src.self 0 _ _ _ (hst₁ _) (loop _))
theorem compEval {w : World} {A : Around} {hw : Heap} {env : Env} {scope : Scope} {cl : List (Str × Addr)} {elt target iter : Expr} {ifs : List Expr} {pos : Pos} {s : Shared} {Q : Value → Shared → Prop} {E : Value → Shared → Prop}
    (hclos : closureFor scope env = pure cl) (hcell : ∀ y ∈ scope.names, y.2 ≠ .cell) (hkind : scope.kind = .function) (hnames : ∀ y ∈ scope.names, y.2 = .local → scope.names.lookup y.1 = some .local)
    (h : wpAny (model pw w) A (eval iter env) (fun xv s₁ => wpAny (model pw w) A (pyIter xv) (fun it s₂ => ∃ I n P St keep dep p G B, it = .ref I ∧ CompDoes w A hw env scope cl elt target ifs s₂ I n P St keep dep p G B ∧ hw.objs.size ≤ s₂.heap.objs.size ∧
      (∀ D s' ys, Rel s₂ s' → s₂.heap.objs.size ≤ D → s'.heap.PlainList D ys → Paired (Got G s'.heap) ((List.range n).filter p) ys.toList → (∀ b o, keep b o → s₂.heap.get? b = some o → s'.heap.get? b = some o) → (∀ b o, hw.get? b = some o → s'.heap.get? b = some o) → Q (.ref D) s')) E s₁) E s)
    (hs : ∀ x, foldedSetIterable iter env x = pure x := by intro _; rfl) :
    wpAny (model pw w) A (eval (.ListComp elt [⟨target, iter, ifs, 0⟩] scope pos) env) Q E s := by
  rw [eval_ListComp]
  refine wpAny_comprehension_free (use := none) rfl hs hclos hkind hnames (wpAny_mono h (fun xv s₁ h₁ => wpAny_mono h₁ (fun it s₂ h₂ => ?_) fun _ _ e => e) fun _ _ e => e)
  obtain ⟨I, n, P, St, keep, dep, p, G, B, rfl, X, hsz, hQ⟩ := h₂
  refine comp_blockS (RR := fun acc C => compPost (model pw w) A E none Q acc C) X [] (by simp) hcell hkind hsz ?_
  intro D C s' m' ys hr hD hC hDC hn hl hG hk hh
  refine ⟨m', hn, fun h'' hs'' => hQ D _ ys (hr.trans (Rel.heap _ _)) hD (hl.at fun o e => (hs''.2 D hDC).trans e) (paired_mono (fun a b ⟨own, h1, h2⟩ => ⟨own, fun q hq => ⟨(hs''.2 _ (fun e => (h1 q hq).2.2.1 (by simp [e]))).trans (h1 q hq).1, (h1 q hq).2.1⟩, h2⟩) hG) (fun b o hb e => ?_) fun b o e => ?_⟩
  · exact (hs''.2 b (fun q => by subst q; exact absurd (Heap.lt_size e) (Nat.not_lt.mpr hC))).trans (hk b o hb e)
  · exact (hs''.2 b (fun q => by subst q; exact absurd (Heap.lt_size e) (Nat.not_lt.mpr (Nat.le_trans hsz hC)))).trans (hh b o e)
theorem compAssign {w : World} {A : Around} {hw : Heap} {env : Env} {scope : Scope} {cl : List (Str × Addr)} {elt target iter : Expr} {ifs : List Expr} {pos spos : Pos} {y : Str} {py : Pos} {s : Shared} {Q : Flow → Shared → Prop} {E : Value → Shared → Prop}
    (hsw : swapsWith (.ListComp elt [⟨target, iter, ifs, 0⟩] scope pos) (some (.Name y py)) spos.line env = pure true)
    (hclos : closureFor scope env = pure cl) (hcell : ∀ y ∈ scope.names, y.2 ≠ .cell) (hkind : scope.kind = .function) (hnames : ∀ y ∈ scope.names, y.2 = .local → scope.names.lookup y.1 = some .local)
    (hy : env.kindOf y = some .local) (hp : (env.scope.kind == .class || (env.scope.kind == .module && env.locals != env.globals)) = false)
    (h : wpAny (model pw w) A (eval iter env) (fun xv s₁ => wpAny (model pw w) A (pyIter xv) (fun it s₂ => ∃ I n P St keep dep p G B m, it = .ref I ∧ CompDoes w A hw env scope cl elt target ifs s₂ I n P St keep dep p G B ∧ hw.objs.size ≤ s₂.heap.objs.size ∧
      hw.get? env.locals = none ∧ s₂.heap.Ns env.locals m ∧ (∀ o, ¬ Loud o → keep env.locals o) ∧
      (∀ D s' ys, Rel s₂ s' → s₂.heap.objs.size ≤ D → s'.heap.PlainList D ys → Paired (Got G s'.heap) ((List.range n).filter p) ys.toList → s'.heap.Ns env.locals (fun z => if z = y then some (.ref D) else m z) →
        (∀ b o, b ≠ env.locals → keep b o → s₂.heap.get? b = some o → s'.heap.get? b = some o) → (∀ b o, hw.get? b = some o → s'.heap.get? b = some o) → Q .next s')) E s₁) E s)
    (hs : ∀ x, foldedSetIterable iter env x = pure x := by intro _; rfl) :
    wpAny (model pw w) A (exec (.Assign [.Name y py] (.ListComp elt [⟨target, iter, ifs, 0⟩] scope pos) spos) env) Q E s := by
  rw [exec_Assign_Name_used _ _ _ _ hsw]
  refine wpAny_bind (wpAny_standAt (wpAny_bind ?_))
  show wpAny _ A (do let _ ← comprehension (.ListComp elt [⟨target, iter, ifs, 0⟩] scope pos) scope env _ (newList []) false (eval iter env) (some (assign (.Name y py) env))) _ _ s
  refine wpAny_bind (wpAny_mono (wpAny_comprehension_free (use := some (assign (.Name y py) env)) (Q := fun _ s' => Q .next s') rfl hs hclos hkind hnames
    (wpAny_mono h (fun xv s₁ h₁ => wpAny_mono h₁ (fun it s₂ h₂ => ?_) fun _ _ e => e) fun _ _ e => e)) (fun _ s' hq => wpAny_pure (wpAny_pure hq)) fun _ _ e => e)
  obtain ⟨I, n, P, St, keep, dep, p, G, B, m, rfl, X, hsz, hwL, hnL, hkL, hQ⟩ := h₂
  refine comp_blockS (RR := fun acc C => compPost (model pw w) A E (some (assign (.Name y py) env)) (fun _ s' => Q .next s') acc C) X [env.locals] (fun b hb => by obtain rfl := List.mem_singleton.mp hb; obtain ⟨o, ho⟩ := nsGet hnL; exact ⟨o, ho, hkL o (frame_quiet hnL o ho)⟩) hcell hkind hsz ?_
  intro D C s' m' ys hr hD hC hDC hn hl hG hk hh
  have hLlt := hnL.lt
  have hLC : env.locals ≠ C := Nat.ne_of_lt (Nat.lt_of_lt_of_le hLlt hC)
  have hLD : env.locals ≠ D := Nat.ne_of_lt (Nat.lt_of_lt_of_le hLlt hD)
  show wpAny _ A (assign (.Name y py) env (.ref D)) _ _ _
  have hnL' : s'.heap.Ns env.locals m := hnL.at' fun o e => hk _ o (hkL o (frame_quiet hnL o e)) e
  refine wpAny_assign_Name (wpAny_storeName_local hy hnL' (fun h₂ hn₂ hs₂ => ?_) hp)
  refine ⟨m', hn.sameBut hs₂ (Ne.symm hLC), fun h'' hs'' => ?_⟩
  replace hs'' : Heap.SameBut C h₂ h'' := hs''
  refine hQ D _ ys ((hr.trans (Rel.heap _ _)).trans (Rel.heap (s := { s' with heap := h₂, toks := s'.toks + 1 }) _ _)) hD ((hl.at fun o e => (hs₂.2 D hLD.symm).trans e).at fun o e => (hs''.2 D hDC).trans e) ?_ (hn₂.sameBut hs'' hLC) (fun b o hbL hb e => ?_) fun b o e => ?_
  · exact paired_mono (fun a b ⟨own, h1, h2⟩ => ⟨own, fun q hq => ⟨(hs''.2 _ (fun e => (h1 q hq).2.2.1 (by simp [e]))).trans ((hs₂.2 _ (fun e => (h1 q hq).2.2.1 (by simp [e]))).trans (h1 q hq).1), (h1 q hq).2.1⟩, h2⟩) hG
  · exact (hs''.2 b (fun q => by subst q; exact absurd (Heap.lt_size e) (Nat.not_lt.mpr hC))).trans ((hs₂.2 b hbL).trans (hk b o hb e))
  · exact (hs''.2 b (fun q => by subst q; exact absurd (Heap.lt_size e) (Nat.not_lt.mpr (Nat.le_trans hsz hC)))).trans ((hs₂.2 b (fun q => by rw [q, hwL] at e; cases e)).trans (hh b o e))
end Mine
end
section
set_option maxRecDepth 100000
set_option maxHeartbeats 4000000
namespace Mine
open PySem PySem.W PySem.Calls PyProof.Rows
theorem letGo_plain {w : World} {A : Around} {s : Shared} {E : Value → Shared → Prop} {Q : Unit → Shared → Prop} {target : Expr} {v : Value} {I : Addr} {o : Obj} {c : String} (ho : s.heap.get? I = some o) (hc : o.cls = .type c)
    (hn : (["enumerate", "zip", "dict_itemiterator", "dict_reverseitemiterator", "odict_iterator", "itertools.zip_longest", "itertools.pairwise"] : List String).contains c = false) (h : Q () s) : wpAny (model pw w) A (letOwnedTupleGo target (.ref I) v) Q E s := by
  obtain ⟨cls, dct, dat, sl⟩ := o
  simp only at hc
  subst hc
  have key : wpAny (model pw w) A (do
      let (.ref r, .ref a) := (Value.ref I, v) | return
      let o ← load r
      match o.cls, o.data with
      | .type n, .fields vs =>
        if ["enumerate", "zip", "dict_itemiterator", "dict_reverseitemiterator", "odict_iterator", "itertools.zip_longest", "itertools.pairwise"].contains n && vs[0]? == some (rawInt a) then
          rule "for.unpacks-the-owned-tuple"
          updateField r 0 .none
      | _, _ => pure ()) Q E s := by
    cases v with
    | ref a =>
      refine wpAny_bind (wpAny_load ho ?_)
      cases dat with
      | fields vs =>
        show wpAny _ _ (if ((["enumerate", "zip", "dict_itemiterator", "dict_reverseitemiterator", "odict_iterator", "itertools.zip_longest", "itertools.pairwise"] : List String).contains c && vs[0]? == some (rawInt a)) = true then _ else _) _ _ _
        rw [hn, Bool.false_and]
        exact wpAny_pure h
      | _ => exact wpAny_pure h
    | _ => exact wpAny_pure h
  cases target with
  | Tuple elts k pos => exact key
  | List elts pos => exact key
  | _ => exact wpAny_pure h
theorem Src.ofWalks {w : World} {A : Around} {hw : Heap} {I : Addr} {fp wr : List Addr} {n : Nat} {P : Nat → Value → Prop} {St : Nat → Heap → Prop} (W : Walks pw w A I fp wr n P St) (hwr : ∀ b ∈ wr, hw.get? b = none)
    (hlive : ∀ i h, St i h → ∀ b ∈ wr, ∃ o, h.get? b = some o) (hgo : ∀ i h, St i h → ∃ o c, h.get? I = some o ∧ o.cls = .type c ∧ (["enumerate", "zip", "dict_itemiterator", "dict_reverseitemiterator", "odict_iterator", "itertools.zip_longest", "itertools.pairwise"] : List String).contains c = false) :
    Src w A hw I n (fun i v _ => P i v) (fun i s => St i s.heap) (fun b _ => b ∉ wr) (fun b _ => b ∈ fp) where
  item := fun i s Q E hi st hb hQ => W.item i s Q E hi st fun v h' tk hP st' hk => hQ v _ hP st' (Rel.heap _ _) (fun b o h1 e => hk b o h1 e) fun b o e => hk b o (fun hm => by rw [hwr b hm] at e; cases e) (hb b o e)
  done := fun s Q E st hb hQ => W.done s Q E st fun h' tk hk => hQ _ (Rel.heap _ _) (fun b o h1 e => hk b o h1 e) fun b o e => hk b o (fun hm => by rw [hwr b hm] at e; cases e) (hb b o e)
  go := fun i s v target Q E st hQ => by
    obtain ⟨o, c, h1, h2, h3⟩ := hgo i s.heap st
    exact letGo_plain h1 h2 h3 hQ
  frame := fun i s h' tk st _ hk => W.frame i s.heap h' st fun b hb o e => hk b o hb e
  live := fun i s b o st _ e hm => by
    obtain ⟨o', ho⟩ := hlive i s.heap st b hm
    rw [e] at ho; cases ho
  self := fun i s Q E st hQ => W.self i s Q E st hQ
theorem Src.list {w : World} {A : Around} {hw : Heap} (hh : A.handled = none) (I ax : Addr) (hne : ax ≠ I) (items : Array Value) (hI : hw.get? I = none) :
    Src w A hw I items.size (fun i v _ => items[i]? = some v) (fun i s => s.heap.IsListIter I ax i ∧ s.heap.IsList ax items) (fun b _ => b ∉ [I]) (fun b _ => b ∈ [I, ax]) :=
  Src.ofWalks (Walks.list hh I ax hne items) (fun b hb => by obtain rfl := List.mem_singleton.mp hb; exact hI)
    (fun i h st b hb => by obtain rfl := List.mem_singleton.mp hb; obtain ⟨o, ho, _⟩ := st.1; exact ⟨o, ho⟩) fun i h st => by obtain ⟨o, ho, hc, _⟩ := st.1; exact ⟨o, _, ho, hc, by decide⟩
theorem walksStr {w : World} {A : Around} (hh : A.handled = none) (I : Addr) (x : Str) (t : Tok) : Walks pw w A I [I] [I] x.cps.size (SignAt x) (fun i h => h.IsStrIter I (strIterType x) x t i) := by
  cases ha : x.cps.all (· < 128)
  · simpa [strIterType, ha] using Walks.strWide hh I x t
  · simpa [strIterType, ha] using Walks.strAscii hh I x t
theorem Src.str {w : World} {A : Around} {hw : Heap} (hh : A.handled = none) (I : Addr) (x : Str) (t : Tok) (hI : hw.get? I = none) :
    Src w A hw I x.cps.size (fun i v _ => SignAt x i v) (fun i s => s.heap.IsStrIter I (strIterType x) x t i) (fun b _ => b ∉ [I]) (fun b _ => b ∈ [I]) :=
  Src.ofWalks (walksStr hh I x t) (fun b hb => by obtain rfl := List.mem_singleton.mp hb; exact hI)
    (fun i h st b hb => by obtain rfl := List.mem_singleton.mp hb; obtain ⟨o, ho, _⟩ := st; exact ⟨o, ho⟩) fun i h st => by
      obtain ⟨o, ho, hc, _⟩ := st
      refine ⟨o, _, ho, hc, ?_⟩
      unfold strIterType
      split <;> decide
theorem Src.gen {w : World} {A : Around} {mg mb : Str → Option Value} {hw : Heap} (W : Wd w mg mb hw) (hh : A.handled = none) (hroom : A.depth < recursionLimit) (a g C : Addr) (us : List (Nat × List Nat)) :
    Src w A hw a us.length (fun i v h => ∃ T p u t1 t2, v = .ref T ∧ us[i]? = some (p, u) ∧ h.get? T = some (tup2 (p : Nat) u t1 t2)) (fun i s => GenIt w A hw a g C us i s) (fun b o => b ≠ C ∧ ¬ Loud o) (fun b o => b = C ∨ b = a ∨ Loud o) where
  item := fun i s Q E hi st hb hQ => by
    obtain ⟨q, hq⟩ : ∃ q, us[i]? = some q := ⟨_, List.getElem?_eq_getElem hi⟩
    obtain ⟨p, u⟩ := q
    exact genIt_next W hh hroom st hb hq fun T t1 t2 s' hT hm G' => hQ _ s' ⟨T, p, u, t1, t2, rfl, hq, hT⟩ G' (.of_moved hm) (fun b o h1 e => hm.quiet b o h1.1 h1.2 e) hm.base
  done := fun s Q E st hb hQ => genIt_done W hh hroom st hb fun s' hm => hQ s' (.of_moved hm) (fun b o h1 e => hm.quiet b o h1.1 h1.2 e) hm.base
  go := fun i s v target Q E st hQ => by
    obtain ⟨o, nm, qn, ho, hc, _⟩ := st.1
    exact letGo_plain ho hc (by decide) hQ
  frame := fun i s h' tk st _ hk => st.kept hk
  live := fun i s b o st hl e => by
    obtain ⟨_, _, _, ⟨o', ho⟩, _⟩ := st
    refine ⟨fun q => ?_, hl⟩
    rw [q, ho] at e
    cases e
  self := fun i s Q E st hQ => wpAny_pyIter_gen st.1 hQ
theorem assignName {w : World} {A : Around} {s : Shared} {scope : Scope} {cl : List (Str × Addr)} {C : Addr} {env : Env} {x : Str} {px : Pos} {v : Value} {m : Str → Option Value} (hx : scope.names.lookup x = some .local) (hkind : scope.kind = .function) (hn : s.heap.Ns C m) :
    wpAny (model pw w) A (assign (.Name x px) (compEnvC scope cl C env) v) (fun _ s₂ => ∃ h₂ tk₂ m₂, s₂ = { s with heap := h₂, toks := tk₂ } ∧ h₂.Ns C m₂ ∧ m₂ x = some v ∧ ∀ b o, b ≠ C → s.heap.get? b = some o → h₂.get? b = some o) (fun _ _ => False) s := by
  refine wpAny_assign_Name (wpAny_storeName_local (lookup_relabel_local hx) hn (fun h₂ hn₂ hs₂ => ?_) (by simp [compEnvC, relabel, hkind]))
  exact ⟨h₂, _, _, rfl, hn₂, by simp, fun b o hb e => (hs₂.2 b hb).trans e⟩
theorem assignTup {w : World} {A : Around} (hh : A.handled = none) {s : Shared} {scope : Scope} {cl : List (Str × Addr)} {C : Addr} {env : Env} {x y : Str} {px py pt : Pos} {k : Nat} {T : Addr} {a b : Value} {m : Str → Option Value} (hxy : x ≠ y)
    (hx : scope.names.lookup x = some .local) (hy : scope.names.lookup y = some .local) (hkind : scope.kind = .function) (hn : s.heap.Ns C m) (hT : s.heap.IsTuple T #[a, b]) :
    wpAny (model pw w) A (assign (.Tuple [.Name x px, .Name y py] k pt) (compEnvC scope cl C env) (.ref T)) (fun _ s₂ => ∃ h₂ tk₂ m₂, s₂ = { s with heap := h₂, toks := tk₂ } ∧ h₂.Ns C m₂ ∧ (m₂ x = some a ∧ m₂ y = some b) ∧ ∀ b o, b ≠ C → s.heap.get? b = some o → h₂.get? b = some o) (fun _ _ => False) s := by
  have hp : ((compEnvC scope cl C env).scope.kind == .class || ((compEnvC scope cl C env).scope.kind == .module && (compEnvC scope cl C env).locals != (compEnvC scope cl C env).globals)) = false := by simp [compEnvC, relabel, hkind]
  refine wpAny_assign_Tuple hh hT rfl rfl fun h₃ hx₃ => ?_
  replace hx₃ : ∀ b o, s.heap.get? b = some o → h₃.get? b = some o := fun b o e => hx₃ b o (Nat.ne_of_lt (Heap.lt_size e)) e
  show wpAny _ _ (do holding [b] (assign (Expr.Name x px) _ a); do holding [] (assign (Expr.Name y py) _ b); pure ()) _ _ _
  refine wpAny_bind (wpAny_holding (wpAny_assign_Name (wpAny_storeName_local (lookup_relabel_local hx) (hn.keeps hx₃) (fun h₄ hn₄ hs₄ => ?_) hp)))
  refine wpAny_bind (wpAny_holding (wpAny_assign_Name (wpAny_storeName_local (lookup_relabel_local hy) hn₄ (fun h₅ hn₅ hs₅ => wpAny_pure ?_) hp)))
  replace hs₄ : Heap.SameBut C h₃ h₄ := hs₄
  replace hs₅ : Heap.SameBut C h₄ h₅ := hs₅
  exact ⟨h₅, _, _, rfl, hn₅, ⟨by simp [hxy], by simp⟩, fun b o hb e => (hs₅.2 b hb).trans ((hs₄.2 b hb).trans (hx₃ b o e))⟩
theorem tests_nil {w : World} {A : Around} {s : Shared} {env : Env} : wpAny (model pw w) A (forIn ([] : List Expr) true fun c r => if r = true then do let ok ← isTrue c env (eval c env); pure (ForInStep.yield ok) else pure (ForInStep.yield r)) (fun ok s₂ => ok = true ∧ Keeps s s₂) (fun _ _ => False) s :=
  wpAny_pure ⟨rfl, _, _, rfl, fun _ _ e => e⟩
end Mine
end
section
set_option maxRecDepth 100000
set_option maxHeartbeats 4000000
namespace Mine
open PySem PySem.W PySem.Calls PyProof.Rows
theorem frForm1 {h₀ h : Heap} {L : Addr} {m : Str → Option Value} {x : Str} {v : Value} (F : Fr h₀ L h m) (e : m x = some v) : Fr h₀ L h (fun y => if y = x then some v else m y) := by
  have : m = fun y => if y = x then some v else m y := by
    funext y
    by_cases h1 : y = x
    · rw [if_pos h1, h1]; exact e
    rw [if_neg h1]
  exact this ▸ F
section
variable {w : World} {A : Around} {h₀ : Heap} {env : Env} {scope : Scope} {cl : List (Str × Addr)} {elt : Expr} {s₁ : Shared}
/-- over a list, one name -/
theorem does_list (hh : A.handled = none) {x : Str} {px : Pos} {ax : Addr} {items : Array Value} (hl : s₁.heap.IsList ax items) (hbase : ∀ b o, h₀.get? b = some o → s₁.heap.get? b = some o) (hsize : h₀.objs.size ≤ s₁.heap.objs.size) (hsz : items.size ≤ sizeLine)
    (hx : scope.names.lookup x = some .local) (hkind : scope.kind = .function) (G : Nat → Value → List (Addr × Obj) → Prop)
    (helt : ∀ C i v (s : Shared) m, items[i]? = some v → Fr s₁.heap C s.heap m → m x = some v →
      wpAny (model pw w) A (eval elt (compEnvC scope cl C env)) (fun y s₂ => Keeps s s₂ ∧ ∃ own : List (Addr × Obj), (∀ q ∈ own, s.heap.get? q.1 = none ∧ s₂.heap.get? q.1 = some q.2 ∧ ¬ Loud q.2) ∧ G i y own) (fun _ _ => False) s) :
    CompDoes w A h₀ env scope cl elt (.Name x px) [] { s₁ with heap := s₁.heap.push { cls := .type "list_iterator", data := .fields #[.ref ax, .int 0 0] } } s₁.heap.objs.size items.size (fun i v _ => items[i]? = some v)
      (fun i s => s.heap.IsListIter s₁.heap.objs.size ax i ∧ s.heap.IsList ax items) (fun b _ => b ∉ [s₁.heap.objs.size]) (fun b _ => b ∈ [s₁.heap.objs.size, ax]) (fun _ => true) G (fun i m => ∃ v, items[i]? = some v ∧ m x = some v) := by
  have hlt : ax < s₁.heap.objs.size := by obtain ⟨_, e, _⟩ := hl; exact Heap.lt_size e
  have hI : h₀.get? s₁.heap.objs.size = none := by
    cases e : h₀.get? s₁.heap.objs.size with
    | none => rfl
    | some o => exact absurd (Heap.lt_size e) (Nat.not_lt.mpr hsize)
  have frOf : ∀ {C : Addr} {s : Shared} {m : Str → Option Value}, (s₁.heap.push { cls := .type "list_iterator", data := .fields #[.ref ax, .int 0 0] }).objs.size ≤ C → s.heap.Ns C m →
      (∀ b o, b ∉ [s₁.heap.objs.size] → (s₁.heap.push { cls := .type "list_iterator", data := .fields #[.ref ax, .int 0 0] }).get? b = some o → s.heap.get? b = some o) → Fr s₁.heap C s.heap m := fun hC hn hk =>
    ⟨hn, fun b o e => hk b o (fun hm => Nat.lt_irrefl _ (List.mem_singleton.mp hm ▸ Heap.lt_size e)) (Heap.get?_push_of_some _ e), by rw [Heap.size_push] at hC; exact Nat.le_of_succ_le hC⟩
  refine ⟨Src.list hh _ ax (Nat.ne_of_lt hlt) items hI, hsz, ⟨⟨_, Heap.get?_push_size _ rfl, rfl, rfl⟩, hl.push _⟩, fun b o e => Heap.get?_push_of_some _ (hbase b o e), ?_, ?_, ?_, ?_⟩
  · intro b o hb _
    rw [Heap.size_push] at hb
    refine ⟨fun hm => ?_, fun hm => ?_⟩
    · exact Nat.lt_irrefl _ (List.mem_singleton.mp hm ▸ hb)
    · rcases List.mem_cons.mp hm with e | hm
      · exact Nat.lt_irrefl _ (e ▸ hb)
      · exact Nat.lt_irrefl _ (Nat.lt_trans (List.mem_singleton.mp hm ▸ hlt) hb)
  · intro C i v s m hC hi hP hn _ _
    exact wpAny_mono (assignName hx hkind hn) (fun _ s₂ ⟨h₂, tk₂, m₂, e1, e2, e3, e4⟩ => ⟨h₂, tk₂, m₂, e1, e2, ⟨v, hP, e3⟩, e4⟩) fun _ _ x => x
  · intro C i s m _ _ _ _ _ _
    exact tests_nil
  · intro C i s m hC hi _ ⟨v, hv, hm⟩ hn hk _
    exact helt C i v s m hv (frOf hC hn hk) hm
/-- over a list of pairs, two names -/
theorem does_pairs (hh : A.handled = none) {x y : Str} {px py pt : Pos} {k : Nat} {ifs : List Expr} {ax : Addr} {items : Array Value} (hl : s₁.heap.IsList ax items) (hbase : ∀ b o, h₀.get? b = some o → s₁.heap.get? b = some o) (hsize : h₀.objs.size ≤ s₁.heap.objs.size) (hsz : items.size ≤ sizeLine)
    (hxy : x ≠ y) (hx : scope.names.lookup x = some .local) (hy : scope.names.lookup y = some .local) (hkind : scope.kind = .function) (V : Nat → Value → Value → Prop)
    (hit : ∀ i, i < items.size → ∃ T a b, items[i]? = some (.ref T) ∧ s₁.heap.IsTuple T #[a, b] ∧ V i a b) (p : Nat → Bool) (G : Nat → Value → List (Addr × Obj) → Prop)
    (htest : ∀ C i a b (s : Shared) m, V i a b → Fr s₁.heap C s.heap m → m x = some a → m y = some b →
      wpAny (model pw w) A (forIn ifs true fun c r => if r = true then do let ok ← isTrue c (compEnvC scope cl C env) (eval c (compEnvC scope cl C env)); pure (ForInStep.yield ok) else pure (ForInStep.yield r)) (fun ok s₂ => ok = p i ∧ Keeps s s₂) (fun _ _ => False) s)
    (helt : ∀ C i a b (s : Shared) m, V i a b → p i = true → Fr s₁.heap C s.heap m → m x = some a → m y = some b →
      wpAny (model pw w) A (eval elt (compEnvC scope cl C env)) (fun z s₂ => Keeps s s₂ ∧ ∃ own : List (Addr × Obj), (∀ q ∈ own, s.heap.get? q.1 = none ∧ s₂.heap.get? q.1 = some q.2 ∧ ¬ Loud q.2) ∧ G i z own) (fun _ _ => False) s) :
    CompDoes w A h₀ env scope cl elt (.Tuple [.Name x px, .Name y py] k pt) ifs { s₁ with heap := s₁.heap.push { cls := .type "list_iterator", data := .fields #[.ref ax, .int 0 0] } } s₁.heap.objs.size items.size (fun i v _ => items[i]? = some v)
      (fun i s => s.heap.IsListIter s₁.heap.objs.size ax i ∧ s.heap.IsList ax items) (fun b _ => b ∉ [s₁.heap.objs.size]) (fun b _ => b ∈ [s₁.heap.objs.size, ax]) p G (fun i m => ∃ a b, V i a b ∧ m x = some a ∧ m y = some b) := by
  have hlt : ax < s₁.heap.objs.size := by obtain ⟨_, e, _⟩ := hl; exact Heap.lt_size e
  have hI : h₀.get? s₁.heap.objs.size = none := by
    cases e : h₀.get? s₁.heap.objs.size with
    | none => rfl
    | some o => exact absurd (Heap.lt_size e) (Nat.not_lt.mpr hsize)
  have kOf : ∀ {s : Shared}, (∀ b o, b ∉ [s₁.heap.objs.size] → (s₁.heap.push { cls := .type "list_iterator", data := .fields #[.ref ax, .int 0 0] }).get? b = some o → s.heap.get? b = some o) → ∀ b o, s₁.heap.get? b = some o → s.heap.get? b = some o := fun hk b o e => hk b o (fun hm => Nat.lt_irrefl _ (List.mem_singleton.mp hm ▸ Heap.lt_size e)) (Heap.get?_push_of_some _ e)
  have frOf : ∀ {C : Addr} {s : Shared} {m : Str → Option Value}, (s₁.heap.push { cls := .type "list_iterator", data := .fields #[.ref ax, .int 0 0] }).objs.size ≤ C → s.heap.Ns C m →
      (∀ b o, b ∉ [s₁.heap.objs.size] → (s₁.heap.push { cls := .type "list_iterator", data := .fields #[.ref ax, .int 0 0] }).get? b = some o → s.heap.get? b = some o) → Fr s₁.heap C s.heap m := fun hC hn hk =>
    ⟨hn, kOf hk, by rw [Heap.size_push] at hC; exact Nat.le_of_succ_le hC⟩
  refine ⟨Src.list hh _ ax (Nat.ne_of_lt hlt) items hI, hsz, ⟨⟨_, Heap.get?_push_size _ rfl, rfl, rfl⟩, hl.push _⟩, fun b o e => Heap.get?_push_of_some _ (hbase b o e), ?_, ?_, ?_, ?_⟩
  · intro b o hb _
    rw [Heap.size_push] at hb
    refine ⟨fun hm => ?_, fun hm => ?_⟩
    · exact Nat.lt_irrefl _ (List.mem_singleton.mp hm ▸ hb)
    · rcases List.mem_cons.mp hm with e | hm
      · exact Nat.lt_irrefl _ (e ▸ hb)
      · exact Nat.lt_irrefl _ (Nat.lt_trans (List.mem_singleton.mp hm ▸ hlt) hb)
  · intro C i v s m hC hi hP hn hk _
    obtain ⟨T, a, b, e1, ⟨o, ho, r⟩, e3⟩ := hit i hi
    rw [e1] at hP
    cases hP
    exact wpAny_mono (assignTup hh hxy hx hy hkind hn ⟨o, kOf hk T o ho, r⟩) (fun _ s₂ ⟨h₂, tk₂, m₂, q1, q2, q3, q4⟩ => ⟨h₂, tk₂, m₂, q1, q2, ⟨a, b, e3, q3⟩, q4⟩) fun _ _ x => x
  · intro C i s m hC hi ⟨a, b, hv, h1, h2⟩ hn hk _
    exact htest C i a b s m hv (frOf hC hn hk) h1 h2
  · intro C i s m hC hi hp ⟨a, b, hv, h1, h2⟩ hn hk _
    exact helt C i a b s m hv hp (frOf hC hn hk) h1 h2
/-- over a str's signs -/
theorem does_str (hh : A.handled = none) {x : Str} {px : Pos} {u : Str} {t : Tok} (hbase : ∀ b o, h₀.get? b = some o → s₁.heap.get? b = some o) (hsize : h₀.objs.size ≤ s₁.heap.objs.size) (hsz : u.cps.size ≤ sizeLine)
    (hx : scope.names.lookup x = some .local) (hkind : scope.kind = .function) (G : Nat → Value → List (Addr × Obj) → Prop)
    (helt : ∀ C i c t (s : Shared) m, u.cps[i]? = some c → Fr s₁.heap C s.heap m → m x = some (.str ⟨#[c]⟩ t) →
      wpAny (model pw w) A (eval elt (compEnvC scope cl C env)) (fun y s₂ => Keeps s s₂ ∧ ∃ own : List (Addr × Obj), (∀ q ∈ own, s.heap.get? q.1 = none ∧ s₂.heap.get? q.1 = some q.2 ∧ ¬ Loud q.2) ∧ G i y own) (fun _ _ => False) s) :
    CompDoes w A h₀ env scope cl elt (.Name x px) [] { s₁ with heap := s₁.heap.push { cls := .type (strIterType u), data := .fields #[.str u t, .int 0 0] } } s₁.heap.objs.size u.cps.size (fun i v _ => SignAt u i v)
      (fun i s => s.heap.IsStrIter s₁.heap.objs.size (strIterType u) u t i) (fun b _ => b ∉ [s₁.heap.objs.size]) (fun b _ => b ∈ [s₁.heap.objs.size]) (fun _ => true) G (fun i m => ∃ c t, u.cps[i]? = some c ∧ m x = some (.str ⟨#[c]⟩ t)) := by
  have hI : h₀.get? s₁.heap.objs.size = none := by
    cases e : h₀.get? s₁.heap.objs.size with
    | none => rfl
    | some o => exact absurd (Heap.lt_size e) (Nat.not_lt.mpr hsize)
  refine ⟨Src.str hh _ u t hI, hsz, ⟨_, Heap.get?_push_size _ rfl, rfl, rfl⟩, fun b o e => Heap.get?_push_of_some _ (hbase b o e), ?_, ?_, ?_, ?_⟩
  · intro b o hb _
    rw [Heap.size_push] at hb
    exact ⟨fun hm => Nat.lt_irrefl _ (List.mem_singleton.mp hm ▸ hb), fun hm => Nat.lt_irrefl _ (List.mem_singleton.mp hm ▸ hb)⟩
  · intro C i v s m hC hi hP hn _ _
    obtain ⟨c, t', hc, rfl⟩ := hP
    exact wpAny_mono (assignName hx hkind hn) (fun _ s₂ ⟨h₂, tk₂, m₂, e1, e2, e3, e4⟩ => ⟨h₂, tk₂, m₂, e1, e2, ⟨c, t', hc, e3⟩, e4⟩) fun _ _ x => x
  · intro C i s m _ _ _ _ _ _
    exact tests_nil
  · intro C i s m hC hi _ ⟨c, t', hc, hm⟩ hn hk _
    exact helt C i c t' s m hc ⟨hn, fun b o e => hk b o (fun hm => Nat.lt_irrefl _ (List.mem_singleton.mp hm ▸ Heap.lt_size e)) (Heap.get?_push_of_some _ e), by rw [Heap.size_push] at hC; exact Nat.le_of_succ_le hC⟩ hm
end
end Mine
end
section
set_option maxRecDepth 100000
set_option maxHeartbeats 4000000
namespace Mine
open PySem PySem.W PySem.Calls PyProof.Rows
theorem none_above {h₀ : Heap} {b : Addr} (hb : h₀.objs.size ≤ b) : h₀.get? b = none := by
  cases e : h₀.get? b with
  | none => rfl
  | some o => exact absurd (Heap.lt_size e) (Nat.not_lt.mpr hb)
section
variable {w : World} {A : Around} {h₀ : Heap} {env : Env} {scope : Scope} {cl : List (Str × Addr)} {elt iter : Expr} {s : Shared} {pos spos px py pt : Pos} {k : Nat} {ifs : List Expr}
/-- what an element's evaluation gives -/
abbrev EltOk (w : World) (A : Around) (env : Env) (G : Nat → Value → List (Addr × Obj) → Prop) (elt : Expr) (i : Nat) (s : Shared) : Prop :=
  wpAny (model pw w) A (eval elt env) (fun y s₂ => Keeps s s₂ ∧ ∃ own : List (Addr × Obj), (∀ q ∈ own, s.heap.get? q.1 = none ∧ s₂.heap.get? q.1 = some q.2 ∧ ¬ Loud q.2) ∧ G i y own) (fun _ _ => False) s
abbrev TestOk (w : World) (A : Around) (env : Env) (p : Nat → Bool) (ifs : List Expr) (i : Nat) (s : Shared) : Prop :=
  wpAny (model pw w) A (forIn ifs true fun c r => if r = true then do let ok ← isTrue c env (eval c env); pure (ForInStep.yield ok) else pure (ForInStep.yield r)) (fun ok s₂ => ok = p i ∧ Keeps s s₂) (fun _ _ => False) s
theorem iter_keeps {h : Heap} {o : Obj} {h' : Heap} (k : ∀ b o', b ∉ [h.objs.size] → (h.push o).get? b = some o' → h'.get? b = some o') : ∀ b o', h.get? b = some o' → h'.get? b = some o' := fun b o' e =>
  k b o' (fun hm => Nat.lt_irrefl _ (List.mem_singleton.mp hm ▸ Heap.lt_size e)) (Heap.get?_push_of_some _ e)
theorem all_true {α β : Type} {F : α → β → Prop} {l : List α} {l' : List β} (h : Paired F (l.filter fun _ => true) l') : Paired F l l' := by
  rw [List.filter_eq_self.mpr (fun _ _ => rfl)] at h
  exact h
theorem compAssign_list {x y : Str} {Q : Flow → Shared → Prop} {E : Value → Shared → Prop} (hh : A.handled = none) (G : Nat → Value → List (Addr × Obj) → Prop)
    (hsw : swapsWith (.ListComp elt [⟨.Name x px, iter, [], 0⟩] scope pos) (some (.Name y py)) spos.line env = pure true)
    (hclos : closureFor scope env = pure cl) (hcell : ∀ y ∈ scope.names, y.2 ≠ .cell) (hkind : scope.kind = .function) (hnames : ∀ y ∈ scope.names, y.2 = .local → scope.names.lookup y.1 = some .local) (hx : scope.names.lookup x = some .local)
    (hy : env.kindOf y = some .local) (hp : (env.scope.kind == .class || (env.scope.kind == .module && env.locals != env.globals)) = false)
    (h : wpAny (model pw w) A (eval iter env) (fun xv s₁ => Seal (∃ ax items m, xv = .ref ax ∧ s₁.heap.IsList ax items ∧ Fr h₀ env.locals s₁.heap m ∧ items.size ≤ sizeLine ∧
      (∀ C i v (s : Shared) m', items[i]? = some v → Fr s₁.heap C s.heap m' → m' x = some v → EltOk w A (compEnvC scope cl C env) G elt i s) ∧
      (∀ D s' ys, Rel s₁ s' → s₁.heap.objs.size ≤ D → s'.heap.PlainList D ys → Paired (Got G s'.heap) (List.range items.size) ys.toList → Fr h₀ env.locals s'.heap (fun z => if z = y then some (.ref D) else m z) →
        (∀ b o, b ≠ env.locals → s₁.heap.get? b = some o → s'.heap.get? b = some o) → Q .next s'))) E s)
    (hs : ∀ x, foldedSetIterable iter env x = pure x := by intro _; rfl) :
    wpAny (model pw w) A (exec (.Assign [.Name y py] (.ListComp elt [⟨.Name x px, iter, [], 0⟩] scope pos) spos) env) Q E s := by
  refine compAssign (hw := h₀) hsw hclos hcell hkind hnames hy hp (wpAny_mono h (fun xv s₁ h₁ => ?_) fun _ _ e => e) hs
  obtain ⟨ax, items, m, rfl, hl, F, hsz, helt, hQ⟩ := h₁
  have hsize : h₀.objs.size ≤ s₁.heap.objs.size := Nat.le_trans F.above (Nat.le_of_lt F.ns.lt)
  refine wpAny_pyIter_list hl ⟨_, _, _, _, _, _, _, _, _, m, rfl, does_list hh hl F.keep hsize hsz hx hkind G helt, (by rw [Heap.size_push]; exact Nat.le_succ_of_le hsize), none_above F.above, F.ns.push _, fun o _ hm => ?_, ?_⟩
  · exact Nat.ne_of_lt F.ns.lt (List.mem_singleton.mp hm)
  · intro D s' ys hr hD hl' hG hn hk hh'
    have kk : ∀ b o, b ≠ env.locals → s₁.heap.get? b = some o → s'.heap.get? b = some o := fun b o hb e => hk b o hb (fun hm => Nat.lt_irrefl _ (List.mem_singleton.mp hm ▸ Heap.lt_size e)) (Heap.get?_push_of_some _ e)
    exact hQ D s' ys ((Rel.heap _ _).trans hr) (by rw [Heap.size_push] at hD; exact Nat.le_of_succ_le hD) hl' (all_true hG) ⟨hn, hh', F.above⟩ kk
theorem compAssign_pairs {x x' y : Str} {Q : Flow → Shared → Prop} {E : Value → Shared → Prop} {tp : Pos} (hh : A.handled = none) (V : Nat → Value → Value → Prop) (p : Nat → Bool) (G : Nat → Value → List (Addr × Obj) → Prop)
    (hsw : swapsWith (.ListComp elt [⟨.Tuple [.Name x px, .Name x' pt] k tp, iter, ifs, 0⟩] scope pos) (some (.Name y py)) spos.line env = pure true)
    (hclos : closureFor scope env = pure cl) (hcell : ∀ y ∈ scope.names, y.2 ≠ .cell) (hkind : scope.kind = .function) (hnames : ∀ y ∈ scope.names, y.2 = .local → scope.names.lookup y.1 = some .local) (hxx : x ≠ x') (hx : scope.names.lookup x = some .local) (hx' : scope.names.lookup x' = some .local)
    (hy : env.kindOf y = some .local) (hp : (env.scope.kind == .class || (env.scope.kind == .module && env.locals != env.globals)) = false)
    (h : wpAny (model pw w) A (eval iter env) (fun xv s₁ => Seal (∃ ax items m, xv = .ref ax ∧ s₁.heap.IsList ax items ∧ Fr h₀ env.locals s₁.heap m ∧ items.size ≤ sizeLine ∧
      (∀ i, i < items.size → ∃ T a b, items[i]? = some (.ref T) ∧ s₁.heap.IsTuple T #[a, b] ∧ V i a b) ∧
      (∀ C i a b (s : Shared) m', V i a b → Fr s₁.heap C s.heap m' → m' x = some a → m' x' = some b → TestOk w A (compEnvC scope cl C env) p ifs i s) ∧
      (∀ C i a b (s : Shared) m', V i a b → p i = true → Fr s₁.heap C s.heap m' → m' x = some a → m' x' = some b → EltOk w A (compEnvC scope cl C env) G elt i s) ∧
      (∀ D s' ys, Rel s₁ s' → s₁.heap.objs.size ≤ D → s'.heap.PlainList D ys → Paired (Got G s'.heap) ((List.range items.size).filter p) ys.toList → Fr h₀ env.locals s'.heap (fun z => if z = y then some (.ref D) else m z) →
        (∀ b o, b ≠ env.locals → s₁.heap.get? b = some o → s'.heap.get? b = some o) → Q .next s'))) E s)
    (hs : ∀ x, foldedSetIterable iter env x = pure x := by intro _; rfl) :
    wpAny (model pw w) A (exec (.Assign [.Name y py] (.ListComp elt [⟨.Tuple [.Name x px, .Name x' pt] k tp, iter, ifs, 0⟩] scope pos) spos) env) Q E s := by
  refine compAssign (hw := h₀) hsw hclos hcell hkind hnames hy hp (wpAny_mono h (fun xv s₁ h₁ => ?_) fun _ _ e => e) hs
  obtain ⟨ax, items, m, rfl, hl, F, hsz, hit, htest, helt, hQ⟩ := h₁
  have hsize : h₀.objs.size ≤ s₁.heap.objs.size := Nat.le_trans F.above (Nat.le_of_lt F.ns.lt)
  refine wpAny_pyIter_list hl ⟨_, _, _, _, _, _, _, _, _, m, rfl, does_pairs hh hl F.keep hsize hsz hxx hx hx' hkind V hit p G htest helt, (by rw [Heap.size_push]; exact Nat.le_succ_of_le hsize), none_above F.above, F.ns.push _, fun o _ hm => ?_, ?_⟩
  · exact Nat.ne_of_lt F.ns.lt (List.mem_singleton.mp hm)
  · intro D s' ys hr hD hl' hG hn hk hh'
    have kk : ∀ b o, b ≠ env.locals → s₁.heap.get? b = some o → s'.heap.get? b = some o := fun b o hb e => hk b o hb (fun hm => Nat.lt_irrefl _ (List.mem_singleton.mp hm ▸ Heap.lt_size e)) (Heap.get?_push_of_some _ e)
    exact hQ D s' ys ((Rel.heap _ _).trans hr) (by rw [Heap.size_push] at hD; exact Nat.le_of_succ_le hD) hl' hG ⟨hn, hh', F.above⟩ kk
theorem compEval_pairs {x x' : Str} {Q : Value → Shared → Prop} {E : Value → Shared → Prop} {tp : Pos} (hh : A.handled = none) (V : Nat → Value → Value → Prop) (p : Nat → Bool) (G : Nat → Value → List (Addr × Obj) → Prop)
    (hclos : closureFor scope env = pure cl) (hcell : ∀ y ∈ scope.names, y.2 ≠ .cell) (hkind : scope.kind = .function) (hnames : ∀ y ∈ scope.names, y.2 = .local → scope.names.lookup y.1 = some .local) (hxx : x ≠ x') (hx : scope.names.lookup x = some .local) (hx' : scope.names.lookup x' = some .local)
    (h : wpAny (model pw w) A (eval iter env) (fun xv s₁ => Seal (∃ ax items, xv = .ref ax ∧ s₁.heap.IsList ax items ∧ (∀ b o, h₀.get? b = some o → s₁.heap.get? b = some o) ∧ h₀.objs.size ≤ s₁.heap.objs.size ∧ items.size ≤ sizeLine ∧
      (∀ i, i < items.size → ∃ T a b, items[i]? = some (.ref T) ∧ s₁.heap.IsTuple T #[a, b] ∧ V i a b) ∧
      (∀ C i a b (s : Shared) m', V i a b → Fr s₁.heap C s.heap m' → m' x = some a → m' x' = some b → TestOk w A (compEnvC scope cl C env) p ifs i s) ∧
      (∀ C i a b (s : Shared) m', V i a b → p i = true → Fr s₁.heap C s.heap m' → m' x = some a → m' x' = some b → EltOk w A (compEnvC scope cl C env) G elt i s) ∧
      (∀ D s' ys, Rel s₁ s' → s₁.heap.objs.size ≤ D → s'.heap.PlainList D ys → Paired (Got G s'.heap) ((List.range items.size).filter p) ys.toList → (∀ b o, s₁.heap.get? b = some o → s'.heap.get? b = some o) → Q (.ref D) s'))) E s)
    (hs : ∀ x, foldedSetIterable iter env x = pure x := by intro _; rfl) :
    wpAny (model pw w) A (eval (.ListComp elt [⟨.Tuple [.Name x px, .Name x' pt] k tp, iter, ifs, 0⟩] scope pos) env) Q E s := by
  refine compEval (hw := h₀) hclos hcell hkind hnames (wpAny_mono h (fun xv s₁ h₁ => ?_) fun _ _ e => e) hs
  obtain ⟨ax, items, rfl, hl, hb, hsize, hsz, hit, htest, helt, hQ⟩ := h₁
  refine wpAny_pyIter_list hl ⟨_, _, _, _, _, _, _, _, _, rfl, does_pairs hh hl hb hsize hsz hxx hx hx' hkind V hit p G htest helt, (by rw [Heap.size_push]; exact Nat.le_succ_of_le hsize), ?_⟩
  intro D s' ys hr hD hl' hG hk hh'
  exact hQ D s' ys ((Rel.heap _ _).trans hr) (by rw [Heap.size_push] at hD; exact Nat.le_of_succ_le hD) hl' hG (iter_keeps hk)
theorem compEval_str {x : Str} {Q : Value → Shared → Prop} {E : Value → Shared → Prop} (hh : A.handled = none) (G : Nat → Value → List (Addr × Obj) → Prop)
    (hclos : closureFor scope env = pure cl) (hcell : ∀ y ∈ scope.names, y.2 ≠ .cell) (hkind : scope.kind = .function) (hnames : ∀ y ∈ scope.names, y.2 = .local → scope.names.lookup y.1 = some .local) (hx : scope.names.lookup x = some .local)
    (h : wpAny (model pw w) A (eval iter env) (fun xv s₁ => Seal (∃ u t, xv = .str u t ∧ (∀ b o, h₀.get? b = some o → s₁.heap.get? b = some o) ∧ h₀.objs.size ≤ s₁.heap.objs.size ∧ u.cps.size ≤ sizeLine ∧
      (∀ C i c t (s : Shared) m', u.cps[i]? = some c → Fr s₁.heap C s.heap m' → m' x = some (.str ⟨#[c]⟩ t) → EltOk w A (compEnvC scope cl C env) G elt i s) ∧
      (∀ D s' ys, Rel s₁ s' → s₁.heap.objs.size ≤ D → s'.heap.PlainList D ys → Paired (Got G s'.heap) (List.range u.cps.size) ys.toList → (∀ b o, s₁.heap.get? b = some o → s'.heap.get? b = some o) → Q (.ref D) s'))) E s)
    (hs : ∀ x, foldedSetIterable iter env x = pure x := by intro _; rfl) :
    wpAny (model pw w) A (eval (.ListComp elt [⟨.Name x px, iter, [], 0⟩] scope pos) env) Q E s := by
  refine compEval (hw := h₀) hclos hcell hkind hnames (wpAny_mono h (fun xv s₁ h₁ => ?_) fun _ _ e => e) hs
  obtain ⟨u, t, rfl, hb, hsize, hsz, helt, hQ⟩ := h₁
  refine wpAny_pyIter_strU ⟨_, _, _, _, _, _, _, _, _, rfl, does_str hh hb hsize hsz hx hkind G helt, (by rw [Heap.size_push]; exact Nat.le_succ_of_le hsize), ?_⟩
  intro D s' ys hr hD hl' hG hk hh'
  exact hQ D s' ys ((Rel.heap _ _).trans hr) (by rw [Heap.size_push] at hD; exact Nat.le_of_succ_le hD) hl' (all_true hG) (iter_keeps hk)
end
end Mine
end
section
set_option maxRecDepth 100000
set_option maxHeartbeats 4000000
namespace Mine
open PySem PySem.W PySem.Calls PyProof.Rows
abbrev EL (L fa : Addr) (cd : Value) : Env := envOfC dL.name dL.scope L fa cd
/-- where the law stands: its frame, its cell, and how it came there -/
structure LS (s₁ : Shared) (L : Addr) (cm : Option Value) (s : Shared) (m : Str → Option Value) : Prop where
  fr : Fr s₁.heap L s.heap m
  cell : s.heap.IsCell (L + 1) cm
  rel : Rel s₁ s
theorem LS.news {s₁ : Shared} {L : Addr} {cm : Option Value} {s : Shared} {m : Str → Option Value} (x : LS s₁ L cm s m) : ∃ oc : Obj, oc.data = .cell cm ∧ News s₁.heap L s.heap [(L + 1, oc)] := by
  obtain ⟨o, ho, hd⟩ := x.cell
  refine ⟨o, hd, fun p hp => ?_⟩
  obtain rfl := List.mem_singleton.mp hp
  exact ⟨ho, Nat.succ_ne_self _, none_above (Nat.le_succ_of_le x.fr.above)⟩
theorem ints_item {vs : List Value} {ns : List Int} (h : IntsAre vs ns) {i : Nat} {v : Value} (hv : vs.toArray[i]? = some v) : ∃ n t, v = .int n t ∧ ns[i]? = some n := by
  have hv' : vs[i]? = some v := by simpa using hv
  have hlt : i < ns.length := by
    rw [← h.length]
    exact (List.getElem?_eq_some_iff.mp hv').1
  obtain ⟨t, ht⟩ := ints_get h hlt
  rw [hv'] at ht
  exact ⟨_, t, Option.some.inj ht, List.getElem?_eq_getElem hlt⟩
theorem got_ints {h : Heap} : ∀ {is : List Nat} {ys : List Value}, Paired (Got (fun _ y own => own = [] ∧ ∃ z t, y = .int z t) h) is ys → ∃ zs, IntsAre ys zs ∧ zs.length = is.length
  | _, _, .nil => ⟨[], .nil, rfl⟩
  | _, _, .cons ⟨own, _, _, z, t, e⟩ r => by
    obtain ⟨zs, h1, h2⟩ := got_ints r
    subst e
    exact ⟨z :: zs, .cons z t h1, by simp [h2]⟩
theorem frD {h₀ h h' : Heap} {L : Addr} {m : Str → Option Value} (F : Fr h₀ L h m) {D : Addr} {ys : Array Value} {k : Nat} (hD : h.objs.size ≤ D) (hl : h'.get? D = some { cls := .type "list", data := .seq ys k }) {news : List (Addr × Obj)} (N : News h₀ L h news)
    (hk : ∀ b o, b ≠ L → h.get? b = some o → h'.get? b = some o) : News h₀ L h' ((D, { cls := .type "list", data := .seq ys k }) :: news) := fun p hp => by
  rcases List.mem_cons.mp hp with rfl | hp
  · exact ⟨hl, Nat.ne_of_gt (Nat.lt_of_lt_of_le F.ns.lt hD), none_above (Nat.le_trans (Nat.le_trans F.above (Nat.le_of_lt F.ns.lt)) hD)⟩
  · exact ⟨hk _ _ (N p hp).2.1 (N p hp).1, (N p hp).2⟩
theorem newsCell {h₀ h : Heap} {L : Addr} {oc : Obj} {cm : Option Value} {news : List (Addr × Obj)} (N : News h₀ L h news) (hm : (L + 1, oc) ∈ news) (hc : oc.data = .cell cm) : h.IsCell (L + 1) cm := ⟨oc, (N _ hm).1, hc⟩
section
variable {M : Model} {A : Around} {E : Value → Shared → Prop} {s : Shared} {scope : Scope} {cl : List (Str × Addr)} {C : Addr} {env : Env} {hb : Heap} {m : Str → Option Value} {x : Str} {pos : Pos} {v : Value} {Q : Value → Shared → Prop}
/-- a store into a local name of the law's frame -/
theorem stLocS {s : Shared} {name : Str} {scope : Scope} {L a : Addr} {cd : Value} {h₀ : Heap} {m : Str → Option Value} {x : Str} {v : Value} {Q : Unit → Shared → Prop} (F : Fr h₀ L s.heap m)
    (h : ∀ h', Fr h₀ L h' (fun y => if y = x then some v else m y) → Heap.SameBut L s.heap h' → Q () { s with heap := h', toks := s.toks + 1 })
    (hk : scope.kind = .function := by rfl) (hl : (envOfC name scope L a cd).kindOf x = some .local := by rfl) : wpAny M A (storeName (envOfC name scope L a cd) x v) Q E s :=
  wpAny_storeName_local hl F.ns (fun h' hn hs => h h' (F.set hn hs) hs) (by show (scope.kind == .class || (scope.kind == .module && L != mainGlobals)) = false; rw [hk]; rfl)
/-- a name of the block's own -/
theorem nmL (F : Fr hb C s.heap m) (hv : m x = some v) (h : Q v s) (hx : scope.names.lookup x = some .local := by rfl) (hkind : scope.kind = .function := by rfl) (hd : (x == ("__debug__" : Str)) = false := by decide) :
    wpAny M A (eval (.Name x pos) (compEnvC scope cl C env)) Q E s := wpAny_Name (wpAny_loadName_local (env := compEnvC scope cl C env) hkind (lookup_relabel_local hx) F.ns hv h) hd
/-- a global name within a block -/
theorem nmG {K : Frag} {p : Program} {loose : List Str} {mg mb : Str → Option Value} (F : Fr hb C s.heap m) (X : K.In hb) (T : TopRead p loose mg mb hb) (e : nsIn K mainGlobals x = some (some v)) (h : Q v s)
    (hg : env.globals = mainGlobals := by rfl) (hk : scope.kind = .function := by rfl) (hx : (compEnvC scope cl C env).kindOf x = some .globalImplicit := by rfl) (hd : (x == ("__debug__" : Str)) = false := by decide) :
    wpAny M A (eval (.Name x pos) (compEnvC scope cl C env)) Q E s := nameG_K (env := compEnvC scope cl C env) F X T e h hg hk hx hd
/-- a built-in name within a block -/
theorem nmB {K : Frag} {p : Program} {loose : List Str} {mg mb : Str → Option Value} (F : Fr hb C s.heap m) (X : K.In hb) (T : TopRead p loose mg mb hb) (e : nsIn K mainGlobals x = some none) (hv : bootBuiltins x = some v) (h : Q v s)
    (hn : x ≠ "__name__" := by decide) (hg : env.globals = mainGlobals := by rfl) (hb' : env.builtins = builtinsNs := by rfl) (hk : scope.kind = .function := by rfl) (hx : (compEnvC scope cl C env).kindOf x = some .globalImplicit := by rfl) (hd : (x == ("__debug__" : Str)) = false := by decide) :
    wpAny M A (eval (.Name x pos) (compEnvC scope cl C env)) Q E s :=
  Name_function_global hk hx (loadGlobal_builtin (env := compEnvC scope cl C env) (show s.heap.Ns env.globals mg from hg ▸ T.g.keeps F.keep) (mg_none_of X T.g e) (show s.heap.Ns env.builtins mb from hb' ▸ T.b.keeps F.keep) ((T.builtins x hn).trans hv) h) hd
end
end Mine
end
section
set_option maxRecDepth 100000
set_option maxHeartbeats 4000000
namespace Mine
open PySem PySem.W PySem.Calls PyProof.Rows
theorem lawP1 {w : World} {A : Around} {mg mb : Str → Option Value} {s₁ : Shared} (W : Wd w mg mb s₁.heap) (hh : A.handled = none) (hA : A.depth ≤ 400) {L fa : Addr} {cd : Value} {Q : Flow → Shared → Prop} {l : Addr} {vs : List Value} {ns : List Int} (hl : s₁.heap.IsList l vs.toArray) (hi : IntsAre vs ns) (hn : ns.length ≤ 63)
    (next : ∀ s m D us zs, LS s₁ L none s m → m (Str.ofString "numbers") = some (.ref D) → s.heap.IsList D (List.toArray us) → IntsAre us zs → zs.length ≤ 20 → wpAny (model pw w) A (execs (dL.body.drop 2) (EL L fa cd)) Q (fun _ _ => False) s)
    {s : Shared} {m : Str → Option Value} (X : LS s₁ L none s m) (hm : m (Str.ofString "script") = some (.ref l)) :
    wpAny (model pw w) A (execs dL.body (EL L fa cd)) Q (fun _ _ => False) s := by
  obtain ⟨KX, T⟩ := id W
  obtain ⟨oc, hoc, N⟩ := X.news
  have F := frForm1 X.fr hm
  show wpAny _ _ (execs [_,_,_,_,_,_,_,_,_,_,_,_,_,_,_,_,_,_] _) _ _ _
  repeat' (fail_if_success (with_reducible show wpAny _ _ (exec (Stmt.Assign [Expr.Name _ _] (Expr.ListComp _ _ _ _) _) _) _ _ _)); walk1
  refine compAssign_list (h₀ := s₁.heap) (cl := []) hh (fun _ y own => own = [] ∧ ∃ z t, y = .int z t) (by with_unfolding_all rfl) (by with_unfolding_all rfl) (by decide) (by rfl) (by decide) (by rfl) (by rfl) (by rfl) ?_
  repeat' walk1
  rename Fr _ _ _ _ => F₁
  rename News _ _ _ _ => N₁
  rename IntsAre _ (List.take 6 ns) => hI₁
  rename (List.take 6 ns).length = _ => hC₁
  refine ⟨_, _, _, rfl, N₁.isList (.head _), F₁, ?_, ?_, ?_⟩
  · rw [List.size_toArray, hI₁.length]; exact Nat.le_trans (List.length_take_le _ _) (by decide)
  · intro C i v s' m' hv F' hm'
    obtain ⟨n, t, rfl, _⟩ := ints_item hI₁ hv
    refine wpAny_mono (Q := fun y s₂ => Seal (Keeps s' s₂ ∧ ∃ z t, y = .int z t)) (E := fun _ _ => False) ?_ (fun y s₂ h => ⟨h.1, [], by simp, rfl, h.2⟩) fun _ _ x => x
    repeat' (fail_if_success (with_reducible show wpAny _ _ (eval (Expr.Name _ _) _) _ _ _)); walk1
    refine nmL F' hm' ?_
    repeat' walk1
    exact ⟨⟨_, _, rfl, fun _ _ e => e⟩, _, _, rfl⟩
  · intro D s₂ ys hr hD hpl hG F₂ hk₂
    obtain ⟨zs, hz, hzl⟩ := got_ints hG
    obtain ⟨kc, hpl'⟩ := hpl
    have N₂ := frD F₁ hD hpl' N₁ hk₂
    have hr₂ : Rel s₁ s₂ := X.rel.trans ((Rel.heap _ _).trans hr)
    have hzs : zs.length ≤ 6 := by
      rw [hzl, List.length_range, List.size_toArray, hI₁.length]
      exact List.length_take_le _ _
    obtain ⟨ys⟩ := ys
    simp only at hz
    clear hr hD hk₂ hG N₁ F₁ hzl
    show wpAny _ _ (execs [_,_,_,_,_,_,_,_,_,_,_,_,_,_,_,_,_] _) _ _ _
    repeat' (fail_if_success (with_reducible show wpAny _ _ (execs (Stmt.Assign [Expr.Name _ _] (Expr.ListComp _ _ _ _) _ :: _) _) _ _ _)); walk1
    rename Fr _ _ _ _ => F₃
    rename News _ _ _ _ => N₃
    rename IntsAre _ (zs ++ _ ++ _) => hI₃
    refine next _ _ _ _ _ ⟨F₃, newsCell N₃ (by simp) hoc, hr₂.trans (Rel.heap _ _)⟩ rfl (N₃.isList (.head _)) hI₃ ?_
    simp only [List.length_append, List.length_drop, List.length_cons, List.length_nil]
    omega
end Mine
end
section
set_option maxRecDepth 100000
set_option maxHeartbeats 4000000
namespace Mine
open PySem PySem.W PySem.Calls PyProof.Rows
def sgObj (q : Nat × List Nat) (t u : Tok) : Obj := { cls := .type "tuple", data := .seq #[.str ⟨#[q.1]⟩ t, .str ⟨q.2.toArray⟩ u] }
def GSign (_ : Nat) (y : Value) (own : List (Addr × Obj)) : Prop := ∃ T q t u, y = .ref T ∧ q ∈ sigTab ∧ own = [(T, sgObj q t u)]
theorem got_signs {h : Heap} : ∀ {is : List Nat} {ys : List Value}, Paired (Got GSign h) is ys → ∃ sg : List (Nat × List Nat), sg.length = ys.length ∧ (∀ q ∈ sg, q ∈ sigTab) ∧ ∀ (i : Nat) q, sg[i]? = some q → ∃ T t u, ys[i]? = some (Value.ref T) ∧ h.get? T = some (sgObj q t u)
  | _, _, .nil => ⟨[], rfl, by simp, by simp⟩
  | _, _, .cons ⟨own, ho, T, q, t, u, e1, e2, e3⟩ r => by
    obtain ⟨sg, h1, h2, h3⟩ := got_signs r
    subst e1 e3
    refine ⟨q :: sg, by simp [h1], fun q' hq' => ?_, fun i q' hq' => ?_⟩
    · rcases List.mem_cons.mp hq' with rfl | hq'
      · exact e2
      · exact h2 q' hq'
    · cases i with
      | zero => cases hq'; exact ⟨T, t, u, rfl, (ho _ (.head _)).1⟩
      | succ i => exact h3 i q' hq'
theorem lawP2 {w : World} {A : Around} {mg mb : Str → Option Value} {s₁ : Shared} (W : Wd w mg mb s₁.heap) (hh : A.handled = none) (hA : A.depth ≤ 400) {L fa : Addr} {cd : Value} {Q : Flow → Shared → Prop} {cm : Option Value}
    (next : ∀ s m D (ys : Array Value) (sg : List (Nat × List Nat)), LS s₁ L cm s m → m (Str.ofString "signs") = some (.ref D) → s.heap.PlainList D ys → sg.length = ys.size → sg.length ≤ 20 → (∀ q ∈ sg, q ∈ sigTab) → (∀ (i : Nat) q, sg[i]? = some q → ∃ T t u, ys[i]? = some (Value.ref T) ∧ s.heap.get? T = some (sgObj q t u)) →
      wpAny (model pw w) A (execs (dL.body.drop 3) (EL L fa cd)) Q (fun _ _ => False) s)
    {s : Shared} {m : Str → Option Value} {D : Addr} {us : List Value} {zs : List Int} (X : LS s₁ L cm s m) (hm : m (Str.ofString "numbers") = some (.ref D)) (hl : s.heap.IsList D (List.toArray us)) (hi : IntsAre us zs) (hn : zs.length ≤ 20) :
    wpAny (model pw w) A (execs (dL.body.drop 2) (EL L fa cd)) Q (fun _ _ => False) s := by
  obtain ⟨KX, T⟩ := id W
  obtain ⟨oc, hoc, N⟩ := X.news
  have F := frForm1 X.fr hm
  show wpAny _ _ (execs (_ :: dL.body.drop 3) _) _ _ _
  refine wpAny_execs_cons ?_
  refine compAssign_list (h₀ := s₁.heap) (cl := []) hh GSign (by with_unfolding_all rfl) (by with_unfolding_all rfl) (by decide) (by rfl) (by decide) (by rfl) (by rfl) (by rfl) ?_
  repeat' walk1
  refine ⟨_, _, _, rfl, hl, F, ?_, ?_, ?_⟩
  · rw [List.size_toArray, hi.length]; exact Nat.le_trans hn (by decide)
  · intro C i v s' m' hv F' hm'
    obtain ⟨n, t, rfl, _⟩ := ints_item hi hv
    have W' := W.keeps X.fr.keep
    have KX' : (KG w.params).In s'.heap := (W'.keeps F'.keep).K
    repeat' (fail_if_success (with_reducible show wpAny _ _ (eval (Expr.Name _ _) _) _ _ _)); walk1
    refine nmG F' W'.K W'.T (v := .ref 141) (by kernel_rfl) ?_
    repeat' (fail_if_success (with_reducible show wpAny _ _ (eval (Expr.Name _ _) _) _ _ _)); walk1
    refine nmL F' hm' ?_
    repeat' (fail_if_success (with_reducible show wpAny _ _ (call (Value.ref 141) _ _) _ _ _)); walk1
    refine wpAny_call (codeAny_mono (lsign (W'.keeps F'.keep) hh (Nat.le_trans hA (by decide)) n t) fun r s'' hr => ?_)
    obtain ⟨T', c, mm, t1, t2, rfl, h1, h2, h3, h4⟩ := hr
    show Keeps _ _ ∧ _
    refine ⟨?_, [(T', sgObj (c, mm) t1 t2)], ?_, T', (c, mm), t1, t2, rfl, h1, rfl⟩
    · obtain ⟨h', tk, rfl, hk⟩ := h4
      exact ⟨_, _, rfl, hk⟩
    · intro q hq
      obtain rfl := List.mem_singleton.mp hq
      refine ⟨h2, h3, fun l => ?_⟩
      obtain ⟨_, vs, hv⟩ := l
      cases hv
  · intro D' s₂ ys hr hD hpl hG F₂ hk₂
    obtain ⟨sg, g1, g2, g3⟩ := got_signs hG
    have hlen := hG.length
    refine next s₂ _ D' ys sg ⟨F₂, ?_, X.rel.trans ((Rel.heap _ _).trans hr)⟩ rfl hpl (by rw [g1]; simp) ?_ g2 ?_
    · obtain ⟨o, ho, hd⟩ := X.cell
      exact ⟨o, hk₂ _ _ (Nat.succ_ne_self _) ho, hd⟩
    · rw [g1, ← hlen, List.length_range, List.size_toArray, hi.length]; exact hn
    · intro i q hq
      obtain ⟨T', t, u, e1, e2⟩ := g3 i q hq
      exact ⟨T', t, u, by simpa using e1, e2⟩
end Mine
end
section
set_option maxRecDepth 100000
set_option maxHeartbeats 4000000
namespace Mine
open PySem PySem.W PySem.Calls PyProof.Rows
abbrev sgd (sg : List (Nat × List Nat)) (i : Nat) : Nat × List Nat := sg.getD i (0, [])
theorem got_strs {h : Heap} {f : Nat → List Nat} : ∀ {is : List Nat} {ys : List Value}, Paired (Got (fun i y own => own = [] ∧ ∃ t, y = .str (tx (f i)) t) h) is ys → ∃ ps : List (Str × Tok), strValues ps = ys ∧ ps.map (·.1) = (is.map f).map tx
  | _, _, .nil => ⟨[], rfl, rfl⟩
  | _, _, .cons (a := i) ⟨own, _, _, t, e⟩ r => by
    obtain ⟨ps, h1, h2⟩ := got_strs r
    subst e
    exact ⟨(tx (f i), t) :: ps, by rw [← h1]; rfl, by simp [h2]⟩
theorem sgd_map (sg : List (Nat × List Nat)) : (List.range sg.length).map (sgd sg) = sg := by
  apply List.ext_getElem
  · simp
  · intro i h1 h2
    simp [sgd, List.getD, List.getElem?_eq_getElem h2]
theorem flat_filter {l : List (List Nat)} : (l.filter fun u => !u.isEmpty).flatten = l.flatten := by
  induction l with
  | nil => rfl
  | cons u r ih =>
    cases u with
    | nil => simpa using ih
    | cons c u => simp [ih]
def readOf (sg : List (Nat × List Nat)) : List Nat := (sg.map (·.2)).flatten
theorem read1 (sg : List (Nat × List Nat)) : (((List.range sg.length).filter fun i => !(sgd sg i).2.isEmpty).map fun i => (sgd sg i).2).flatten = readOf sg := by
  have : ((List.range sg.length).filter fun i => !(sgd sg i).2.isEmpty).map (fun i => (sgd sg i).2) = ((List.range sg.length).map fun i => (sgd sg i).2).filter fun u => !u.isEmpty := by
    rw [List.filter_map]; rfl
  rw [this, flat_filter]
  have e : (List.range sg.length).map (fun i => (sgd sg i).2) = sg.map (·.2) := by
    conv => rhs; rw [← sgd_map sg]
    rw [List.map_map]; rfl
  rw [e, readOf]
theorem read2 (sg : List (Nat × List Nat)) : ((List.range sg.length).map fun i => (sgd sg i).2).flatten = readOf sg := by
  have e : (List.range sg.length).map (fun i => (sgd sg i).2) = sg.map (·.2) := by
    conv => rhs; rw [← sgd_map sg]
    rw [List.map_map]; rfl
  rw [e, readOf]
theorem sig_alph : ∀ q ∈ sigTab, (∀ c ∈ q.2, c ∈ alph) ∧ q.2.length ≤ 3 := by decide
theorem read_len {sg : List (Nat × List Nat)} (h : ∀ q ∈ sg, q ∈ sigTab) : (readOf sg).length ≤ 3 * sg.length := by
  unfold readOf
  induction sg with
  | nil => simp
  | cons q r ih =>
    have := ih fun q hq => h q (.tail _ hq)
    have h3 := (sig_alph q (h q (.head _))).2
    simp only [List.map_cons, List.flatten_cons, List.length_append, List.length_cons]
    omega
theorem read_alph {sg : List (Nat × List Nat)} (h : ∀ q ∈ sg, q ∈ sigTab) : ∀ c ∈ readOf sg, c ∈ alph := by
  intro c hc
  obtain ⟨l, hl, hcl⟩ := List.mem_flatten.mp hc
  obtain ⟨q, hq, rfl⟩ := List.mem_map.mp hl
  exact (sig_alph q (h q hq)).1 c hcl
theorem jokL (l : List (List Nat)) (h : l.flatten.length + l.length ≤ 10000) : JoinOk (Str.ofString "") (l.map tx) = true := by
  refine joinOk_of_weight ?_ (by decide)
  rw [List.map_map, List.length_map]
  have : (Str.length ∘ tx) = List.length := funext fun u => by simp [tx, Str.length]
  rw [show ((fun x => Str.length x) ∘ tx) = List.length from this, ← List.length_flatten]
  exact Nat.le_trans h (by decide)
theorem lawP3 {w : World} {A : Around} {mg mb : Str → Option Value} {s₁ : Shared} (W : Wd w mg mb s₁.heap) (hh : A.handled = none) (hA : A.depth ≤ 400) {L fa : Addr} {cd : Value} {Q : Flow → Shared → Prop} {cm : Option Value} {sg : List (Nat × List Nat)}
    (next : ∀ s m t, LS s₁ L cm s m → m (Str.ofString "read") = some (.str (tx (readOf sg)) t) → wpAny (model pw w) A (execs (dL.body.drop 5) (EL L fa cd)) Q (fun _ _ => False) s)
    {s : Shared} {m : Str → Option Value} {D : Addr} {ys : Array Value} (X : LS s₁ L cm s m) (hm : m (Str.ofString "signs") = some (.ref D)) (hl : s.heap.PlainList D ys) (h1 : sg.length = ys.size) (h2 : sg.length ≤ 20) (h3 : ∀ q ∈ sg, q ∈ sigTab)
    (h4 : ∀ (i : Nat) q, sg[i]? = some q → ∃ T t u, ys[i]? = some (Value.ref T) ∧ s.heap.get? T = some (sgObj q t u)) :
    wpAny (model pw w) A (execs (dL.body.drop 3) (EL L fa cd)) Q (fun _ _ => False) s := by
  obtain ⟨KX, T⟩ := id W
  obtain ⟨oc, hoc, N⟩ := X.news
  have F := frForm1 X.fr hm
  show wpAny _ _ (execs (_ :: _ :: dL.body.drop 5) _) _ _ _
  repeat' (fail_if_success (with_reducible show wpAny _ _ (eval (Expr.ListComp _ _ _ _) _) _ _ _)); walk1
  refine compEval_pairs (h₀ := s₁.heap) (cl := []) hh (fun i a b => ∃ q t u, sg[i]? = some q ∧ a = .str ⟨#[q.1]⟩ t ∧ b = .str (tx q.2) u) (fun i => !(sgd sg i).2.isEmpty) (fun i y own => own = [] ∧ ∃ t, y = .str (tx (sgd sg i).2) t) (by with_unfolding_all rfl) (by decide) (by rfl) (by decide) (by decide) (by rfl) (by rfl) ?_
  have hsgd : ∀ {i q}, sg[i]? = some q → sgd sg i = q := fun {i q} e => by simp [sgd, List.getD, e]
  have hitems : ∀ {h : Heap}, (∀ b o, s.heap.get? b = some o → h.get? b = some o) → ∀ i, i < ys.size → ∃ T a b, ys[i]? = some (Value.ref T) ∧ h.IsTuple T #[a, b] ∧ ∃ q t u, sg[i]? = some q ∧ a = Value.str ⟨#[q.1]⟩ t ∧ b = .str (tx q.2) u := fun hk i hi => by
    have hq : sg[i]? = some sg[i] := List.getElem?_eq_getElem (by omega)
    obtain ⟨T', t, u, e1, e2⟩ := h4 i _ hq
    exact ⟨T', _, _, e1, ⟨_, hk _ _ e2, rfl, _, rfl⟩, _, t, u, hq, rfl, rfl⟩
  have hysz : ys.size ≤ sizeLine := by rw [← h1]; exact Nat.le_trans h2 (by decide)
  have hbsz : s₁.heap.objs.size ≤ s.heap.objs.size := Nat.le_trans F.above (Nat.le_of_lt F.ns.lt)
  repeat' walk1
  refine ⟨D, ys, rfl, hl.isList, F.keep, hbsz, hysz, hitems (fun _ _ e => e), ?_, ?_, ?_⟩
  · rintro C i a b s' m' ⟨q, t, u, hq, rfl, rfl⟩ F' ha hb
    have W' := W.keeps X.fr.keep
    have KX' : (KG w.params).In s'.heap := (W'.keeps F'.keep).K
    refine wpAny_tests_one ?_
    repeat' (fail_if_success (with_reducible show wpAny _ _ (eval (Expr.Name _ _) _) _ _ _)); walk1
    refine nmG F' W'.K W'.T (v := .ref 71) (by kernel_rfl) ?_
    repeat' (fail_if_success (with_reducible show wpAny _ _ (eval (Expr.Name _ _) _) _ _ _)); walk1
    refine nmL F' ha ?_
    repeat' (fail_if_success (with_reducible show wpAny _ _ (call (Value.ref 71) _ _) _ _ _)); walk1
    refine wpAny_call (codeAny_mono (inb1 (W'.keeps F'.keep) (Nat.le_trans hA (by decide)) q.1 q.2 (h3 q (List.mem_of_getElem? hq)) t) fun r s'' hr => ?_)
    obtain ⟨rfl, h', tk, rfl, hk⟩ := hr
    refine wpAny_truthy_bool ?_
    exact ⟨by show _ = !(sgd sg i).2.isEmpty; rw [hsgd hq], _, _, rfl, hk⟩
  · rintro C i a b s' m' ⟨q, t, u, hq, rfl, rfl⟩ hp F' ha hb
    rw [hsgd hq] at hp
    have W' := W.keeps X.fr.keep
    have KX' : (KG w.params).In s'.heap := (W'.keeps F'.keep).K
    repeat' (fail_if_success (with_reducible show wpAny _ _ (eval (Expr.Name _ _) _) _ _ _)); walk1
    refine nmG F' W'.K W'.T (v := .ref 117) (by kernel_rfl) ?_
    repeat' (fail_if_success (with_reducible show wpAny _ _ (eval (Expr.Name _ _) _) _ _ _)); walk1
    refine nmL F' ha ?_
    repeat' (fail_if_success (with_reducible show wpAny _ _ (call (Value.ref 117) _ _) _ _ _)); walk1
    refine wpAny_call (codeAny_mono (mapb3 (W'.keeps F'.keep) (Nat.le_trans hA (by decide)) q.1 q.2 (h3 q (List.mem_of_getElem? hq)) (fun e => by rw [e] at hp; cases hp) t) fun r s'' hr => ?_)
    obtain ⟨⟨t', rfl⟩, h', tk, rfl, hk⟩ := hr
    show Keeps _ _ ∧ _
    exact ⟨⟨_, _, rfl, hk⟩, [], by simp, rfl, t', by rw [hsgd hq]; rfl⟩
  · intro D₂ s₂ ys₂ hr₂ hD₂ hl₂ hG₂ hk₂
    rw [← h1] at hG₂
    obtain ⟨ps, hps, hpt⟩ := got_strs hG₂
    have F₂ := F.keeps hk₂
    have N₂ : News s₁.heap L s₂.heap [(L + 1, oc)] := N.grown hk₂
    have hlen2 : (((List.range sg.length).filter fun i => !(sgd sg i).2.isEmpty).map fun i => (sgd sg i).2).length ≤ 20 := by
      rw [List.length_map]
      exact Nat.le_trans (List.length_filter_le _ _) (by simpa using h2)
    have hrl := read_len h3
    clear N F
    repeat' (fail_if_success (with_reducible show wpAny _ _ (call (Value.builtin "str.join") _ _) _ _ _)); walk1
    refine SC.join (l := ps) (by rw [hps]; exact Heap.PlainList.isList (by simpa using hl₂)) hpt (jokL _ (by rw [read1]; omega)) fun t' k => ?_
    rw [joinT, read1]
    have hr₃ : ∀ h tk, Rel s₁ { s₂ with heap := h, toks := tk } := fun h tk => (X.rel.trans ((Rel.heap (s := s) _ _).trans hr₂)).trans (Rel.heap _ _)
    repeat' (fail_if_success (with_reducible show wpAny _ _ (storeName _ _ _) _ _ _)); walk1
    refine stLocS F₂ fun h₃ F₃ hs₃ => ?_
    have N₃ : News s₁.heap L h₃ [(L + 1, oc)] := N₂.set hs₃
    have hk₃ : ∀ b o, b ≠ L → s₂.heap.get? b = some o → h₃.get? b = some o := fun b o hb e => (hs₃.2 b hb).trans e
    repeat' (fail_if_success (with_reducible show wpAny _ _ (eval (Expr.ListComp _ _ _ _) _) _ _ _)); walk1
    refine compEval_pairs (h₀ := s₁.heap) (cl := []) hh (fun i a b => ∃ q t u, sg[i]? = some q ∧ a = .str ⟨#[q.1]⟩ t ∧ b = .str (tx q.2) u) (fun _ => true) (fun i y own => own = [] ∧ ∃ t, y = .str (tx (sgd sg i).2) t) (by with_unfolding_all rfl) (by decide) (by rfl) (by decide) (by decide) (by rfl) (by rfl) ?_
    repeat' walk1
    have hDL : D ≠ L := fun q => by
      obtain ⟨k', e⟩ := hl
      obtain ⟨o, _, _, ho, hd, _⟩ := X.fr.ns
      rw [← q, e] at ho
      cases ho
      cases hd
    have kk₃ : ∀ b o, b ≠ L → s.heap.get? b = some o → h₃.get? b = some o := fun b o hb e => hk₃ b o hb (hk₂ b o e)
    refine ⟨D, ys, rfl, (hl.at fun o e => kk₃ D o hDL e).isList, F₃.keep, Nat.le_trans F₃.above (Nat.le_of_lt F₃.ns.lt), hysz, ?_, fun _ _ _ _ _ _ _ _ _ _ => tests_nil, ?_, ?_⟩
    · intro i hi
      obtain ⟨T', a, b, e1, ⟨o, ho, r⟩, e3⟩ := hitems (fun _ _ e => e) i hi
      refine ⟨T', a, b, e1, ⟨o, kk₃ T' o (fun q => ?_) ho, r⟩, e3⟩
      obtain ⟨o', _, _, ho', hd', _⟩ := X.fr.ns
      rw [← q, ho] at ho'
      cases ho'
      obtain ⟨_, _, hd''⟩ := r
      rw [hd''] at hd'
      cases hd'
    · rintro C i a b s' m' ⟨q, t, u, hq, rfl, rfl⟩ _ F' ha hb
      refine nmL F' hb ?_
      exact ⟨⟨_, _, rfl, fun _ _ e => e⟩, [], by simp, rfl, u, by rw [hsgd hq]⟩
    · intro D₄ s₄ ys₄ hr₄ hD₄ hl₄ hG₄ hk₄
      rw [← h1] at hG₄
      obtain ⟨ps₄, hps₄, hpt₄⟩ := got_strs (all_true hG₄)
      have F₄ := F₃.keeps hk₄
      have N₄ : News s₁.heap L s₄.heap [(L + 1, oc)] := N₃.grown hk₄
      clear N₃ F₃ N₂ F₂
      repeat' (fail_if_success (with_reducible show wpAny _ _ (call (Value.builtin "str.join") _ _) _ _ _)); walk1
      refine SC.join (l := ps₄) (by rw [hps₄]; exact Heap.PlainList.isList (by simpa using hl₄)) hpt₄ (jokL _ (by rw [read2, List.length_map, List.length_range]; omega)) fun t₄ k₄ => ?_
      rw [joinT, read2]
      repeat' (fail_if_success (with_reducible show wpAny _ _ (execs (dL.body.drop 5) _) _ _ _)); walk1
      · rename (tx (readOf sg) != tx (readOf sg)) = true => hne
        simp at hne
      · refine next _ _ t' ⟨F₄, newsCell N₄ (.head _) hoc, ?_⟩ rfl
        exact ((hr₃ h₃ 0).trans ((Rel.heap (s := { s₂ with heap := h₃, toks := 0 }) h₃ _).trans hr₄)).trans (Rel.heap _ _)
end Mine
end
section
set_option maxRecDepth 100000
set_option maxHeartbeats 4000000
namespace Mine
open PySem PySem.W PySem.Calls PyProof.Rows
theorem tx_len (u : List Nat) : (tx u).length = u.length := by simp [tx, Str.length]
theorem tx_list (u : List Nat) : (tx u).cps.toList = u := by simp [tx]
theorem slice_ss {u : List Nat} {a b : Nat} (hab : a ≤ b) (hb : b ≤ u.length) : Txt.slice (tx u) (some (a : Int)) (some (b : Int)) = tx ((u.drop a).take (b - a)) := by
  have := StrLaws.sliceText_nat (tx u) hab (by rw [tx_len]; exact hb)
  rw [tx_list] at this
  exact this
theorem slice_to {u : List Nat} {b : Nat} : Txt.slice (tx u) none (some (b : Int)) = tx (u.take b) := by
  by_cases hb : b ≤ u.length
  · have := slice_closes_toL (x := tx u) (j := (b : Int)) (by omega) (by rw [tx_len]; omega)
    rw [beq_iff_eq, tx_list] at this
    rw [this, tx]
    simp
  · have e : Txt.slice (tx u) none (some (b : Int)) = Txt.slice (tx u) none (some ((u.length : Nat) : Int)) := by
      unfold Txt.slice
      rw [tx_len]
      have : Builtin.Str.strSliceIndices none (some (b : Int)) 1 u.length = Builtin.Str.strSliceIndices none (some ((u.length : Nat) : Int)) 1 u.length := by
        have h0 : ¬ ((b : Int) < 0) := by omega
        have h1 : ¬ ((u.length : Int) < 0) := by omega
        have h3 : min (b : Int) (u.length : Int) = u.length := by omega
        have h5 : (1 : Int) > 0 := by decide
        simp only [Builtin.Str.strSliceIndices, h0, h1, if_false, h3, Int.min_self, h5, if_true]
      rw [this]
    rw [e]
    have := slice_closes_toL (x := tx u) (j := ((u.length : Nat) : Int)) (by omega) (by rw [tx_len]; omega)
    rw [beq_iff_eq, tx_list] at this
    rw [this, tx]
    have : u.take b = u := List.take_of_length_le (by omega)
    rw [this]
    simp [tx]
theorem lawP4 {w : World} {A : Around} {mg mb : Str → Option Value} {s₁ : Shared} (W : Wd w mg mb s₁.heap) (hh : A.handled = none) {L fa : Addr} {cd : Value} {Q : Flow → Shared → Prop} {cm : Option Value} {R : List Nat} (hR : R.length ≤ 100)
    (next : ∀ s m t, LS s₁ L cm s m → m (Str.ofString "things") = some (.str (tx (R.take 6)) t) → wpAny (model pw w) A (execs (dL.body.drop 6) (EL L fa cd)) Q (fun _ _ => False) s)
    {s : Shared} {m : Str → Option Value} {t : Tok} (X : LS s₁ L cm s m) (hm : m (Str.ofString "read") = some (.str (tx R) t)) :
    wpAny (model pw w) A (execs (dL.body.drop 5) (EL L fa cd)) Q (fun _ _ => False) s := by
  obtain ⟨KX, T⟩ := id W
  obtain ⟨oc, hoc, N⟩ := X.news
  have F := frForm1 X.fr hm
  show wpAny _ _ (execs (_ :: dL.body.drop 6) _) _ _ _
  repeat' (fail_if_success (with_reducible show wpAny _ _ (subscriptTail _ _ _ _) _ _ _)); walk1
  have hkk : KeptH (fun h' => ∀ b o, s.heap.get? b = some o → h'.get? b = some o) := fun h ob k b o e => Heap.get?_push_of_some _ (k b o e)
  refine tail_of_ItemOn (SBH.sliceItem_ns (s := { s with toks := _ }) hkk (fun b o e => e) (fun h₄ t₄ k₄ hk₄ => ?_) (by rw [tx_len]; exact Nat.le_trans hR (by decide))) (by with_unfolding_all rfl) (by intro _; with_unfolding_all rfl)
  rw [show (6 : Int) = ((6 : Nat) : Int) from rfl, slice_to]
  have F₄ := F.keeps hk₄
  have N₄ : News s₁.heap L h₄ [(L + 1, oc)] := N.grown hk₄
  clear N F
  repeat' (fail_if_success (with_reducible show wpAny _ _ (execs (dL.body.drop 6) _) _ _ _)); walk1
  rename Fr _ _ _ _ => F₅
  rename News _ _ _ _ => N₅
  refine next _ _ t₄ ⟨F₅, newsCell N₅ (.head _) hoc, X.rel.trans (Rel.heap _ _)⟩ rfl
end Mine
end
section
set_option maxRecDepth 100000
set_option maxHeartbeats 4000000
namespace Mine
open PySem PySem.W PySem.Calls PyProof.Rows
def opCodes : List Nat := [7, 8, 9, 10, 11, 12, 13, 14, 15, 16, 17, 18, 19, 20, 21, 22, 23, 24, 25, 26, 31, 32, 49, 54]
def codeOf (c : Nat) : Nat := if (alph.take 24).contains c then opCodes.getD ((alph.take 24).idxOf c) 0 else 256 + c
def etEs (P : Params) : Array DictEntry := match (o6_118 P).data with | .dict es _ => es | _ => #[]
def etN (P : Params) : Nat := match (o6_118 P).data with | .dict _ n => n | _ => 0
theorem et_get (P : Params) : (KG P).lookup 118 = some ⟨.type "dict", none, .dict (etEs P) (etN P), #[]⟩ := by kernel_rfl
def litKeys (P : Params) : List DictEntry → Bool
  | [] => true
  | e :: r => (match e.key with | .str x _ => true | _ => false) && litKeys P r
theorem et_keys (P : Params) : KeysLit P (etEs P).toList := by
  show KeysLit P [_,_,_,_,_,_,_,_,_,_,_,_,_,_,_,_,_,_,_,_,_,_,_,_,_,_,_,_,_,_,_,_,_,_,_,_,_,_,_,_,_,_,_,_,_,_,_,_]
  repeat' (first | exact trivial | refine ⟨⟨_, _, rfl, rfl⟩, ?_⟩)
theorem et_tab (P : Params) : (alph.all fun c => match (etEs P).toList.find? (fun e => Value.isStrOf ⟨#[c]⟩ e.key) with
    | some e => (alph.take 24).contains c && (match e.val with | .int k _ => k == ((codeOf c : Nat) : Int) | _ => false)
    | none => !(alph.take 24).contains c) = true := by kernel_rfl
theorem et_map {w : World} {h : Heap} (X : (KG w.params).In h) : h.MapOf (strKind pw w) 118 (fun k => findBy Value.isStrOf (etEs w.params) k) := mapOf_K X (et_get _) (et_keys _)
theorem got_intsF {h : Heap} {f : Nat → Int} : ∀ {is : List Nat} {ys : List Value}, Paired (Got (fun i y own => own = [] ∧ ∃ t, y = .int (f i) t) h) is ys → IntsAre ys (is.map f)
  | _, _, .nil => .nil
  | _, _, .cons ⟨own, _, _, t, e⟩ r => by
    subst e
    exact .cons _ t (got_intsF r)
theorem range_map {α : Type} (f : Nat → α) (th : List Nat) : (List.range th.length).map (fun i => f (th.getD i 0)) = th.map f := by
  apply List.ext_getElem
  · simp
  · intro i h1 h2
    simp at h1
    simp [List.getD, List.getElem?_eq_getElem h1]
def codesOf (th : List Nat) : List Int := th.map (fun c => (codeOf c : Int)) ++ [0]
def ranksOf (th : List Nat) : List Int := th.map rankOf
theorem lawP5 {w : World} {A : Around} {mg mb : Str → Option Value} {s₁ : Shared} (W : Wd w mg mb s₁.heap) (hh : A.handled = none) (hA : A.depth ≤ 400) {L fa : Addr} {cd : Value} {Q : Flow → Shared → Prop} {cm : Option Value} {th : List Nat} (hth : th.length ≤ 6) (hal : ∀ c ∈ th, c ∈ alph)
    (next : ∀ s m t Dc cv Dr rv, LS s₁ L (some (.ref Dr)) s m → m (Str.ofString "things") = some (.str (tx th) t) → m (Str.ofString "codes") = some (.ref Dc) → s.heap.PlainList Dc (List.toArray cv) → IntsAre cv (codesOf th) → s.heap.PlainList Dr (List.toArray rv) → IntsAre rv (ranksOf th) → s₁.heap.get? Dc = none → s₁.heap.get? Dr = none →
      wpAny (model pw w) A (execs (dL.body.drop 8) (EL L fa cd)) Q (fun _ _ => False) s)
    {s : Shared} {m : Str → Option Value} {t : Tok} (X : LS s₁ L cm s m) (hm : m (Str.ofString "things") = some (.str (tx th) t)) :
    wpAny (model pw w) A (execs (dL.body.drop 6) (EL L fa cd)) Q (fun _ _ => False) s := by
  obtain ⟨KX, T⟩ := id W
  obtain ⟨oc, hoc, N⟩ := X.news
  have F := frForm1 X.fr hm
  show wpAny _ _ (execs (_ :: _ :: dL.body.drop 8) _) _ _ _
  repeat' (fail_if_success (with_reducible show wpAny _ _ (eval (Expr.ListComp _ _ _ _) _) _ _ _)); walk1
  have hbsz : s₁.heap.objs.size ≤ s.heap.objs.size := Nat.le_trans F.above (Nat.le_of_lt F.ns.lt)
  have hsz : (tx th).cps.size = th.length := by simp [tx]
  refine compEval_str (h₀ := s₁.heap) (cl := []) hh (fun i y own => own = [] ∧ ∃ t, y = .int (codeOf (th.getD i 0) : Int) t) (by with_unfolding_all rfl) (by decide) (by rfl) (by decide) (by rfl) ?_
  repeat' walk1
  refine ⟨tx th, t, rfl, F.keep, hbsz, by rw [hsz]; exact Nat.le_trans hth (by decide), ?_, ?_⟩
  · intro C i c t' s' m' hc F' hm'
    have hci : th[i]? = some c := by
      have : (tx th).cps[i]? = th[i]? := by simp [tx]
      rw [← this]; exact hc
    have hcd : th.getD i 0 = c := by simp [List.getD, hci]
    have hca := hal c (List.mem_of_getElem? hci)
    have W' := W.keeps X.fr.keep
    have KX' : (KG w.params).In s'.heap := (W'.keeps F'.keep).K
    have htab := List.all_eq_true.mp (et_tab w.params) c hca
    have hfb : findBy Value.isStrOf (etEs w.params) ⟨#[c]⟩ = ((etEs w.params).toList.find? fun e => Value.isStrOf ⟨#[c]⟩ e.key).map (·.val) := by
      unfold findBy
      rw [Array.find?_toList]
    repeat' (fail_if_success (with_reducible show wpAny _ _ (eval (Expr.Name _ _) _) _ _ _)); walk1
    refine nmL F' hm' ?_
    repeat' (fail_if_success (with_reducible show wpAny _ _ (eval (Expr.Name _ _) _) _ _ _)); walk1
    refine nmG F' W'.K W'.T (v := .ref 118) (by kernel_rfl) ?_
    refine wpAny_in_of (strKind_is pw w ⟨#[c]⟩ t') (by decide) (et_map KX') ?_
    cases hfind : (etEs w.params).toList.find? (fun e => Value.isStrOf ⟨#[c]⟩ e.key) with
    | some e =>
      obtain ⟨eh, ek, ev⟩ := e
      simp only [hfind] at htab hfb
      obtain ⟨q1, q2⟩ := Bool.and_eq_true_iff.mp htab
      cases ev with
      | int k tok =>
        have hk := beq_iff_eq.mp q2
        subst hk
        rw [hfb]
        refine wpAny_truthy_bool ?_
        show wpAny _ _ (eval (Expr.Subscript _ _ _) _) _ _ _
        repeat' (fail_if_success (with_reducible show wpAny _ _ (eval (Expr.Name _ _) _) _ _ _)); walk1
        refine nmG F' W'.K W'.T (v := .ref 118) (by kernel_rfl) ?_
        repeat' (fail_if_success (with_reducible show wpAny _ _ (eval (Expr.Name _ _) _) _ _ _)); walk1
        refine nmL F' hm' ?_
        refine tail_any (ops := [.ref 118, .str ⟨#[c]⟩ t']) (et_map KX').typeIs slot_dict_getitem.lookup (wpAny_getItem_of (strKind_is pw w ⟨#[c]⟩ t') (et_map KX') hfb ?_) ?hs
        case hs => with_unfolding_all rfl
        exact ⟨⟨_, _, rfl, fun _ _ e => e⟩, [], by simp, rfl, tok, by rw [hcd]⟩
      | _ => cases q2
    | none =>
      simp only [hfind] at htab hfb
      rw [hfb]
      refine wpAny_truthy_bool ?_
      show wpAny _ _ (eval (Expr.BinOp _ _ _ _) _) _ _ _
      refine wpAny_mono (Q := fun y s₂ => Seal (Keeps s' s₂ ∧ ∃ t, y = .int (256 + (c : Int)) t)) (E := fun _ _ => False) ?_ (fun y s₂ h => ⟨h.1, [], by simp, rfl, let ⟨t, e⟩ := h.2; ⟨t, by
        rw [hcd, e, codeOf, if_neg (by simpa using htab)]
        push_cast
        rfl⟩⟩) fun _ _ x => x
      repeat' (fail_if_success (with_reducible show wpAny _ _ (eval (Expr.Name _ _) _) _ _ _)); walk1
      refine nmB F' W'.K W'.T (v := .builtin "ord") (by kernel_rfl) boot_ord ?_
      repeat' (fail_if_success (with_reducible show wpAny _ _ (eval (Expr.Name _ _) _) _ _ _)); walk1
      refine nmL F' hm' ?_
      repeat' walk1
      exact ⟨⟨_, _, rfl, fun _ _ e => e⟩, _, rfl⟩
  · intro D s₂ ys hr₂ hD hpl hG hk₂
    have hI₂ := got_intsF hG
    rw [hsz, show (fun i => ((codeOf (th.getD i 0) : Nat) : Int)) = fun i => (fun c => ((codeOf c : Nat) : Int)) (th.getD i 0) from rfl, range_map (fun c => ((codeOf c : Nat) : Int))] at hI₂
    obtain ⟨kc, hpl'⟩ := hpl
    have F₂ := F.keeps hk₂
    have N₂ : News s₁.heap L s₂.heap [(D, { cls := .type "list", data := .seq ys kc }), (L + 1, oc)] := frD F hD hpl' N fun b o _ e => hk₂ b o e
    obtain ⟨ys⟩ := ys
    simp only at hI₂
    have hlen : th.length ≤ 6 := hth
    have hrel : Rel s₁ s₂ := X.rel.trans ((Rel.heap (s := s) _ _).trans hr₂)
    clear N F
    repeat' (fail_if_success (with_reducible show wpAny _ _ (binaryOp _ _ _) _ _ _)); walk1
    rename Fr _ _ _ _ => F₃
    rename News _ _ _ _ => N₃
    rename_i l' _ _
    refine add_lists_ints (ns := th.map fun c => ((codeOf c : Nat) : Int)) (ms := [0]) F₃ N₃ (vs := ys) (N₃.isList (.tail _ (.head _))) (N₃.isList (.head _)) hI₂ (by repeat' constructor) ?_ (by simp only [List.length_map, List.length_cons, List.length_nil]; exact Nat.le_trans (by omega : th.length + (0 + 1) ≤ 7) (by decide))
    intro h₄ F₄ N₄ hI₄
    clear N₃ F₃
    repeat' (fail_if_success (with_reducible show wpAny _ _ (exec (Stmt.Assign [Expr.Name _ _] (Expr.ListComp _ _ _ _) _) _) _ _ _)); walk1
    rename Fr _ _ _ _ => F₅
    rename News _ _ _ _ => N₅
    refine wpAny_Assign_Name ?_ (by with_unfolding_all rfl)
    have hb5 : s₁.heap.objs.size ≤ _ := Nat.le_trans F₅.above (Nat.le_of_lt F₅.ns.lt)
    refine compEval_str (h₀ := s₁.heap) (cl := []) hh (fun i y own => own = [] ∧ ∃ t, y = .int (rankOf (th.getD i 0)) t) (by with_unfolding_all rfl) (by decide) (by rfl) (by decide) (by rfl) ?_
    repeat' walk1
    refine ⟨tx th, t, rfl, F₅.keep, hb5, by rw [hsz]; exact Nat.le_trans hth (by decide), ?_, ?_⟩
    · intro C i c t' s' m' hc F' hm'
      have hci : th[i]? = some c := by
        have : (tx th).cps[i]? = th[i]? := by simp [tx]
        rw [← this]; exact hc
      have hcd : th.getD i 0 = c := by simp [List.getD, hci]
      have hca := hal c (List.mem_of_getElem? hci)
      have W' := W.keeps F₅.keep
      have KX' : (KG w.params).In s'.heap := (W'.keeps F'.keep).K
      repeat' (fail_if_success (with_reducible show wpAny _ _ (eval (Expr.Name _ _) _) _ _ _)); walk1
      refine nmG F' W'.K W'.T (v := .ref 148) (by kernel_rfl) ?_
      repeat' (fail_if_success (with_reducible show wpAny _ _ (eval (Expr.Name _ _) _) _ _ _)); walk1
      refine nmL F' hm' ?_
      repeat' (fail_if_success (with_reducible show wpAny _ _ (call (Value.ref 148) _ _) _ _ _)); walk1
      refine wpAny_call (codeAny_mono (lrank (W'.keeps F'.keep) hh (Nat.le_trans hA (by decide)) c hca t') fun r s'' hr => ?_)
      obtain ⟨⟨t'', rfl⟩, h', tk, rfl, hk⟩ := hr
      show Keeps _ _ ∧ _
      exact ⟨⟨_, _, rfl, hk⟩, [], by simp, rfl, t'', by rw [hcd]⟩
    · intro D₂ s₆ ys₂ hr₆ hD₂ hpl₂ hG₂ hk₆
      have hI₆ := got_intsF hG₂
      rw [hsz, range_map rankOf] at hI₆
      have F₆ := F₅.keeps hk₆
      have N₆ := N₅.grown hk₆
      have hcell : s₆.heap.IsCell (L + 1) cm := newsCell N₆ (by simp) hoc
      refine wpAny_storeName_cell (c := L + 1) (by rfl) (by rfl) (by rfl) hcell fun h₇ hc₇ hs₇ => ?_
      replace hs₇ : Heap.SameBut (L + 1) s₆.heap h₇ := hs₇
      have neCell : ∀ {b : Addr} {items : Array Value}, s₆.heap.IsList b items → b ≠ L + 1 := fun ⟨o, ho, _, n, hd⟩ q => by
        obtain ⟨o', ho', hd'⟩ := hcell
        rw [← q, ho] at ho'
        cases ho'
        rw [hd] at hd'
        cases hd'
      have hl₄ : s₆.heap.PlainList _ (List.toArray (ys ++ [Value.int 0 s₂.toks])) := ⟨_, N₆.get (.head _)⟩
      have F₇ : Fr s₁.heap L h₇ _ := ⟨F₆.ns.sameBut hs₇ (Nat.ne_of_lt (Nat.lt_succ_self L)), fun b o e => (hs₇.2 b (fun q => by rw [q, none_above (Nat.le_succ_of_le F₆.above)] at e; cases e)).trans (F₆.keep b o e), F₆.above⟩
      obtain ⟨ys₂⟩ := ys₂
      refine next _ _ t _ _ D₂ ys₂ ⟨F₇, hc₇, ?_⟩ rfl rfl (hl₄.at fun o e => (hs₇.2 _ (neCell hl₄.isList)).trans e) hI₄ (hpl₂.at fun o e => (hs₇.2 _ (neCell hpl₂.isList)).trans e) hI₆ (N₆ _ (.head _)).2.2 (none_above (Nat.le_trans hb5 hD₂))
      exact (hrel.trans ((Rel.heap (s := s₂) _ _).trans hr₆)).trans (Rel.heap _ _)
end Mine
end
section
set_option maxRecDepth 100000
set_option maxHeartbeats 4000000
namespace Mine
open PySem PySem.W PySem.Calls PyProof.Rows
/-- a loop over a walk, whose body may change objects -/
theorem forW {w : World} {A : Around} {h₀ : Heap} {name : Str} {scope : Scope} {L fa : Addr} {cd : Value} {x : Str} {px : Pos} {body : List Stmt} {I : Addr} {fp wr : List Addr} {n : Nat} {P : Nat → Value → Prop} {St : Nat → Heap → Prop}
    (W : Walks pw w A I fp wr n P St) {s : Shared} {m : Str → Option Value} {R : Result → Shared → Prop}
    (hk : scope.kind = .function) (hx : (envOfC name scope L fa cd).kindOf x = some .local) (hLf : L ∉ fp) (hwr : ∀ b ∈ wr, h₀.get? b = none) (hst : St 0 s.heap) (F : Fr h₀ L s.heap m)
    (J : Nat → (Str → Option Value) → Heap → Prop) (h0 : J 0 m s.heap)
    (hJ : ∀ j m h h', J j m h → (∀ b o, b ∉ wr → b ≠ L → h.get? b = some o → h'.get? b = some o) → J j m h')
    (step : ∀ j v m₁ (s₁ : Shared), j < n → P j v → J j m₁ s₁.heap → Rel s s₁ → St (j + 1) s₁.heap → Fr h₀ L s₁.heap (fun y => if y = x then some v else m₁ y) →
      wpAny (model pw w) A (execs body (envOfC name scope L fa cd)) (fun f s₂ => match f with
        | .next | .cont => Seal (∃ m₂, Rel s₁ s₂ ∧ Fr h₀ L s₂.heap m₂ ∧ J (j + 1) m₂ s₂.heap ∧ (∀ b ∈ fp, ∀ o, s₁.heap.get? b = some o → s₂.heap.get? b = some o))
        | .brk => False
        | .ret v => R (.ok (.ret v)) s₂) (fun _ _ => False) s₁)
    (done : ∀ m' s', Rel s s' → Fr h₀ L s'.heap m' → J n m' s'.heap → R (.ok .next) s') :
    codeAny (model pw w) A (.forLoop (.Name x px) (.ref I) body [] (envOfC name scope L fa cd)) R s := by
  have hLw : L ∉ wr := fun h => hLf (W.sub _ h)
  have old : ∀ b o, h₀.get? b = some o → b ∉ wr := fun b o e hb => by rw [hwr b hb] at e; cases e
  refine codeAny_forLoop (fun k s' => ∃ j m', Rel s s' ∧ St j s'.heap ∧ Fr h₀ L s'.heap m' ∧ J j m' s'.heap ∧ j ≤ n ∧ k = n - j) ?_ n ⟨0, m, Rel.refl s, hst, F, h0, Nat.zero_le _, rfl⟩
  rintro k s' ⟨j, m', hrel, hst', F', hJ', hj, rfl⟩
  have next : ∀ h₁ : Heap, (∀ b o, b ∉ wr → s'.heap.get? b = some o → h₁.get? b = some o) → Fr h₀ L h₁ m' ∧ J j m' h₁ := fun h₁ hk₁ =>
    ⟨⟨F'.ns.at' fun o e => hk₁ _ o hLw e, fun b o e => hk₁ b o (old b o e) (F'.keep b o e), F'.above⟩, hJ _ _ _ _ hJ' fun b o h1 _ e => hk₁ b o h1 e⟩
  by_cases hlt : j < n
  · refine W.item j _ _ _ hlt hst' fun v h₁ tk₁ hP hst₁ hk₁ => ?_
    obtain ⟨F₁, J₁⟩ := next h₁ hk₁
    refine wpAny_assign_Name (stLocS F₁ (fun h₂ F₂ hs₂ => ?_) hk hx)
    replace hs₂ : Heap.SameBut L h₁ h₂ := hs₂
    have hst₂ : St (j + 1) h₂ := W.frame _ _ _ hst₁ fun b hb o e => (hs₂.2 b fun q => hLf (q ▸ hb)).trans e
    have J₂ : J j m' h₂ := hJ _ _ _ _ J₁ fun b o _ h2 e => (hs₂.2 b h2).trans e
    have hr₂ : ∀ tk, Rel s { s' with heap := h₂, toks := tk } := fun tk => hrel.trans (Rel.heap _ _)
    refine wpAny_mono (step j v m' _ hlt hP J₂ (hr₂ _) hst₂ F₂) (fun f s₂ h₂ => ?_) fun _ _ x => x.elim
    cases f with
    | brk => exact h₂.elim
    | ret v => exact h₂
    | next =>
      obtain ⟨m₂, hr₃, F₃, J₃, hk₃⟩ := h₂
      exact ⟨n - (j + 1), by omega, j + 1, m₂, (hr₂ _).trans hr₃, W.frame _ _ _ hst₂ hk₃, F₃, J₃, hlt, rfl⟩
    | cont =>
      obtain ⟨m₂, hr₃, F₃, J₃, hk₃⟩ := h₂
      exact ⟨n - (j + 1), by omega, j + 1, m₂, (hr₂ _).trans hr₃, W.frame _ _ _ hst₂ hk₃, F₃, J₃, hlt, rfl⟩
  · have hin : j = n := by omega
    subst hin
    refine W.done _ _ _ hst' fun h₁ tk₁ hk₁ => wpAny_execs_nil ?_
    obtain ⟨F₁, J₁⟩ := next h₁ hk₁
    exact done m' _ (hrel.trans (Rel.heap _ _)) F₁ J₁
/-- the same over pairs -/
theorem forP {w : World} {A : Around} {h₀ : Heap} (hh : A.handled = none) {name : Str} {scope : Scope} {L fa : Addr} {cd : Value} {xi xc : Str} {pk pv pt : Pos} {x1 : Nat} {body : List Stmt} {I : Addr} {fp wr : List Addr} {n : Nat} {Pt : Nat → Array Value → Prop} {St : Nat → Heap → Prop} {Mid : Nat → Addr → Heap → Prop}
    {P2 : Nat → Value → Value → Prop} (W : WalksT pw w A I fp wr n Pt St Mid) (h2 : ∀ i vals, Pt i vals → ∃ v0 v1, vals = #[v0, v1] ∧ P2 i v0 v1) {s : Shared} {m : Str → Option Value} {R : Result → Shared → Prop}
    (hk : scope.kind = .function) (hxi : (envOfC name scope L fa cd).kindOf xi = some .local) (hxc : (envOfC name scope L fa cd).kindOf xc = some .local) (hLf : L ∉ fp) (hwr : ∀ b ∈ wr, h₀.get? b = none) (hst : St 0 s.heap) (F : Fr h₀ L s.heap m)
    (J : Nat → (Str → Option Value) → Heap → Prop) (h0 : J 0 m s.heap)
    (hJ : ∀ j m h h', J j m h → (∀ b o, b ∉ wr → b ≠ L → h.get? b = some o → h'.get? b = some o) → J j m h')
    (step : ∀ j v0 v1 m₁ (s₁ : Shared), j < n → P2 j v0 v1 → J j m₁ s₁.heap → Rel s s₁ → St (j + 1) s₁.heap → Fr h₀ L s₁.heap (fun y => if y = xc then some v1 else if y = xi then some v0 else m₁ y) →
      wpAny (model pw w) A (execs body (envOfC name scope L fa cd)) (fun f s₂ => match f with
        | .next | .cont => Seal (∃ m₂, Rel s₁ s₂ ∧ Fr h₀ L s₂.heap m₂ ∧ J (j + 1) m₂ s₂.heap ∧ (∀ b ∈ fp, ∀ o, s₁.heap.get? b = some o → s₂.heap.get? b = some o))
        | .brk => False
        | .ret v => R (.ok (.ret v)) s₂) (fun _ _ => False) s₁)
    (done : ∀ m' s', Rel s s' → Fr h₀ L s'.heap m' → J n m' s'.heap → R (.ok .next) s') :
    codeAny (model pw w) A (.forLoop (.Tuple [.Name xi pk, .Name xc pv] x1 pt) (.ref I) body [] (envOfC name scope L fa cd)) R s := by
  have hLw : L ∉ wr := fun h => hLf (W.sub _ h)
  have old : ∀ b o, h₀.get? b = some o → b ∉ wr := fun b o e hb => by rw [hwr b hb] at e; cases e
  refine codeAny_forLoop_any (fun k s' => ∃ j m', Rel s s' ∧ St j s'.heap ∧ Fr h₀ L s'.heap m' ∧ J j m' s'.heap ∧ j ≤ n ∧ k = n - j) ?_ n ⟨0, m, Rel.refl s, hst, F, h0, Nat.zero_le _, rfl⟩
  rintro k s' ⟨j, m', hrel, hst', F', hJ', hj, rfl⟩
  have next : ∀ h₁ : Heap, (∀ b o, b ∉ wr → s'.heap.get? b = some o → h₁.get? b = some o) → Fr h₀ L h₁ m' ∧ J j m' h₁ := fun h₁ hk₁ =>
    ⟨⟨F'.ns.at' fun o e => hk₁ _ o hLw e, fun b o e => hk₁ b o (old b o e) (F'.keep b o e), F'.above⟩, hJ _ _ _ _ hJ' fun b o h1 _ e => hk₁ b o h1 e⟩
  by_cases hlt : j < n
  · refine W.item j _ _ _ hlt hst' fun T vals h₁ tk₁ hPt _ hT hMid hk₁ => ?_
    obtain ⟨v0, v1, rfl, hP2⟩ := h2 j vals hPt
    refine W.go _ x1 pt j T _ _ _ hMid fun h₂ hst₂ hk₂ => ?_
    have ht₂ : h₂.IsTuple T #[v0, v1] := hT.at fun o e => hk₂ T o (W.apart j T h₁ hMid) e
    refine wpAny_assign_Tuple hh ht₂ rfl rfl fun h₃ hx₃ => ?_
    replace hx₃ : Heap.ExtBut h₂.objs.size h₂ h₃ := hx₃
    have up₃ : ∀ b o, h₂.get? b = some o → h₃.get? b = some o := fun b o x => hx₃ b o (Nat.ne_of_lt (Heap.lt_size x)) x
    obtain ⟨F₃, J₃⟩ := next h₃ fun b o hb x => up₃ b o (hk₂ b o hb (hk₁ b o hb x))
    show wpAny _ A (do holding [v1] (assign (.Name xi pk) _ v0); do holding [] (assign (.Name xc pv) _ v1); pure ()) _ _ _
    refine wpAny_bind (wpAny_holding (wpAny_assign_Name (stLocS F₃ (fun h₄ F₄ hs₄ => ?_) hk hxi)))
    replace hs₄ : Heap.SameBut L h₃ h₄ := hs₄
    refine wpAny_bind (wpAny_holding (wpAny_assign_Name (stLocS F₄ (fun h₅ F₅ hs₅ => wpAny_pure ?_) hk hxc)))
    replace hs₅ : Heap.SameBut L h₄ h₅ := hs₅
    have hst₅ : St (j + 1) h₅ := W.frame _ _ _ hst₂ fun b hb o e => hs₅.extBut b o (fun q => hLf (q ▸ hb)) (hs₄.extBut b o (fun q => hLf (q ▸ hb)) (up₃ b o e))
    have J₅ : J j m' h₅ := hJ _ _ _ _ J₃ fun b o _ h2 e => (hs₅.2 b h2).trans ((hs₄.2 b h2).trans e)
    have hr₅ : ∀ tk, Rel s { s' with heap := h₅, toks := tk } := fun tk => hrel.trans (Rel.heap _ _)
    refine wpAny_mono (step j v0 v1 m' _ hlt hP2 J₅ (hr₅ _) hst₅ F₅) (fun f s₂ h₂ => ?_) fun _ _ x => x.elim
    cases f with
    | brk => exact h₂.elim
    | ret v => exact h₂
    | next =>
      obtain ⟨m₂, hr₃, F₃, J₃, hk₃⟩ := h₂
      exact ⟨n - (j + 1), by omega, j + 1, m₂, (hr₅ _).trans hr₃, W.frame _ _ _ hst₅ hk₃, F₃, J₃, hlt, rfl⟩
    | cont =>
      obtain ⟨m₂, hr₃, F₃, J₃, hk₃⟩ := h₂
      exact ⟨n - (j + 1), by omega, j + 1, m₂, (hr₅ _).trans hr₃, W.frame _ _ _ hst₅ hk₃, F₃, J₃, hlt, rfl⟩
  · have hin : j = n := by omega
    subst hin
    refine W.done _ _ _ hst' fun h₁ tk₁ hk₁ => wpAny_execs_nil ?_
    obtain ⟨F₁, J₁⟩ := next h₁ hk₁
    exact done m' _ (hrel.trans (Rel.heap _ _)) F₁ J₁
end Mine
end
section
set_option maxRecDepth 100000
set_option maxHeartbeats 4000000
namespace Mine
open PySem PySem.W PySem.Calls PyProof.Rows
theorem ne_of_list {h : Heap} {L b : Addr} {m : Str → Option Value} {items : Array Value} (x : h.Ns L m) (l : h.IsList b items) : b ≠ L := fun q => by
  obtain ⟨o, ho, _, n, hd⟩ := l
  obtain ⟨o', _, _, ho', hd', _⟩ := x
  rw [q, ho'] at ho
  cases ho
  rw [hd] at hd'
  cases hd'
theorem ne_of_cell {h : Heap} {c b : Addr} {v : Option Value} {items : Array Value} (x : h.IsCell c v) (l : h.IsList b items) : b ≠ c := fun q => by
  obtain ⟨o, ho, _, n, hd⟩ := l
  obtain ⟨o', ho', hd'⟩ := x
  rw [q, ho'] at ho
  cases ho
  rw [hd] at hd'
  cases hd'
theorem term_rank : (alph.all fun c => decide ((codeOf c : Int) < 256) == decide (rankOf c < 100)) = true := by decide +kernel
/-- what is known once codes and ranks are there -/
structure LH (L : Addr) (th : List Nat) (Dc Dr : Addr) (cv rv : List Value) (h : Heap) (m : Str → Option Value) : Prop where
  cell : h.IsCell (L + 1) (some (.ref Dr))
  things : ∃ t, m (Str.ofString "things") = some (.str (tx th) t)
  codes : m (Str.ofString "codes") = some (.ref Dc)
  lc : h.PlainList Dc (List.toArray cv)
  lr : h.PlainList Dr (List.toArray rv)
theorem LH.keep {L : Addr} {th : List Nat} {Dc Dr : Addr} {cv rv : List Value} {h h' : Heap} {m m' : Str → Option Value} (X : LH L th Dc Dr cv rv h m) (hk : ∀ b o, (b = L + 1 ∨ b = Dc ∨ b = Dr) → h.get? b = some o → h'.get? b = some o)
    (e1 : m' (Str.ofString "things") = m (Str.ofString "things") := by rfl) (e2 : m' (Str.ofString "codes") = m (Str.ofString "codes") := by rfl) : LH L th Dc Dr cv rv h' m' :=
  ⟨let ⟨o, ho, hd⟩ := X.cell; ⟨o, hk _ o (.inl rfl) ho, hd⟩, e1 ▸ X.things, e2 ▸ X.codes, X.lc.at fun o e => hk _ o (.inr (.inl rfl)) e, X.lr.at fun o e => hk _ o (.inr (.inr rfl)) e⟩
/-- where the law stands once codes and ranks are known -/
structure LC (s₁ : Shared) (L : Addr) (th : List Nat) (Dc Dr : Addr) (cv rv : List Value) (s : Shared) (m : Str → Option Value) : Prop where
  fr : Fr s₁.heap L s.heap m
  rel : Rel s₁ s
  lh : LH L th Dc Dr cv rv s.heap m
  nc : s₁.heap.get? Dc = none
  nr : s₁.heap.get? Dr = none
theorem LC.ls {s₁ : Shared} {L : Addr} {th : List Nat} {Dc Dr : Addr} {cv rv : List Value} {s : Shared} {m : Str → Option Value} (X : LC s₁ L th Dc Dr cv rv s m) : LS s₁ L (some (.ref Dr)) s m := ⟨X.fr, X.lh.cell, X.rel⟩
theorem LC.fresh {s₁ : Shared} {L : Addr} {th : List Nat} {Dc Dr : Addr} {cv rv : List Value} {s : Shared} {m : Str → Option Value} (X : LC s₁ L th Dc Dr cv rv s m) : Dc < s.heap.objs.size ∧ Dr < s.heap.objs.size ∧ L < s.heap.objs.size ∧ L + 1 < s.heap.objs.size ∧ Dc ≠ L ∧ Dr ≠ L ∧ Dc ≠ L + 1 ∧ Dr ≠ L + 1 := by
  obtain ⟨o, ho⟩ := id X.lh.lc
  obtain ⟨o', ho'⟩ := id X.lh.lr
  obtain ⟨o'', ho'', _⟩ := id X.ls.cell
  exact ⟨Heap.lt_size ho, Heap.lt_size ho', X.ls.fr.ns.lt, Heap.lt_size ho'', ne_of_list X.ls.fr.ns X.lh.lc.isList, ne_of_list X.ls.fr.ns X.lh.lr.isList, ne_of_cell X.ls.cell X.lh.lc.isList, ne_of_cell X.ls.cell X.lh.lr.isList⟩
theorem lawP6 {w : World} {A : Around} {mg mb : Str → Option Value} {s₁ : Shared} (W : Wd w mg mb s₁.heap) (hh : A.handled = none) (hA : A.depth ≤ 400) {L fa : Addr} {cd : Value} {Q : Flow → Shared → Prop} {th : List Nat} (hth : th.length ≤ 6) (hal : ∀ c ∈ th, c ∈ alph)
    {Dc Dr : Addr} {cv rv : List Value} (hic : IntsAre cv (codesOf th)) (hir : IntsAre rv (ranksOf th))
    (next : ∀ s m, LC s₁ L th Dc Dr cv rv s m → wpAny (model pw w) A (execs (dL.body.drop 9) (EL L fa cd)) Q (fun _ _ => False) s)
    {s : Shared} {m : Str → Option Value} (X : LC s₁ L th Dc Dr cv rv s m) :
    wpAny (model pw w) A (execs (dL.body.drop 8) (EL L fa cd)) Q (fun _ _ => False) s := by
  obtain ⟨f1, f2, f3, f4, f5, f6, f7, f8⟩ := X.fresh
  obtain ⟨KX, T⟩ := id W
  obtain ⟨oc, hoc, N⟩ := X.ls.news
  have F := frForm1 X.fr X.lh.codes
  show wpAny _ _ (execs (_ :: dL.body.drop 9) _) _ _ _
  repeat' (fail_if_success (with_reducible refine wpAny_For ?_)); walk1
  refine wpAny_For ?_
  repeat' (fail_if_success (with_reducible show wpAny _ _ (call (Value.type "zip") _ _) _ _ _)); walk1
  have hlen : codesOf th = th.map (fun c => (codeOf c : Int)) ++ [0] := rfl
  refine call_zip_2 X.lh.lc.isList X.lh.lr.isList fun h' hz hTI hTO hi1 hi2 hsz hk => ?_
  have hmin : min (List.toArray cv).size (List.toArray rv).size = th.length := by
    have h1 : cv.length = th.length + 1 := by rw [hic.length, codesOf]; simp
    have h2 : rv.length = th.length := by rw [hir.length, ranksOf]; simp
    simp [h1, h2]
  have WT := WalksT.zip2 (prog := pw) (w := w) hh _ _ _ _ _ _ _ (zipApart_new f1 f2) (List.toArray cv) (List.toArray rv)
  rw [hmin] at WT
  refine wpAny_pyIter_zip hz ?_
  have hab := X.ls.fr.above
  have F' : Fr s₁.heap L h' _ := F.keeps hk
  refine forP hh WT (P2 := fun i a b => ∃ c ta tb, th[i]? = some c ∧ a = .int (codeOf c : Int) ta ∧ b = .int (rankOf c) tb) ?_ rfl rfl rfl ?_ ?_ ⟨hz, hTI, ⟨_, _, hTO⟩, hi1, hi2, X.lh.lc.isList.at fun o e => hk _ o e, X.lh.lr.isList.at fun o e => hk _ o e⟩ F'
    (fun _ m h => LH L th Dc Dr cv rv h m) ?_ ?_ ?_ ?_
  · rintro i vals ⟨x, y, hx, hy, rfl⟩
    obtain ⟨n, ta, rfl, hn⟩ := ints_item hic hx
    obtain ⟨n', tb, rfl, hn'⟩ := ints_item hir hy
    have hlt : i < th.length := by
      have := (List.getElem?_eq_some_iff.mp hn').1
      simpa [ranksOf] using this
    refine ⟨_, _, rfl, th[i], ta, tb, List.getElem?_eq_getElem hlt, ?_, ?_⟩
    · simp [codesOf, List.getElem?_append, hlt] at hn
      rw [← hn]
    · simp [ranksOf, hlt] at hn'
      rw [← hn']
  · intro hm
    have up : ∀ k, L ≠ s.heap.objs.size + k := fun k => Nat.ne_of_lt (Nat.lt_of_lt_of_le f3 (Nat.le_add_right _ k))
    simp only [List.mem_cons, List.not_mem_nil, or_false] at hm
    rcases hm with e | e | e | e | e | e | e
    · exact up 4 e
    · exact up 2 e
    · exact up 3 e
    · exact up 0 e
    · exact up 1 e
    · exact f5 e.symm
    · exact f6 e.symm
  · intro b hb
    simp only [List.mem_cons, List.not_mem_nil, or_false] at hb
    have up : ∀ k, s₁.heap.objs.size ≤ s.heap.objs.size + k := fun k => Nat.le_trans hab (Nat.le_trans (Nat.le_of_lt f3) (Nat.le_add_right _ k))
    rcases hb with rfl | rfl | rfl | rfl
    · exact none_above (up 4)
    · exact none_above (up 3)
    · exact none_above (up 0)
    · exact none_above (up 1)
  · exact X.lh.keep (fun b o _ e => hk b o e) rfl X.lh.codes.symm
  · intro j m h h' Y hk'
    have lt : ∀ {b o}, h.get? b = some o → (b = L + 1 ∨ b = Dc ∨ b = Dr) → b < s.heap.objs.size ∧ b ≠ L := fun e hb => by
      rcases hb with rfl | rfl | rfl
      · exact ⟨f4, Nat.succ_ne_self _⟩
      · exact ⟨f1, f5⟩
      · exact ⟨f2, f6⟩
    refine Y.keep fun b o hb e => hk' b o ?_ (lt e hb).2 e
    intro hm
    have dn : ∀ k, b ≠ s.heap.objs.size + k := fun k => Nat.ne_of_lt (Nat.lt_of_lt_of_le (lt e hb).1 (Nat.le_add_right _ k))
    simp only [List.mem_cons, List.not_mem_nil, or_false] at hm
    rcases hm with e | e | e | e
    · exact dn 4 e
    · exact dn 3 e
    · exact dn 0 e
    · exact dn 1 e
  · rintro j v0 v1 m₁ s₂ hj ⟨c, ta, tb, hc, rfl, rfl⟩ Y hr hst F₂
    have W₂ := W.keeps F₂.keep
    obtain ⟨oc₂, hoc₂, N₂⟩ := LS.news ⟨F₂, Y.cell, X.rel.trans ((Rel.heap (s := s) _ _).trans hr)⟩
    clear N F F'
    repeat' (fail_if_success (with_reducible show wpAny _ _ (call (Value.ref 127) _ _) _ _ _)); walk1
    refine wpAny_call (codeAny_mono (isterm (W.keeps F₂.keep) (Nat.le_trans hA (by decide)) _ _) fun r s'' hr => ?_)
    obtain ⟨rfl, h', tk, rfl, hk₃⟩ := hr
    have F₃ := F₂.keeps hk₃
    have N₃ := N₂.grown hk₃
    have hh2 := beq_iff_eq.mp (List.all_eq_true.mp term_rank c (hal c (List.mem_of_getElem? hc)))
    clear N₂
    have F₄ := F₃
    clear F₂ F₃
    show wpAny _ _ (eval _ _) _ _ _
    repeat' (fail_if_success (with_reducible show wpAny _ _ (truthy _) _ _ _)); walk1
    rw [show (decide ((codeOf c : Int) < 256) != decide (rankOf c < 100)) = false by rw [hh2]; simp]
    refine wpAny_truthy_bool ?_
    show wpAny _ _ (execs [] _) _ _ _
    refine wpAny_execs_nil ?_
    show wpAny _ _ (execs [] _) _ _ _
    refine wpAny_execs_nil ?_
    exact ⟨_, Rel.heap (s := s₂) _ _, F₄, Y.keep fun b o _ e => hk₃ b o e, fun b _ o e => hk₃ b o e⟩
  · intro m' s' hr F'' Y
    exact next s' m' ⟨F'', X.rel.trans ((Rel.heap (s := s) _ _).trans hr), Y, X.nc, X.nr⟩
end Mine
end
section
set_option maxRecDepth 100000
set_option maxHeartbeats 4000000
namespace Mine
open PySem PySem.W PySem.Calls PyProof.Rows
theorem rng1 {w : World} {A : Around} {h₀ : Heap} (hh : A.handled = none) {name : Str} {scope : Scope} {L fa : Addr} {cd : Value} {x : Str} {px : Pos} {body : List Stmt} {E E' : Value → Shared → Prop} {n : Nat} {tn : Tok} (hn : n ≤ 100000) {s : Shared} {m : Str → Option Value} {R : Result → Shared → Prop}
    (hk : scope.kind = .function) (hx : (envOfC name scope L fa cd).kindOf x = some .local) (F : Fr h₀ L s.heap m)
    (J : Nat → (Str → Option Value) → Heap → Prop) (h0 : J 0 m s.heap)
    (hJ : ∀ j m h h', J j m h → (∀ b o, b ≠ s.heap.objs.size + 1 → b ≠ L → h.get? b = some o → h'.get? b = some o) → J j m h')
    (step : ∀ j t m₁ (s₁ : Shared), j < n → J j m₁ s₁.heap → Rel s s₁ → (∃ o, s₁.heap.get? (s.heap.objs.size + 1) = some o ∧ o.cls = .type "range_iterator") → Fr h₀ L s₁.heap (fun y => if y = x then some (.int (j : Nat) t) else m₁ y) →
      wpAny (model pw w) A (execs body (envOfC name scope L fa cd)) (fun f s₂ => match f with
        | .next | .cont => Seal (∃ m₂, Rel s₁ s₂ ∧ Fr h₀ L s₂.heap m₂ ∧ J (j + 1) m₂ s₂.heap ∧ (∀ o, s₁.heap.get? (s.heap.objs.size + 1) = some o → s₂.heap.get? (s.heap.objs.size + 1) = some o))
        | .brk => False
        | .ret v => R (.ok (.ret v)) s₂) (fun _ _ => False) s₁)
    (done : ∀ m' s', Rel s s' → Fr h₀ L s'.heap m' → J n m' s'.heap → R (.ok .next) s') :
    wpAny (model pw w) A (call (.type "range") [.int (n : Nat) tn]) (fun xv s₁ => wpAny (model pw w) A (pyIter xv) (fun it s₂ => codeAny (model pw w) A (.forLoop (.Name x px) it body [] (envOfC name scope L fa cd)) R s₂) E' s₁) E s := by
  refine call_range_1 ?_
  have hsmall : Builtin.Range.small 0 (n : Int) 1 = true := small_one (by decide) (by decide) (by omega) (by omega)
  refine wpAny_pyIter_range (IsRange.new ..) hsmall ?_
  rw [rangeSize_one]
  have e0 : (if (0 : Int) < (n : Int) then (n : Int) - 0 else 0) = (n : Int) := by split <;> omega
  rw [e0]
  have hsz : (s.heap.push { cls := .type "range", data := .fields #[.int 0 s.toks, .int n tn, .int 1 (s.toks + 1)] }).objs.size = s.heap.objs.size + 1 := Heap.size_push ..
  show codeAny _ _ (.forLoop _ (.ref (s.heap.push _).objs.size) _ _ _) _ _
  have hit := Heap.get?_push_size (s.heap.push { cls := .type "range", data := .fields #[.int 0 s.toks, .int n tn, .int 1 (s.toks + 1)] }) (o := { cls := .type "range_iterator", data := .fields #[rawInt 0, rawInt n, rawInt 1] }) rfl
  rw [hsz] at hit ⊢
  have hab := F.above
  have hLlt : L < s.heap.objs.size := F.ns.lt
  refine forW (Walks.range hh (s.heap.objs.size + 1) 0 1 n) hk hx ?_ ?_ (by simpa using hit) ((F.push _).push _) J ?_ ?_ ?_ ?_
  · intro hm
    exact Nat.ne_of_lt (Nat.lt_succ_of_lt hLlt) (List.mem_singleton.mp hm)
  · intro b hb
    rw [List.mem_singleton.mp hb]
    exact none_above (Nat.le_succ_of_le (Nat.le_trans hab (Nat.le_of_lt hLlt)))
  · exact hJ _ _ _ _ h0 fun b o _ _ e => Heap.get?_push_of_some _ (Heap.get?_push_of_some _ e)
  · intro j m h h' Y hk'
    exact hJ _ _ _ _ Y fun b o h1 h2 e => hk' b o (fun hm => h1 (List.mem_singleton.mp hm)) h2 e
  · rintro j v m₁ s₁ hj ⟨t, rfl⟩ Y hr hst F₁
    have e1 : (0 : Int) + (j : Int) * 1 = (j : Int) := by omega
    rw [e1] at F₁
    refine wpAny_mono (step j t m₁ s₁ hj Y ((Rel.heap (s := s) _ _).trans hr) ⟨_, hst, rfl⟩ F₁) (fun f s₂ h₂ => ?_) fun _ _ x => x
    cases f with
    | brk => exact h₂
    | ret v => exact h₂
    | next =>
      obtain ⟨m₂, a, b, c, d⟩ := h₂
      exact ⟨m₂, a, b, c, fun b hb o e => by rw [List.mem_singleton.mp hb] at e ⊢; exact d o e⟩
    | cont =>
      obtain ⟨m₂, a, b, c, d⟩ := h₂
      exact ⟨m₂, a, b, c, fun b hb o e => by rw [List.mem_singleton.mp hb] at e ⊢; exact d o e⟩
  · intro m' s' hr F' Y
    exact done m' s' ((Rel.heap (s := s) _ _).trans hr) F' Y
end Mine
end
section
set_option maxRecDepth 100000
set_option maxHeartbeats 4000000
namespace Mine
open PySem PySem.W PySem.Calls PyProof.Rows
theorem rep_one (c : Nat) : ∀ (n : Nat) (a : Array Nat), (List.replicate n (#[c] : Array Nat)).foldl (· ++ ·) a = a ++ (List.replicate n c).toArray
  | 0, a => by simp
  | n + 1, a => by
    rw [List.replicate_succ, List.foldl_cons, rep_one c n, List.replicate_succ]
    apply Array.ext'
    simp
theorem mul1 {w : World} {A : Around} {E : Value → Shared → Prop} {s : Shared} {c n : Nat} {t u : Tok} {Q : Value → Shared → Prop} (hn : n ≤ 1000)
    (h : ∀ t' k, Q (.str (tx (List.replicate n c)) t') { s with toks := k }) : wpAny (model pw w) A (binaryOp .Mult (.str (tx [c]) t) (.int (n : Nat) u)) Q E s := by
  have hl1 : (tx [c]).length = 1 := rfl
  refine P.mul_str ?_ ?_ ?_ ?_
  · rw [Bool.or_eq_false_iff]
    exact ⟨decide_eq_false (by omega), decide_eq_false (by omega)⟩
  · intro h1 _ h2
    rw [hl1] at h2
    have hn1 : (1 : Int) ≤ n := by omega
    have : (1000 : Int) ≤ (2 ^ 63 - 1) / (n : Int) := by
      rw [Int.le_ediv_iff_mul_le (by omega)]
      omega
    omega
  · intro _ _
    rw [hl1, Int.toNat_natCast, Nat.one_mul]
    have : ¬ n > sizeLine := Nat.not_lt.mpr (Nat.le_trans hn (by decide))
    exact decide_eq_false this
  · by_cases h0 : n = 0
    · subst h0
      rw [if_pos (by decide)]
      exact ⟨by decide, h _ _⟩
    · rw [if_neg (by omega)]
      by_cases h1 : n = 1
      · subst h1
        rw [if_pos (by rfl)]
        exact h _ _
      · rw [if_neg (by rw [hl1]; simp; omega), Int.toNat_natCast]
        rw [show (tx [c]).cps = #[c] from rfl, rep_one]
        refine ⟨?_, ?_⟩
        · have : (⟨#[] ++ (List.replicate n c).toArray⟩ : Str).length = n := by simp [Str.length]
          rw [this]
          exact Nat.le_trans hn (by decide)
        · rw [show (#[] : Array Nat) ++ (List.replicate n c).toArray = (List.replicate n c).toArray by simp]
          exact h _ _
theorem addtx {w : World} {A : Around} {E : Value → Shared → Prop} {s : Shared} {u v : List Nat} {t t' : Tok} {Q : Value → Shared → Prop} (hn : u.length + v.length ≤ 10000)
    (h : ∀ t' k, Q (.str (tx (u ++ v)) t') { s with toks := k }) : wpAny (model pw w) A (binaryOp .Add (.str (tx u) t) (.str (tx v) t')) Q E s := by
  have e : tx u ++ tx v = tx (u ++ v) := by
    show (⟨_⟩ : Str) = ⟨_⟩
    congr 1
    show u.toArray ++ v.toArray = _
    simp
  refine PyProof.Rows.add_str (fun t'' tk => ?_) ?_
  · rw [e]
    exact h _ _
  · rw [tx_len, tx_len]
    exact Nat.le_trans hn (by decide)
theorem char_tx {u : List Nat} {j c : Nat} (h : u[j]? = some c) : Txt.charAt (tx u) (j : Int) = some c := by
  have hlt : j < u.length := (List.getElem?_eq_some_iff.mp h).1
  unfold Txt.charAt
  have e : seqIndex? (j : Int) (tx u).length = some j := by
    rw [tx_len]
    have h0 : ¬ ((j : Int) < 0) := by omega
    unfold seqIndex?
    simp [hlt, h0]
  rw [e]
  simp [tx, h]
theorem sub_tx {w : World} {A : Around} {E : Value → Shared → Prop} {s : Shared} {value slice : Expr} {u : List Nat} {t v : Tok} {j c : Nat} {Q : Value → Shared → Prop} (h : u[j]? = some c) (hj : j ≤ 100000)
    (hQ : ∀ t' k, Q (.str (tx [c]) t') { s with toks := k })
    (hs : subscripted slice false (.str (tx u) t) (.int (j : Nat) v) = operate [.str (tx u) t, .int (j : Nat) v] (getItem (.str (tx u) t) (.int (j : Nat) v))) (ht : ∀ r, letTemporaryGo value (.str (tx u) t) r = pure ()) :
    wpAny (model pw w) A (subscriptTail value slice (.str (tx u) t) (.int (j : Nat) v)) Q E s := by
  refine tail_of_ItemOn (SB.item ?_ ?_ ?_) hs ht
  · unfold fitsSsize
    simp
    omega
  · rw [char_tx h]
    rfl
  · have : Txt.item (tx u) (j : Int) = tx [c] := by
      unfold Txt.item
      rw [char_tx h]
      rfl
    rw [this]
    exact hQ _ _
end Mine
end
section
set_option maxRecDepth 100000
set_option maxHeartbeats 4000000
namespace Mine
open PySem PySem.W PySem.Calls PyProof.Rows
/-- list.append to a list of the law's own -/
theorem app1 {w : World} {A : Around} {E : Value → Shared → Prop} {s : Shared} {h₀ : Heap} {L D : Addr} {m : Str → Option Value} {news rest : List (Addr × Obj)} {ys : List Value} {k : Nat} {x : Value} {Q : Value → Shared → Prop}
    (F : Fr h₀ L s.heap m) (N : News h₀ L s.heap news) (hD : (D, { cls := .type "list", data := .seq (List.toArray ys) k }) ∈ news) (hsub : ∀ p ∈ rest, p ∈ news ∧ p.1 ≠ D) (hsz : ys.length ≤ 1000)
    (next : ∀ h' k', Fr h₀ L h' m → News h₀ L h' ((D, { cls := .type "list", data := .seq (List.toArray (ys ++ [x])) k' }) :: rest) → Heap.SameBut D s.heap h' → Q .none { s with heap := h' }) :
    wpAny (model pw w) A (call (.builtin "list.append") [.ref D, x]) Q E s := by
  obtain ⟨d1, d2, d3⟩ := N _ hD
  refine wpAny_list_append_plain ⟨_, d1⟩ (fun h' hl hs => ?_) (by simp; exact Nat.le_trans hsz (by decide))
  obtain ⟨k', hl⟩ := hl
  have up : ∀ b o, b ≠ D → s.heap.get? b = some o → h'.get? b = some o := fun b o hb e => (hs.2 b hb).trans e
  refine next h' k' ⟨F.ns.sameBut hs d2.symm, fun b o e => up b o (fun q => by rw [q, d3] at e; cases e) (F.keep b o e), F.above⟩ (fun p hp => ?_) hs
  rcases List.mem_cons.mp hp with rfl | hp
  · exact ⟨by simpa using hl, d2, d3⟩
  · obtain ⟨q1, q2⟩ := hsub p hp
    exact ⟨up _ _ q2 (N p q1).1, (N p q1).2⟩
end Mine
end
section
set_option maxRecDepth 100000
set_option maxHeartbeats 4000000
namespace Mine
open PySem PySem.W PySem.Calls PyProof.Rows
/-- what the law builds, thing by thing -/
structure Bd where
  text : List Nat
  opened : List Int
  depths : List Int
def cOf : Option Nat → Int
  | some c => (codeOf c : Int)
  | none => 0
def escOf (s : Nat) : List Nat := if s = 40 ∨ s = 41 ∨ s = 34 ∨ s = 92 then [92] else []
def Bd.kept (b : Bd) (c : Int) : Nat := b.opened.countP fun y => decide (y ≤ c)
def bst (b : Bd) : Option Nat → Bd
  | none => ⟨b.text ++ List.replicate (b.opened.length - b.kept 0) 41, b.opened.take (b.kept 0), b.depths⟩
  | some s => ⟨b.text ++ List.replicate (b.opened.length - b.kept (codeOf s)) 41 ++ ([40] ++ escOf s ++ [s]), b.opened.take (b.kept (codeOf s)) ++ [(codeOf s : Int)], b.depths ++ [((b.kept (codeOf s) + 1 : Nat) : Int)]⟩
def marks (th : List Nat) : List (Option Nat) := th.map some ++ [none]
def bat (th : List Nat) (j : Nat) : Bd := ((marks th).take j).foldl bst ⟨[], [], []⟩
theorem bat_zero (th : List Nat) : bat th 0 = ⟨[], [], []⟩ := rfl
theorem bat_succ {th : List Nat} {j : Nat} {o : Option Nat} (h : (marks th)[j]? = some o) : bat th (j + 1) = bst (bat th j) o := by
  unfold bat
  rw [List.take_add_one, h]
  simp
theorem codes_marks (th : List Nat) : codesOf th = (marks th).map cOf := by
  simp [codesOf, marks, cOf, Function.comp_def]
theorem marks_len (th : List Nat) : (marks th).length = th.length + 1 := by simp [marks]
theorem kept_le (b : Bd) (c : Int) : b.kept c ≤ b.opened.length := List.countP_le_length
/-- the open codes never fall -/
def Up (l : List Int) : Prop := ∀ i j (hj : j < l.length) (hij : i < j), l[i] ≤ l[j]
theorem Up.nil : Up [] := fun _ _ hj _ => absurd hj (Nat.not_lt_zero _)
theorem Up.take {l : List Int} (h : Up l) (k : Nat) : Up (l.take k) := fun i j hj hij => by
  rw [List.length_take] at hj
  simp only [List.getElem_take]
  exact h i j (by omega) hij
theorem Up.kept {l : List Int} (h : Up l) (c : Int) : ∀ i (hi : i < l.length), i < l.countP (fun y => decide (y ≤ c)) ↔ l[i] ≤ c := by
  induction l with
  | nil => intro i hi; exact absurd hi (Nat.not_lt_zero _)
  | cons a t ih =>
    have ht : Up t := fun i j hj hij => by
      have := h (i + 1) (j + 1) (by simpa using hj) (by omega)
      simpa using this
    intro i hi
    by_cases ha : a ≤ c
    · rw [List.countP_cons_of_pos (by simpa using ha)]
      cases i with
      | zero => simp [ha]
      | succ i =>
        have := ih ht i (by simpa using hi)
        simp only [List.getElem_cons_succ]
        rw [← this]
        omega
    · rw [List.countP_cons_of_neg (by simpa using ha)]
      have hz : t.countP (fun y => decide (y ≤ c)) = 0 := by
        rw [List.countP_eq_zero]
        intro y hy
        obtain ⟨k, hk, rfl⟩ := List.mem_iff_getElem.mp hy
        have := h 0 (k + 1) (by simpa using hk) (by omega)
        simp at this
        simp only [decide_eq_true_eq]
        omega
      rw [hz]
      have : a ≤ (a :: t)[i] := by
        cases i with
        | zero => simp
        | succ i =>
          have := h 0 (i + 1) hi (by omega)
          simpa using this
      omega
theorem Up.push {l : List Int} (h : Up l) (c : Int) : Up (l.take (l.countP fun y => decide (y ≤ c)) ++ [c]) := fun i j hj hij => by
  have hlen : (l.take (l.countP fun y => decide (y ≤ c))).length = l.countP (fun y => decide (y ≤ c)) := by
    rw [List.length_take]
    exact Nat.min_eq_left List.countP_le_length
  have hc := List.countP_le_length (p := fun y => decide (y ≤ c)) (l := l)
  rw [List.length_append, hlen] at hj
  have hi : i < (l.take (l.countP fun y => decide (y ≤ c))).length := by
    rw [hlen]
    simp at hj
    omega
  rw [List.getElem_append_left hi, List.getElem_take]
  by_cases hjl : j < (l.take (l.countP fun y => decide (y ≤ c))).length
  · rw [List.getElem_append_left hjl, List.getElem_take]
    exact h i j (by rw [hlen] at hjl; omega) hij
  · rw [List.getElem_append_right (by omega)]
    simp only [List.getElem_singleton]
    exact (h.kept c i (by rw [hlen] at hi; omega)).mp (by rw [hlen] at hi; exact hi)
theorem bst_ok {b : Bd} (h : Up b.opened) (o : Option Nat) : Up (bst b o).opened ∧ (bst b o).text.length + (bst b o).opened.length ≤ b.text.length + b.opened.length + 4 ∧ (bst b o).depths.length ≤ b.depths.length + 1 := by
  cases o with
  | none =>
    have := kept_le b 0
    refine ⟨h.take _, ?_, by simp [bst]⟩
    simp only [bst, List.length_append, List.length_replicate, List.length_take]
    omega
  | some s =>
    have := kept_le b (codeOf s)
    refine ⟨h.push _, ?_, by simp [bst]⟩
    have he : (escOf s).length ≤ 1 := by unfold escOf; split <;> simp
    simp only [bst, List.length_append, List.length_replicate, List.length_take, List.length_cons, List.length_nil]
    omega
theorem bat_ok (th : List Nat) : ∀ j, Up (bat th j).opened ∧ (bat th j).text.length + (bat th j).opened.length ≤ 4 * j ∧ (bat th j).depths.length ≤ j
  | 0 => ⟨Up.nil, Nat.le_refl _, Nat.le_refl _⟩
  | j + 1 => by
    obtain ⟨h1, h2, h3⟩ := bat_ok th j
    cases hm : (marks th)[j]? with
    | none =>
      have : bat th (j + 1) = bat th j := by
        unfold bat
        rw [List.take_add_one, hm]
        simp
      rw [this]
      exact ⟨h1, by omega, by omega⟩
    | some o =>
      rw [bat_succ hm]
      obtain ⟨a, b, c⟩ := bst_ok h1 o
      exact ⟨a, by omega, by omega⟩
end Mine
end
section
set_option maxRecDepth 100000
set_option maxHeartbeats 4000000
namespace Mine
/-- the marks of a built text -/
inductive Mk
  | op | cl | qu
  | th (c : Nat)
def Mk.txt : Mk → List Nat
  | .op => [40]
  | .cl => [41]
  | .qu => [34]
  | .th c => escOf c ++ [c]
def Mk.unit (i : Nat) : Mk → Nat × List Nat
  | .op => (i, [40])
  | .cl => (i, [41])
  | .qu => (i, [34])
  | .th c => (i + (escOf c).length, escOf c ++ [c])
def rend : List Mk → List Nat
  | [] => []
  | m :: r => m.txt ++ rend r
def unitsAt : Nat → List Mk → List (Nat × List Nat)
  | _, [] => []
  | i, m :: r => m.unit i :: unitsAt (i + m.txt.length) r
theorem rend_append : ∀ (a b : List Mk), rend (a ++ b) = rend a ++ rend b
  | [], b => rfl
  | m :: r, b => by simp [rend, rend_append r b]
theorem unitsAt_append : ∀ (a b : List Mk) (i : Nat), unitsAt i (a ++ b) = unitsAt i a ++ unitsAt (i + (rend a).length) b
  | [], b, i => rfl
  | m :: r, b, i => by
    simp only [List.cons_append, unitsAt, rend, List.length_append, unitsAt_append r b, Nat.add_assoc]
theorem rend_cls (n : Nat) : rend (List.replicate n Mk.cl) = List.replicate n 41 := by
  induction n with
  | zero => rfl
  | succ n ih => rw [List.replicate_succ, List.replicate_succ, rend, ih]; rfl
theorem escU_mk (m : Mk) (i : Nat) (cs : List Nat) : escU i false (m.txt ++ cs) = m.unit i :: escU (i + m.txt.length) false cs := by
  cases m with
  | op => simp [Mk.txt, Mk.unit, escU]
  | cl => simp [Mk.txt, Mk.unit, escU]
  | qu => simp [Mk.txt, Mk.unit, escU]
  | th c =>
    show escU i false ((escOf c ++ [c]) ++ cs) = (i + (escOf c).length, escOf c ++ [c]) :: escU (i + (escOf c ++ [c]).length) false cs
    unfold escOf
    by_cases h : c = 40 ∨ c = 41 ∨ c = 34 ∨ c = 92
    · simp [if_pos h, escU]
    · have h92 : c ≠ 92 := fun e => h (.inr (.inr (.inr e)))
      rw [if_neg h]
      simp [escU, h92]
theorem escU_rend : ∀ (l : List Mk) (i : Nat), escU i false (rend l) = unitsAt i l
  | [], i => rfl
  | m :: r, i => by rw [rend, escU_mk, escU_rend r, unitsAt]
def NoQ (l : List Mk) : Prop := ∀ m ∈ l, m ≠ Mk.qu
theorem unit_th (c : Nat) : escOf c ++ [c] ≠ [40] ∧ escOf c ++ [c] ≠ [41] ∧ escOf c ++ [c] ≠ [34] := by
  unfold escOf
  by_cases h : c = 40 ∨ c = 41 ∨ c = 34 ∨ c = 92
  · simp [if_pos h]
  · rw [if_neg h]
    simp only [not_or] at h
    simp [h]
theorem noq_unit {m : Mk} (h : m ≠ .qu) (i : Nat) : (m.unit i).2 ≠ [34] := by
  cases m with
  | op => simp [Mk.unit]
  | cl => simp [Mk.unit]
  | qu => exact absurd rfl h
  | th c => exact (unit_th c).2.2
theorem strip_fold {cs : List Nat} : ∀ {l : List Mk} (_ : NoQ l) (i : Nat) (st : Nat × Option Nat × List (List Nat)), (unitsAt i l).foldl (stripStep cs) st = st
  | [], _, i, st => rfl
  | m :: r, h, i, st => by
    have e : stripStep cs st (m.unit i) = st := by
      unfold stripStep
      rw [if_neg (noq_unit (h m (.head _)) i)]
    rw [unitsAt, List.foldl_cons, e]
    exact strip_fold (fun x hx => h x (.tail _ hx)) _ st
theorem strip_all {cs : List Nat} : stripSt cs (escU 0 false cs).length = (escU 0 false cs).foldl (stripStep cs) (0, none, []) := by
  unfold stripSt
  rw [List.take_length]
theorem stripF_noq {l : List Mk} (h : NoQ l) : stripF (rend l) = rend l := by
  unfold stripF
  by_cases hq : 34 ∈ rend l
  · rw [if_pos hq]
    have e : stripSt (rend l) (escU 0 false (rend l)).length = (0, none, []) := by
      rw [strip_all, escU_rend, strip_fold h]
    have hl : 0 < (rend l).length := List.length_pos_of_mem hq
    simp only [e]
    rw [if_pos hl]
    simp
  · rw [if_neg hq]
theorem noq_cls (d : Nat) : NoQ (List.replicate d Mk.cl) := fun m hm => by
  rw [(List.mem_replicate.mp hm).2]
  exact fun e => nomatch e
theorem stripF_quote {a : List Mk} (h : NoQ a) (d : Nat) : stripF (rend a ++ [34] ++ rend a ++ [34] ++ List.replicate d 41) = rend (a ++ List.replicate d .cl) := by
  have hcs : rend a ++ [34] ++ rend a ++ [34] ++ List.replicate d 41 = rend (a ++ ([Mk.qu] ++ (a ++ ([Mk.qu] ++ List.replicate d .cl)))) := by
    simp only [rend_append, rend_cls, List.append_assoc]
    rfl
  generalize hg : rend a ++ [34] ++ rend a ++ [34] ++ List.replicate d 41 = cs at hcs
  have hlen : cs.length = (rend a).length + 1 + (rend a).length + 1 + d := by rw [← hg]; simp; omega
  have hq : 34 ∈ cs := by rw [← hg]; simp
  unfold stripF
  rw [if_pos hq]
  have e : stripSt cs (escU 0 false cs).length = ((rend a).length + 1 + (rend a).length + 1, none, if 0 = (rend a).length then [] else [rend a]) := by
    rw [strip_all]
    conv => lhs; arg 3; rw [hcs]
    rw [escU_rend, unitsAt_append, List.foldl_append, strip_fold h, unitsAt_append, List.foldl_append, unitsAt_append, List.foldl_append, unitsAt_append, List.foldl_append, strip_fold (noq_cls d), strip_fold h]
    have h1 : List.foldl (stripStep cs) (0, none, []) (unitsAt (0 + (rend a).length) [Mk.qu]) = (0, some (rend a).length, []) := by
      simp [unitsAt, Mk.unit, stripStep]
    rw [h1]
    have htk : cs.take (rend a).length = rend a := by rw [← hg]; simp [List.append_assoc]
    simp [unitsAt, Mk.unit, stripStep, rend, Mk.txt, htk]
  simp only [e]
  have hdr : cs.drop ((rend a).length + 1 + (rend a).length + 1) = List.replicate d 41 := by
    rw [← hg]
    have : (rend a ++ [34] ++ rend a ++ [34]).length = (rend a).length + 1 + (rend a).length + 1 := by simp; omega
    rw [← this, List.drop_left]
  have h0 : (if 0 = (rend a).length then ([] : List (List Nat)) else [rend a]).flatten = rend a := by
    split
    · rename_i h0
      rw [List.eq_nil_of_length_eq_zero h0.symm]; rfl
    · simp
  rw [rend_append, rend_cls]
  split
  · rw [List.flatten_append, h0, hdr]
    simp
  · rename_i hd
    have : d = 0 := by omega
    subst this
    rw [h0]
    simp
/-- how deep a mark leads -/
def dep (n : Option Nat) (m : Mk) : Option Nat :=
  match n, m with
  | none, _ => none
  | some n, .op => some (n + 1)
  | some n, .cl => if n = 0 then none else some (n - 1)
  | some n, .qu => some n
  | some n, .th _ => some n
theorem par_unit (n : Option Nat) (m : Mk) (i : Nat) : parStep n (m.unit i) = dep n m := by
  cases n with
  | none => cases m <;> rfl
  | some n =>
    cases m with
    | op => simp [parStep, Mk.unit, dep]
    | cl => simp [parStep, Mk.unit, dep]
    | qu => simp [parStep, Mk.unit, dep]
    | th c =>
      have := unit_th c
      show (if escOf c ++ [c] = [40] then _ else if escOf c ++ [c] = [41] then _ else _) = _
      rw [if_neg this.1, if_neg this.2.1]
      rfl
theorem par_units : ∀ (l : List Mk) (i : Nat) (n : Option Nat), (unitsAt i l).foldl parStep n = l.foldl dep n
  | [], i, n => rfl
  | m :: r, i, n => by rw [unitsAt, List.foldl_cons, List.foldl_cons, par_unit, par_units r]
theorem checkF_noq {l : List Mk} (h : NoQ l) : checkF (rend l) = (l.foldl dep (some 0) == some 0) := by
  unfold checkF
  rw [stripF_noq h, escU_rend, par_units]
theorem noq_append {a b : List Mk} (ha : NoQ a) (hb : NoQ b) : NoQ (a ++ b) := fun m hm => by
  rcases List.mem_append.mp hm with h | h
  · exact ha m h
  · exact hb m h
theorem checkF_quote {a : List Mk} (h : NoQ a) (d : Nat) : checkF (rend a ++ [34] ++ rend a ++ [34] ++ List.replicate d 41) = ((a ++ List.replicate d Mk.cl).foldl dep (some 0) == some 0) := by
  unfold checkF
  rw [stripF_quote h, escU_rend, par_units]
theorem dep_none (l : List Mk) : l.foldl dep none = none := by
  induction l with
  | nil => rfl
  | cons m r ih => exact ih
theorem dep_cls : ∀ (r x : Nat), (List.replicate r Mk.cl).foldl dep (some x) = if r ≤ x then some (x - r) else none
  | 0, x => by simp
  | r + 1, x => by
    rw [List.replicate_succ, List.foldl_cons]
    show (List.replicate r Mk.cl).foldl dep (if x = 0 then none else some (x - 1)) = _
    by_cases h : x = 0
    · subst h
      rw [if_pos rfl, dep_none, if_neg (by omega)]
    · rw [if_neg h, dep_cls r (x - 1)]
      by_cases h2 : r + 1 ≤ x
      · rw [if_pos h2, if_pos (by omega)]
        congr 1
        omega
      · rw [if_neg h2, if_neg (by omega)]
end Mine
end
section
set_option maxRecDepth 100000
set_option maxHeartbeats 4000000
namespace Mine
/-- the marks that one step writes -/
def stepMks (b : Bd) (o : Option Nat) : List Mk := List.replicate (b.opened.length - b.kept (cOf o)) .cl ++ (match o with | none => [] | some c => [.op, .th c])
def mks (th : List Nat) : Nat → List Mk
  | 0 => []
  | j + 1 => mks th j ++ (match (marks th)[j]? with | none => [] | some o => stepMks (bat th j) o)
theorem mks_succ {th : List Nat} {j : Nat} {o : Option Nat} (h : (marks th)[j]? = some o) : mks th (j + 1) = mks th j ++ stepMks (bat th j) o := by
  rw [mks, h]
theorem marks_at {th : List Nat} {j c : Nat} (h : th[j]? = some c) : (marks th)[j]? = some (some c) := by
  have hl := (List.getElem?_eq_some_iff.mp h).1
  rw [marks, List.getElem?_append_left (by simpa using hl), List.getElem?_map, h]; rfl
theorem marks_end (th : List Nat) : (marks th)[th.length]? = some none := by
  rw [marks, List.getElem?_append_right (by simp)]
  simp
theorem rend_step (b : Bd) (o : Option Nat) : (bst b o).text = b.text ++ rend (stepMks b o) := by
  cases o with
  | none => simp [bst, stepMks, rend_append, rend_cls, rend, cOf]
  | some c => simp [bst, stepMks, rend_append, rend_cls, rend, Mk.txt, cOf]
theorem noq_step (b : Bd) (o : Option Nat) : NoQ (stepMks b o) := by
  refine noq_append (noq_cls _) ?_
  cases o with
  | none => intro m hm; cases hm
  | some c =>
    intro m hm
    simp at hm
    rcases hm with rfl | rfl <;> exact fun e => nomatch e
theorem bat_stop {th : List Nat} {j : Nat} (h : (marks th)[j]? = none) : bat th (j + 1) = bat th j := by
  unfold bat
  rw [List.take_add_one, h]
  simp
theorem text_mks (th : List Nat) : ∀ j, (bat th j).text = rend (mks th j)
  | 0 => rfl
  | j + 1 => by
    cases h : (marks th)[j]? with
    | none => rw [bat_stop h, mks, h]; simp [text_mks th j]
    | some o => rw [bat_succ h, mks_succ h, rend_step, text_mks th j, rend_append]
theorem noq_mks (th : List Nat) : ∀ j, NoQ (mks th j)
  | 0 => fun m hm => by cases hm
  | j + 1 => by
    rw [mks]
    refine noq_append (noq_mks th j) ?_
    cases h : (marks th)[j]? with
    | none => intro m hm; cases hm
    | some o => exact noq_step _ _
/-- the marks between -/
def seg (th : List Nat) (i : Nat) : Nat → List Mk
  | 0 => []
  | k + 1 => seg th i k ++ (match (marks th)[i + k]? with | none => [] | some o => stepMks (bat th (i + k)) o)
theorem mks_seg (th : List Nat) (i : Nat) : ∀ k, mks th (i + k) = mks th i ++ seg th i k
  | 0 => by simp [seg]
  | k + 1 => by
    rw [← Nat.add_assoc, mks, mks_seg th i k, seg, List.append_assoc]
theorem noq_seg (th : List Nat) (i : Nat) : ∀ k, NoQ (seg th i k)
  | 0 => fun m hm => by cases hm
  | k + 1 => by
    rw [seg]
    refine noq_append (noq_seg th i k) ?_
    cases h : (marks th)[i + k]? with
    | none => intro m hm; cases hm
    | some o => exact noq_step _ _
theorem dep_step (b : Bd) (o : Option Nat) (x : Nat) : (stepMks b o).foldl dep (some x) = if b.opened.length - b.kept (cOf o) ≤ x then some (x - (b.opened.length - b.kept (cOf o)) + (if o.isSome then 1 else 0)) else none := by
  unfold stepMks
  rw [List.foldl_append, dep_cls]
  by_cases h : b.opened.length - b.kept (cOf o) ≤ x
  · rw [if_pos h, if_pos h]
    cases o with
    | none => rfl
    | some c => rfl
  · rw [if_neg h, if_neg h, dep_none]
theorem len_step (b : Bd) (o : Option Nat) : (bst b o).opened.length = b.kept (cOf o) + (if o.isSome then 1 else 0) := by
  cases o with
  | none =>
    have := kept_le b 0
    simp only [bst, List.length_take, cOf, Option.isSome_none, Bool.false_eq_true, if_false]
    omega
  | some c =>
    have := kept_le b (codeOf c)
    simp only [bst, List.length_append, List.length_take, cOf, Option.isSome_some, if_true, List.length_cons, List.length_nil]
    omega
theorem dep_mks (th : List Nat) : ∀ j, (mks th j).foldl dep (some 0) = some (bat th j).opened.length
  | 0 => rfl
  | j + 1 => by
    cases h : (marks th)[j]? with
    | none => rw [bat_stop h, mks, h]; simp [dep_mks th j]
    | some o =>
      have hk := kept_le (bat th j) (cOf o)
      rw [bat_succ h, mks_succ h, List.foldl_append, dep_mks th j, dep_step, if_pos (Nat.sub_le _ _), len_step]
      congr 2
      omega
def wOf (th : List Nat) (i : Nat) : Nat := (bat th (i + 1)).opened.length
def cAt (th : List Nat) (i : Nat) : Int := codeOf (th.getD i 0)
theorem wOf_pos {th : List Nat} {i : Nat} (h : i < th.length) : 0 < wOf th i := by
  have hm := marks_at (List.getElem?_eq_getElem h)
  unfold wOf
  rw [bat_succ hm, len_step]
  simp
theorem opened_pos {th : List Nat} (hal : ∀ c ∈ th, 0 < codeOf c) : ∀ j, ∀ y ∈ (bat th j).opened, 0 < y
  | 0, y, hy => by cases hy
  | j + 1, y, hy => by
    cases h : (marks th)[j]? with
    | none => rw [bat_stop h] at hy; exact opened_pos hal j y hy
    | some o =>
      rw [bat_succ h] at hy
      cases o with
      | none => exact opened_pos hal j y (List.mem_of_mem_take hy)
      | some c =>
        have hc : c ∈ th := by
          have := List.mem_of_getElem? h
          simpa [marks] using this
        simp only [bst, List.mem_append, List.mem_singleton] at hy
        rcases hy with hy | rfl
        · exact opened_pos hal j y (List.mem_of_mem_take hy)
        · have := hal c hc
          omega
theorem last_empty {th : List Nat} (hal : ∀ c ∈ th, 0 < codeOf c) : (bat th (th.length + 1)).opened.length = 0 := by
  rw [bat_succ (marks_end th), len_step]
  have : (bat th th.length).kept 0 = 0 := by
    unfold Bd.kept
    rw [List.countP_eq_zero]
    intro y hy
    have := opened_pos hal _ y hy
    simp only [decide_eq_true_eq]
    omega
  simp [cOf, this]
theorem check_whole {th : List Nat} (hal : ∀ c ∈ th, 0 < codeOf c) : checkF (bat th (th.length + 1)).text = true := by
  rw [text_mks, checkF_noq (noq_mks _ _), dep_mks, last_empty hal]
  rfl
theorem check_ahead {th : List Nat} {i : Nat} (h : i < th.length) : checkF (bat th (i + 1)).text = false := by
  rw [text_mks, checkF_noq (noq_mks _ _), dep_mks]
  have := wOf_pos h
  unfold wOf at this
  rw [beq_eq_false_iff_ne]
  intro e
  have := Option.some.inj e
  omega
theorem check_named {th : List Nat} {i : Nat} : checkF ((bat th (i + 1)).text ++ [34] ++ (bat th (i + 1)).text ++ [34] ++ List.replicate (wOf th i) 41) = true := by
  rw [text_mks, checkF_quote (noq_mks _ _), List.foldl_append, dep_mks, dep_cls]
  simp [wOf]
/-- still open -/
def stillB (th : List Nat) (i j : Nat) : Bool := (List.range (j + 1)).all fun k => decide (i < k → cAt th i ≤ cAt th k)
theorem stillB_iff {th : List Nat} {i j : Nat} : stillB th i j = true ↔ ∀ k, i < k → k ≤ j → cAt th i ≤ cAt th k := by
  unfold stillB
  rw [List.all_eq_true]
  constructor
  · intro h k h1 h2
    have := h k (List.mem_range.mpr (by omega))
    exact of_decide_eq_true this h1
  · intro h k hk
    exact decide_eq_true fun h1 => h k h1 (by have := List.mem_range.mp hk; omega)
theorem seg_run {th : List Nat} {i : Nat} : ∀ k, i + k < th.length →
    if stillB th i (i + k) = true then (seg th (i + 1) k).foldl dep (some 0) = some (wOf th (i + k) - wOf th i) ∧ wOf th i ≤ wOf th (i + k) ∧ (bat th (i + k + 1)).opened[wOf th i - 1]? = some (cAt th i)
    else (seg th (i + 1) k).foldl dep (some 0) = none
  | 0, h => by
    have hs : stillB th i (i + 0) = true := stillB_iff.mpr fun k h1 h2 => by omega
    rw [if_pos hs]
    have hi : i < th.length := by omega
    have hm := marks_at (List.getElem?_eq_getElem hi)
    refine ⟨by simp [seg], Nat.le_refl _, ?_⟩
    have hk := kept_le (bat th i) (codeOf th[i])
    have e : wOf th i = (bat th i).kept (codeOf th[i]) + 1 := by
      unfold wOf
      rw [bat_succ hm, len_step]
      rfl
    rw [e, Nat.add_zero, bat_succ hm]
    simp only [bst]
    rw [List.getElem?_append_right (by rw [List.length_take]; omega)]
    have : (bat th i).kept ↑(codeOf th[i]) + 1 - 1 - (List.take ((bat th i).kept ↑(codeOf th[i])) (bat th i).opened).length = 0 := by
      rw [List.length_take]; omega
    rw [this, cAt, List.getD, List.getElem?_eq_getElem hi]
    rfl
  | k + 1, h => by
    have hi' : i + k + 1 < th.length := by omega
    have hm := marks_at (List.getElem?_eq_getElem hi')
    have ih := seg_run (th := th) (i := i) k (by omega)
    have hseg : seg th (i + 1) (k + 1) = seg th (i + 1) k ++ stepMks (bat th (i + k + 1)) (some th[i + k + 1]) := by
      rw [seg, show i + 1 + k = i + k + 1 by omega, hm]
    have hc : cAt th (i + k + 1) = codeOf th[i + k + 1] := by rw [cAt, List.getD, List.getElem?_eq_getElem hi']; rfl
    rw [hseg, List.foldl_append]
    by_cases hs : stillB th i (i + k) = true
    · rw [if_pos hs] at ih
      obtain ⟨e1, e2, e3⟩ := ih
      rw [e1, dep_step]
      have hup := (bat_ok th (i + k + 1)).1
      obtain ⟨hl, e3'⟩ := List.getElem?_eq_some_iff.mp e3
      have hkept := hup.kept (codeOf th[i + k + 1]) (wOf th i - 1) hl
      rw [e3'] at hkept
      have hkl := kept_le (bat th (i + k + 1)) (codeOf th[i + k + 1])
      have hw : (bat th (i + k + 1)).opened.length = wOf th (i + k) := rfl
      have hpos := wOf_pos (th := th) (i := i) (by omega)
      have hnew : wOf th (i + (k + 1)) = (bat th (i + k + 1)).kept (codeOf th[i + k + 1]) + 1 := by
        unfold wOf
        rw [← Nat.add_assoc, bat_succ hm, len_step]
        rfl
      have hkd : (bat th (i + k + 1)).kept (codeOf th[i + k + 1]) = List.countP (fun y => decide (y ≤ ((codeOf th[i + k + 1] : Nat) : Int))) (bat th (i + k + 1)).opened := rfl
      rw [← hkd] at hkept
      by_cases hcc : cAt th i ≤ cAt th (i + k + 1)
      · have hs' : stillB th i (i + (k + 1)) = true := stillB_iff.mpr fun x h1 h2 => by
          by_cases hx : x = i + k + 1
          · rw [hx]; exact hcc
          · exact stillB_iff.mp hs x h1 (by omega)
        have hlt := hkept.mpr (hc ▸ hcc)
        rw [if_pos hs']
        refine ⟨?_, by rw [hnew]; omega, ?_⟩
        · rw [if_pos (by simp only [cOf]; omega), hnew]
          simp only [cOf, Option.isSome_some, if_true]
          congr 1
          omega
        · rw [show i + (k + 1) + 1 = i + k + 1 + 1 by omega, bat_succ hm]
          simp only [bst]
          rw [List.getElem?_append_left (by rw [List.length_take]; omega), List.getElem?_take_of_lt (by omega)]
          exact e3
      · have hs' : ¬ stillB th i (i + (k + 1)) = true := fun hs' => hcc (stillB_iff.mp hs' (i + k + 1) (by omega) (by omega))
        rw [if_neg hs']
        have hge : ¬ wOf th i - 1 < (bat th (i + k + 1)).kept (codeOf th[i + k + 1]) := fun hlt => hcc (hc ▸ hkept.mp hlt)
        rw [if_neg (by simp only [cOf]; omega)]
    · rw [if_neg hs] at ih
      have hs' : ¬ stillB th i (i + (k + 1)) = true := fun hs' => hs (stillB_iff.mpr fun x h1 h2 => stillB_iff.mp hs' x h1 (by omega))
      rw [if_neg hs', ih, dep_none]
/-- the piece of text between two things -/
def midOf (th : List Nat) (i j : Nat) : List Nat := ((bat th (j + 1)).text).drop (bat th (i + 1)).text.length
theorem midOf_seg {th : List Nat} {i k : Nat} : midOf th i (i + k) = rend (seg th (i + 1) k) := by
  unfold midOf
  rw [text_mks, text_mks, show i + k + 1 = i + 1 + k by omega, mks_seg th (i + 1) k, rend_append, List.drop_left]
theorem check_still {th : List Nat} {i j : Nat} (hij : i ≤ j) (hj : j < th.length) : checkF (midOf th i j ++ List.replicate (wOf th j - wOf th i) 41) = stillB th i j := by
  obtain ⟨k, rfl⟩ := Nat.exists_eq_add_of_le hij
  have := seg_run (th := th) (i := i) k hj
  rw [midOf_seg, ← rend_cls, ← rend_append, checkF_noq (noq_append (noq_seg _ _ _) (noq_cls _)), List.foldl_append]
  by_cases hs : stillB th i (i + k) = true
  · rw [if_pos hs] at this
    rw [this.1, dep_cls, hs]
    simp
  · rw [if_neg hs] at this
    rw [this, dep_none]
    simp at hs
    rw [hs]
    rfl
theorem mks_prefix (th : List Nat) (i k : Nat) : (bat th (i + k)).text = (bat th i).text ++ rend (seg th i k) := by
  rw [text_mks, text_mks, mks_seg, rend_append]
/-- where a thing stands in the text -/
def placeOf (th : List Nat) (i : Nat) : Nat := (bat th (i + 1)).text.length - 1
theorem place_at {th : List Nat} {i : Nat} (h : i < th.length) : placeOf th i + 1 = (bat th (i + 1)).text.length := by
  have hm := marks_at (List.getElem?_eq_getElem h)
  unfold placeOf
  have : 0 < (bat th (i + 1)).text.length := by
    rw [bat_succ hm]
    simp [bst]
    omega
  omega
theorem ahead_take {th : List Nat} {i : Nat} (h : i < th.length) : (bat th (th.length + 1)).text.take (placeOf th i + 1) = (bat th (i + 1)).text := by
  rw [place_at h, show th.length + 1 = i + 1 + (th.length - i) by omega, mks_prefix th (i + 1), List.take_left]
theorem mid_slice {th : List Nat} {i j : Nat} (hij : i ≤ j) (h : j < th.length) : ((bat th (th.length + 1)).text.drop (placeOf th i + 1)).take (placeOf th j + 1 - (placeOf th i + 1)) = midOf th i j := by
  rw [midOf, ← ahead_take h, List.drop_take, place_at h, place_at (Nat.lt_of_le_of_lt hij h)]
theorem place_mono {th : List Nat} {i j : Nat} (hij : i ≤ j) (h : j < th.length) : placeOf th i ≤ placeOf th j ∧ placeOf th j + 1 ≤ (bat th (th.length + 1)).text.length := by
  have h1 := place_at (Nat.lt_of_le_of_lt hij h)
  have h2 := place_at h
  have e1 : (bat th (j + 1)).text = (bat th (i + 1)).text ++ rend (seg th (i + 1) (j - i)) := by rw [← mks_prefix]; congr 2; omega
  have e2 : (bat th (th.length + 1)).text = (bat th (j + 1)).text ++ rend (seg th (j + 1) (th.length - j)) := by rw [← mks_prefix]; congr 2; omega
  have l1 := congrArg List.length e1
  have l2 := congrArg List.length e2
  rw [List.length_append] at l1 l2
  omega
/-- the units that are things -/
def isTh (q : Nat × List Nat) : Bool := decide (q.2 ≠ [40] ∧ q.2 ≠ [41])
def thUnit (th : List Nat) (i : Nat) : Nat × List Nat := (placeOf th i, escOf (th.getD i 0) ++ [th.getD i 0])
theorem filter_cls (i r : Nat) : (unitsAt i (List.replicate r Mk.cl)).filter isTh = [] := by
  induction r generalizing i with
  | zero => rfl
  | succ r ih =>
    rw [List.replicate_succ, unitsAt, List.filter_cons_of_neg (by simp [isTh, Mk.unit])]
    exact ih _
theorem filter_mks (th : List Nat) : ∀ j, j ≤ th.length → (unitsAt 0 (mks th j)).filter isTh = (List.range j).map (thUnit th)
  | 0, _ => rfl
  | j + 1, h => by
    have hj : j < th.length := by omega
    have hm := marks_at (List.getElem?_eq_getElem hj)
    rw [mks_succ hm, unitsAt_append, List.filter_append, filter_mks th j (by omega), List.range_succ, List.map_append]
    congr 1
    unfold stepMks
    rw [unitsAt_append, List.filter_append, filter_cls]
    have hu := unit_th th[j]
    have h2 : isTh (Mk.unit (0 + (rend (mks th j)).length + (rend (List.replicate ((bat th j).opened.length - (bat th j).kept (cOf (some th[j]))) Mk.cl)).length + Mk.op.txt.length) (Mk.th th[j])) = true := by
      simp [isTh, Mk.unit, hu]
    rw [List.nil_append]
    show List.filter isTh (Mk.unit _ Mk.op :: Mk.unit _ (Mk.th th[j]) :: []) = _
    rw [List.filter_cons_of_neg (by simp [isTh, Mk.unit]), List.filter_cons_of_pos h2]
    show [_] = [_]
    congr 1
    have hd : th.getD j 0 = th[j] := by rw [List.getD, List.getElem?_eq_getElem hj]; rfl
    have hp : placeOf th j = (rend (mks th j)).length + ((bat th j).opened.length - (bat th j).kept (cOf (some th[j]))) + 1 + (escOf th[j]).length := by
      unfold placeOf
      rw [bat_succ hm, rend_step, ← text_mks]
      simp [stepMks, rend_append, rend_cls, rend, Mk.txt]
      omega
    unfold thUnit
    rw [hd, hp, rend_cls]
    simp [Mk.unit]
    rfl
theorem units_all (th : List Nat) : (escU 0 false (bat th (th.length + 1)).text).filter isTh = (List.range th.length).map (thUnit th) := by
  rw [text_mks, escU_rend, mks_succ (marks_end th), unitsAt_append, List.filter_append, filter_mks th _ (Nat.le_refl _)]
  unfold stepMks
  rw [List.append_nil, filter_cls, List.append_nil]
theorem depths_mks (th : List Nat) : ∀ j, j ≤ th.length → (bat th j).depths = (List.range j).map fun i => (wOf th i : Int)
  | 0, _ => rfl
  | j + 1, h => by
    have hj : j < th.length := by omega
    have hm := marks_at (List.getElem?_eq_getElem hj)
    rw [List.range_succ, List.map_append, ← depths_mks th j (by omega), bat_succ hm]
    show _ ++ [_] = _ ++ [_]
    congr 2
    have : wOf th j = (bat th j).kept (codeOf th[j]) + 1 := by
      unfold wOf
      rw [bat_succ hm, len_step]
      rfl
    show _ = ((wOf th j : Nat) : Int)
    rw [this]
theorem depths_all (th : List Nat) : (bat th (th.length + 1)).depths = (List.range th.length).map fun i => (wOf th i : Int) := by
  rw [bat_succ (marks_end th), ← depths_mks th _ (Nat.le_refl _)]
  rfl
/-- the first that is best -/
def bestOf (f : Nat → Int) : Nat → Nat
  | 0 => 0
  | k + 1 => if f (k + 1) < f (bestOf f k) then k + 1 else bestOf f k
theorem bestOf_spec (f : Nat → Int) : ∀ k, bestOf f k ≤ k ∧ (∀ i, i ≤ k → f (bestOf f k) ≤ f i) ∧ ∀ i, i < bestOf f k → f (bestOf f k) < f i
  | 0 => ⟨Nat.le_refl _, fun i hi => by have : i = 0 := by omega
                                        subst this; exact Int.le_refl _, fun i hi => absurd hi (Nat.not_lt_zero _)⟩
  | k + 1 => by
    obtain ⟨h1, h2, h3⟩ := bestOf_spec f k
    rw [bestOf]
    by_cases h : f (k + 1) < f (bestOf f k)
    · rw [if_pos h]
      refine ⟨Nat.le_refl _, fun i hi => ?_, fun i hi => ?_⟩
      · by_cases e : i = k + 1
        · rw [e]; exact Int.le_refl _
        · have := h2 i (by omega); omega
      · have := h2 i (by omega); omega
    · rw [if_neg h]
      refine ⟨by omega, fun i hi => ?_, fun i hi => h3 i hi⟩
      by_cases e : i = k + 1
      · rw [e]; omega
      · exact h2 i (by omega)
theorem pick {p : Nat → Bool} {f a n : Nat} (h1 : f ≤ a) (h2 : a < n) (ha : p a = true) (hno : ∀ i, f ≤ i → i < a → p i = false) : ((List.range n).filter p)[((List.range n).filter p).countP fun y => decide (y < f)]? = some a := by
  have e : List.range n = List.range a ++ a :: (List.range (n - a - 1)).map (· + (a + 1)) := by
    have : n = a + ((n - a - 1) + 1) := by omega
    conv => lhs; rw [this, List.range_add, List.range_succ_eq_map]
    simp only [List.map_cons, List.map_map, Nat.add_zero]
    congr 2
    apply List.map_congr_left
    intro x _
    simp only [Function.comp]
    omega
  have hc1 : ((List.range a).filter p).countP (fun y => decide (y < f)) = ((List.range a).filter p).length := by
    rw [List.countP_eq_length]
    intro y hy
    obtain ⟨hy1, hy2⟩ := List.mem_filter.mp hy
    have := List.mem_range.mp hy1
    rcases Nat.lt_or_ge y f with h | h
    · exact decide_eq_true h
    · rw [hno y h this] at hy2; cases hy2
  have hc2 : (((List.range (n - a - 1)).map (· + (a + 1))).filter p).countP (fun y => decide (y < f)) = 0 := by
    rw [List.countP_eq_zero]
    intro y hy
    obtain ⟨hy1, _⟩ := List.mem_filter.mp hy
    obtain ⟨x, _, rfl⟩ := List.mem_map.mp hy1
    simp only [decide_eq_true_eq]
    omega
  rw [e, List.filter_append, List.filter_cons_of_pos ha, List.countP_append, List.countP_cons_of_neg (by simp; omega), hc1, hc2, List.getElem?_append_right (Nat.le_add_right _ _), Nat.add_sub_cancel_left]
  rfl
theorem rank_code : (alph.all fun c => alph.all fun d => decide (rankOf c < rankOf d) == decide ((codeOf c : Int) < codeOf d)) = true := by decide +kernel
theorem rank_lt {c d : Nat} (hc : c ∈ alph) (hd : d ∈ alph) : rankOf c < rankOf d ↔ (codeOf c : Int) < codeOf d := by
  have := List.all_eq_true.mp (List.all_eq_true.mp rank_code c hc) d hd
  rw [beq_iff_eq, decide_eq_decide] at this
  exact this
theorem code_pos : (alph.all fun c => decide (0 < codeOf c)) = true := by decide +kernel
def rAt (th : List Nat) (i : Nat) : Int := rankOf (th.getD i 0)
/-- Fischer and Heun -/
theorem least_is {th : List Nat} (hal : ∀ c ∈ th, c ∈ alph) {first last : Nat} (h1 : first ≤ last) (h2 : last < th.length) :
    ((List.range (last + 1)).filter fun i => stillB th i last)[((List.range (last + 1)).filter fun i => stillB th i last).countP fun y => decide (y < first)]? = some (first + bestOf (fun i => rAt th (first + i)) (last - first)) := by
  obtain ⟨b1, b2, b3⟩ := bestOf_spec (fun i => rAt th (first + i)) (last - first)
  generalize bestOf (fun i => rAt th (first + i)) (last - first) = b at b1 b2 b3
  have mem : ∀ i, i < th.length → th.getD i 0 ∈ alph := fun i hi => by
    rw [List.getD, List.getElem?_eq_getElem hi]
    exact hal _ (List.getElem_mem hi)
  have rc : ∀ i j, i < th.length → j < th.length → (rAt th i < rAt th j ↔ cAt th i < cAt th j) := fun i j hi hj => rank_lt (mem i hi) (mem j hj)
  refine pick (Nat.le_add_right _ _) (by omega) ?_ ?_
  · rw [stillB_iff]
    intro k hk1 hk2
    have := b2 (k - first) (by omega)
    rw [show first + (k - first) = k by omega] at this
    rcases Int.lt_or_le (cAt th k) (cAt th (first + b)) with h | h
    · have := (rc k (first + b) (by omega) (by omega)).mpr h
      omega
    · exact h
  · intro i hi1 hi2
    cases hs : stillB th i last with
    | false => rfl
    | true =>
      have h3 := b3 (i - first) (by omega)
      rw [show first + (i - first) = i by omega] at h3
      have h4 := (rc (first + b) i (by omega) (by omega)).mp h3
      have h5 := stillB_iff.mp hs (first + b) hi2 (by omega)
      omega
end Mine
end
section
set_option maxRecDepth 100000
set_option maxHeartbeats 4000000
namespace Mine
open PySem PySem.W PySem.Calls PyProof.Rows
/-- what the building loop keeps -/
structure LB (b : Bd) (O D : Addr) (ov dv : List Value) (h : Heap) (m : Str → Option Value) : Prop where
  text : ∃ t, m (Str.ofString "text") = some (.str (tx b.text) t)
  opened : m (Str.ofString "opened") = some (.ref O)
  depths : m (Str.ofString "depths") = some (.ref D)
  lo : h.PlainList O ov.toArray
  io : IntsAre ov b.opened
  ld : h.PlainList D dv.toArray
  id : IntsAre dv b.depths
theorem LB.keep {b : Bd} {O D : Addr} {ov dv : List Value} {h h' : Heap} {m m' : Str → Option Value} (X : LB b O D ov dv h m) (hk : ∀ b o, (b = O ∨ b = D) → h.get? b = some o → h'.get? b = some o)
    (e1 : m' (Str.ofString "text") = m (Str.ofString "text") := by rfl) (e2 : m' (Str.ofString "opened") = m (Str.ofString "opened") := by rfl) (e3 : m' (Str.ofString "depths") = m (Str.ofString "depths") := by rfl) : LB b O D ov dv h' m' :=
  ⟨e1 ▸ X.text, e2 ▸ X.opened, e3 ▸ X.depths, X.lo.at fun o e => hk _ o (.inl rfl) e, X.io, X.ld.at fun o e => hk _ o (.inr rfl) e, X.id⟩
/-- how the loop's own lists stand apart -/
structure LX (s₁ : Shared) (I Dc Dr O D : Addr) : Prop where
  od : O ≠ D
  oc : O ≠ Dc
  or : O ≠ Dr
  dc : D ≠ Dc
  dr : D ≠ Dr
  oi : O ≠ I
  di : D ≠ I
  no : s₁.heap.get? O = none
  nd : s₁.heap.get? D = none
def forBody : Stmt → List Stmt
  | .For _ _ b _ _ => b
  | _ => []
def stAt (k : Nat) : Stmt := dL.body.getD k (.Pass default)
theorem stepP7 {w : World} {A : Around} {mg mb : Str → Option Value} {s₁ : Shared} (W : Wd w mg mb s₁.heap) (hh : A.handled = none) (hA : A.depth ≤ 400) {L fa : Addr} {cd : Value} {R : Value → Shared → Prop} {th : List Nat} (hth : th.length ≤ 6) (hal : ∀ c ∈ th, c ∈ alph)
    {Dc Dr I O D : Addr} {cv rv ov dv : List Value} (hic : IntsAre cv (codesOf th)) (hLI : I ≠ L) (hnI : s₁.heap.get? I = none) (nc : s₁.heap.get? Dc = none) (nr : s₁.heap.get? Dr = none) (f5 : Dc ≠ L) (f6 : Dr ≠ L)
    {j : Nat} {t : Tok} {m₁ : Str → Option Value} {s₂ : Shared} {oI : Obj} (hj : j < th.length + 1) (Y : LH L th Dc Dr cv rv s₂.heap m₁) (B : LB (bat th j) O D ov dv s₂.heap m₁) (x : LX s₁ I Dc Dr O D) (hoI : s₂.heap.get? I = some oI)
    (F₂ : Fr s₁.heap L s₂.heap (fun y => if y = Str.ofString "k" then some (.int (j : Nat) t) else m₁ y)) :
    wpAny (model pw w) A (execs (forBody (stAt 12)) (EL L fa cd)) (fun f s₃ => match f with
        | .next | .cont => Seal (∃ m₂, Rel s₂ s₃ ∧ Fr s₁.heap L s₃.heap m₂ ∧ (LH L th Dc Dr cv rv s₃.heap m₂ ∧ ∃ O D ov dv, LB (bat th (j + 1)) O D ov dv s₃.heap m₂ ∧ LX s₁ I Dc Dr O D) ∧ (∀ o, s₂.heap.get? I = some o → s₃.heap.get? I = some o))
        | .brk => False
        | .ret v => R v s₃) (fun _ _ => False) s₂ := by
  obtain ⟨KX, T⟩ := id W
  have hcl : cv.length = th.length + 1 := by rw [hic.length, codesOf]; simp
  obtain ⟨oc₂, hoc₂⟩ := Y.cell
  obtain ⟨ko, hO⟩ := B.lo
  obtain ⟨kd, hD⟩ := B.ld
  obtain ⟨kc, hDc⟩ := Y.lc
  obtain ⟨kr, hDr⟩ := Y.lr
  obtain ⟨tt, htext⟩ := B.text
  obtain ⟨tg, hthings⟩ := Y.things
  have N₂ : News s₁.heap L s₂.heap [(O, { cls := .type "list", data := .seq (List.toArray ov) ko }), (D, { cls := .type "list", data := .seq (List.toArray dv) kd }), (Dc, { cls := .type "list", data := .seq (List.toArray cv) kc }), (Dr, { cls := .type "list", data := .seq (List.toArray rv) kr }), (I, oI), (L + 1, oc₂)] := fun p hp => by
    rcases List.mem_cons.mp hp with rfl | hp
    · exact ⟨hO, ne_of_list F₂.ns ⟨_, hO, rfl, _, rfl⟩, x.no⟩
    rcases List.mem_cons.mp hp with rfl | hp
    · exact ⟨hD, ne_of_list F₂.ns ⟨_, hD, rfl, _, rfl⟩, x.nd⟩
    rcases List.mem_cons.mp hp with rfl | hp
    · exact ⟨hDc, f5, nc⟩
    rcases List.mem_cons.mp hp with rfl | hp
    · exact ⟨hDr, f6, nr⟩
    rcases List.mem_cons.mp hp with rfl | hp
    · exact ⟨hoI, hLI, hnI⟩
    rcases List.mem_singleton.mp hp with rfl
    exact ⟨hoc₂.1, Nat.succ_ne_self _, none_above (Nat.le_succ_of_le F₂.above)⟩
  have F₃ := frForm1 (frForm1 (frForm1 (frForm1 (frForm1 F₂ (show (fun y => if y = Str.ofString "k" then _ else m₁ y) (Str.ofString "things") = _ from hthings)) (show (fun y => if y = Str.ofString "things" then _ else if y = Str.ofString "k" then _ else m₁ y) (Str.ofString "codes") = some (.ref Dc) from Y.codes)) (v := .str (tx (bat th j).text) tt) (x := Str.ofString "text") htext) (v := .ref D) (x := Str.ofString "depths") B.depths) (v := .ref O) (x := Str.ofString "opened") B.opened
  clear F₂
  show wpAny _ _ (execs [_, _, _, _] _) _ _ _
  repeat' (fail_if_success (with_reducible show wpAny _ _ (call (Value.ref 44) _ _) _ _ _)); walk1
  obtain ⟨o, hmo⟩ : ∃ o, (marks th)[j]? = some o := ⟨_, List.getElem?_eq_getElem (by rw [marks_len]; exact hj)⟩
  have hco : (codesOf th).getD (j : Int).toNat 0 = cOf o := by
    rw [codes_marks, Int.toNat_natCast, List.getD, List.getElem?_map, hmo]
    rfl
  rw [hco]
  obtain ⟨up, bl, bd⟩ := bat_ok th j
  have hO1 : (bat th j).opened.length ≤ 28 := by omega
  have hT1 : (bat th j).text.length ≤ 28 := by omega
  have hD1 : (bat th j).depths.length ≤ 28 := by omega
  have hovl : ov.length = (bat th j).opened.length := B.io.length
  have hdvl : dv.length = (bat th j).depths.length := B.id.length
  refine wpAny_call (codeAny_mono (bisR (W.keeps F₃.keep) hh (Nat.le_trans hA (by decide)) O ov _ _ _ (N₂.isList (.head _)) B.io (Nat.le_trans hO1 (by decide)) up) fun r s₃ hr₃ => ?_)
  obtain ⟨⟨tk2, rfl⟩, h₃, tk3, rfl, hk₃⟩ := hr₃
  have F₄ := F₃.keeps hk₃
  have N₄ := N₂.grown hk₃
  clear F₃ N₂
  show wpAny _ _ (storeName _ _ (.int ((bat th j).kept (cOf o) : Nat) tk2)) _ _ _
  have hkl := kept_le (bat th j) (cOf o)
  generalize hkk : (bat th j).kept (cOf o) = kp at hkl ⊢
  repeat' (fail_if_success (with_reducible show wpAny _ _ (call (Value.builtin "len") _ _) _ _ _)); walk1
  rename Fr _ _ _ _ => F₅
  rename News _ _ _ _ => N₅
  refine call_len_list (N₅.isList (.head _)) (by simp [hovl]; omega) ?_
  rw [show ov.toArray.size = (bat th j).opened.length by simp [hovl]]
  repeat' (fail_if_success (with_reducible show wpAny _ _ (binaryOp Operator.Mult _ _) _ _ _)); walk1
  rw [show ((bat th j).opened.length : Int) - (kp : Int) = (((bat th j).opened.length - kp : Nat) : Int) by omega, show Str.ofString ")" = tx [41] from by decide]
  refine mul1 (s := { s₂ with heap := _, toks := _ }) (by omega) fun t5 k5 => ?_
  repeat' (fail_if_success (with_reducible show wpAny _ _ (storeName _ _ _) _ _ _)); walk1
  refine addtx (by simp; omega) fun t6 k6 => ?_
  repeat' (fail_if_success (with_reducible show wpAny _ _ (subscriptTail _ _ _ _) _ _ _)); walk1
  rename Fr _ _ _ _ => F₆
  rename News _ _ _ _ => N₆
  rename_i h₆
  refine slice_list (s := { s₂ with heap := _, toks := _ }) (lo := none) (hi := some (kp : Int)) F₆ N₆ (N₆.isList (.head _)) ?_ ?_ ?_ (by with_unfolding_all rfl) (by intro _; with_unfolding_all rfl) (by simp [hovl]; exact Nat.le_trans hO1 (by decide))
  · exact .none
  · exact .int _ _
  intro h₇ F₇ N₇
  have iP : True ∧ (IntsAre (slicePick ov.toArray none (some (kp : Int)) none).toList ((bat th j).opened.take kp)) := by
    have := slice_ints_uptoW B.io (y := (kp : Int)) (by omega)
    rw [Int.toNat_natCast] at this
    exact ⟨trivial, this⟩
  generalize hsp : slicePick ov.toArray none (some (kp : Int)) none = pk at iP N₇
  obtain ⟨pl⟩ := pk
  replace iP : True ∧ (IntsAre pl ((bat th j).opened.take kp)) := iP
  clear hsp
  have hgt : h₆.objs.size < h₆.objs.size + 1 := Nat.lt_succ_self _
  replace N₇ : News s₁.heap L h₇ [(h₆.objs.size + 1, { cls := .type "list", data := .seq (List.toArray pl) }), (O, { cls := .type "list", data := .seq (List.toArray ov) ko }), (D, { cls := .type "list", data := .seq (List.toArray dv) kd }), (Dc, { cls := .type "list", data := .seq (List.toArray cv) kc }), (Dr, { cls := .type "list", data := .seq (List.toArray rv) kr }), (I, oI), (L + 1, oc₂)] := N₇
  show wpAny _ _ (storeName _ _ (.ref (h₆.objs.size + 1))) _ _ _
  generalize h₆.objs.size + 1 = O₂ at hgt N₇ ⊢
  have hap : ∀ p ∈ [(D, ({ cls := .type "list", data := .seq (List.toArray dv) kd } : Obj)), (Dc, { cls := .type "list", data := .seq (List.toArray cv) kc }), (Dr, { cls := .type "list", data := .seq (List.toArray rv) kr }), (I, oI), (L + 1, oc₂)], p.1 < O₂ := fun p hp => Nat.lt_trans (Heap.lt_size (N₆ p (.tail _ hp)).1) hgt
  have x₂ : LX s₁ I Dc Dr O₂ D := ⟨Nat.ne_of_gt (hap _ (.head _)), Nat.ne_of_gt (hap _ (.tail _ (.head _))), Nat.ne_of_gt (hap _ (.tail _ (.tail _ (.head _)))), x.dc, x.dr, Nat.ne_of_gt (hap _ (.tail _ (.tail _ (.tail _ (.head _))))), x.di, (N₇ _ (.head _)).2.2, x.nd⟩
  clear F₆ N₆
  repeat' (fail_if_success (with_reducible show wpAny _ _ (call (Value.ref 134) _ _) _ _ _)); walk1
  rename Fr _ _ _ _ => F₈
  rename News _ _ _ _ => N₈
  rw [hco]
  refine wpAny_call (codeAny_mono (iseof (W.keeps F₈.keep) (Nat.le_trans hA (by decide)) _ _) fun r s₄ hr₄ => ?_)
  obtain ⟨rfl, h₉, tk9, rfl, hk₉⟩ := hr₄
  have F₉ := F₈.keeps hk₉
  have N₉ : News s₁.heap L h₉ ((O₂, { cls := .type "list", data := .seq (List.toArray pl) }) :: [(D, ({ cls := .type "list", data := .seq (List.toArray dv) kd } : Obj)), (Dc, { cls := .type "list", data := .seq (List.toArray cv) kc }), (Dr, { cls := .type "list", data := .seq (List.toArray rv) kr }), (I, oI), (L + 1, oc₂)]) := fun p hp => by
    rcases List.mem_cons.mp hp with rfl | hp
    · exact N₈.grown hk₉ _ (.head _)
    · exact N₈.grown hk₉ p (.tail _ (.tail _ hp))
  clear F₈ N₈
  show wpAny _ _ (truthy _) _ _ _
  refine wpAny_truthy_bool ?_
  have hYk : ∀ {h : Heap}, (∀ p ∈ [(Dc, ({ cls := .type "list", data := .seq (List.toArray cv) kc } : Obj)), (Dr, { cls := .type "list", data := .seq (List.toArray rv) kr }), (I, oI), (L + 1, oc₂)], h.get? p.1 = some p.2) → ∀ b o, (b = L + 1 ∨ b = Dc ∨ b = Dr) → s₂.heap.get? b = some o → h.get? b = some o := fun hp b o hb e => by
    rcases hb with rfl | rfl | rfl
    · rw [hoc₂.1] at e; cases e; exact hp (L + 1, _) (by simp)
    · rw [hDc] at e; cases e; exact hp (b, _) (.head _)
    · rw [hDr] at e; cases e; exact hp (b, _) (.tail _ (.head _))
  have hIk : ∀ {h : Heap}, h.get? I = some oI → ∀ o, s₂.heap.get? I = some o → h.get? I = some o := fun hi o e => by rw [hoI] at e; cases e; exact hi
  cases o with
  | none =>
    show wpAny _ _ (execs [] _) _ _ _
    refine wpAny_execs_nil ?_
    show wpAny _ _ (execs [] _) _ _ _
    refine wpAny_execs_nil ?_
    refine ⟨_, Rel.heap (s := s₂) _ _, F₉, ⟨Y.keep (hYk fun p hp => (N₉ p (.tail _ (.tail _ hp))).1) hthings.symm Y.codes.symm, O₂, D, pl, dv, ?_, x₂⟩, hIk (N₉ (I, oI) (by simp)).1⟩
    rw [bat_succ hmo]
    have hk0 : (bat th j).kept 0 = kp := hkk
    refine ⟨⟨t6, ?_⟩, rfl, rfl, ⟨_, (N₉ _ (.head _)).1⟩, ?_, ⟨_, (N₉ _ (.tail _ (.head _))).1⟩, B.id⟩
    · show some (Value.str _ _) = some (Value.str _ _)
      simp only [bst, hk0]
    · simp only [bst, hk0]
      exact iP.2
  | some c =>
    have hjt : j < th.length := by
      rcases Nat.lt_or_ge j th.length with h | h
      · exact h
      · have e : j = th.length := by omega
        rw [e, marks_end] at hmo
        cases hmo
    have hcj : th[j]? = some c := by
      rw [marks_at (List.getElem?_eq_getElem hjt)] at hmo
      cases hmo
      exact List.getElem?_eq_getElem hjt
    have hcn : ¬ cOf (some c) = 0 := by
      have := of_decide_eq_true (List.all_eq_true.mp code_pos c (hal c (List.mem_of_getElem? hcj)))
      show ¬ ((codeOf c : Nat) : Int) = 0
      omega
    rw [show (!decide (cOf (some c) = 0)) = true by simp [hcn]]
    show wpAny _ _ (execs [_, _, _] _) _ _ _
    repeat' (fail_if_success (with_reducible show wpAny _ _ (binaryOp _ _ _) _ _ _)); walk1
    rw [show Str.ofString "(" = tx [40] from by decide]
    refine addtx (by simp; omega) fun t10 k10 => ?_
    have he1 : (escOf c).length ≤ 1 := by unfold escOf; split <;> simp
    refine wpAny_mono (Q := fun v s' => Seal (∃ t' k, v = .str (tx (escOf c)) t' ∧ s' = { s₂ with heap := h₉, toks := k })) (E := fun _ _ => False) ?_ ?_ (fun _ _ h => h.elim)
    · repeat' (fail_if_success (with_reducible show wpAny _ _ (subscriptTail _ _ _ _) _ _ _)); walk1
      refine sub_tx hcj (by omega) (fun t11 k11 => ?_) (by with_unfolding_all rfl) (by intro _; with_unfolding_all rfl)
      repeat' (fail_if_success (with_reducible show wpAny _ _ (truthy _) _ _ _)); walk1
      have hfo : (!(Builtin.Str.occurrences (Str.ofString "()\"\\") (tx [c]) 0 (Str.ofString "()\"\\").length 1).isEmpty) = decide (c = 40 ∨ c = 41 ∨ c = 34 ∨ c = 92) := by
        refine (StrLaws.found_one _ c).trans ?_
        rw [show (Str.ofString "()\"\\").cps.toList = [40, 41, 34, 92] by decide]
        simp
      rw [hfo]
      refine wpAny_truthy_bool ?_
      by_cases hE : c = 40 ∨ c = 41 ∨ c = 34 ∨ c = 92
      · rw [if_pos (by simpa using hE)]
        repeat' walk1
        exact ⟨_, _, by rw [escOf, if_pos hE]; exact congrArg (fun u => Value.str u _) (by decide), rfl⟩
      · rw [if_neg (by simpa using hE)]
        repeat' walk1
        exact ⟨_, _, by rw [escOf, if_neg hE]; exact congrArg (fun u => Value.str u _) (by decide), rfl⟩
    rintro v sv ⟨t12, k12, rfl, rfl⟩
    refine addtx (by simp; omega) fun t13 k13 => ?_
    repeat' (fail_if_success (with_reducible show wpAny _ _ (subscriptTail _ _ _ _) _ _ _)); walk1
    refine sub_tx hcj (by omega) (fun t14 k14 => ?_) (by with_unfolding_all rfl) (by intro _; with_unfolding_all rfl)
    refine addtx (by simp; omega) fun t15 k15 => ?_
    repeat' (fail_if_success (with_reducible show wpAny _ _ (call (Value.builtin "list.append") _) _ _ _)); walk1
    rename Fr _ _ _ _ => F₁₂
    rename News _ _ _ _ => N₁₂
    rename_i tcc
    rw [hco]
    refine app1 (ys := pl) F₁₂ N₁₂ (.head _) (rest := [(D, { cls := .type "list", data := .seq (List.toArray dv) kd }), (Dc, { cls := .type "list", data := .seq (List.toArray cv) kc }), (Dr, { cls := .type "list", data := .seq (List.toArray rv) kr }), (I, oI), (L + 1, oc₂)]) (fun p hp => ⟨.tail _ hp, Nat.ne_of_lt (hap p hp)⟩) ?_ fun h₁₃ k₁₃ F₁₃ N₁₃ hs₁₃ => ?_
    · rw [iP.2.length, List.length_take]
      omega
    repeat' (fail_if_success (with_reducible show wpAny _ _ (call (Value.builtin "len") _) _ _ _)); walk1
    rename Fr _ _ _ _ => F₁₄
    rename News _ _ _ _ => N₁₄
    have hpl : pl.length = kp := by
      rw [iP.2.length, List.length_take]
      omega
    refine call_len_list (N₁₄.isList (.head _)) (by simp [hpl]; omega) ?_
    rw [show ∀ v : Value, (List.toArray (pl ++ [v])).size = kp + 1 from fun v => by simp [hpl]]
    repeat' (fail_if_success (with_reducible show wpAny _ _ (call (Value.builtin "list.append") _) _ _ _)); walk1
    rename Fr _ _ _ _ => F₁₅
    rename News _ _ _ _ => N₁₅
    refine app1 (ys := dv) F₁₅ N₁₅ (.tail _ (.head _)) (rest := [(O₂, { cls := .type "list", data := .seq (List.toArray (pl ++ [Value.int (cOf (some c)) tcc])) k₁₃ }), (Dc, { cls := .type "list", data := .seq (List.toArray cv) kc }), (Dr, { cls := .type "list", data := .seq (List.toArray rv) kr }), (I, oI), (L + 1, oc₂)]) (fun p hp => ?_) (by rw [hdvl]; exact Nat.le_trans hD1 (by decide)) fun h₁₆ k₁₆ F₁₆ N₁₆ hs₁₆ => ?_
    · have hc1 : L + 1 ≠ D := fun q => by
        have h1 := (N₁₅ _ (.tail _ (.head _))).1
        have h2 := (N₁₅ (L + 1, oc₂) (by simp)).1
        rw [q, h1] at h2
        cases h2
        cases hoc₂.2
      rcases List.mem_cons.mp hp with rfl | hp
      · exact ⟨.head _, x₂.od⟩
      · refine ⟨.tail _ (.tail _ hp), ?_⟩
        rcases List.mem_cons.mp hp with rfl | hp
        · exact x₂.dc.symm
        rcases List.mem_cons.mp hp with rfl | hp
        · exact x₂.dr.symm
        rcases List.mem_cons.mp hp with rfl | hp
        · exact x₂.di.symm
        rcases List.mem_singleton.mp hp with rfl
        exact hc1
    repeat' walk1
    rename Fr _ _ _ _ => F₁₇
    rename News _ _ _ _ => N₁₇
    obtain ⟨dv', hdv', hidv⟩ : ∃ dv', h₁₆.PlainList D (List.toArray dv') ∧ IntsAre dv' ((bat th j).depths ++ [((kp + 1 : Nat) : Int)]) := ⟨_, ⟨_, (N₁₇ _ (.head _)).1⟩, B.id.append (.cons _ _ .nil)⟩
    refine ⟨_, Rel.heap (s := s₂) _ _, F₁₇, ⟨Y.keep (hYk fun p hp => (N₁₇ p (.tail _ (.tail _ hp))).1) hthings.symm Y.codes.symm, O₂, D, pl ++ [Value.int (cOf (some c)) tcc], dv', ?_, x₂⟩, hIk (N₁₇ (I, oI) (by simp)).1⟩
    rw [bat_succ hmo]
    have hk0 : (bat th j).kept (codeOf c) = kp := hkk
    refine ⟨⟨t15, ?_⟩, rfl, rfl, ⟨_, (N₁₇ _ (.tail _ (.head _))).1⟩, ?_, hdv', ?_⟩
    · show some (Value.str _ _) = some (Value.str _ _)
      simp only [bst, hk0, List.append_assoc]
    · simp only [bst, hk0]
      exact iP.2.append (.cons _ _ .nil)
    · simp only [bst, hk0]
      exact hidv
theorem lawP7 {w : World} {A : Around} {mg mb : Str → Option Value} {s₁ : Shared} (W : Wd w mg mb s₁.heap) (hh : A.handled = none) (hA : A.depth ≤ 400) {L fa : Addr} {cd : Value} {Q : Flow → Shared → Prop} {th : List Nat} (hth : th.length ≤ 6) (hal : ∀ c ∈ th, c ∈ alph)
    {Dc Dr : Addr} {cv rv : List Value} (hic : IntsAre cv (codesOf th))
    (next : ∀ s m O D ov dv, LC s₁ L th Dc Dr cv rv s m → LB (bat th (th.length + 1)) O D ov dv s.heap m → s₁.heap.get? D = none → wpAny (model pw w) A (execs (dL.body.drop 13) (EL L fa cd)) Q (fun _ _ => False) s)
    {s : Shared} {m : Str → Option Value} (X : LC s₁ L th Dc Dr cv rv s m) :
    wpAny (model pw w) A (execs (dL.body.drop 9) (EL L fa cd)) Q (fun _ _ => False) s := by
  obtain ⟨f1, f2, f3, f4, f5, f6, f7, f8⟩ := X.fresh
  obtain ⟨KX, T⟩ := id W
  obtain ⟨oc, hoc, N0⟩ := X.ls.news
  obtain ⟨kc, hDc⟩ := X.lh.lc
  obtain ⟨kr, hDr⟩ := X.lh.lr
  have hab := X.fr.above
  have N : News s₁.heap L s.heap [(Dc, { cls := .type "list", data := .seq (List.toArray cv) kc }), (Dr, { cls := .type "list", data := .seq (List.toArray rv) kr }), (L + 1, oc)] := fun p hp => by
    rcases List.mem_cons.mp hp with rfl | hp
    · exact ⟨hDc, f5, X.nc⟩
    rcases List.mem_cons.mp hp with rfl | hp
    · exact ⟨hDr, f6, X.nr⟩
    exact N0 p hp
  clear N0
  have F := frForm1 X.fr X.lh.codes
  have hclen : (cv.length : Int) ≤ 7 := by
    have : cv.length = th.length + 1 := by rw [hic.length, codesOf]; simp
    omega
  show wpAny _ _ (execs (_ :: _ :: _ :: _ :: dL.body.drop 13) _) _ _ _
  repeat' (fail_if_success (with_reducible show wpAny _ _ (exec (Stmt.For _ _ _ _ _) _) _ _ _)); walk1
  refine wpAny_For ?_
  repeat' (fail_if_success (with_reducible show wpAny _ _ (call (Value.builtin "len") _ _) _ _ _)); walk1
  rename Fr _ _ _ _ => F₁
  rename News _ _ _ _ => N₁
  rename_i O₀ _ _ _ _ D₀ _ l2 h₁
  have hcl : cv.length = th.length + 1 := by rw [hic.length, codesOf]; simp
  refine call_len_list (N₁.isList (.tail _ (.tail _ (.head _)))) (by simp [hcl]; omega) ?_
  repeat' (fail_if_success (with_reducible show wpAny _ _ (call (Value.type "range") _ _) _ _ _)); walk1
  rw [show cv.toArray.size = th.length + 1 by simp [hcl]]
  have hDc₁ := (N₁ _ (.tail _ (.tail _ (.head _)))).1
  have hDr₁ := (N₁ _ (.tail _ (.tail _ (.tail _ (.head _))))).1
  have hLc₁ := (N₁ (L + 1, oc) (by simp)).1
  have hO₁ := (N₁ _ (.tail _ (.head _))).1
  have hD₁ := (N₁ _ (.head _)).1
  have hLlt := F₁.ns.lt
  have hab₁ : s₁.heap.objs.size ≤ h₁.objs.size + 1 := Nat.le_succ_of_le (Nat.le_trans F₁.above (Nat.le_of_lt hLlt))
  have dn : ∀ {b o}, h₁.get? b = some o → b ≠ h₁.objs.size + 1 := fun e => Nat.ne_of_lt (Nat.lt_succ_of_lt (Heap.lt_size e))
  refine rng1 (s := { s with heap := h₁, toks := _ }) hh (by omega) rfl rfl F₁
    (fun j m h => LH L th Dc Dr cv rv h m ∧ ∃ O D ov dv, LB (bat th j) O D ov dv h m ∧ LX s₁ (h₁.objs.size + 1) Dc Dr O D ∧ O ≠ L ∧ D ≠ L) ?_ ?_ ?_ ?_
  · obtain ⟨tg, hth'⟩ := X.lh.things
    refine ⟨⟨⟨oc, hLc₁, hoc⟩, ⟨tg, hth'⟩, rfl, ⟨_, hDc₁⟩, ⟨_, hDr₁⟩⟩, O₀, D₀, [], [], ⟨⟨_, rfl⟩, rfl, rfl, ⟨_, hO₁⟩, .nil, ⟨_, hD₁⟩, .nil⟩, ⟨Nat.ne_of_lt (by omega), Nat.ne_of_gt (by omega), Nat.ne_of_gt (by omega), Nat.ne_of_gt (by omega), Nat.ne_of_gt (by omega), dn hO₁, dn hD₁, (N₁ _ (.tail _ (.head _))).2.2, (N₁ _ (.head _)).2.2⟩, (N₁ _ (.tail _ (.head _))).2.1, (N₁ _ (.head _)).2.1⟩
  · rintro j m h h' ⟨Y, O, D, ov, dv, B, x, y1, y2⟩ hk
    refine ⟨Y.keep fun b o hb e => hk b o ?_ ?_ e, O, D, ov, dv, B.keep fun b o hb e => hk b o ?_ ?_ e, x, y1, y2⟩
    · rcases hb with rfl | rfl | rfl
      · exact dn hLc₁
      · exact dn hDc₁
      · exact dn hDr₁
    · rcases hb with rfl | rfl | rfl
      · exact Nat.succ_ne_self _
      · exact f5
      · exact f6
    · rcases hb with rfl | rfl
      · exact x.oi
      · exact x.di
    · rcases hb with rfl | rfl
      · exact y1
      · exact y2
  · rintro j t m₁ s₂ hj ⟨Y, O, D, ov, dv, B, x, y1, y2⟩ hr ⟨oI, hoI, hcI⟩ F₂
    refine wpAny_mono (stepP7 W hh hA hth hal hic (Nat.ne_of_gt (Nat.lt_succ_of_lt hLlt)) (none_above hab₁) X.nc X.nr f5 f6 hj Y B x hoI F₂ (R := fun _ _ => False)) (fun f s₃ h => ?_) fun _ _ h => h
    have fin : ∀ {m₂}, Fr s₁.heap L s₃.heap m₂ → (∃ O D ov dv, LB (bat th (j + 1)) O D ov dv s₃.heap m₂ ∧ LX s₁ (h₁.objs.size + 1) Dc Dr O D) → ∃ O D ov dv, LB (bat th (j + 1)) O D ov dv s₃.heap m₂ ∧ LX s₁ (h₁.objs.size + 1) Dc Dr O D ∧ O ≠ L ∧ D ≠ L :=
      fun F ⟨O, D, ov, dv, B, x⟩ => ⟨O, D, ov, dv, B, x, ne_of_list F.ns B.lo.isList, ne_of_list F.ns B.ld.isList⟩
    cases f with
    | brk => exact h.elim
    | ret v => exact h.elim
    | next =>
      obtain ⟨m₂, a, b, ⟨c1, c2⟩, d⟩ := h
      exact ⟨m₂, a, b, ⟨c1, fin b c2⟩, d⟩
    | cont =>
      obtain ⟨m₂, a, b, ⟨c1, c2⟩, d⟩ := h
      exact ⟨m₂, a, b, ⟨c1, fin b c2⟩, d⟩
  · rintro m' s' hr F' ⟨Y, O, D, ov, dv, B, x, y1, y2⟩
    exact next s' m' O D ov dv ⟨F', X.rel.trans ((Rel.heap (s := s) _ _).trans hr), Y, X.nc, X.nr⟩ B x.nd
end Mine
end
section
set_option maxRecDepth 100000
set_option maxHeartbeats 4000000
namespace Mine
open PySem PySem.W PySem.Calls PyProof.Rows
section
variable {w : World} {A : Around} {h₀ : Heap} {env : Env} {scope : Scope} {cl : List (Str × Addr)} {elt iter : Expr} {s : Shared} {pos spos px py pt : Pos} {k : Nat} {ifs : List Expr}
/-- over the generator's pairs, two names -/
theorem does_gen {mg mb : Str → Option Value} (W : Wd w mg mb h₀) (hh : A.handled = none) (hroom : A.depth < recursionLimit) {x y : Str} {s₂ : Shared} {a g Cg : Addr} {us : List (Nat × List Nat)} (Gn : GenIt w A h₀ a g Cg us 0 s₂)
    (hbase : ∀ b o, h₀.get? b = some o → s₂.heap.get? b = some o) (hsize : h₀.objs.size ≤ s₂.heap.objs.size) (hsz : us.length ≤ sizeLine)
    (hxy : x ≠ y) (hx : scope.names.lookup x = some .local) (hy : scope.names.lookup y = some .local) (hkind : scope.kind = .function) (p : Nat → Bool) (G : Nat → Value → List (Addr × Obj) → Prop)
    (htest : ∀ C i q t1 t2 (s : Shared) m, us[i]? = some q → Fr h₀ C s.heap m → m x = some (.int (q.1 : Nat) t1) → m y = some (.str ⟨q.2.toArray⟩ t2) → TestOk w A (compEnvC scope cl C env) p ifs i s)
    (helt : ∀ C i q t1 t2 (s : Shared) m, us[i]? = some q → p i = true → Fr h₀ C s.heap m → m x = some (.int (q.1 : Nat) t1) → m y = some (.str ⟨q.2.toArray⟩ t2) → EltOk w A (compEnvC scope cl C env) G elt i s) :
    CompDoes w A h₀ env scope cl elt (.Tuple [.Name x px, .Name y py] k pt) ifs s₂ a us.length (fun i v h => ∃ T p u t1 t2, v = .ref T ∧ us[i]? = some (p, u) ∧ h.get? T = some (tup2 (p : Nat) u t1 t2)) (fun i s => GenIt w A h₀ a g Cg us i s)
      (fun b o => b ≠ Cg ∧ ¬ Loud o) (fun b o => b = Cg ∨ b = a ∨ Loud o) p G (fun i m => ∃ q t1 t2, us[i]? = some q ∧ m x = some (.int (q.1 : Nat) t1) ∧ m y = some (.str ⟨q.2.toArray⟩ t2)) := by
  have hCg : Cg < s₂.heap.objs.size := by obtain ⟨_, _, _, ⟨o, ho⟩, _⟩ := Gn; exact Heap.lt_size ho
  have ha : a < s₂.heap.objs.size := by obtain ⟨⟨o, _, _, ho, _⟩, _⟩ := Gn; exact Heap.lt_size ho
  have frOf : ∀ {C : Addr} {s : Shared} {m : Str → Option Value}, s₂.heap.objs.size ≤ C → s.heap.Ns C m → (∀ b o, h₀.get? b = some o → s.heap.get? b = some o) → Fr h₀ C s.heap m := fun hC hn hk => ⟨hn, hk, Nat.le_trans hsize hC⟩
  refine ⟨Src.gen W hh hroom a g Cg us, hsz, Gn, hbase, ?_, ?_, ?_, ?_⟩
  · intro b o hb hl
    have n1 : b ≠ Cg := Nat.ne_of_gt (Nat.lt_of_lt_of_le hCg hb)
    have n2 : b ≠ a := Nat.ne_of_gt (Nat.lt_of_lt_of_le ha hb)
    refine ⟨⟨n1, hl⟩, fun h => ?_⟩
    rcases h with h | h | h
    · exact n1 h
    · exact n2 h
    · exact hl h
  · intro C i v s m hC hi hP hn hk hb
    obtain ⟨T, p', u, t1, t2, rfl, hu, hT⟩ := hP
    exact wpAny_mono (assignTup hh hxy hx hy hkind hn ⟨_, hT, rfl, _, rfl⟩) (fun _ s₂ ⟨h₂, tk₂, m₂, q1, q2, q3, q4⟩ => ⟨h₂, tk₂, m₂, q1, q2, ⟨(p', u), t1, t2, hu, q3.1, q3.2⟩, q4⟩) fun _ _ x => x
  · intro C i s m hC hi ⟨q, t1, t2, hq, h1, h2⟩ hn hk hb
    exact htest C i q t1 t2 s m hq (frOf hC hn hb) h1 h2
  · intro C i s m hC hi hp ⟨q, t1, t2, hq, h1, h2⟩ hn hk hb
    exact helt C i q t1 t2 s m hq hp (frOf hC hn hb) h1 h2
theorem compAssign_gen {mg mb : Str → Option Value} (W : Wd w mg mb h₀) (hh : A.handled = none) (hroom : A.depth < recursionLimit) {x x' y : Str} {Q : Flow → Shared → Prop} {E : Value → Shared → Prop} {tp : Pos} (p : Nat → Bool) (G : Nat → Value → List (Addr × Obj) → Prop)
    (hsw : swapsWith (.ListComp elt [⟨.Tuple [.Name x px, .Name x' pt] k tp, iter, ifs, 0⟩] scope pos) (some (.Name y py)) spos.line env = pure true)
    (hclos : closureFor scope env = pure cl) (hcell : ∀ y ∈ scope.names, y.2 ≠ .cell) (hkind : scope.kind = .function) (hnames : ∀ y ∈ scope.names, y.2 = .local → scope.names.lookup y.1 = some .local) (hxx : x ≠ x') (hx : scope.names.lookup x = some .local) (hx' : scope.names.lookup x' = some .local)
    (hy : env.kindOf y = some .local) (hp : (env.scope.kind == .class || (env.scope.kind == .module && env.locals != env.globals)) = false)
    (h : wpAny (model pw w) A (eval iter env) (fun xv s₁ => Seal (∃ a g Cg us m, xv = .ref a ∧ GenIt w A h₀ a g Cg us 0 s₁ ∧ Fr h₀ env.locals s₁.heap m ∧ env.locals ≠ Cg ∧ us.length ≤ sizeLine ∧
      (∀ C i q t1 t2 (s : Shared) m', us[i]? = some q → Fr h₀ C s.heap m' → m' x = some (.int (q.1 : Nat) t1) → m' x' = some (.str ⟨q.2.toArray⟩ t2) → TestOk w A (compEnvC scope cl C env) p ifs i s) ∧
      (∀ C i q t1 t2 (s : Shared) m', us[i]? = some q → p i = true → Fr h₀ C s.heap m' → m' x = some (.int (q.1 : Nat) t1) → m' x' = some (.str ⟨q.2.toArray⟩ t2) → EltOk w A (compEnvC scope cl C env) G elt i s) ∧
      (∀ D s' ys, Rel s₁ s' → s₁.heap.objs.size ≤ D → s'.heap.PlainList D ys → Paired (Got G s'.heap) ((List.range us.length).filter p) ys.toList → Fr h₀ env.locals s'.heap (fun z => if z = y then some (.ref D) else m z) →
        (∀ b o, b ≠ env.locals → b ≠ Cg → ¬ Loud o → s₁.heap.get? b = some o → s'.heap.get? b = some o) → Q .next s'))) E s)
    (hs : ∀ x, foldedSetIterable iter env x = pure x := by intro _; rfl) :
    wpAny (model pw w) A (exec (.Assign [.Name y py] (.ListComp elt [⟨.Tuple [.Name x px, .Name x' pt] k tp, iter, ifs, 0⟩] scope pos) spos) env) Q E s := by
  refine compAssign (hw := h₀) hsw hclos hcell hkind hnames hy hp (wpAny_mono h (fun xv s₁ h₁ => ?_) fun _ _ e => e) hs
  obtain ⟨a, g, Cg, us, m, rfl, Gn, F, hLC, hsz, htest, helt, hQ⟩ := h₁
  have hsize : h₀.objs.size ≤ s₁.heap.objs.size := Nat.le_trans F.above (Nat.le_of_lt F.ns.lt)
  refine wpAny_pyIter_gen Gn.1 ⟨_, _, _, _, _, _, _, _, _, m, rfl, does_gen W hh hroom Gn F.keep hsize hsz hxx hx hx' hkind p G htest helt, hsize, none_above F.above, F.ns, fun o hl => ⟨hLC, hl⟩, ?_⟩
  intro D s' ys hr hD hl' hG hn hk hb
  exact hQ D s' ys hr hD hl' hG ⟨hn, hb, F.above⟩ fun b o h1 h2 h3 e => hk b o h1 ⟨h2, h3⟩ e
end
/-- text and depths, once they are whole -/
structure LT (th : List Nat) (D : Addr) (dv : List Value) (h : Heap) (m : Str → Option Value) : Prop where
  text : ∃ t, m (Str.ofString "text") = some (.str (tx (bat th (th.length + 1)).text) t)
  depths : m (Str.ofString "depths") = some (.ref D)
  ld : h.PlainList D dv.toArray
  id : IntsAre dv ((List.range th.length).map fun i => (wOf th i : Int))
theorem LT.keep {th : List Nat} {D : Addr} {dv : List Value} {h h' : Heap} {m m' : Str → Option Value} (X : LT th D dv h m) (hk : ∀ o, h.get? D = some o → h'.get? D = some o)
    (e1 : m' (Str.ofString "text") = m (Str.ofString "text") := by rfl) (e3 : m' (Str.ofString "depths") = m (Str.ofString "depths") := by rfl) : LT th D dv h' m' :=
  ⟨e1 ▸ X.text, e3 ▸ X.depths, X.ld.at fun o e => hk o e, X.id⟩
def GUnit (us : List (Nat × List Nat)) (i : Nat) (y : Value) (own : List (Addr × Obj)) : Prop := ∃ T q t1 t2, us[i]? = some q ∧ y = .ref T ∧ own = [(T, tup2 (q.1 : Nat) q.2 t1 t2)]
def UnitAt (h : Heap) (q : Nat × List Nat) (y : Value) : Prop := ∃ T t1 t2, y = .ref T ∧ h.get? T = some (tup2 (q.1 : Nat) q.2 t1 t2)
theorem got_units {us : List (Nat × List Nat)} {h : Heap} : ∀ {is : List Nat} {ys : List Value}, Paired (Got (GUnit us) h) is ys → Paired (UnitAt h) (is.filterMap (us[·]?)) ys
  | _, _, .nil => .nil
  | _, _, .cons (a := i) ⟨own, ho, T, q, t1, t2, e1, e2, e3⟩ r => by
    subst e2 e3
    rw [List.filterMap_cons, e1]
    exact .cons ⟨T, t1, t2, rfl, (ho _ (.head _)).1⟩ (got_units r)
theorem filter_units {α : Type} [Inhabited α] (us : List α) (p : α → Bool) : ((List.range us.length).filter fun i => p (us.getD i default)).filterMap (us[·]?) = us.filter p := by
  have e : us = (List.range us.length).map fun i => us.getD i default := by
    apply List.ext_getElem
    · simp
    · intro i h1 h2
      simp [List.getD, List.getElem?_eq_getElem h1]
  conv => rhs; rw [e]
  rw [List.filter_map]
  have : ∀ l : List Nat, (∀ i ∈ l, i < us.length) → l.filterMap (us[·]?) = l.map fun i => us.getD i default := by
    intro l hl
    induction l with
    | nil => rfl
    | cons i r ih =>
      have hi := hl i (.head _)
      rw [List.filterMap_cons, List.getElem?_eq_getElem hi, List.map_cons, ih fun j hj => hl j (.tail _ hj)]
      simp [List.getD, List.getElem?_eq_getElem hi]
  rw [this]
  · rfl
  · intro i hi
    exact List.mem_range.mp (List.mem_filter.mp hi).1
theorem paired_at {α β : Type} {F : α → β → Prop} : ∀ {l₁ : List α} {l₂ : List β}, Paired F l₁ l₂ → ∀ (i : Nat) a, l₁[i]? = some a → ∃ b, l₂[i]? = some b ∧ F a b
  | _, _, .nil, i, a, h => by simp at h
  | _, _, .cons hf r, 0, a, h => by cases h; exact ⟨_, rfl, hf⟩
  | _, _, .cons hf r, i + 1, a, h => paired_at r i a (by simpa using h)
theorem escU_len : ∀ (cs : List Nat) (i : Nat) (e : Bool), (escU i e cs).length ≤ cs.length + (if e then 1 else 0)
  | [], i, e => by cases e <;> simp [escU]
  | c :: r, i, true => by
    have := escU_len r (i + 1) false
    simp only [escU, List.length_cons, if_true, Bool.false_eq_true, if_false] at this ⊢
    omega
  | c :: r, i, false => by
    simp only [escU]
    split
    · have := escU_len r (i + 1) true
      simp only [List.length_cons, if_true, Bool.false_eq_true, if_false] at this ⊢
      omega
    · have := escU_len r (i + 1) false
      simp only [List.length_cons, Bool.false_eq_true, if_false] at this ⊢
      omega
theorem lawP8 {w : World} {A : Around} {mg mb : Str → Option Value} {s₁ : Shared} (W : Wd w mg mb s₁.heap) (hh : A.handled = none) (hA : A.depth ≤ 400) {L fa : Addr} {cd : Value} {Q : Flow → Shared → Prop} {th : List Nat} (hth : th.length ≤ 6) (hal : ∀ c ∈ th, c ∈ alph)
    {Dc Dr D : Addr} {cv rv dv : List Value} (hnd : s₁.heap.get? D = none)
    (next : ∀ s m U uv, LC s₁ L th Dc Dr cv rv s m → LT th D dv s.heap m → m (Str.ofString "units") = some (.ref U) → s.heap.PlainList U (List.toArray uv) → Paired (UnitAt s.heap) ((List.range th.length).map (thUnit th)) uv → wpAny (model pw w) A (execs (dL.body.drop 14) (EL L fa cd)) Q (fun _ _ => False) s)
    {s : Shared} {m : Str → Option Value} (X : LC s₁ L th Dc Dr cv rv s m) (B : LT th D dv s.heap m) :
    wpAny (model pw w) A (execs (dL.body.drop 13) (EL L fa cd)) Q (fun _ _ => False) s := by
  obtain ⟨KX, T⟩ := id W
  obtain ⟨oc, hoc, N⟩ := X.ls.news
  obtain ⟨tt, htext⟩ := B.text
  have F := frForm1 X.fr htext
  show wpAny _ _ (execs (_ :: dL.body.drop 14) _) _ _ _
  refine wpAny_execs_cons ?_
  generalize hus : escU 0 false (bat th (th.length + 1)).text = us
  refine compAssign_gen (h₀ := s₁.heap) (cl := []) W hh (Nat.lt_of_le_of_lt hA (by decide)) (fun i => isTh (us.getD i default)) (GUnit us) (by with_unfolding_all rfl) (by with_unfolding_all rfl) (by decide) (by rfl) (by decide) (by decide) (by rfl) (by rfl) (by rfl) (by rfl) ?_
  repeat' (fail_if_success (with_reducible show wpAny _ _ (call (Value.ref 21) _ _) _ _ _)); walk1
  have hbsz := F.above
  refine wpAny_call (call_iter W hh (Nat.le_trans hA (by decide)) F.keep (Nat.le_trans F.above (Nat.le_of_lt F.ns.lt)) (tx (bat th (th.length + 1)).text) tt ?_)
  intro a g C s₂ G hsame hk₂ hbare hC ha
  have e : escU 0 false (tx (bat th (th.length + 1)).text).cps.toList = us := by rw [← hus]; simp [tx]
  rw [e] at G
  have hLh := F.ns.lt
  have hLC : L ≠ C := Nat.ne_of_lt (Nat.lt_of_lt_of_le hLh hC)
  have hrel : Rel s₁ s₂ := by
    refine X.rel.trans ?_
    obtain ⟨h, tk, gs, rfl⟩ := hsame
    exact ⟨⟨_, _, _, rfl⟩, hbare⟩
  have husl : us.length ≤ sizeLine := by
    have h1 := escU_len (bat th (th.length + 1)).text 0 false
    have h2 := (bat_ok th (th.length + 1)).2.1
    rw [hus] at h1
    simp only [Bool.false_eq_true, if_false] at h1
    exact Nat.le_trans (by omega : us.length ≤ 28) (by decide)
  refine ⟨a, g, C, us, _, rfl, G, F.keeps hk₂, hLC, husl, ?_, ?_, ?_⟩
  · intro C i q t1 t2 s' m' hq F' hp hu
    have W' := W.keeps F'.keep
    refine wpAny_tests_one ?_
    repeat' (fail_if_success (with_reducible show wpAny _ _ (eval (Expr.Name _ _) _) _ _ _)); walk1
    refine nmL F' hu ?_
    repeat' walk1
    refine wpAny_newObj_type ?_ (by size_fits)
    refine notin_tuple_strs (ys := [Str.ofString "(", Str.ofString ")"]) ⟨_, Heap.get?_push_size _ rfl, rfl, _, rfl⟩ (.cons _ _ (.cons _ _ .nil)) ?_
    refine wpAny_truthy_bool ⟨?_, _, _, rfl, fun b o e => Heap.get?_push_of_some _ e⟩
    have hd : us.getD i default = q := by simp [List.getD, hq]
    rw [hd]
    have e1 : (Str.ofString "(" == (⟨q.2.toArray⟩ : Str)) = decide (q.2 = [40]) := by
      rw [Bool.eq_iff_iff, beq_iff_eq, decide_eq_true_eq, show Str.ofString "(" = ⟨[40].toArray⟩ from by decide]
      constructor
      · intro h
        have := congrArg (fun z => z.cps.toList) h
        simpa using this.symm
      · intro h
        rw [h]
    have e2 : (Str.ofString ")" == (⟨q.2.toArray⟩ : Str)) = decide (q.2 = [41]) := by
      rw [Bool.eq_iff_iff, beq_iff_eq, decide_eq_true_eq, show Str.ofString ")" = ⟨[41].toArray⟩ from by decide]
      constructor
      · intro h
        have := congrArg (fun z => z.cps.toList) h
        simpa using this.symm
      · intro h
        rw [h]
    show (!([Str.ofString "(", Str.ofString ")"].any fun z => z == (⟨q.2.toArray⟩ : Str))) = isTh q
    rw [List.any_cons, List.any_cons, List.any_nil, e1, e2, isTh]
    by_cases h1 : q.2 = [40] <;> by_cases h2 : q.2 = [41] <;> simp [h1, h2]
  · intro C i q t1 t2 s' m' hq hpi F' hp hu
    have W' := W.keeps F'.keep
    repeat' (fail_if_success (with_reducible show wpAny _ _ (eval (Expr.Name _ _) _) _ _ _)); walk1
    refine nmL F' hp ?_
    repeat' (fail_if_success (with_reducible show wpAny _ _ (eval (Expr.Name _ _) _) _ _ _)); walk1
    refine nmL F' hu ?_
    repeat' walk1
    refine wpAny_newObj_type ⟨⟨_, _, rfl, fun b o e => Heap.get?_push_of_some _ e⟩, [(s'.heap.objs.size, tup2 (q.1 : Nat) q.2 t1 t2)], ?_, s'.heap.objs.size, q, t1, t2, hq, rfl, rfl⟩ (by size_fits)
    intro q' hq'
    obtain rfl := List.mem_singleton.mp hq'
    refine ⟨none_above (Nat.le_refl _), Heap.get?_push_size _ rfl, fun l => ?_⟩
    obtain ⟨_, vs, hv⟩ := l
    cases hv
  · intro U s' ys hr hU hl hG F' hk
    have hU2 := got_units hG
    rw [filter_units, ← hus, units_all] at hU2
    obtain ⟨ys⟩ := ys
    have up : ∀ b o, b ≠ L → ¬ Loud o → s.heap.get? b = some o → s'.heap.get? b = some o := fun b o h1 h2 e => hk b o h1 (Nat.ne_of_lt (Nat.lt_of_lt_of_le (Heap.lt_size e) hC)) h2 (hk₂ b o e)
    have upl : ∀ {b : Addr} {items : Array Value}, s.heap.PlainList b items → ∀ o, s.heap.get? b = some o → s'.heap.get? b = some o := fun hb o e => by
      obtain ⟨k, ek⟩ := id hb
      rw [ek] at e
      cases e
      exact up _ _ (ne_of_list X.fr.ns hb.isList) (list_quiet rfl) ek
    refine next s' _ U ys ⟨F', hrel.trans hr, X.lh.keep (fun b o hb e => ?_), X.nc, X.nr⟩ (B.keep (upl B.ld) htext.symm) rfl hl hU2
    rcases hb with rfl | rfl | rfl
    · refine up _ _ (Nat.succ_ne_self _) ?_ e
      rintro ⟨_, vs, hv⟩
      rw [(N _ (.head _)).1] at e
      cases e
      rw [hoc] at hv
      cases hv
    · exact upl X.lh.lc o e
    · exact upl X.lh.lr o e
end Mine
end
section
set_option maxRecDepth 100000
set_option maxHeartbeats 4000000
namespace Mine
open PySem PySem.W PySem.Calls PyProof.Rows
theorem char_last {u : List Nat} {c : Nat} : Txt.charAt (tx (u ++ [c])) (-1) = some c := by
  unfold Txt.charAt
  have e : seqIndex? (-1) (tx (u ++ [c])).length = some u.length := by
    rw [tx_len]
    unfold seqIndex?
    have h1 : (((u ++ [c]).length : Nat) : Int) + -1 = (u.length : Nat) := by simp; omega
    have h2 : ((-1 : Int) < 0) := by decide
    have h3 : u.length < (u ++ [c]).length := by simp
    have h4 : ((u ++ [c]).length : Int) = u.length + 1 := by simp
    rw [h4]
    simp only [h2, if_true]
    rw [if_pos (by simp; omega)]
    congr 1
    omega
  rw [e]
  simp [tx]
theorem sub_last {w : World} {A : Around} {E : Value → Shared → Prop} {s : Shared} {value slice : Expr} {u : List Nat} {t v : Tok} {c : Nat} {Q : Value → Shared → Prop}
    (hQ : ∀ t' k, Q (.str (tx [c]) t') { s with toks := k })
    (hs : subscripted slice false (.str (tx (u ++ [c])) t) (.int (-1) v) = operate [.str (tx (u ++ [c])) t, .int (-1) v] (getItem (.str (tx (u ++ [c])) t) (.int (-1) v))) (ht : ∀ r, letTemporaryGo value (.str (tx (u ++ [c])) t) r = pure ()) :
    wpAny (model pw w) A (subscriptTail value slice (.str (tx (u ++ [c])) t) (.int (-1) v)) Q E s := by
  refine tail_of_ItemOn (SB.item ?_ ?_ ?_) hs ht
  · unfold fitsSsize
    decide
  · rw [char_last]
    rfl
  · have : Txt.item (tx (u ++ [c])) (-1) = tx [c] := by
      unfold Txt.item
      rw [char_last]
      rfl
    rw [this]
    exact hQ _ _
/-- a call of _check_parenthesis -/
theorem callCheck {w : World} {A : Around} {mg mb : Str → Option Value} {h₀ : Heap} {E : Value → Shared → Prop} {s : Shared} {u : List Nat} {t : Tok} {Q : Value → Shared → Prop} (W : Wd w mg mb h₀) (hh : A.handled = none) (hA : A.depth ≤ 440) (hk : ∀ b o, h₀.get? b = some o → s.heap.get? b = some o) (hlen : u.length ≤ 1000)
    (next : ∀ s', Rel s s' → (∀ b o, s.heap.get? b = some o → s'.heap.get? b = some o) → Q (.bool (checkF u)) s') : wpAny (model pw w) A (call (.ref 35) [.str (tx u) t]) Q E s := by
  refine wpAny_call (codeAny_mono (checkP (W.keeps hk) hh hA _ _ (by simpa [tx] using hlen)) fun r s' hr => ?_)
  obtain ⟨rfl, hr, hk'⟩ := hr
  rw [tx_list]
  exact next s' hr hk'
/-- the places, once they are known -/
structure LPl (th : List Nat) (P : Addr) (pv : List Value) (h : Heap) (m : Str → Option Value) : Prop where
  places : m (Str.ofString "places") = some (.ref P)
  lp : h.PlainList P pv.toArray
  ip : IntsAre pv ((List.range th.length).map fun i => (placeOf th i : Int))
theorem LPl.keep {th : List Nat} {P : Addr} {pv : List Value} {h h' : Heap} {m m' : Str → Option Value} (X : LPl th P pv h m) (hk : ∀ o, h.get? P = some o → h'.get? P = some o)
    (e1 : m' (Str.ofString "places") = m (Str.ofString "places") := by rfl) : LPl th P pv h' m' :=
  ⟨e1 ▸ X.places, X.lp.at fun o e => hk o e, X.ip⟩
theorem unit_items {h : Heap} {th : List Nat} {uv : List Value} (hU : Paired (UnitAt h) ((List.range th.length).map (thUnit th)) uv) : uv.length = th.length ∧ ∀ i, i < th.length → ∃ T t1 t2, uv[i]? = some (Value.ref T) ∧ h.get? T = some (tup2 (placeOf th i : Nat) (thUnit th i).2 t1 t2) := by
  refine ⟨by have := hU.length; simpa using this.symm, fun i hi => ?_⟩
  obtain ⟨b, hb, T, t1, t2, e, hT⟩ := paired_at hU i (thUnit th i) (by simp [hi])
  subst e
  exact ⟨T, t1, t2, hb, hT⟩
theorem lawP9 {w : World} {A : Around} {mg mb : Str → Option Value} {s₁ : Shared} (W : Wd w mg mb s₁.heap) (hh : A.handled = none) (hA : A.depth ≤ 400) {L fa : Addr} {cd : Value} {Q : Flow → Shared → Prop} {th : List Nat} (hth : th.length ≤ 6) (hal : ∀ c ∈ th, c ∈ alph)
    {Dc Dr D : Addr} {cv rv dv : List Value} (hnd : s₁.heap.get? D = none)
    (next : ∀ s m P pv, LC s₁ L th Dc Dr cv rv s m → LT th D dv s.heap m → LPl th P pv s.heap m → s₁.heap.get? P = none → wpAny (model pw w) A (execs (dL.body.drop 16) (EL L fa cd)) Q (fun _ _ => False) s)
    {s : Shared} {m : Str → Option Value} {U : Addr} {uv : List Value} (X : LC s₁ L th Dc Dr cv rv s m) (B : LT th D dv s.heap m) (hun : m (Str.ofString "units") = some (.ref U)) (hul : s.heap.PlainList U (List.toArray uv)) (hU : Paired (UnitAt s.heap) ((List.range th.length).map (thUnit th)) uv) :
    wpAny (model pw w) A (execs (dL.body.drop 14) (EL L fa cd)) Q (fun _ _ => False) s := by
  obtain ⟨KX, T⟩ := id W
  obtain ⟨oc, hoc, N⟩ := X.ls.news
  obtain ⟨huvl, hui⟩ := unit_items hU
  have hitems : ∀ {h : Heap}, (∀ b o, b ≠ L → s.heap.get? b = some o → h.get? b = some o) → ∀ i, i < uv.toArray.size → ∃ T a b, uv.toArray[i]? = some (Value.ref T) ∧ h.IsTuple T #[a, b] ∧ ∃ t1 t2, i < th.length ∧ a = .int (placeOf th i : Nat) t1 ∧ b = .str (tx (thUnit th i).2) t2 := fun hk i hi => by
    have hi' : i < th.length := by simpa [huvl] using hi
    obtain ⟨T', t1, t2, e1, e2⟩ := hui i hi'
    refine ⟨T', _, _, by simpa using e1, ⟨_, hk _ _ (fun q => ?_) e2, rfl, _, rfl⟩, t1, t2, hi', rfl, rfl⟩
    obtain ⟨o, _, _, ho, hd, _⟩ := X.fr.ns
    rw [← q, e2] at ho
    cases ho
    cases hd
  have hsz : uv.toArray.size = th.length := by simp [huvl]
  have hszl : uv.toArray.size ≤ sizeLine := by rw [hsz]; exact Nat.le_trans hth (by decide)
  have F := frForm1 X.fr hun
  show wpAny _ _ (execs (_ :: _ :: dL.body.drop 16) _) _ _ _
  refine wpAny_execs_cons ?_
  refine compAssign_pairs (h₀ := s₁.heap) (cl := []) hh (fun i a b => ∃ t1 t2, i < th.length ∧ a = .int (placeOf th i : Nat) t1 ∧ b = .str (tx (thUnit th i).2) t2) (fun _ => true) (fun i y own => own = [] ∧ ∃ t, y = .int ((placeOf th i : Nat) : Int) t) (by with_unfolding_all rfl) (by with_unfolding_all rfl) (by decide) (by rfl) (by decide) (by decide) (by rfl) (by rfl) (by rfl) (by rfl) ?_
  repeat' walk1
  refine ⟨U, uv.toArray, _, rfl, hul.isList, F, hszl, hitems (fun _ _ _ e => e), fun _ _ _ _ _ _ _ _ _ _ => tests_nil, ?_, ?_⟩
  · rintro C i a b s' m' ⟨t1, t2, hi, rfl, rfl⟩ _ F' ha hb
    refine nmL F' ha ?_
    exact ⟨⟨_, _, rfl, fun _ _ e => e⟩, [], by simp, rfl, t1, rfl⟩
  · intro P s₂ ys hr hP hl hG F₂ hk₂
    have hI := got_intsF (all_true hG)
    obtain ⟨ys⟩ := ys
    rw [hsz] at hI
    simp only at hI
    have hPn : s₁.heap.get? P = none := none_above (Nat.le_trans (Nat.le_trans F.above (Nat.le_of_lt F.ns.lt)) hP)
    have N₂ : News s₁.heap L s₂.heap [(L + 1, oc)] := fun p hp => by
      rcases List.mem_singleton.mp hp with rfl
      exact ⟨hk₂ _ _ (Nat.succ_ne_self _) (N _ (.head _)).1, (N _ (.head _)).2⟩
    obtain ⟨tt, htext⟩ := B.text
    obtain ⟨tg, hthings⟩ := X.lh.things
    have F₃ := frForm1 (frForm1 F₂ (x := Str.ofString "text") (v := .str (tx (bat th (th.length + 1)).text) tt) htext) (x := Str.ofString "things") (v := .str (tx th) tg) hthings
    have hr₁ : Rel s₁ s₂ := X.rel.trans hr
    clear N F
    show wpAny _ _ (execs (_ :: dL.body.drop 16) _) _ _ _
    repeat' (fail_if_success (with_reducible show wpAny _ _ (eval (Expr.ListComp _ _ _ _) _) _ _ _)); walk1
    have hb2 : s₁.heap.objs.size ≤ s₂.heap.objs.size := Nat.le_trans F₃.above (Nat.le_of_lt F₃.ns.lt)
    refine compEval_pairs (h₀ := s₁.heap) (cl := []) hh (fun i a b => ∃ t1 t2, i < th.length ∧ a = .int (placeOf th i : Nat) t1 ∧ b = .str (tx (thUnit th i).2) t2) (fun _ => true) (fun i y own => own = [] ∧ ∃ t, y = .str (tx [th.getD i 0]) t) (by with_unfolding_all rfl) (by decide) (by rfl) (by decide) (by decide) (by rfl) (by rfl) ?_
    repeat' walk1
    have hUL : U ≠ L := ne_of_list X.fr.ns hul.isList
    refine ⟨U, uv.toArray, rfl, (hul.at fun o e => hk₂ U o hUL e).isList, F₃.keep, hb2, hszl, hitems hk₂, fun _ _ _ _ _ _ _ _ _ _ => tests_nil, ?_, ?_⟩
    · rintro C i a b s' m' ⟨t1, t2, hi, rfl, rfl⟩ _ F' ha hb
      repeat' (fail_if_success (with_reducible show wpAny _ _ (eval (Expr.Name _ _) _) _ _ _)); walk1
      refine nmL F' hb ?_
      repeat' (fail_if_success (with_reducible show wpAny _ _ (subscriptTail _ _ _ _) _ _ _)); walk1
      refine sub_last (fun t' k => ?_) (by with_unfolding_all rfl) (by intro _; with_unfolding_all rfl)
      exact ⟨⟨_, _, rfl, fun _ _ e => e⟩, [], by simp, rfl, t', rfl⟩
    · intro D₄ s₄ ys₄ hr₄ hD₄ hl₄ hG₄ hk₄
      rw [hsz] at hG₄
      obtain ⟨ps₄, hps₄, hpt₄⟩ := got_strs (all_true hG₄)
      have F₄ := F₃.keeps hk₄
      have N₄ : News s₁.heap L s₄.heap [(L + 1, oc)] := N₂.grown hk₄
      clear N₂ F₃ F₂
      have hfl : ((List.range th.length).map fun i => [th.getD i 0]).flatten = th := by
        rw [range_map (fun c => [c]) th, ← List.flatMap_def, List.flatMap_singleton']
      repeat' (fail_if_success (with_reducible show wpAny _ _ (call (Value.builtin "str.join") _ _) _ _ _)); walk1
      refine SC.join (l := ps₄) (by rw [hps₄]; exact Heap.PlainList.isList (by simpa using hl₄)) hpt₄ (jokL _ (by rw [hfl, List.length_map, List.length_range]; omega)) fun t₄ k₄ => ?_
      rw [joinT, hfl]
      repeat' (fail_if_success (with_reducible show wpAny _ _ (call (Value.ref 35) _ _) _ _ _)); walk1
      · rename (tx th != tx th) = true => hne
        simp at hne
      have hlen : (bat th (th.length + 1)).text.length ≤ 1000 := by
        have h2 := (bat_ok th (th.length + 1)).2.1
        omega
      refine callCheck W hh (Nat.le_trans hA (by decide)) F₄.keep hlen fun s₅ hr₅ hk₅ => ?_
      have F₅ := F₄.keeps hk₅
      have N₅ := N₄.grown hk₅
      clear F₄ N₄
      rw [check_whole fun c hc => of_decide_eq_true (List.all_eq_true.mp code_pos c (hal c hc))]
      repeat' (fail_if_success (with_reducible show wpAny _ _ (execs (dL.body.drop 16) _) _ _ _)); walk1
      have up : ∀ b o, b ≠ L → s.heap.get? b = some o → s₅.heap.get? b = some o := fun b o hb e => hk₅ b o (hk₄ b o (hk₂ b o hb e))
      have hne : ∀ {b : Addr} {items : Array Value}, s.heap.PlainList b items → b ≠ L := fun hb => ne_of_list X.fr.ns hb.isList
      refine next s₅ _ P ys ⟨F₅, ((hr₁.trans ((Rel.heap _ _).trans hr₄)).trans (Rel.heap _ _)).trans hr₅, X.lh.keep (fun b o hb e => up b o ?_ e) hthings.symm, X.nc, X.nr⟩ (B.keep (fun o e => up _ o (hne B.ld) e) htext.symm) ⟨rfl, hl.at fun o e => hk₅ _ o (hk₄ _ o e), hI⟩ hPn
      rcases hb with rfl | rfl | rfl
      · exact Nat.succ_ne_self _
      · exact hne X.lh.lc
      · exact hne X.lh.lr
end Mine
end
section
set_option maxRecDepth 100000
set_option maxHeartbeats 4000000
namespace Mine
open PySem PySem.W PySem.Calls PyProof.Rows
section
variable {w : World} {A : Around} {E : Value → Shared → Prop} {s : Shared} {value slice : Expr} {Q : Value → Shared → Prop}
theorem sub_ints {a : Addr} {vs : List Value} {ns : List Int} {j : Nat} {n : Int} {t : Tok} (hl : s.heap.IsList a vs.toArray) (hi : IntsAre vs ns) (hn : ns[j]? = some n) (hj : j ≤ 100000) (h : ∀ t', Q (.int n t') s)
    (hs : subscripted slice false (.ref a) (.int (j : Nat) t) = operate [.ref a, .int (j : Nat) t] (getItem (.ref a) (.int (j : Nat) t)) := by with_unfolding_all rfl) : wpAny (model pw w) A (subscriptTail value slice (.ref a) (.int (j : Nat) t)) Q E s := by
  obtain ⟨t', ht'⟩ := hi.get j n hn
  exact tail_any (ops := [.ref a, .int (j : Nat) t]) hl.typeIs slot_list_getitem.lookup (wpAny_getItem_list hl (by omega) (by omega) (by simpa using ht') (h t')) hs
theorem cut_to {H : Heap} {u : List Nat} {b : Nat} {t uj : Tok} (hH : s.heap = H.push { cls := .type "slice", data := .fields #[.none, .int (b : Nat) uj, .none] }) (hlen : u.length ≤ 1000)
    (h : ∀ h' t' k, (∀ b o, H.get? b = some o → h'.get? b = some o) → Q (.str (tx (u.take b)) t') { s with heap := h', toks := k })
    (hs : subscripted slice false (.str (tx u) t) (.ref H.objs.size) = operate [.ref H.objs.size, .str (tx u) t] (getItem (.str (tx u) t) (.ref H.objs.size)) := by with_unfolding_all rfl)
    (ht : ∀ r, letTemporaryGo value (.str (tx u) t) r = pure () := by intro _; with_unfolding_all rfl) :
    wpAny (model pw w) A (subscriptTail value slice (.str (tx u) t) (.ref H.objs.size)) Q E s := by
  obtain ⟨hp, g, d, tk, os⟩ := s
  simp only at hH
  subst hH
  have hkk : KeptH (fun h' => ∀ b o, H.get? b = some o → h'.get? b = some o) := fun h ob k b o e => Heap.get?_push_of_some _ (k b o e)
  refine tail_of_ItemOn (SBH.sliceItem_ns (s := ⟨H, g, d, tk, os⟩) hkk (fun b o e => e) (fun h₄ t₄ k₄ hk₄ => ?_) (by rw [tx_len]; exact Nat.le_trans hlen (by decide))) hs ht
  rw [slice_to]
  exact h h₄ t₄ k₄ hk₄
theorem cut_ss {H : Heap} {u : List Nat} {a b : Nat} {t ui uj : Tok} (hH : s.heap = H.push { cls := .type "slice", data := .fields #[.int (a : Nat) ui, .int (b : Nat) uj, .none] }) (hab : a ≤ b) (hb : b ≤ u.length) (hlen : u.length ≤ 1000)
    (h : ∀ h' t' k, (∀ b o, H.get? b = some o → h'.get? b = some o) → Q (.str (tx ((u.drop a).take (b - a))) t') { s with heap := h', toks := k })
    (hs : subscripted slice false (.str (tx u) t) (.ref H.objs.size) = operate [.ref H.objs.size, .str (tx u) t] (getItem (.str (tx u) t) (.ref H.objs.size)) := by with_unfolding_all rfl)
    (ht : ∀ r, letTemporaryGo value (.str (tx u) t) r = pure () := by intro _; with_unfolding_all rfl) :
    wpAny (model pw w) A (subscriptTail value slice (.str (tx u) t) (.ref H.objs.size)) Q E s := by
  obtain ⟨hp, g, d, tk, os⟩ := s
  simp only at hH
  subst hH
  have hkk : KeptH (fun h' => ∀ b o, H.get? b = some o → h'.get? b = some o) := fun h ob k b o e => Heap.get?_push_of_some _ (k b o e)
  refine tail_of_ItemOn (SBH.sliceItem_ss (s := ⟨H, g, d, tk, os⟩) hkk (fun b o e => e) (fun h₄ t₄ k₄ hk₄ => ?_) (by rw [tx_len]; exact Nat.le_trans hlen (by decide))) hs ht
  rw [slice_ss hab hb]
  exact h h₄ t₄ k₄ hk₄
end
/-- the names that the last loops read -/
structure NQ (th : List Nat) (Dc D P : Addr) (m : Str → Option Value) : Prop where
  things : ∃ t, m (Str.ofString "things") = some (.str (tx th) t)
  codes : m (Str.ofString "codes") = some (.ref Dc)
  text : ∃ t, m (Str.ofString "text") = some (.str (tx (bat th (th.length + 1)).text) t)
  depths : m (Str.ofString "depths") = some (.ref D)
  places : m (Str.ofString "places") = some (.ref P)
theorem NQ.keep {th : List Nat} {Dc D P : Addr} {m m' : Str → Option Value} (X : NQ th Dc D P m) (e1 : m' (Str.ofString "things") = m (Str.ofString "things") := by rfl) (e2 : m' (Str.ofString "codes") = m (Str.ofString "codes") := by rfl)
    (e3 : m' (Str.ofString "text") = m (Str.ofString "text") := by rfl) (e4 : m' (Str.ofString "depths") = m (Str.ofString "depths") := by rfl) (e5 : m' (Str.ofString "places") = m (Str.ofString "places") := by rfl) : NQ th Dc D P m' :=
  ⟨e1 ▸ X.things, e2 ▸ X.codes, e3 ▸ X.text, e4 ▸ X.depths, e5 ▸ X.places⟩
/-- the objects that the last loops read -/
structure HQ (L Dc Dr D P : Addr) (cv rv dv pv : List Value) (h : Heap) : Prop where
  cell : h.IsCell (L + 1) (some (.ref Dr))
  lc : h.PlainList Dc cv.toArray
  lr : h.PlainList Dr rv.toArray
  ld : h.PlainList D dv.toArray
  lp : h.PlainList P pv.toArray
/-- the objects outlast, but for the frame -/
def Keep1 (L : Addr) (h h' : Heap) : Prop := ∀ b o, b ≠ L → h.get? b = some o → h'.get? b = some o
theorem Keep1.trans {L : Addr} {h h' h'' : Heap} (x : Keep1 L h h') (y : Keep1 L h' h'') : Keep1 L h h'' := fun b o hb e => y b o hb (x b o hb e)
theorem Keep1.of {L : Addr} {h h' : Heap} (x : ∀ b o, h.get? b = some o → h'.get? b = some o) : Keep1 L h h' := fun b o _ e => x b o e
theorem Keep1.same {L : Addr} {h h' : Heap} (x : Heap.SameBut L h h') : Keep1 L h h' := fun b o hb e => (x.2 b hb).trans e
theorem HQ.keep {L Dc Dr D P : Addr} {cv rv dv pv : List Value} {h h' : Heap} {m : Str → Option Value} (X : HQ L Dc Dr D P cv rv dv pv h) (n : h.Ns L m) (k : Keep1 L h h') : HQ L Dc Dr D P cv rv dv pv h' :=
  ⟨let ⟨o, ho, hd⟩ := X.cell; ⟨o, k _ o (Nat.succ_ne_self _) ho, hd⟩, X.lc.at fun o e => k _ o (ne_of_list n X.lc.isList) e, X.lr.at fun o e => k _ o (ne_of_list n X.lr.isList) e, X.ld.at fun o e => k _ o (ne_of_list n X.ld.isList) e, X.lp.at fun o e => k _ o (ne_of_list n X.lp.isList) e⟩
theorem map_range_at {f : Nat → Int} {n j : Nat} (h : j < n) : ((List.range n).map f)[j]? = some (f j) := by simp [h]
theorem stepA {w : World} {A : Around} {mg mb : Str → Option Value} {s₁ : Shared} (W : Wd w mg mb s₁.heap) (hh : A.handled = none) (hA : A.depth ≤ 400) {L fa : Addr} {cd : Value} {Q : Flow → Shared → Prop} {th : List Nat} (hth : th.length ≤ 6)
    {Dc Dr D P : Addr} {cv rv dv pv : List Value} (iD : True ∧ IntsAre dv ((List.range th.length).map fun i => (wOf th i : Int))) (iP : True ∧ IntsAre pv ((List.range th.length).map fun i => (placeOf th i : Int)))
    {j : Nat} (hj : j < th.length) {t : Tok} {s : Shared} {m : Str → Option Value} (F : Fr s₁.heap L s.heap m) (X : NQ th Dc D P m) (Y : HQ L Dc Dr D P cv rv dv pv s.heap) (hlast : m (Str.ofString "last") = some (.int (j : Nat) t))
    (next : ∀ s' m' S, Rel s s' → Fr s₁.heap L s'.heap m' → NQ th Dc D P m' → (∃ t, m' (Str.ofString "last") = some (.int (j : Nat) t)) → m' (Str.ofString "still") = some (.ref S) → s'.heap.PlainList S #[] → (∀ b o, s.heap.get? b = some o → b < S) → Keep1 L s.heap s'.heap →
      wpAny (model pw w) A (execs ((forBody (stAt 16)).drop 4) (EL L fa cd)) Q (fun _ _ => False) s') :
    wpAny (model pw w) A (execs (forBody (stAt 16)) (EL L fa cd)) Q (fun _ _ => False) s := by
  obtain ⟨KX, T⟩ := id W
  obtain ⟨kd, hD⟩ := Y.ld
  obtain ⟨kp, hP⟩ := Y.lp
  obtain ⟨tt, htext⟩ := X.text
  have N : News s₁.heap L s.heap [] := News.nil
  have F₁ := frForm1 (frForm1 (frForm1 (frForm1 F X.places) (x := Str.ofString "depths") (v := .ref D) X.depths) (x := Str.ofString "text") (v := .str (tx (bat th (th.length + 1)).text) tt) htext) (x := Str.ofString "last") (v := .int (j : Nat) t) hlast
  show wpAny _ _ (execs (_ :: _ :: _ :: _ :: (forBody (stAt 16)).drop 4) _) _ _ _
  repeat' (fail_if_success (with_reducible show wpAny _ _ (subscriptTail _ _ _ _) _ _ _)); walk1
  refine sub_ints Y.lp.isList iP.2 (map_range_at hj) (by omega) fun t1 => ?_
  repeat' (fail_if_success (with_reducible show wpAny _ _ (subscriptTail _ _ _ _) _ _ _)); walk1
  have hbl : (bat th (j + 1)).text.length ≤ 28 := by
    have := (bat_ok th (j + 1)).2.1
    omega
  have hbl7 : (bat th (th.length + 1)).text.length ≤ 28 := by
    have := (bat_ok th (th.length + 1)).2.1
    omega
  have hw : wOf th j ≤ 28 := by
    have := (bat_ok th (j + 1)).2.1
    unfold wOf
    omega
  refine cut_to (H := s.heap) (b := placeOf th j + 1) rfl (by omega) fun h₂ t₂ k₂ hk₂ => ?_
  rw [ahead_take hj]
  refine stLocS (F₁.keeps hk₂) fun h₃ F₃ hs₃ => ?_
  replace hs₃ : Heap.SameBut L h₂ h₃ := hs₃
  have K₃ : Keep1 L s.heap h₃ := (Keep1.of hk₂).trans (.same hs₃)
  clear F₁ N
  have N₃ : News s₁.heap L h₃ [] := News.nil
  repeat' (fail_if_success (with_reducible show wpAny _ _ (call (Value.ref 35) _ _) _ _ _)); walk1
  refine callCheck W hh (Nat.le_trans hA (by decide)) F₃.keep (by omega) fun s₄ hr₄ hk₄ => ?_
  have F₄ := F₃.keeps hk₄
  have N₄ : News s₁.heap L s₄.heap [] := News.nil
  have K₄ : Keep1 L s.heap s₄.heap := K₃.trans (.of hk₄)
  clear F₃ N₃
  rw [check_ahead hj]
  repeat' (fail_if_success (with_reducible show wpAny _ _ (binaryOp _ _ _) _ _ _)); walk1
  rw [show Str.ofString "\"" = tx [34] from by decide]
  refine addtx (by simp; omega) fun t5 k5 => ?_
  repeat' (fail_if_success (with_reducible show wpAny _ _ (binaryOp _ _ _) _ _ _)); walk1
  refine addtx (by simp; omega) fun t6 k6 => ?_
  repeat' (fail_if_success (with_reducible show wpAny _ _ (binaryOp _ _ _) _ _ _)); walk1
  refine addtx (by simp; omega) fun t7 k7 => ?_
  repeat' (fail_if_success (with_reducible show wpAny _ _ (subscriptTail _ _ _ _) _ _ _)); walk1
  have Y₄ := Y.keep F.ns K₄
  refine sub_ints Y₄.ld.isList iD.2 (map_range_at hj) (by omega) fun t8 => ?_
  repeat' (fail_if_success (with_reducible show wpAny _ _ (binaryOp _ _ _) _ _ _)); walk1
  rw [show Str.ofString ")" = tx [41] from by decide]
  refine mul1 (by omega) fun t9 k9 => ?_
  refine addtx (by simp; omega) fun t10 k10 => ?_
  repeat' (fail_if_success (with_reducible show wpAny _ _ (call (Value.ref 35) _ _) _ _ _)); walk1
  refine callCheck W hh (Nat.le_trans hA (by decide)) F₄.keep (by simp; omega) fun s₅ hr₅ hk₅ => ?_
  have F₅ := F₄.keeps hk₅
  have N₅ : News s₁.heap L s₅.heap [] := News.nil
  have K₅ : Keep1 L s.heap s₅.heap := K₄.trans (.of hk₅)
  clear F₄ N₄
  rw [check_named]
  repeat' (fail_if_success (with_reducible show wpAny _ _ (newList _) _ _ _)); walk1
  refine wpAny_newObj_type ?_ (by size_fits)
  refine stLocS (F₅.push _) fun h₆ F₆ hs₆ => ?_
  replace hs₆ : Heap.SameBut L (s₅.heap.push { cls := .type "list", data := .seq #[] }) h₆ := hs₆
  have hLlt := F₅.ns.lt
  refine next _ _ s₅.heap.objs.size (((Rel.heap (s := s) _ _).trans hr₄).trans ((Rel.heap (s := s₄) _ _).trans (hr₅.trans (Rel.heap (s := s₅) _ _)))) F₆ (X.keep rfl rfl htext.symm X.depths.symm X.places.symm) ⟨t, rfl⟩ rfl
    ⟨_, (hs₆.2 _ (Nat.ne_of_gt hLlt)).trans (Heap.get?_push_size _ rfl)⟩ (fun b o e => ?_) (K₅.trans ((Keep1.of fun b o e => Heap.get?_push_of_some _ e).trans (.same hs₆)))
  by_cases hb : b = L
  · rw [hb]; exact hLlt
  · exact Heap.lt_size (K₅ b o hb e)
end Mine
end
section
set_option maxRecDepth 100000
set_option maxHeartbeats 4000000
namespace Mine
open PySem PySem.W PySem.Calls PyProof.Rows
/-- outlasts, but for the frame and one list -/
def Keep2 (L S : Addr) (h h' : Heap) : Prop := ∀ b o, b ≠ L → b ≠ S → h.get? b = some o → h'.get? b = some o
theorem Keep2.trans {L S : Addr} {h h' h'' : Heap} (x : Keep2 L S h h') (y : Keep2 L S h' h'') : Keep2 L S h h'' := fun b o hb hc e => y b o hb hc (x b o hb hc e)
theorem Keep2.of {L S : Addr} {h h' : Heap} (x : ∀ b o, h.get? b = some o → h'.get? b = some o) : Keep2 L S h h' := fun b o _ _ e => x b o e
theorem Keep2.same {L S : Addr} {h h' : Heap} (x : Heap.SameBut L h h') : Keep2 L S h h' := fun b o hb _ e => (x.2 b hb).trans e
theorem Keep2.sameS {L S : Addr} {h h' : Heap} (x : Heap.SameBut S h h') : Keep2 L S h h' := fun b o _ hb e => (x.2 b hb).trans e
theorem HQ.keep2 {L Dc Dr D P S : Addr} {cv rv dv pv : List Value} {h h' : Heap} {m : Str → Option Value} (X : HQ L Dc Dr D P cv rv dv pv h) (n : h.Ns L m) (hS : L + 1 ≠ S ∧ Dc ≠ S ∧ Dr ≠ S ∧ D ≠ S ∧ P ≠ S) (k : Keep2 L S h h') : HQ L Dc Dr D P cv rv dv pv h' :=
  ⟨let ⟨o, ho, hd⟩ := X.cell; ⟨o, k _ o (Nat.succ_ne_self _) hS.1 ho, hd⟩, X.lc.at fun o e => k _ o (ne_of_list n X.lc.isList) hS.2.1 e, X.lr.at fun o e => k _ o (ne_of_list n X.lr.isList) hS.2.2.1 e, X.ld.at fun o e => k _ o (ne_of_list n X.ld.isList) hS.2.2.2.1 e, X.lp.at fun o e => k _ o (ne_of_list n X.lp.isList) hS.2.2.2.2 e⟩
/-- who is still open, so far -/
def stillUpTo (th : List Nat) (j i : Nat) : List Int := ((List.range i).filter fun x => stillB th x j).map fun x : Nat => (x : Int)
theorem stillUpTo_succ (th : List Nat) (j i : Nat) : stillUpTo th j (i + 1) = stillUpTo th j i ++ (if stillB th i j = true then [(i : Int)] else []) := by
  unfold stillUpTo
  rw [List.range_succ, List.filter_append, List.map_append]
  cases h : stillB th i j <;> simp [h]
theorem stillUpTo_len (th : List Nat) (j i : Nat) : (stillUpTo th j i).length ≤ i := by
  unfold stillUpTo
  rw [List.length_map]
  exact Nat.le_trans (List.length_filter_le _ _) (by simp)
/-- what the first inner loop keeps -/
structure JB (th : List Nat) (L Dc D P S : Addr) (j : Nat) (h₀ : Heap) (i : Nat) (m : Str → Option Value) (h : Heap) : Prop where
  nq : NQ th Dc D P m
  last : ∃ t, m (Str.ofString "last") = some (.int (j : Nat) t)
  still : m (Str.ofString "still") = some (.ref S)
  ls : ∃ sv : List Value, h.PlainList S sv.toArray ∧ (True ∧ IntsAre sv (stillUpTo th j i))
  keep : Keep2 L S h₀ h
theorem stepB1 {w : World} {A : Around} {mg mb : Str → Option Value} {s₁ : Shared} (W : Wd w mg mb s₁.heap) (hh : A.handled = none) (hA : A.depth ≤ 400) {L fa : Addr} {cd : Value} {th : List Nat} (hth : th.length ≤ 6)
    {Dc Dr D P S : Addr} {cv rv dv pv : List Value} (iD : True ∧ IntsAre dv ((List.range th.length).map fun i => (wOf th i : Int))) (iP : True ∧ IntsAre pv ((List.range th.length).map fun i => (placeOf th i : Int)))
    {j : Nat} (hj : j < th.length) {h₀ : Heap} (nS : s₁.heap.get? S = none) (hSL : S ≠ L) (hSo : L + 1 ≠ S ∧ Dc ≠ S ∧ Dr ≠ S ∧ D ≠ S ∧ P ≠ S) {m₀ : Str → Option Value} (n₀ : h₀.Ns L m₀) (Y₀ : HQ L Dc Dr D P cv rv dv pv h₀)
    {i : Nat} (hi : i < j + 1) {t : Tok} {m : Str → Option Value} {s : Shared} (X : JB th L Dc D P S j h₀ i m s.heap) (F : Fr s₁.heap L s.heap (fun y => if y = Str.ofString "first" then some (.int (i : Nat) t) else m y)) :
    wpAny (model pw w) A (execs (forBody ((forBody (stAt 16)).getD 4 (.Pass default))) (EL L fa cd)) (fun f s' => match f with
        | .next | .cont => Seal (∃ m', Rel s s' ∧ Fr s₁.heap L s'.heap m' ∧ JB th L Dc D P S j h₀ (i + 1) m' s'.heap ∧ Keep2 L S s.heap s'.heap)
        | .brk => False
        | .ret _ => False) (fun _ _ => False) s := by
  obtain ⟨KX, T⟩ := id W
  obtain ⟨nq, ⟨tl, hlast⟩, hstill, ⟨sv, ⟨ks, hsv⟩, iS⟩, K⟩ := X
  obtain ⟨tt, htext⟩ := nq.text
  have Y := Y₀.keep2 n₀ hSo K
  have N : News s₁.heap L s.heap [(S, { cls := .type "list", data := .seq sv.toArray ks })] := fun p hp => by
    rcases List.mem_singleton.mp hp with rfl
    exact ⟨hsv, hSL, nS⟩
  have F₁ := frForm1 (frForm1 (frForm1 (frForm1 (frForm1 F (x := Str.ofString "still") (v := .ref S) hstill) (x := Str.ofString "last") (v := .int (j : Nat) tl) hlast) (x := Str.ofString "text") (v := .str (tx (bat th (th.length + 1)).text) tt) htext) (x := Str.ofString "places") (v := .ref P) nq.places) (x := Str.ofString "depths") (v := .ref D) nq.depths
  have hbl7 : (bat th (th.length + 1)).text.length ≤ 28 := by
    have := (bat_ok th (th.length + 1)).2.1
    omega
  have hw : wOf th j ≤ 28 := by
    have := (bat_ok th (j + 1)).2.1
    unfold wOf
    omega
  show wpAny _ _ (execs [_, _] _) _ _ _
  repeat' (fail_if_success (with_reducible show wpAny _ _ (subscriptTail _ _ _ _) _ _ _)); walk1
  refine sub_ints Y.ld.isList iD.2 (map_range_at hj) (by omega) fun t1 => ?_
  repeat' (fail_if_success (with_reducible show wpAny _ _ (subscriptTail _ _ _ _) _ _ _)); walk1
  refine sub_ints Y.ld.isList iD.2 (map_range_at (Nat.lt_of_lt_of_le hi hj)) (by omega) fun t2 => ?_
  repeat' (fail_if_success (with_reducible show wpAny _ _ (call (Value.builtin "max") _ _) _ _ _)); walk1
  refine max_two_ints hh fun h₂ k₂ hk₂ => ?_
  obtain ⟨t3, h3⟩ : ∃ t3, (if (0 : Int) > (wOf th j : Int) - (wOf th i : Int) then Value.int 0 (s.toks + 1) else Value.int ((wOf th j : Int) - (wOf th i : Int)) s.toks) = Value.int ((wOf th j - wOf th i : Nat) : Int) t3 := by
    by_cases h : (0 : Int) > (wOf th j : Int) - (wOf th i : Int)
    · exact ⟨_, by rw [if_pos h, show (wOf th j - wOf th i : Nat) = 0 by omega]; rfl⟩
    · exact ⟨_, by rw [if_neg h]; congr 1; omega⟩
  show wpAny _ _ (storeName _ _ (if (0 : Int) > (wOf th j : Int) - (wOf th i : Int) then Value.int 0 (s.toks + 1) else Value.int ((wOf th j : Int) - (wOf th i : Int)) s.toks)) _ _ _
  rw [h3]
  clear h3
  refine stLocS (F₁.keeps hk₂) fun h₄ F₄ hs₄ => ?_
  replace hs₄ : Heap.SameBut L h₂ h₄ := hs₄
  have K₄ : Keep2 L S s.heap h₄ := (Keep2.of hk₂).trans (.same hs₄)
  have hsv₄ : h₄.get? S = some { cls := .type "list", data := .seq sv.toArray ks } := (hs₄.2 S hSL).trans (hk₂ S _ hsv)
  have N₄ : News s₁.heap L h₄ [(S, { cls := .type "list", data := .seq sv.toArray ks })] := fun p hp => by
    rcases List.mem_singleton.mp hp with rfl
    exact ⟨hsv₄, hSL, nS⟩
  have Y₄ := Y₀.keep2 n₀ hSo (K.trans K₄)
  clear F₁ N
  repeat' (fail_if_success (with_reducible show wpAny _ _ (subscriptTail _ _ _ _) _ _ _)); walk1
  refine sub_ints Y₄.lp.isList iP.2 (map_range_at (Nat.lt_of_lt_of_le hi hj)) (by omega) fun t5 => ?_
  repeat' (fail_if_success (with_reducible show wpAny _ _ (subscriptTail _ _ _ _) _ _ _)); walk1
  refine sub_ints Y₄.lp.isList iP.2 (map_range_at hj) (by omega) fun t6 => ?_
  repeat' (fail_if_success (with_reducible show wpAny _ _ (subscriptTail _ _ _ _) _ _ _)); walk1
  have hpm := place_mono (Nat.le_of_lt_succ hi) hj
  refine cut_ss (H := h₄) (a := placeOf th i + 1) (b := placeOf th j + 1) rfl (by omega) (by omega) (by omega) fun h₅ t7 k7 hk₅ => ?_
  rw [mid_slice (Nat.le_of_lt_succ hi) hj]
  have F₅ := F₄.keeps hk₅
  have N₅ := N₄.grown hk₅
  have K₅ := K₄.trans (.of hk₅)
  clear F₄ N₄
  have hml : (midOf th i j).length ≤ 28 := by
    have := (bat_ok th (j + 1)).2.1
    unfold midOf
    rw [List.length_drop]
    omega
  repeat' (fail_if_success (with_reducible show wpAny _ _ (binaryOp _ _ _) _ _ _)); walk1
  rw [show Str.ofString ")" = tx [41] from by decide]
  refine mul1 (by omega) fun t9 k9 => ?_
  refine addtx (by simp; omega) fun t10 k10 => ?_
  repeat' (fail_if_success (with_reducible show wpAny _ _ (call (Value.ref 35) _ _) _ _ _)); walk1
  refine callCheck W hh (Nat.le_trans hA (by decide)) F₅.keep (by simp; omega) fun s₆ hr₆ hk₆ => ?_
  have F₆ := F₅.keeps hk₆
  have N₆ := N₅.grown hk₆
  have K₆ : Keep2 L S s.heap s₆.heap := K₅.trans (.of hk₆)
  clear F₅ N₅
  rw [check_still (Nat.le_of_lt_succ hi) hj]
  have hrel : Rel s s₆ := (Rel.heap (s := s) h₅ _).trans hr₆
  refine wpAny_truthy_bool ?_
  cases hst : stillB th i j with
  | false =>
    rw [if_neg Bool.false_ne_true]
    show wpAny _ _ (execs [] _) _ _ _
    refine wpAny_execs_nil ?_
    show wpAny _ _ (execs [] _) _ _ _
    refine wpAny_execs_nil ?_
    refine ⟨_, hrel, F₆, ⟨nq.keep rfl rfl htext.symm nq.depths.symm nq.places.symm, ⟨tl, rfl⟩, rfl, ⟨sv, ⟨ks, (N₆ _ (.head _)).1⟩, trivial, ?_⟩, K.trans K₆⟩, K₆⟩
    rw [stillUpTo_succ, hst]
    simpa using iS.2
  | true =>
    rw [if_pos rfl]
    show wpAny _ _ (execs [_] _) _ _ _
    repeat' (fail_if_success (with_reducible show wpAny _ _ (call (Value.builtin "list.append") _ _) _ _ _)); walk1
    have hsl : sv.length ≤ 6 := by
      have := stillUpTo_len th j i
      rw [iS.2.length]
      omega
    refine wpAny_list_append_plain (s := s₆) ⟨ks, (N₆ _ (.head _)).1⟩ (fun h₇ hl₇ hs₇ => ?_) (by simp; exact Nat.le_trans hsl (by decide))
    have F₇ : Fr s₁.heap L h₇ _ := ⟨F₆.ns.sameBut hs₇ hSL.symm, fun b o e => (hs₇.2 b (fun q => by rw [q, nS] at e; cases e)).trans (F₆.keep b o e), F₆.above⟩
    have N₇ : News s₁.heap L h₇ [] := News.nil
    obtain ⟨k₇, hl₇⟩ := hl₇
    clear F₆ N₆
    repeat' walk1
    refine ⟨_, hrel.trans (Rel.heap (s := s₆) _ _), F₇, ⟨nq.keep rfl rfl htext.symm nq.depths.symm nq.places.symm, ⟨tl, rfl⟩, rfl, ⟨sv ++ [Value.int (i : Nat) t], ⟨k₇, by simpa using hl₇⟩, trivial, ?_⟩, (K.trans K₆).trans (.sameS hs₇)⟩, K₆.trans (.sameS hs₇)⟩
    rw [stillUpTo_succ, hst]
    exact iS.2.append (.cons _ _ .nil)
end Mine
end
section
set_option maxRecDepth 100000
set_option maxHeartbeats 4000000
namespace Mine
open PySem PySem.W PySem.Calls PyProof.Rows
theorem stepB {w : World} {A : Around} {mg mb : Str → Option Value} {s₁ : Shared} (W : Wd w mg mb s₁.heap) (hh : A.handled = none) (hA : A.depth ≤ 400) {L fa : Addr} {cd : Value} {Q : Flow → Shared → Prop} {th : List Nat} (hth : th.length ≤ 6)
    {Dc Dr D P S : Addr} {cv rv dv pv : List Value} (iD : True ∧ IntsAre dv ((List.range th.length).map fun i => (wOf th i : Int))) (iP : True ∧ IntsAre pv ((List.range th.length).map fun i => (placeOf th i : Int)))
    {j : Nat} (hj : j < th.length) (nS : s₁.heap.get? S = none) (hSL : S ≠ L) (hSo : L + 1 ≠ S ∧ Dc ≠ S ∧ Dr ≠ S ∧ D ≠ S ∧ P ≠ S) {s : Shared} {m : Str → Option Value} (F : Fr s₁.heap L s.heap m) (X : NQ th Dc D P m) (Y : HQ L Dc Dr D P cv rv dv pv s.heap) (hlast : ∃ t, m (Str.ofString "last") = some (.int (j : Nat) t))
    (hstill : m (Str.ofString "still") = some (.ref S)) (hS : s.heap.PlainList S #[])
    (next : ∀ s' m', Rel s s' → Fr s₁.heap L s'.heap m' → JB th L Dc D P S j s.heap (j + 1) m' s'.heap →
      wpAny (model pw w) A (execs ((forBody (stAt 16)).drop 5) (EL L fa cd)) Q (fun _ _ => False) s') :
    wpAny (model pw w) A (execs ((forBody (stAt 16)).drop 4) (EL L fa cd)) Q (fun _ _ => False) s := by
  obtain ⟨KX, T⟩ := id W
  obtain ⟨tl, hlast⟩ := hlast
  have N : News s₁.heap L s.heap [] := News.nil
  have F₁ := frForm1 F hlast
  have hSlt : S < s.heap.objs.size := by obtain ⟨k, e⟩ := id hS; exact Heap.lt_size e
  have X₁ : JB th L Dc D P S j s.heap 0 _ s.heap := ⟨X.keep, ⟨tl, hlast⟩, hstill, ⟨[], hS, trivial, .nil⟩, fun b o _ _ e => e⟩
  show wpAny _ _ (execs (_ :: (forBody (stAt 16)).drop 5) _) _ _ _
  repeat' (fail_if_success (with_reducible show wpAny _ _ (exec (Stmt.For _ _ _ _ _) _) _ _ _)); walk1
  refine wpAny_For ?_
  repeat' (fail_if_success (with_reducible show wpAny _ _ (call (Value.type "range") _ _) _ _ _)); walk1
  rw [show (j : Int) + 1 = ((j + 1 : Nat) : Int) from rfl]
  refine rng1 (s := { s with toks := _ }) hh (by omega) rfl rfl F (JB th L Dc D P S j s.heap) X₁ ?_ ?_ ?_
  · rintro i m h h' ⟨q1, q2, q3, ⟨sv, ⟨k, q4⟩, q5⟩, q6⟩ hk
    refine ⟨q1, q2, q3, ⟨sv, ⟨k, hk _ _ (Nat.ne_of_lt (Nat.lt_succ_of_lt hSlt)) hSL q4⟩, q5⟩, fun b o h1 h2 e => hk b o (Nat.ne_of_lt (Nat.lt_succ_of_lt (Heap.lt_size e))) h1 (q6 b o h1 h2 e)⟩
  · rintro i t m₁ s₂ hi J hr ⟨oI, hoI, _⟩ F₂
    refine wpAny_mono (stepB1 W hh hA hth iD iP hj nS hSL hSo F.ns Y hi J F₂) (fun f s₃ h => ?_) fun _ _ h => h
    have hI : ∀ {h : Heap}, Keep2 L S s₂.heap h → ∀ o, s₂.heap.get? (s.heap.objs.size + 1) = some o → h.get? (s.heap.objs.size + 1) = some o := fun k o e => k _ o (Nat.ne_of_gt (Nat.lt_succ_of_lt F.ns.lt)) (Nat.ne_of_gt (Nat.lt_succ_of_lt hSlt)) e
    cases f with
    | brk => exact h.elim
    | ret v => exact h.elim
    | next =>
      obtain ⟨m', a, b, c, d⟩ := h
      exact ⟨m', a, b, c, hI d⟩
    | cont =>
      obtain ⟨m', a, b, c, d⟩ := h
      exact ⟨m', a, b, c, hI d⟩
  · rintro m' s' hr F' J
    exact next s' m' ((Rel.heap (s := s) _ _).trans hr) F' J
end Mine
end
section
set_option maxRecDepth 100000
set_option maxHeartbeats 4000000
namespace Mine
open PySem PySem.W PySem.Calls PyProof.Rows
def tupI (a k : Int) (t u : Tok) : Obj := { cls := .type "tuple", data := .seq #[.int a t, .int k u] }
section
variable {w : World} {A : Around} {E : Value → Shared → Prop} {s : Shared}
theorem lt_ints {a b : Int} {t u : Tok} {Q : Value → Shared → Prop} (h : Q (.bool (decide (a < b))) s) : wpAny (model pw w) A (richCompare .Lt (.int a t) (.int b u)) Q E s :=
  CmpOf.ints_lt (prog := pw) (w := w) (A := A) (P := fun i v => ∃ t, v = .int (if i = 0 then a else b) t) (fun i => if i = 0 then a else b) (fun i v h => h) 0 1 _ _ _ _ _ ⟨t, rfl⟩ ⟨u, rfl⟩ h
theorem tup_lt_tree {T1 T2 : Addr} {a1 a2 k1 k2 : Int} {t1 t2 u1 u2 : Tok} {P : Fin → Shared → Prop} (h1 : s.heap.get? T1 = some (tupI a1 k1 t1 u1)) (h2 : s.heap.get? T2 = some (tupI a2 k2 t2 u2)) (hk : k2 < k1) (h : P (.done (.ret (.bool (decide (a1 < a2))))) s) :
    wpAny (model pw w) A (Builtin.«tuple.__lt__» ⟨[.ref T1, .ref T2], []⟩) P E s := by
  show wpAny _ _ (isInstance (.ref T2) (.type "tuple") >>= _) _ _ s
  refine wpAny_bind (wpAny_isInstance (T := "tuple") ⟨_, h2, rfl⟩ isSubtype_tuple_tuple ?_)
  simp only [Bool.not_true, Bool.false_eq_true, if_false]
  refine wpAny_bind (wpAny_tupleItemsOf h1 rfl ?_)
  refine wpAny_bind (wpAny_tupleItemsOf h2 rfl ?_)
  refine wpAny_bind ?_
  refine wpAny_forIn_list _
    (fun rest r s' => r.1 = none ∧ s' = s ∧ (rest = [(Value.int a1 t1, Value.int a2 t2), (Value.int k1 u1, Value.int k2 u2)] ∨ (rest = [(Value.int k1 u1, Value.int k2 u2)] ∧ a1 = a2)))
    _ ?_ ?_ _ _ ⟨rfl, rfl, .inl rfl⟩
  · rintro ⟨u, v⟩ rest r s' ⟨hr, rfl, hz | ⟨hz, ha⟩⟩
    · simp only [List.cons.injEq, Prod.mk.injEq] at hz
      obtain ⟨⟨rfl, rfl⟩, rfl⟩ := hz
      refine wpAny_bind (wpAny_eqBool_int ?_)
      by_cases hq : a1 = a2
      · rw [beq_iff_eq.mpr hq]
        simp only [Bool.not_true, Bool.false_eq_true, if_false]
        exact wpAny_pure ⟨rfl, rfl, by simp [hq]⟩
      · rw [beq_eq_false_iff_ne.mpr hq]
        simp only [Bool.not_false, if_true]
        refine wpAny_bind (wpAny_rule (wpAny_bind (lt_ints ?_)))
        exact wpAny_bind (wpAny_pure (wpAny_pure (wpAny_pure h)))
    · simp only [List.cons.injEq, Prod.mk.injEq] at hz
      obtain ⟨⟨rfl, rfl⟩, rfl⟩ := hz
      refine wpAny_bind (wpAny_eqBool_int ?_)
      rw [beq_eq_false_iff_ne.mpr (by omega)]
      simp only [Bool.not_false, if_true]
      refine wpAny_bind (wpAny_rule (wpAny_bind (lt_ints ?_)))
      have e : decide (k1 < k2) = decide (a1 < a2) := by
        rw [decide_eq_decide]
        omega
      rw [e]
      exact wpAny_bind (wpAny_pure (wpAny_pure (wpAny_pure h)))
  · rintro ⟨r1, r2⟩ s' ⟨_, _, hz | ⟨hz, _⟩⟩ <;> cases hz
theorem tup_lt {T1 T2 : Addr} {a1 a2 k1 k2 : Int} {t1 t2 u1 u2 : Tok} {Q : Value → Shared → Prop} (h1 : s.heap.get? T1 = some (tupI a1 k1 t1 u1)) (h2 : s.heap.get? T2 = some (tupI a2 k2 t2 u2)) (hk : k2 < k1) (hu : A.units < cLine) (h : Q (.bool (decide (a1 < a2))) s) :
    wpAny (model pw w) A (richCompare .Lt (.ref T1) (.ref T2)) Q E s :=
  wpAny_richCompare_same_room (op := .Lt) (T := "tuple") ⟨_, h1, rfl⟩ ⟨_, h2, rfl⟩ F.slot_tuple_lt
    (wpAny_call_entry (T := "tuple") F.slot_tuple_lt ⟨_, h1, rfl⟩ F.entry_tuple_lt (tup_lt_tree h1 h2 hk ⟨_, rfl, (fun e => nomatch e), h⟩) (F.args_tuple_lt_2 _ _)) hu
end
end Mine
end
section
set_option maxRecDepth 100000
set_option maxHeartbeats 4000000
namespace Mine
open PySem PySem.W PySem.Calls PyProof.Rows
/-- a list of pairs of ints -/
def PairsIn (hb : Heap) (vs : Array Value) (f g : Nat → Int) : Prop := ∀ i, i < vs.size → ∃ T t u, vs[i]? = some (.ref T) ∧ hb.get? T = some (tupI (f i) (g i) t u)
section
variable {w : World} {A : Around} {E : Value → Shared → Prop} {s : Shared} {R : Result → Shared → Prop}
theorem min_loop (hh : A.handled = none) (hu : A.units + 1 < cLine) {hb : Heap} {I l S : Addr} {vs : Array Value} {f g : Nat → Int} (hlI : l ≠ I) (hSI : S ≠ I) (hbI : hb.get? I = none) (hbS : hb.get? S = none) (hl : hb.IsList l vs) (hp : PairsIn hb vs f g) (hg : ∀ i j, i < j → g i < g j)
    (hR : ∀ v h' tk, vs[bestOf f (vs.size - 1)]? = some v → (∀ b o, hb.get? b = some o → h'.get? b = some o) → R (.ok (.ret v)) { s with heap := h', toks := tk }) :
    ∀ (k j : Nat) (h : Heap) (tk : Nat) (vb : Value) (c : Nat), vs.size - (j + 1) = k → j + 1 ≤ vs.size → h.IsListIter I l (j + 1) → (∀ b o, hb.get? b = some o → h.get? b = some o) → vs[bestOf f j]? = some vb →
      h.get? S = some { cls := .type "list", data := .seq #[vb, vb] c } →
      codeAny (model pw w) A (.builtin "min.loop" ⟨[.ref I, .none, .ref S], []⟩) R { s with heap := h, toks := tk } := by
  have hname : (toString "min" ++ toString ".loop" : String) = "min.loop" := by decide
  have W := Walks.list (prog := pw) (w := w) (A := A.in1) hh I l hlI vs
  have nI : ∀ b o, hb.get? b = some o → b ∉ [I] := fun b o e hm => by rw [List.mem_singleton.mp hm, hbI] at e; cases e
  have nS : ∀ b o, hb.get? b = some o → b ≠ S := fun b o e q => by rw [q, hbS] at e; cases e
  have hlk : ∀ {h : Heap}, (∀ b o, hb.get? b = some o → h.get? b = some o) → h.IsList l vs := fun hk => by obtain ⟨o, ho, r⟩ := hl; exact ⟨o, hk _ _ ho, r⟩
  intro k
  induction k with
  | zero =>
    intro j h tk vb c hk hj hit hbk hvb hS
    have hin : j + 1 = vs.size := by omega
    refine codeAny_builtin PySem.F.entry_min_loop ?_
    rw [Around.under_plainId PySem.F.plain_min_loop _]
    show wpAny _ A.in1 (seqItems? (.ref S) >>= _) _ _ _
    refine wpAny_bind (wpAny_seqItems hS rfl ?_)
    show wpAny _ A.in1 (tryCatch (pyNext (.ref I)) _ >>= _) _ _ _
    refine wpAny_bind (wpAny_tryCatch (W.done _ _ _ ⟨by rw [← hin]; exact hit, hlk hbk⟩ fun h' tk' hk' => ?_))
    have hS' := hk' S _ (by simpa using hSI) hS
    show wpAny _ A.in1 (updateSeq S (fun _ => #[]) >>= _) _ _ _
    refine wpAny_bind ?_
    refine wpAny_updateSeq hS' rfl (wpAny_bind (wpAny_letGo (wpAny_pure ?_)))
    refine hR vb _ tk' (by rw [← hin]; exact hvb) fun b o e => (Heap.get?_update_other _ _ (Ne.symm (nS b o e))).trans (hk' b o (nI b o e) (hbk b o e))
  | succ k ih =>
    intro j h tk vb c hk hj hit hbk hvb hS
    have hlt : j + 1 < vs.size := by omega
    refine codeAny_builtin PySem.F.entry_min_loop ?_
    rw [Around.under_plainId PySem.F.plain_min_loop _]
    show wpAny _ A.in1 (seqItems? (.ref S) >>= _) _ _ _
    refine wpAny_bind (wpAny_seqItems hS rfl ?_)
    show wpAny _ A.in1 (tryCatch (pyNext (.ref I)) _ >>= _) _ _ _
    refine wpAny_bind (wpAny_tryCatch (W.item (j + 1) _ _ _ hlt ⟨hit, hlk hbk⟩ fun v h' tk' hP hst' hk' => ?_))
    have hS' := hk' S _ (by simpa using hSI) hS
    have hbk' : ∀ b o, hb.get? b = some o → h'.get? b = some o := fun b o e => hk' b o (nI b o e) (hbk b o e)
    obtain ⟨b1, b2, b3⟩ := bestOf_spec f j
    obtain ⟨T, t, u, e1, e2⟩ := hp (j + 1) hlt
    obtain ⟨T', t', u', e1', e2'⟩ := hp (bestOf f j) (by omega)
    have hv : v = .ref T := by
      have := hP.symm.trans e1
      exact Option.some.inj this
    have hvb' : vb = .ref T' := Option.some.inj (hvb.symm.trans e1')
    subst hv hvb'
    show wpAny _ A.in1 (tryCatch (holding [Value.ref T, Value.ref T] (richCompare .Lt (.ref T) (.ref T') >>= _)) _ >>= _) _ _ _
    refine wpAny_bind (wpAny_tryCatch (wpAny_holding (wpAny_bind (tup_lt (hbk' _ _ e2) (hbk' _ _ e2') (hg _ _ (by omega)) hu ?_))))
    refine wpAny_bind (wpAny_holding (wpAny_truthy_bool ?_))
    refine wpAny_bind (wpAny_letGo (wpAny_pure ?_))
    have hbest : bestOf f (j + 1) = if f (j + 1) < f (bestOf f j) then j + 1 else bestOf f j := rfl
    by_cases hlf : f (j + 1) < f (bestOf f j)
    · rw [if_pos hlf] at hbest
      simp only [hlf, decide_true, if_true]
      refine wpAny_bind ?_
      refine wpAny_updateSeq hS' rfl (wpAny_bind (wpAny_letGo ?_))
      rw [hname]
      refine wpAny_pure ⟨plainId_quiet PySem.F.plain_min_loop _, ih (j + 1) _ _ _ _ (by omega) hlt ?_ (fun b o e => (Heap.get?_update_other _ _ (Ne.symm (nS b o e))).trans (hbk' b o e)) (by rw [hbest]; exact e1) (Heap.get?_update_self _ hS' rfl)⟩
      obtain ⟨o, ho, r⟩ := hst'.1
      exact ⟨o, (Heap.get?_update_other _ _ hSI).trans ho, r⟩
    · rw [if_neg hlf] at hbest
      simp only [hlf, decide_false, Bool.false_eq_true, if_false]
      refine wpAny_bind (wpAny_letGo ?_)
      rw [hname]
      exact wpAny_pure ⟨plainId_quiet PySem.F.plain_min_loop _, ih (j + 1) _ _ _ c (by omega) hlt hst'.1 hbk' (by rw [hbest]; exact e1') hS'⟩
theorem min_tups (hh : A.handled = none) (hu : A.units + 1 < cLine) {l : Addr} {vs : Array Value} {f g : Nat → Int} (hl : s.heap.IsList l vs) (hp : PairsIn s.heap vs f g) (hg : ∀ i j, i < j → g i < g j) (hn : 0 < vs.size) {Q : Value → Shared → Prop}
    (hQ : ∀ v h' tk, vs[bestOf f (vs.size - 1)]? = some v → (∀ b o, s.heap.get? b = some o → h'.get? b = some o) → Q v { s with heap := h', toks := tk }) : wpAny (model pw w) A (call (.builtin "min") [.ref l]) Q E s := by
  have hname : (toString "min" ++ toString ".loop" : String) = "min.loop" := by decide
  refine call_function_tree PySem.F.kind_min PySem.F.plain_min PySem.F.entry_min (PySem.F.args_min1 _) ?_
  show wpAny _ A.in1 (Builtin.Builtins.bindParams "min" ["key", "default"] 0 ⟨[], []⟩ >>= _) _ _ s
  refine wpAny_bind (wpAny_of_eq (show Builtin.Builtins.bindParams "min" ["key", "default"] 0 ⟨[], []⟩ = pure [none, none] from rfl) ?_)
  refine wpAny_bind (wpAny_pure ?_)
  refine wpAny_bind (wpAny_pyIter_list hl ?_)
  refine wpAny_bind (wpAny_newObj_type ?_)
  rw [hname]
  refine wpAny_pure ⟨plainId_quiet PySem.F.plain_min_loop _, ?_⟩
  have hIlt : l < s.heap.objs.size := by obtain ⟨o, ho, _⟩ := hl; exact Heap.lt_size ho
  have hs1 : (s.heap.push { cls := .type "list_iterator", data := .fields #[.ref l, .int 0 0] }).objs.size = s.heap.objs.size + 1 := Heap.size_push ..
  have hSI : s.heap.objs.size + 1 ≠ s.heap.objs.size := Nat.succ_ne_self _
  have hS0 := Heap.get?_push_size (s.heap.push { cls := .type "list_iterator", data := .fields #[.ref l, .int 0 0] }) (o := { cls := .type "list", data := .seq #[] }) rfl
  have hI0 := Heap.get?_push_of_some { cls := .type "list", data := .seq #[] } (Heap.get?_push_size s.heap (o := { cls := .type "list_iterator", data := .fields #[.ref l, .int 0 0] }) rfl)
  have hold : ∀ b o, s.heap.get? b = some o → ((s.heap.push { cls := .type "list_iterator", data := .fields #[.ref l, .int 0 0] }).push { cls := .type "list", data := .seq #[] }).get? b = some o := fun b o e => Heap.get?_push_of_some _ (Heap.get?_push_of_some _ e)
  show codeAny _ _ (.builtin "min.loop" ⟨[.ref s.heap.objs.size, .none, .ref (s.heap.push { cls := .type "list_iterator", data := .fields #[.ref l, .int 0 0] }).objs.size], []⟩) _ { s with heap := ((s.heap.push { cls := .type "list_iterator", data := .fields #[.ref l, .int 0 0] }).push { cls := .type "list", data := .seq #[] }), toks := s.toks }
  rw [hs1] at hS0 ⊢
  generalize ((s.heap.push { cls := .type "list_iterator", data := .fields #[.ref l, .int 0 0] }).push { cls := .type "list", data := .seq #[] }) = H at hS0 hI0 hold ⊢
  have nI : ∀ b o, s.heap.get? b = some o → b ∉ [s.heap.objs.size] := fun b o e hm => Nat.lt_irrefl _ (List.mem_singleton.mp hm ▸ Heap.lt_size e)
  have nS : ∀ b o, s.heap.get? b = some o → b ≠ s.heap.objs.size + 1 := fun b o e q => by have := Heap.lt_size e; rw [q] at this; exact absurd this (Nat.not_lt.mpr (Nat.le_succ _))
  have W := Walks.list (prog := pw) (w := w) (A := A.in1) hh s.heap.objs.size l (Nat.ne_of_lt hIlt) vs
  have hl' : H.IsList l vs := by obtain ⟨o, ho, r⟩ := hl; exact ⟨o, hold _ _ ho, r⟩
  refine codeAny_builtin PySem.F.entry_min_loop ?_
  rw [Around.under_plainId PySem.F.plain_min_loop _]
  show wpAny _ A.in1 (seqItems? (.ref (s.heap.objs.size + 1)) >>= _) _ _ _
  refine wpAny_bind (wpAny_seqItems hS0 rfl ?_)
  show wpAny _ A.in1 (tryCatch (pyNext (.ref s.heap.objs.size)) _ >>= _) _ _ _
  refine wpAny_bind (wpAny_tryCatch (W.item 0 _ _ _ hn ⟨⟨_, hI0, rfl, rfl⟩, hl'⟩ fun v h' tk hP hst' hk' => ?_))
  have hS' := hk' (s.heap.objs.size + 1) _ (by simp) hS0
  show wpAny _ A.in1 (updateSeq (s.heap.objs.size + 1) (fun _ => #[v, v]) >>= _) _ _ _
  refine wpAny_bind ?_
  refine wpAny_updateSeq hS' rfl ?_
  rw [hname]
  refine wpAny_pure ⟨plainId_quiet PySem.F.plain_min_loop _, min_loop (hb := s.heap) (f := f) (g := g) hh hu (Nat.ne_of_lt hIlt) hSI (none_above (Nat.le_refl _)) (none_above (Nat.le_succ _)) hl hp hg (fun v h'' tk'' h1 h2 => hQ v h'' tk'' h1 h2) _ 0 _ _ v _ rfl hn ?_ (fun b o e => (Heap.get?_update_other _ _ (Ne.symm (nS b o e))).trans (hk' b o (nI b o e) (hold b o e))) hP (Heap.get?_update_self _ hS' rfl)⟩
  obtain ⟨o, ho, r⟩ := hst'.1
  exact ⟨o, (Heap.get?_update_other _ _ hSI).trans ho, r⟩
end
end Mine
end
section
set_option maxRecDepth 100000
set_option maxHeartbeats 4000000
namespace Mine
open PySem PySem.W PySem.Calls PyProof.Rows
section
variable {w : World} {A : Around} {h₀ : Heap} {env : Env} {scope : Scope} {cl : List (Str × Addr)} {elt iter : Expr} {s : Shared} {pos px : Pos}
/-- over a range by ones, one name -/
theorem does_range (hh : A.handled = none) {x : Str} {s₁ : Shared} {a : Int} {n : Nat} (hbase : ∀ b o, h₀.get? b = some o → s₁.heap.get? b = some o) (hsize : h₀.objs.size ≤ s₁.heap.objs.size) (hsz : n ≤ sizeLine)
    (hx : scope.names.lookup x = some .local) (hkind : scope.kind = .function) (G : Nat → Value → List (Addr × Obj) → Prop)
    (helt : ∀ C i t (s : Shared) m, i < n → Fr s₁.heap C s.heap m → m x = some (.int (a + (i : Nat)) t) → EltOk w A (compEnvC scope cl C env) G elt i s) :
    CompDoes w A h₀ env scope cl elt (.Name x px) [] { s₁ with heap := s₁.heap.push { cls := .type "range_iterator", data := .fields #[rawInt a, rawInt n, rawInt 1] } } s₁.heap.objs.size n (fun i v _ => ∃ t, v = .int (a + (i : Nat) * 1) t)
      (fun i s => IsRangeIter s.heap s₁.heap.objs.size (a + (i : Nat) * 1) ((n : Int) - (i : Nat)) 1) (fun b _ => b ∉ [s₁.heap.objs.size]) (fun b _ => b ∈ [s₁.heap.objs.size]) (fun _ => true) G (fun i m => ∃ t, m x = some (.int (a + (i : Nat)) t)) := by
  have hI : h₀.get? s₁.heap.objs.size = none := none_above hsize
  refine ⟨Src.ofWalks (Walks.range hh _ a 1 n) (fun b hb => by obtain rfl := List.mem_singleton.mp hb; exact hI) (fun i h st b hb => by obtain rfl := List.mem_singleton.mp hb; exact ⟨_, st⟩) (fun i h st => ⟨_, _, st, rfl, by decide⟩), hsz, ?_, fun b o e => Heap.get?_push_of_some _ (hbase b o e), ?_, ?_, ?_, ?_⟩
  · show IsRangeIter _ _ _ _ _
    have := Heap.get?_push_size s₁.heap (o := { cls := .type "range_iterator", data := .fields #[rawInt a, rawInt n, rawInt 1] }) rfl
    simpa using this
  · intro b o hb _
    rw [Heap.size_push] at hb
    exact ⟨fun hm => Nat.lt_irrefl _ (List.mem_singleton.mp hm ▸ hb), fun hm => Nat.lt_irrefl _ (List.mem_singleton.mp hm ▸ hb)⟩
  · intro C i v s m hC hi hP hn _ _
    obtain ⟨t, rfl⟩ := hP
    rw [Int.mul_one]
    exact wpAny_mono (assignName hx hkind hn) (fun _ s₂ ⟨h₂, tk₂, m₂, e1, e2, e3, e4⟩ => ⟨h₂, tk₂, m₂, e1, e2, ⟨t, e3⟩, e4⟩) fun _ _ x => x
  · intro C i s m _ _ _ _ _ _
    exact tests_nil
  · intro C i s m hC hi _ ⟨t, hm⟩ hn hk _
    exact helt C i t s m hi ⟨hn, fun b o e => hk b o (fun hm => Nat.lt_irrefl _ (List.mem_singleton.mp hm ▸ Heap.lt_size e)) (Heap.get?_push_of_some _ e), by rw [Heap.size_push] at hC; exact Nat.le_of_succ_le hC⟩ hm
theorem compEval_range {x : Str} {Q : Value → Shared → Prop} {E : Value → Shared → Prop} (hh : A.handled = none) (G : Nat → Value → List (Addr × Obj) → Prop)
    (hclos : closureFor scope env = pure cl) (hcell : ∀ y ∈ scope.names, y.2 ≠ .cell) (hkind : scope.kind = .function) (hnames : ∀ y ∈ scope.names, y.2 = .local → scope.names.lookup y.1 = some .local) (hx : scope.names.lookup x = some .local)
    (h : wpAny (model pw w) A (eval iter env) (fun xv s₁ => Seal (∃ r a n t u v, xv = .ref r ∧ IsRange s₁.heap r (a : Int) (a + (n : Nat)) 1 t u v ∧ 0 ≤ a ∧ a ≤ 100000 ∧ n ≤ 100000 ∧ (∀ b o, h₀.get? b = some o → s₁.heap.get? b = some o) ∧ h₀.objs.size ≤ s₁.heap.objs.size ∧
      (∀ C i t (s : Shared) m', i < n → Fr s₁.heap C s.heap m' → m' x = some (.int (a + (i : Nat)) t) → EltOk w A (compEnvC scope cl C env) G elt i s) ∧
      (∀ D s' ys, Rel s₁ s' → s₁.heap.objs.size ≤ D → s'.heap.PlainList D ys → Paired (Got G s'.heap) (List.range n) ys.toList → (∀ b o, s₁.heap.get? b = some o → s'.heap.get? b = some o) → Q (.ref D) s'))) E s)
    (hs : ∀ x, foldedSetIterable iter env x = pure x := by intro _; rfl) :
    wpAny (model pw w) A (eval (.ListComp elt [⟨.Name x px, iter, [], 0⟩] scope pos) env) Q E s := by
  refine compEval (hw := h₀) hclos hcell hkind hnames (wpAny_mono h (fun xv s₁ h₁ => ?_) fun _ _ e => e) hs
  obtain ⟨r, a, n, t, u, v, rfl, hr, ha, ha', hn, hb, hsize, helt, hQ⟩ := h₁
  refine wpAny_pyIter_range hr (small_one (by omega) (by omega) (by omega) (by omega)) ?_
  rw [rangeSize_one]
  have e0 : (if a < a + (n : Int) then a + (n : Int) - a else 0) = (n : Int) := by split <;> omega
  rw [e0]
  refine ⟨_, _, _, _, _, _, _, _, _, rfl, does_range hh hb hsize (Nat.le_trans hn (by decide)) hx hkind G helt, (by rw [Heap.size_push]; exact Nat.le_succ_of_le hsize), ?_⟩
  intro D s' ys hr hD hl' hG hk hh'
  exact hQ D s' ys ((Rel.heap _ _).trans hr) (by rw [Heap.size_push] at hD; exact Nat.le_of_succ_le hD) hl' (all_true hG) (iter_keeps hk)
end
end Mine
end
section
set_option maxRecDepth 100000
set_option maxHeartbeats 4000000
namespace Mine
open PySem PySem.W PySem.Calls PyProof.Rows
/-- a captured name within a block -/
theorem nmFree {M : Model} {A : Around} {E : Value → Shared → Prop} {s : Shared} {scope : Scope} {cl : List (Str × Addr)} {C c : Addr} {env : Env} {x : Str} {pos : Pos} {v : Value} {Q : Value → Shared → Prop} (hv : s.heap.IsCell c (some v)) (h : Q v s)
    (hkind : scope.kind = .function := by rfl) (hx : (compEnvC scope cl C env).kindOf x = some .cell := by rfl) (hc : (compEnvC scope cl C env).cells.lookup x = some c := by rfl) (hd : (x == ("__debug__" : Str)) = false := by decide) :
    wpAny M A (eval (.Name x pos) (compEnvC scope cl C env)) Q E s := wpAny_Name (wpAny_loadName_cell (env := compEnvC scope cl C env) hkind hx hc hv h) hd
def GPair (th : List Nat) (i : Nat) (x : Nat) (y : Value) (own : List (Addr × Obj)) : Prop := ∃ T t u, y = .ref T ∧ own = [(T, tupI (rAt th (i + x)) ((i + x : Nat) : Int) t u)]
theorem got_pairs {th : List Nat} {i : Nat} {h : Heap} {n : Nat} {ys : Array Value} (X : Paired (Got (GPair th i) h) (List.range n) ys.toList) : ys.size = n ∧ PairsIn h ys (fun x => rAt th (i + x)) (fun x => ((i + x : Nat) : Int)) := by
  have hl : ys.size = n := by
    have := X.length
    rw [List.length_range] at this
    exact this.symm
  refine ⟨hl, fun x hx => ?_⟩
  obtain ⟨b, hb, own, ho, T, t, u, e1, e2⟩ := paired_at X x x (List.getElem?_range (by omega))
  subst e1 e2
  exact ⟨T, t, u, by simpa using hb, (ho _ (.head _)).1⟩
theorem still_sorted (th : List Nat) (j n : Nat) : ∀ a b (hb : b < (stillUpTo th j n).length) (hab : a < b), (stillUpTo th j n)[a] ≤ (stillUpTo th j n)[b] := by
  have h : (stillUpTo th j n).Pairwise (· ≤ ·) := by
    unfold stillUpTo
    refine List.Pairwise.map _ (fun a b (h : a < b) => ?_) (List.pairwise_lt_range.filter _)
    show (a : Int) ≤ b
    omega
  intro a b hb hab
  exact List.pairwise_iff_getElem.mp h a b (by omega) hb hab
theorem still_pick {th : List Nat} (hal : ∀ c ∈ th, c ∈ alph) {i j : Nat} (hi : i ≤ j) (hj : j < th.length) :
    (stillUpTo th j (j + 1))[(stillUpTo th j (j + 1)).countP fun y => decide (y < (i : Int))]? = some (((i + bestOf (fun x => rAt th (i + x)) (j - i) : Nat)) : Int) := by
  have h := least_is hal hi hj
  have hc : (stillUpTo th j (j + 1)).countP (fun y => decide (y < (i : Int))) = ((List.range (j + 1)).filter fun x => stillB th x j).countP fun y => decide (y < i) := by
    unfold stillUpTo
    rw [List.countP_map]
    congr 1
    funext x
    simp
  rw [hc]
  unfold stillUpTo
  rw [List.getElem?_map, h]
  rfl
/-- what the second inner loop keeps -/
structure JC (th : List Nat) (L Dc D P S : Addr) (j : Nat) (h₀ : Heap) (i : Nat) (m : Str → Option Value) (h : Heap) : Prop where
  nq : NQ th Dc D P m
  last : ∃ t, m (Str.ofString "last") = some (.int (j : Nat) t)
  still : m (Str.ofString "still") = some (.ref S)
  keep : Keep1 L h₀ h
theorem stepC1 {w : World} {A : Around} {mg mb : Str → Option Value} {s₁ : Shared} (W : Wd w mg mb s₁.heap) (hh : A.handled = none) (hA : A.depth ≤ 400) (hun : A.units ≤ 400) {L fa : Addr} {cd : Value} {th : List Nat} (hth : th.length ≤ 6) (hal : ∀ c ∈ th, c ∈ alph)
    {Dc Dr D P S : Addr} {cv rv dv pv sv : List Value} (iR : True ∧ IntsAre rv (ranksOf th))
    {j : Nat} (hj : j < th.length) {h₀ : Heap} (hSL : S ≠ L) {m₀ : Str → Option Value} (n₀ : h₀.Ns L m₀) (Y₀ : HQ L Dc Dr D P cv rv dv pv h₀) (hS : h₀.PlainList S sv.toArray) (iS : True ∧ IntsAre sv (stillUpTo th j (j + 1)))
    {i : Nat} (hi : i < j + 1) {t : Tok} {m : Str → Option Value} {s : Shared} (X : JC th L Dc D P S j h₀ i m s.heap) (F : Fr s₁.heap L s.heap (fun y => if y = Str.ofString "first" then some (.int (i : Nat) t) else m y)) :
    wpAny (model pw w) A (execs (forBody ((forBody (stAt 16)).getD 5 (.Pass default))) (EL L fa cd)) (fun f s' => match f with
        | .next | .cont => Seal (∃ m', Rel s s' ∧ Fr s₁.heap L s'.heap m' ∧ JC th L Dc D P S j h₀ (i + 1) m' s'.heap ∧ Keep1 L s.heap s'.heap)
        | .brk => False
        | .ret _ => False) (fun _ _ => False) s := by
  obtain ⟨KX, T⟩ := id W
  obtain ⟨nq, ⟨tl, hlast⟩, hstill, K⟩ := X
  have Y := Y₀.keep n₀ K
  have hS₁ : s.heap.PlainList S sv.toArray := hS.at fun o e => K _ o hSL e
  have N : News s₁.heap L s.heap [] := News.nil
  have F₁ := frForm1 (frForm1 F (x := Str.ofString "still") (v := .ref S) hstill) (x := Str.ofString "last") (v := .int (j : Nat) tl) hlast
  have F₂ := frForm1 F₁ (x := Str.ofString "first") (v := .int (i : Nat) t) rfl
  clear F F₁
  show wpAny _ _ (execs [_, _] _) _ _ _
  repeat' (fail_if_success (with_reducible show wpAny _ _ (eval (Expr.ListComp _ _ _ _) _) _ _ _)); walk1
  refine compEval_range (h₀ := s₁.heap) (cl := [(Str.ofString "ranks", L + 1)]) hh (GPair th i) (by with_unfolding_all rfl) (by decide) (by rfl) (by decide) (by rfl) ?_
  repeat' (fail_if_success (with_reducible show wpAny _ _ (call (Value.type "range") _ _) _ _ _)); walk1
  rw [show (j : Int) + 1 = (i : Int) + ((j + 1 - i : Nat) : Int) by omega]
  refine call_range_2 ?_
  refine ⟨_, _, j + 1 - i, _, _, _, rfl, IsRange.new .., by omega, by omega, by omega, ?_, ?_, ?_, ?_⟩
  · exact fun b o e => Heap.get?_push_of_some _ (F₂.keep b o e)
  · show _ ≤ (s.heap.push _).objs.size
    rw [Heap.size_push]
    exact Nat.le_succ_of_le (Nat.le_trans F₂.above (Nat.le_of_lt F₂.ns.lt))
  · intro C x t' s' m' hx F' hm
    have hcell : s'.heap.IsCell (L + 1) (some (.ref Dr)) := let ⟨o, ho, hd⟩ := Y.cell; ⟨o, F'.keep _ _ (Heap.get?_push_of_some _ ho), hd⟩
    have hlr : s'.heap.PlainList Dr rv.toArray := Y.lr.at fun o e => F'.keep _ _ (Heap.get?_push_of_some _ e)
    have hrk : (ranksOf th)[i + x]? = some (rAt th (i + x)) := by
      have hlt : i + x < th.length := by omega
      simp [ranksOf, rAt, List.getD, List.getElem?_eq_getElem hlt]
    rw [show (i : Int) + (x : Nat) = ((i + x : Nat) : Int) by omega] at hm
    repeat' (fail_if_success (with_reducible show wpAny _ _ (eval (Expr.Name _ _) _) _ _ _)); walk1
    refine nmFree hcell ?_
    repeat' (fail_if_success (with_reducible show wpAny _ _ (eval (Expr.Name _ _) _) _ _ _)); walk1
    refine nmL F' hm ?_
    repeat' (fail_if_success (with_reducible show wpAny _ _ (subscriptTail _ _ _ _) _ _ _)); walk1
    refine sub_ints hlr.isList iR.2 hrk (by omega) fun t2 => ?_
    repeat' (fail_if_success (with_reducible show wpAny _ _ (eval (Expr.Name _ _) _) _ _ _)); walk1
    refine nmL F' hm ?_
    repeat' (fail_if_success (with_reducible show wpAny _ _ (newTuple _) _ _ _)); walk1
    refine wpAny_newObj_type ⟨⟨_, _, rfl, fun b o e => Heap.get?_push_of_some _ e⟩, [(s'.heap.objs.size, tupI (rAt th (i + x)) ((i + x : Nat) : Int) t2 t')], ?_, s'.heap.objs.size, t2, t', rfl, rfl⟩ (by size_fits)
    intro q hq
    obtain rfl := List.mem_singleton.mp hq
    refine ⟨none_above (Nat.le_refl _), Heap.get?_push_size _ rfl, fun l => ?_⟩
    obtain ⟨_, vs, hv⟩ := l
    cases hv
  · intro D₂ s₂ ys hr₂ hD₂ hl₂ hG₂ hk₂
    obtain ⟨hyl, hpi⟩ := got_pairs hG₂
    have F₃ := (F₂.push _).keeps hk₂
    have N₃ : News s₁.heap L s₂.heap [] := News.nil
    have K₃ : Keep1 L s.heap s₂.heap := (Keep1.of fun b o e => Heap.get?_push_of_some _ e).trans (.of hk₂)
    clear F₂ N
    repeat' (fail_if_success (with_reducible show wpAny _ _ (call (Value.builtin "min") _ _) _ _ _)); walk1
    refine min_tups hh (Nat.lt_of_le_of_lt (Nat.add_le_add_right hun 1) (by decide)) hl₂.isList hpi (fun a b h => by show ((i + a : Nat) : Int) < ((i + b : Nat) : Int); omega) (by omega) fun v h₄ k₄ hv hk₄ => ?_
    have F₄ := F₃.keeps hk₄
    have N₄ : News s₁.heap L h₄ [] := News.nil
    have K₄ : Keep1 L s.heap h₄ := K₃.trans (.of hk₄)
    clear F₃ N₃
    have hbs := bestOf_spec (fun x => rAt th (i + x)) (ys.size - 1)
    obtain ⟨Tm, tm, um, em1, em2⟩ := hpi (bestOf (fun x => rAt th (i + x)) (ys.size - 1)) (by omega)
    obtain rfl : v = .ref Tm := Option.some.inj (hv.symm.trans em1)
    have hTm := hk₄ _ _ em2
    rw [show ys.size - 1 = j - i by omega] at hTm
    repeat' (fail_if_success (with_reducible show wpAny _ _ (subscriptTail _ _ _ _) _ _ _)); walk1
    refine item_tupleT (l := [_, _]) (j := 1) ⟨_, hTm, rfl, _, rfl⟩ (by decide) (by decide) (by rfl) rfl ?_
    repeat' (fail_if_success (with_reducible show wpAny _ _ (storeName _ _ _) _ _ _)); walk1
    refine stLocS F₄ fun h₅ F₅ hs₅ => ?_
    replace hs₅ : Heap.SameBut L h₄ h₅ := hs₅
    have N₅ : News s₁.heap L h₅ [] := News.nil
    have K₅ : Keep1 L s.heap h₅ := K₄.trans (.same hs₅)
    clear F₄ N₄
    repeat' (fail_if_success (with_reducible show wpAny _ _ (call (Value.ref 53) _ _) _ _ _)); walk1
    have hS₅ : h₅.PlainList S sv.toArray := hS₁.at fun o e => K₅ _ o hSL e
    have hlen := stillUpTo_len th j (j + 1)
    refine wpAny_call (codeAny_mono (bisL (W.keeps F₅.keep) hh (Nat.le_trans hA (by decide)) S sv _ _ _ hS₅.isList iS.2 (by omega) (still_sorted th j (j + 1))) fun r s₆ hr₆ => ?_)
    obtain ⟨⟨t6, rfl⟩, h₆, k₆, rfl, hk₆⟩ := hr₆
    have F₆ := F₅.keeps hk₆
    have N₆ : News s₁.heap L h₆ [] := News.nil
    have K₆ : Keep1 L s.heap h₆ := K₅.trans (.of hk₆)
    clear F₅ N₅
    have hS₆ : h₆.PlainList S sv.toArray := hS₁.at fun o e => K₆ _ o hSL e
    have hcl : (stillUpTo th j (j + 1)).countP (fun y => decide (y < (i : Int))) ≤ 100000 := Nat.le_trans List.countP_le_length (by omega)
    show wpAny _ _ (subscriptTail _ _ (.ref S) (.int ((stillUpTo th j (j + 1)).countP (fun y => decide (y < (i : Int))) : Nat) t6)) _ _ _
    refine sub_ints hS₆.isList iS.2 (still_pick hal (Nat.le_of_lt_succ hi) hj) hcl fun t7 => ?_
    repeat' (fail_if_success (with_reducible show wpAny _ _ (compareOp _ _ _) _ _ _)); walk1
    refine ne_int ?_
    show wpAny _ _ (truthy (.bool (((i + bestOf (fun x => rAt th (i + x)) (j - i) : Nat) : Int) != ((i + bestOf (fun x => rAt th (i + x)) (j - i) : Nat) : Int)))) _ _ _
    rw [bne_self_eq_false]
    refine wpAny_truthy_bool ?_
    show wpAny _ _ (execs [] _) _ _ _
    refine wpAny_execs_nil ?_
    show wpAny _ _ (execs [] _) _ _ _
    refine wpAny_execs_nil ?_
    exact ⟨_, ((Rel.heap (s := s) _ _).trans hr₂).trans (Rel.heap (s := s₂) _ _), F₆, ⟨nq.keep, ⟨tl, rfl⟩, rfl, K.trans K₆⟩, K₆⟩
end Mine
end
section
set_option maxRecDepth 100000
set_option maxHeartbeats 4000000
namespace Mine
open PySem PySem.W PySem.Calls PyProof.Rows
theorem stepC {w : World} {A : Around} {mg mb : Str → Option Value} {s₁ : Shared} (W : Wd w mg mb s₁.heap) (hh : A.handled = none) (hA : A.depth ≤ 400) (hun : A.units ≤ 400) {L fa : Addr} {cd : Value} {Q : Flow → Shared → Prop} {th : List Nat} (hth : th.length ≤ 6) (hal : ∀ c ∈ th, c ∈ alph)
    {Dc Dr D P S : Addr} {cv rv dv pv sv : List Value} (iR : True ∧ IntsAre rv (ranksOf th))
    {j : Nat} (hj : j < th.length) (hSL : S ≠ L) {s : Shared} {m : Str → Option Value} (F : Fr s₁.heap L s.heap m) (Y : HQ L Dc Dr D P cv rv dv pv s.heap) (hS : s.heap.PlainList S sv.toArray) (iS : True ∧ IntsAre sv (stillUpTo th j (j + 1)))
    (X : NQ th Dc D P m) (hlast : ∃ t, m (Str.ofString "last") = some (.int (j : Nat) t)) (hstill : m (Str.ofString "still") = some (.ref S))
    (next : ∀ s' m', Rel s s' → Fr s₁.heap L s'.heap m' → NQ th Dc D P m' → Keep1 L s.heap s'.heap → Q .next s') :
    wpAny (model pw w) A (execs ((forBody (stAt 16)).drop 5) (EL L fa cd)) Q (fun _ _ => False) s := by
  obtain ⟨KX, T⟩ := id W
  obtain ⟨tl, hlast⟩ := hlast
  have N : News s₁.heap L s.heap [] := News.nil
  have F₁ := frForm1 F hlast
  have X₁ : JC th L Dc D P S j s.heap 0 _ s.heap := ⟨X.keep, ⟨tl, hlast⟩, hstill, fun b o _ e => e⟩
  show wpAny _ _ (execs [_] _) _ _ _
  repeat' (fail_if_success (with_reducible show wpAny _ _ (exec (Stmt.For _ _ _ _ _) _) _ _ _)); walk1
  refine wpAny_For ?_
  repeat' (fail_if_success (with_reducible show wpAny _ _ (call (Value.type "range") _ _) _ _ _)); walk1
  rw [show (j : Int) + 1 = ((j + 1 : Nat) : Int) from rfl]
  refine rng1 (s := { s with toks := _ }) hh (by omega) rfl rfl F (JC th L Dc D P S j s.heap) X₁ ?_ ?_ ?_
  · rintro i m h h' ⟨q1, q2, q3, q6⟩ hk
    exact ⟨q1, q2, q3, fun b o h1 e => hk b o (Nat.ne_of_lt (Nat.lt_succ_of_lt (Heap.lt_size e))) h1 (q6 b o h1 e)⟩
  · rintro i t m₁ s₂ hi J hr ⟨oI, hoI, _⟩ F₂
    refine wpAny_mono (stepC1 W hh hA hun hth hal iR hj hSL F.ns Y hS iS hi J F₂) (fun f s₃ h => ?_) fun _ _ h => h
    have hI : ∀ {h : Heap}, Keep1 L s₂.heap h → ∀ o, s₂.heap.get? (s.heap.objs.size + 1) = some o → h.get? (s.heap.objs.size + 1) = some o := fun k o e => k _ o (Nat.ne_of_gt (Nat.lt_succ_of_lt F.ns.lt)) e
    cases f with
    | brk => exact h.elim
    | ret v => exact h.elim
    | next =>
      obtain ⟨m', a, b, c, d⟩ := h
      exact ⟨m', a, b, c, hI d⟩
    | cont =>
      obtain ⟨m', a, b, c, d⟩ := h
      exact ⟨m', a, b, c, hI d⟩
  · rintro m' s' hr F' J
    show wpAny _ _ (execs [] _) _ _ _
    refine wpAny_execs_nil ?_
    exact next s' m' ((Rel.heap (s := s) _ _).trans hr) F' J.nq J.keep
/-- one turn of the last loop -/
theorem stepL {w : World} {A : Around} {mg mb : Str → Option Value} {s₁ : Shared} (W : Wd w mg mb s₁.heap) (hh : A.handled = none) (hA : A.depth ≤ 400) (hun : A.units ≤ 400) {L fa : Addr} {cd : Value} {Q : Flow → Shared → Prop} {th : List Nat} (hth : th.length ≤ 6) (hal : ∀ c ∈ th, c ∈ alph)
    {Dc Dr D P : Addr} {cv rv dv pv : List Value} (iR : True ∧ IntsAre rv (ranksOf th)) (iD : True ∧ IntsAre dv ((List.range th.length).map fun i => (wOf th i : Int))) (iP : True ∧ IntsAre pv ((List.range th.length).map fun i => (placeOf th i : Int)))
    {j : Nat} (hj : j < th.length) {t : Tok} {s : Shared} {m : Str → Option Value} (F : Fr s₁.heap L s.heap m) (X : NQ th Dc D P m) (Y : HQ L Dc Dr D P cv rv dv pv s.heap) (hlast : m (Str.ofString "last") = some (.int (j : Nat) t))
    (next : ∀ s' m', Rel s s' → Fr s₁.heap L s'.heap m' → NQ th Dc D P m' → Keep1 L s.heap s'.heap → Q .next s') :
    wpAny (model pw w) A (execs (forBody (stAt 16)) (EL L fa cd)) Q (fun _ _ => False) s := by
  refine stepA W hh hA hth iD iP hj F X Y hlast fun s₂ m₂ S hr₂ F₂ X₂ hl₂ hst₂ hS₂ hSl K₂ => ?_
  have nS : s₁.heap.get? S = none := by
    obtain ⟨o, es, ep, ho, _⟩ := F.ns
    exact none_above (Nat.le_trans F.above (Nat.le_of_lt (hSl _ o ho)))
  have hSL : S ≠ L := ne_of_list F₂.ns hS₂.isList
  have lt : ∀ {b o}, s.heap.get? b = some o → b ≠ S := fun e => Nat.ne_of_lt (hSl _ _ e)
  have hSo : L + 1 ≠ S ∧ Dc ≠ S ∧ Dr ≠ S ∧ D ≠ S ∧ P ≠ S := by
    obtain ⟨oc, hoc, _⟩ := Y.cell
    obtain ⟨_, h1⟩ := Y.lc
    obtain ⟨_, h2⟩ := Y.lr
    obtain ⟨_, h3⟩ := Y.ld
    obtain ⟨_, h4⟩ := Y.lp
    exact ⟨lt hoc, lt h1, lt h2, lt h3, lt h4⟩
  have Y₂ := Y.keep F.ns K₂
  refine stepB W hh hA hth iD iP hj nS hSL hSo F₂ X₂ Y₂ hl₂ hst₂ hS₂ fun s₃ m₃ hr₃ F₃ J₃ => ?_
  obtain ⟨X₃, hl₃, hst₃, ⟨sv, hS₃, iS⟩, K₃⟩ := J₃
  have Y₃ := Y₂.keep2 F₂.ns hSo K₃
  refine stepC W hh hA hun hth hal iR hj hSL F₃ Y₃ hS₃ iS X₃ hl₃ hst₃ fun s₄ m₄ hr₄ F₄ X₄ K₄ => ?_
  refine next s₄ m₄ ((hr₂.trans hr₃).trans hr₄) F₄ X₄ fun b o hb e => ?_
  exact K₄ b o hb (K₃ b o hb (lt e) (K₂ b o hb e))
theorem lawP10 {w : World} {A : Around} {mg mb : Str → Option Value} {s₁ : Shared} (W : Wd w mg mb s₁.heap) (hh : A.handled = none) (hA : A.depth ≤ 400) (hun : A.units ≤ 400) {L fa : Addr} {cd : Value} {Q : Flow → Shared → Prop} {th : List Nat} (hth : th.length ≤ 6) (hal : ∀ c ∈ th, c ∈ alph)
    {Dc Dr D P : Addr} {cv rv dv pv : List Value} (hir : IntsAre rv (ranksOf th))
    (next : ∀ s, Rel s₁ s → (∀ b o, s₁.heap.get? b = some o → s.heap.get? b = some o) → Q (.ret (.bool true)) s)
    {s : Shared} {m : Str → Option Value} (X : LC s₁ L th Dc Dr cv rv s m) (B : LT th D dv s.heap m) (R : LPl th P pv s.heap m) :
    wpAny (model pw w) A (execs (dL.body.drop 16) (EL L fa cd)) Q (fun _ _ => False) s := by
  obtain ⟨KX, T⟩ := id W
  obtain ⟨tg, hthings⟩ := X.lh.things
  have N : News s₁.heap L s.heap [] := News.nil
  have F₁ := frForm1 X.fr hthings
  have nq : NQ th Dc D P m := ⟨X.lh.things, X.lh.codes, B.text, B.depths, R.places⟩
  have Y : HQ L Dc Dr D P cv rv dv pv s.heap := ⟨X.lh.cell, X.lh.lc, X.lh.lr, B.ld, R.lp⟩
  show wpAny _ _ (execs [_, _] _) _ _ _
  repeat' (fail_if_success (with_reducible show wpAny _ _ (exec (Stmt.For _ _ _ _ _) _) _ _ _)); walk1
  refine wpAny_For ?_
  repeat' (fail_if_success (with_reducible show wpAny _ _ (call (Value.builtin "len") _ _) _ _ _)); walk1
  refine PySem.P.len_str (by rw [tx_len]; omega) ?_
  rw [tx_len]
  repeat' (fail_if_success (with_reducible show wpAny _ _ (call (Value.type "range") _ _) _ _ _)); walk1
  have up : ∀ {b : Addr} {o : Obj}, s.heap.get? b = some o → b ≠ s.heap.objs.size + 1 := fun e => Nat.ne_of_lt (Nat.lt_succ_of_lt (Heap.lt_size e))
  refine rng1 (s := { s with toks := _ }) hh (by omega) rfl rfl X.fr (fun _ m h => NQ th Dc D P m ∧ Keep1 L s.heap h) ⟨nq, fun b o _ e => e⟩ ?_ ?_ ?_
  · rintro i m h h' ⟨q1, q2⟩ hk
    exact ⟨q1, fun b o h1 e => hk b o (up e) h1 (q2 b o h1 e)⟩
  · rintro j t m₁ s₂ hj ⟨q1, q2⟩ hr ⟨oI, hoI, _⟩ F₂
    refine stepL W hh hA hun hth hal (j := j) (t := t) ⟨trivial, hir⟩ ⟨trivial, B.id⟩ ⟨trivial, R.ip⟩ hj F₂ q1.keep (Y.keep X.fr.ns q2) rfl fun s₃ m₃ hr₃ F₃ X₃ K₃ => ?_
    exact ⟨m₃, hr₃, F₃, ⟨X₃, q2.trans K₃⟩, fun o e => K₃ _ o (Nat.ne_of_gt (Nat.lt_succ_of_lt X.fr.ns.lt)) e⟩
  · rintro m' s' hr F' ⟨q1, q2⟩
    have N' : News s₁.heap L s'.heap [] := News.nil
    show wpAny _ _ (execs [_] _) _ _ _
    repeat' walk1
    exact next s' (X.rel.trans ((Rel.heap (s := s) _ _).trans hr)) F'.keep
end Mine
end
section
set_option maxRecDepth 100000
set_option maxHeartbeats 4000000
namespace Mine
open PySem PySem.W PySem.Calls PyProof.Rows
theorem lawAll {w : World} {A : Around} {mg mb : Str → Option Value} {s₁ : Shared} (W : Wd w mg mb s₁.heap) (hh : A.handled = none) (hA : A.depth ≤ 400) (hun : A.units ≤ 400) {L fa : Addr} {cd : Value} {Q : Flow → Shared → Prop} {l : Addr} {vs : List Value} {ns : List Int} (hl : s₁.heap.IsList l vs.toArray) (hi : IntsAre vs ns) (hn : ns.length ≤ 63)
    (next : ∀ s, Rel s₁ s → (∀ b o, s₁.heap.get? b = some o → s.heap.get? b = some o) → Q (.ret (.bool true)) s)
    {s : Shared} {m : Str → Option Value} (X : LS s₁ L none s m) (hm : m (Str.ofString "script") = some (.ref l)) :
    wpAny (model pw w) A (execs dL.body (EL L fa cd)) Q (fun _ _ => False) s := by
  refine lawP1 W hh hA hl hi hn (fun s m D us zs X h1 h2 h3 h4 => ?_) X hm
  refine lawP2 W hh hA (fun s m D ys sg X h1 h2 h3 h4 h5 h6 => ?_) X h1 h2 h3 h4
  refine lawP3 W hh hA (fun s m t X h1 => ?_) X h1 h2 h3 h4 h5 h6
  have hR := read_len h5
  have hal : ∀ c ∈ (readOf sg).take 6, c ∈ alph := fun c hc => read_alph h5 c (List.mem_of_mem_take hc)
  refine lawP4 W hh (by omega) (fun s m t X h1 => ?_) X h1
  have hth : ((readOf sg).take 6).length ≤ 6 := List.length_take_le _ _
  generalize (readOf sg).take 6 = th at h1 hal hth
  refine lawP5 W hh hA hth hal (fun s m t Dc cv Dr rv X h1 h2 h3 hic h5 hir nc nr => ?_) X h1
  have hX : LC s₁ L th Dc Dr cv rv s m := ⟨X.fr, X.rel, ⟨X.cell, ⟨t, h1⟩, h2, h3, h5⟩, nc, nr⟩
  refine lawP6 W hh hA hth hal hic hir (fun s m X => ?_) hX
  refine lawP7 W hh hA hth hal hic (fun s m O D ov dv X B nd => ?_) X
  have hid := B.id
  rw [depths_all] at hid
  have hT : LT th D dv s.heap m := ⟨B.text, B.depths, B.ld, hid⟩
  refine lawP8 W hh hA hth hal nd (fun s m U uv X B h1 h2 h3 => ?_) X hT
  refine lawP9 W hh hA hth hal nd (fun s m P pv X B R nP => ?_) X B h1 h2 h3
  exact lawP10 W hh hA hun hth hal hir next X B R
theorem loose_eq : looseW qV looseV = looseV := by decide +kernel
theorem walk_law : (fun (_ : OpenLaw) (_ : Params → Frag) => WalkO qV looseV (XL qV []) HK.says rowL.toRowW dL [] fun f vs => PySem.call f vs) PySem.Challenge.rw_wf0103_01 KG := by
  k_fill
  intro w s₀ s₁ mg mb G Y fa o pm cd doc dV kV ho hd hcd hD hmg hg args vals as hpre hlay hrd hwl hlo
  have KX := kIn_of Y
  have V := (Ground.X G).2
  refine Ground.open G ?_
  intro T B D TE TW
  obtain ⟨_, _, M⟩ := bmod_of_top T
  obtain ⟨_, _, he, B0⟩ := based_of_top T rfl hmg ho hd
  have he' : cd = _ := he
  subst he'
  clear he hmg
  wrow_args hpre hlay hrd hwl hlo
  refine enter_call ?_
  w_top on
  have K0 := below_caller (Top.heap T)
  w_call any ho hd hcd hD T F
  rename News _ _ _ _ => N
  rename IntsAre _ _ => hI
  rename Heap.IsList _ _ _ => hL
  rename ¬ _ < _ => hc
  rename Obj.data _ = Data.cell _ => hcell
  have T' := topRead_of T
  rw [loose_eq] at T'
  have W : Wd w mg mb s₁.heap := ⟨KX, T'⟩
  refine wpAny_mono (lawAll (A := callerA.deeper _) W rfl (show 1 + claimMargin + 1 ≤ 400 by decide) (show 4 + 3 ≤ 400 by decide) (L := s₁.heap.objs.size) (fa := fa) hL hI (by omega) (Q := fun f s' => f = .ret (.bool true) ∧ Rel s₁ s' ∧ ∀ b o, s₁.heap.get? b = some o → s'.heap.get? b = some o) (fun s' hr hk => ⟨rfl, hr, hk⟩) ⟨F, ⟨_, (N _ (.head _)).1, hcell⟩, Rel.heap (s := s₁) _ _⟩ rfl) (fun f s' h => ?_) (fun _ _ h => h.elim)
  obtain ⟨rfl, ⟨⟨h, tk, gs, rfl⟩, hb⟩, hk⟩ := h
  exact ⟨.inl ⟨_, _, [], rfl, fun _ => rfl, .bool true, by kernel_rfl, unshared_nil⟩, .of_keep hk, rfl, hb (.of_eq hg)⟩
end Mine
end
theorem PySem.Challenge.cw_wf0103_01_holds : PySem.Challenge.rw_wf0103_01.Holds := by
  exact Mine.law_holds Mine.walk_law
