import PyProof.Rows.All
import Wide.All
import OpenK.AllK
import Wide.FinOn
import PySem.Challenge.RW_wa0029_01
set_option Elab.async false
set_option linter.all false
set_option maxRecDepth 100000
open PySem PySem.W PyProof.Rows PySem.Calls
namespace Mine

section Goes
variable (p : Program) (w : World) (n₀ : Nat) (ann : Option Value) (c : Code) (fp : Pos)

noncomputable def Goes {α : Type} (n : Nat) (t : Sem α) (s : Shared) (q : Pos) (a : α) (s' : Shared) (q' : Pos) : Prop :=
  ∀ (K : α → Sem Fin) (H : Value → Sem Fin) (gd : Bool → Bool) (lv : List Value → List Value) (N : Nat) (r : Flow × Shared × Code × Pos),
    segRun treeTable p w n₀ ann 1 N s' ⟨K a, c, q', [topFrame fp]⟩ = some r → segRun treeTable p w n₀ ann 1 (N + n) s ⟨t.wrap K H gd lv, c, q, [topFrame fp]⟩ = some r

variable {p w n₀ ann c fp}
variable {α β : Type} {s s' s₁ : Shared} {q q' q₁ : Pos}

theorem bind_wrap' (m : Sem α) (f : α → Sem β) (K : β → Sem Fin) (H : Value → Sem Fin) (gd lv) : (m >>= f).wrap K H gd lv = m.wrap (fun a => (f a).wrap K H gd lv) H gd lv := by
  rw [Sem.bind_eq_wrap', Sem.wrap_wrap]; rfl

theorem goes_pure {a : α} : Goes p w n₀ ann c fp 0 (pure a) s q a s q := fun K H gd lv N r h => h
theorem goes_bind {n k : Nat} {m : Sem α} {f : α → Sem β} {a : α} {b : β} (hm : Goes p w n₀ ann c fp n m s q a s₁ q₁) (hf : Goes p w n₀ ann c fp k (f a) s₁ q₁ b s' q') : Goes p w n₀ ann c fp (k + n) (m >>= f) s q b s' q' :=
  fun K H gd lv N r h => by
    rw [bind_wrap', ← Nat.add_assoc]
    exact hm _ H gd lv (N + k) r (hf K H gd lv N r h)
theorem goes_keep {n : Nat} {vs : List Value} {m : Sem α} {a : α} (hm : Goes p w n₀ ann c fp n m s q a s' q') : Goes p w n₀ ann c fp n (m.keep vs) s q a s' q' :=
  fun K H gd lv N r h => by
    rw [Sem.keep_eq_wrap, Sem.wrap_wrap]
    exact hm _ _ _ _ N r h
theorem goes_holding {n : Nat} {vs : List Value} {m : Sem α} {a : α} (hm : Goes p w n₀ ann c fp n m s q a s' q') : Goes p w n₀ ann c fp n (holding vs m) s q a s' q' := by
  unfold holding
  split
  · exact hm
  · exact goes_keep hm
theorem goes_onRaise {n : Nat} {h : Value → Sem Unit} {m : Sem α} {a : α} (hm : Goes p w n₀ ann c fp n m s q a s' q') : Goes p w n₀ ann c fp n (m.onRaise h) s q a s' q' :=
  fun K H gd lv N r hr => by
    rw [Sem.onRaise_eq_wrap, Sem.wrap_wrap]
    exact hm _ _ _ _ N r hr
theorem goes_cast {n n' : Nat} {m : Sem α} {a : α} (hm : Goes p w n₀ ann c fp n m s q a s' q') (e : n = n') : Goes p w n₀ ann c fp n' m s q a s' q' := e ▸ hm

theorem goes_alloc {o : Obj} : Goes p w n₀ ann c fp 1 (alloc o) s q s.heap.objs.size { s with heap := s.heap.push o } q := fun K H gd lv N r h => h
theorem goes_fresh : Goes p w n₀ ann c fp 1 fresh s q s.toks { s with toks := s.toks + 1 } q := fun K H gd lv N r h => h
theorem goes_rule {tag : String} : Goes p w n₀ ann c fp 1 (rule tag) s q () s q := fun K H gd lv N r h => h
theorem goes_standAt : Goes p w n₀ ann c fp 1 (standAt q') s q () s q' := fun K H gd lv N r h => h
theorem goes_ask : Goes p w n₀ ann c fp 1 ask s q ⟨p, w.params⟩ s q := fun K H gd lv N r h => h
theorem goes_loadPart {a : Addr} {part : Option Value} {o : Obj} (ho : s.heap.get? a = some o) : Goes p w n₀ ann c fp 1 (loadPart a part) s q o s q := fun K H gd lv N r h => by
  show (match step (denote treeTable) p w s ⟨.load a part fun x => (Sem.pure x).wrap K H gd lv, c, q, [topFrame fp]⟩ with | .go s' t' => segRun treeTable p w n₀ ann 1 N s' t' | .halt _ _ => none) = some r
  simp only [step, ho]
  exact h
theorem goes_load {a : Addr} {o : Obj} (ho : s.heap.get? a = some o) : Goes p w n₀ ann c fp 1 (load a) s q o s q := goes_loadPart (part := none) ho
theorem goes_updatePart {a : Addr} {part : Option Value} {o : Obj} {f : Obj → Obj} (ho : s.heap.get? a = some o) (hn : Nat.ble n₀ a = true) : Goes p w n₀ ann c fp 1 (updatePart a part f) s q () { s with heap := s.heap.update a f } q := fun K H gd lv N r h => by
  have hk : stepOk n₀ ann ⟨.update a part f fun x => (Sem.pure x).wrap K H gd lv, c, q, [topFrame fp]⟩ = true := by
    show (true && (Nat.ble n₀ a || a == mainNs || a == cStatics || ann == some (.ref a))) = true
    rw [hn]; rfl
  show (match stepOk n₀ ann ⟨.update a part f fun x => (Sem.pure x).wrap K H gd lv, c, q, [topFrame fp]⟩ with
    | false => none
    | true => match step (denote treeTable) p w s ⟨.update a part f fun x => (Sem.pure x).wrap K H gd lv, c, q, [topFrame fp]⟩ with | .go s' t' => segRun treeTable p w n₀ ann 1 N s' t' | .halt _ _ => none) = some r
  rw [hk]
  simp only [step, ho, Option.isSome_some, if_true]
  exact h
end Goes
end Mine
open PySem PySem.W PyProof.Rows PySem.Calls
namespace Mine
local macro_rules | `(tactic| walk_at "mine0") => `(tactic| fail)
local macro_rules | `(tactic| walk_at "mine1") => `(tactic| fail)
local macro_rules | `(tactic| walk_at "mine2") => `(tactic| fail)
local macro_rules | `(tactic| walk_at "mine3") => `(tactic| fail)
local macro_rules | `(tactic| walk_at "mine4") => `(tactic| fail)
local macro_rules | `(tactic| walk_at "mine5") => `(tactic| fail)
local macro_rules | `(tactic| walk_at "mine6") => `(tactic| fail)
local macro_rules | `(tactic| walk_at "mine7") => `(tactic| fail)
local macro_rules | `(tactic| walk_at "mine8") => `(tactic| fail)
local macro_rules | `(tactic| walk_at "mine9") => `(tactic| fail)
local macro_rules | `(tactic| walk_at "mine10") => `(tactic| fail)
local macro_rules | `(tactic| walk_at "mine11") => `(tactic| fail)
local macro_rules | `(tactic| walk_at "mine12") => `(tactic| fail)
local macro_rules | `(tactic| walk_at "mine13") => `(tactic| fail)
local macro_rules | `(tactic| walk_at "mine14") => `(tactic| fail)
section Goes2
variable {p : Program} {w : World} {n₀ : Nat} {ann : Option Value} {c : Code} {fp : Pos} {s s' s₁ : Shared} {q q' q₁ : Pos}

theorem goes_dictEntries {a : Addr} {part : Option Value} {cl : Value} {dd : Option Addr} {es : Array DictEntry} {ep : Nat} {sl : Array (Option Value)} (ho : s.heap.get? a = some ⟨cl, dd, .dict es ep, sl⟩) :
    Goes p w n₀ ann c fp 1 (dictEntries a part) s q es s q := by
  unfold dictEntries
  exact goes_bind (goes_loadPart ho) goes_pure
theorem goes_dictEpoch {a : Addr} {part : Option Value} {cl : Value} {dd : Option Addr} {es : Array DictEntry} {ep : Nat} {sl : Array (Option Value)} (ho : s.heap.get? a = some ⟨cl, dd, .dict es ep, sl⟩) :
    Goes p w n₀ ann c fp 1 (dictEpoch a part) s q ep s q := by
  unfold dictEpoch
  exact goes_bind (goes_loadPart ho) goes_pure
theorem goes_updateDictKeys {a : Addr} {part : Option Value} {cl : Value} {dd : Option Addr} {es : Array DictEntry} {ep : Nat} {sl : Array (Option Value)} {e : DictEntry}
    (ho : s.heap.get? a = some ⟨cl, dd, .dict es ep, sl⟩) (hn : Nat.ble n₀ a = true) (hz : es.size < 1000) :
    Goes p w n₀ ann c fp 3 (updateDictKeys a (·.push e) part) s q () { s with heap := s.heap.update a fun _ => ⟨cl, dd, .dict (es.push e) (ep + 1), sl⟩ } q := by
  have hu : s.heap.update a (Obj.mapDictKeys (·.push e)) = s.heap.update a fun _ => ⟨cl, dd, .dict (es.push e) (ep + 1), sl⟩ := by
    generalize s.heap = H at ho
    obtain ⟨objs, life⟩ := H
    simp only [Heap.update, Heap.mk.injEq, and_true]
    have hg : objs[a]? = some ⟨cl, dd, .dict es ep, sl⟩ := by
      unfold Heap.get? at ho
      try dsimp only at ho
      split at ho
      · cases ho
      · exact ho
    apply Array.ext_getElem?
    intro i
    rw [Array.getElem?_modify, Array.getElem?_modify]
    by_cases hi : a = i
    · subst hi; rw [if_pos rfl, if_pos rfl, hg]; rfl
    · rw [if_neg hi, if_neg hi]
  have hnew : (s.heap.update a fun _ => ⟨cl, dd, .dict (es.push e) (ep + 1), sl⟩).get? a = some ⟨cl, dd, .dict (es.push e) (ep + 1), sl⟩ := Heap.get?_update_self _ ho rfl
  unfold updateDictKeys
  refine goes_bind (k := 2) (goes_loadPart ho) ?_
  dsimp only
  refine goes_bind (k := 1) (goes_updatePart ho hn) ?_
  rw [hu]
  unfold lookBehind
  refine goes_bind (k := 0) (s₁ := { s with heap := _ }) (goes_loadPart hnew) ?_
  have : Data.pastItsLine (.dict (es.push e) (ep + 1)) = none := pastItsLine_dict (by rw [Array.size_push]; have : sizeLine = 2 ^ 24 := rfl; omega)
  dsimp only
  rw [this]
  exact goes_pure

theorem places_none {es : Array DictEntry} {h : Int} (hf : ∀ e ∈ es, e.hash ≠ h) : placesWithHash es.size (fun i => es[i]?.map (·.hash)) h = [] := by
  unfold placesWithHash
  rw [List.filter_eq_nil_iff]
  intro i hi
  have hi' : i < es.size := by simpa using hi
  dsimp only
  rw [Array.getElem?_eq_getElem hi']
  simp only [Option.map_some, beq_iff_eq, Option.some.injEq]
  exact hf _ (Array.getElem_mem hi')
theorem goes_dictFind {d : Addr} {cl : Value} {dd : Option Addr} {es : Array DictEntry} {ep : Nat} {sl : Array (Option Value)} {k : Int} {t : Tok} {h : Int} (ho : s.heap.get? d = some ⟨cl, dd, .dict es ep, sl⟩) (hf : ∀ e ∈ es, e.hash ≠ h) :
    Goes p w n₀ ann c fp 1 (dictFind d (.int k t) h) s q none s q := by
  unfold dictFind
  refine goes_holding ?_
  refine goes_bind (k := 0) (goes_dictEntries ho) ?_
  dsimp only
  rw [places_none hf]
  exact goes_pure
theorem goes_dictSetHashed {d : Addr} {cl : Value} {dd : Option Addr} {es : Array DictEntry} {ep : Nat} {sl : Array (Option Value)} {k : Int} {t : Tok} {h : Int} {v : Value} (ho : s.heap.get? d = some ⟨cl, dd, .dict es ep, sl⟩) (hn : Nat.ble n₀ d = true) (hf : ∀ e ∈ es, e.hash ≠ h) (hz : es.size < 1000) :
    Goes p w n₀ ann c fp 5 (dictSetHashed d (.int k t) h v) s q () { s with heap := s.heap.update d fun _ => ⟨cl, dd, .dict (es.push ⟨h, .int k t, v⟩) (ep + 1), sl⟩ } q := by
  unfold dictSetHashed
  refine goes_holding ?_
  refine goes_bind (k := 4) (goes_dictFind ho hf) ?_
  dsimp only
  exact goes_bind (k := 3) goes_rule (goes_updateDictKeys ho hn hz)
theorem goes_dictPut {d : Addr} {cl : Value} {dd : Option Addr} {es : Array DictEntry} {ep : Nat} {sl : Array (Option Value)} {k : Int} {t : Tok} {h : Int} {v : Value} (ho : s.heap.get? d = some ⟨cl, dd, .dict es ep, sl⟩) (hn : Nat.ble n₀ d = true) (hf : ∀ e ∈ es, e.hash ≠ h) (hz : es.size < 1000) :
    Goes p w n₀ ann c fp 4 (dictPut d h (.int k t) v) s q () { s with heap := s.heap.update d fun _ => ⟨cl, dd, .dict (es.push ⟨h, .int k t, v⟩) (ep + 1), sl⟩ } q := by
  unfold dictPut
  refine goes_bind (k := 3) (goes_dictFind ho hf) ?_
  dsimp only
  exact goes_updateDictKeys ho hn hz
end Goes2
end Mine
open PySem PySem.W PyProof.Rows PySem.Calls
namespace Mine
section Goes3
noncomputable abbrev HashRun (p : Program) (n₀ : Nat) (ann : Option Value) (c : Code) (fp : Pos) (k : Int) (t : Tok) (s : Shared) (q : Pos) (K : Int → Sem Fin) (H : Value → Sem Fin) (gd : Bool → Bool) (lv : List Value → List Value) (N : Nat) (w : World) : Prop :=
  segRun treeTable p w n₀ ann 1 (N + 5) s ⟨(pyHash (.int k t)).wrap K H gd lv, c, q, [topFrame fp]⟩ = segRun treeTable p w n₀ ann 1 N { s with toks := s.toks + 1 } ⟨(pyHashByItsType.reduced (rawHash k)).wrap K H gd lv, c, q, [topFrame fp]⟩
theorem hashRun_t (p : Program) (n₀ : Nat) (ann : Option Value) (b : List Stmt) (e : Env) (fp : Pos) (k : Int) (t : Tok) (heap : Heap) (gens : Array GenState) (drawn : Drawn) (toks : Nat) (os : OsState) (q : Pos) (K : Int → Sem Fin) (H : Value → Sem Fin) (gd : Bool → Bool) (lv : List Value → List Value) (N : Nat) (w : World) :
    HashRun p n₀ ann (.body b e) fp k t ⟨heap, gens, drawn, toks, os⟩ q K H gd lv N (w.withFollow "special-get-raises" true) := by
  kernel_rfl
theorem hashRun_f (p : Program) (n₀ : Nat) (ann : Option Value) (b : List Stmt) (e : Env) (fp : Pos) (k : Int) (t : Tok) (heap : Heap) (gens : Array GenState) (drawn : Drawn) (toks : Nat) (os : OsState) (q : Pos) (K : Int → Sem Fin) (H : Value → Sem Fin) (gd : Bool → Bool) (lv : List Value → List Value) (N : Nat) (w : World) :
    HashRun p n₀ ann (.body b e) fp k t ⟨heap, gens, drawn, toks, os⟩ q K H gd lv N (w.withFollow "special-get-raises" false) := by
  kernel_rfl
end Goes3
end Mine
open PySem PySem.W PyProof.Rows PySem.Calls
namespace Mine
local macro_rules | `(tactic| walk_at "mine0") => `(tactic| fail)
local macro_rules | `(tactic| walk_at "mine1") => `(tactic| fail)
local macro_rules | `(tactic| walk_at "mine2") => `(tactic| fail)
local macro_rules | `(tactic| walk_at "mine3") => `(tactic| fail)
local macro_rules | `(tactic| walk_at "mine4") => `(tactic| fail)
local macro_rules | `(tactic| walk_at "mine5") => `(tactic| fail)
local macro_rules | `(tactic| walk_at "mine6") => `(tactic| fail)
local macro_rules | `(tactic| walk_at "mine7") => `(tactic| fail)
local macro_rules | `(tactic| walk_at "mine8") => `(tactic| fail)
local macro_rules | `(tactic| walk_at "mine9") => `(tactic| fail)
local macro_rules | `(tactic| walk_at "mine10") => `(tactic| fail)
local macro_rules | `(tactic| walk_at "mine11") => `(tactic| fail)
local macro_rules | `(tactic| walk_at "mine12") => `(tactic| fail)
local macro_rules | `(tactic| walk_at "mine13") => `(tactic| fail)
local macro_rules | `(tactic| walk_at "mine14") => `(tactic| fail)
section Goes4
variable {p : Program} {w : World} {n₀ : Nat} {ann : Option Value} {b : List Stmt} {e : Env} {fp : Pos} {s s' s₁ : Shared} {q q' q₁ : Pos}

theorem rawHash_small {k : Int} (h0 : 0 ≤ k) (h1 : k < 2 ^ 31) : rawHash k = k := by
  simp only [rawHash, beq_iff_eq]
  have e : ((k.natAbs % (2 ^ 61 - 1) : Nat) : Int) = k := by
    rw [Nat.mod_eq_of_lt (by omega)]; omega
  generalize k.natAbs % (2 ^ 61 - 1) = r at e
  split <;> split <;> omega
theorem reduced_small {k : Int} (h0 : 0 ≤ k) (h1 : k < 2 ^ 31) : pyHashByItsType.reduced k = pure k := by
  unfold pyHashByItsType.reduced
  rw [if_pos (by simp only [Bool.and_eq_true, decide_eq_true_eq]; omega), if_neg (by simp only [beq_iff_eq]; omega)]
theorem goes_pyHash {k : Int} {t : Tok} (h0 : 0 ≤ k) (h1 : k < 2 ^ 31) : Goes p w n₀ ann (.body b e) fp 5 (pyHash (.int k t)) s q k { s with toks := s.toks + 1 } q := fun K H gd lv N r h => by
  have := byRow2 "special-get-raises" (P := fun w => HashRun p n₀ ann (.body b e) fp k t s q K H gd lv N w) (fun w => hashRun_f ..) (fun w => hashRun_t ..) w
  refine Eq.trans this ?_
  rw [rawHash_small h0 h1, reduced_small h0 h1]
  exact h
theorem goes_dictSet {d : Addr} {cl : Value} {dd : Option Addr} {es : Array DictEntry} {ep : Nat} {sl : Array (Option Value)} {k : Int} {t : Tok} {v : Value} (h0 : 0 ≤ k) (h1 : k < 2 ^ 31)
    (ho : s.heap.get? d = some ⟨cl, dd, .dict es ep, sl⟩) (hn : Nat.ble n₀ d = true) (hf : ∀ e ∈ es, e.hash ≠ k) (hz : es.size < 1000) :
    Goes p w n₀ ann (.body b e) fp 10 (dictSet d (.int k t) v) s q () { s with heap := s.heap.update d fun _ => ⟨cl, dd, .dict (es.push ⟨k, .int k t, v⟩) (ep + 1), sl⟩, toks := s.toks + 1 } q := by
  unfold dictSet
  refine goes_holding ?_
  exact goes_bind (k := 5) (goes_pyHash h0 h1) (goes_dictSetHashed ho hn hf hz)

/-- a key and its value, as the display evaluates them -/
noncomputable def keyT (k : Int) : Sem Value := do return .int k (← fresh)
noncomputable def valT (x : Str) (pos : Pos) : Sem Value := do
  let x ← (do return .str x (← fresh) : Sem Value)
  standAt pos
  pure x
theorem goes_keyT {c : Code} {k : Int} : Goes p w n₀ ann c fp 1 (keyT k) s q (.int k s.toks) { s with toks := s.toks + 1 } q := goes_bind (k := 0) goes_fresh goes_pure
theorem goes_valT {c : Code} {x : Str} {pos : Pos} : Goes p w n₀ ann c fp 2 (valT x pos) s q (.str x s.toks) { s with toks := s.toks + 1 } pos :=
  goes_bind (k := 1) (goes_bind (k := 0) goes_fresh goes_pure) (goes_bind (k := 0) goes_standAt goes_pure)
end Goes4
end Mine
open PySem PySem.W PyProof.Rows PySem.Calls
namespace Mine
section Goes5
variable {p : Program} {w : World} {n₀ : Nat} {ann : Option Value} {b : List Stmt} {e : Env} {fp : Pos} {q q' q₁ : Pos}
variable {gens : Array GenState} {drawn : Drawn} {os : OsState} {life : Life}

noncomputable def hpOf (l : List Obj) (life : Life) : Heap := ⟨l.toArray, life⟩
noncomputable def D (es : List DictEntry) (ep : Nat) : Obj := ⟨.type "dict", none, .dict es.toArray ep, #[]⟩
noncomputable abbrev St (l : List Obj) (life : Life) (gens : Array GenState) (drawn : Drawn) (toks : Nat) (os : OsState) : Shared := ⟨hpOf l life, gens, drawn, toks, os⟩

theorem get_at {pre post : List Obj} {es : List DictEntry} {ep a : Nat} (ha : a = pre.length) : (hpOf (pre ++ D es ep :: post) life).get? a = some (D es ep) := by
  subst ha
  have : (hpOf (pre ++ D es ep :: post) life).objs[pre.length]? = some (D es ep) := by
    show (pre ++ D es ep :: post).toArray[pre.length]? = _
    simp
  unfold Heap.get?
  rw [this]
  rfl
theorem upd_at {pre post : List Obj} {x y : Obj} {a : Nat} (ha : a = pre.length) : (hpOf (pre ++ x :: post) life).update a (fun _ => y) = hpOf (pre ++ y :: post) life := by
  subst ha
  show Heap.mk _ _ = Heap.mk _ _
  congr 1
  apply Array.ext_getElem?
  intro i
  rw [Array.getElem?_modify]
  by_cases hi : pre.length = i
  · subst hi; simp
  · rw [if_neg hi]
    simp only [List.getElem?_toArray]
    rcases Nat.lt_or_ge i pre.length with h | h
    · rw [List.getElem?_append_left h, List.getElem?_append_left h]
    · rw [List.getElem?_append_right h, List.getElem?_append_right h]
      obtain ⟨j, hj⟩ : ∃ j, i - pre.length = j + 1 := ⟨i - pre.length - 1, by omega⟩
      rw [hj]; rfl
theorem push_at {l : List Obj} {o : Obj} : (hpOf l life).push o = hpOf (l ++ [o]) life := by
  show Heap.mk _ _ = Heap.mk _ _
  simp
theorem size_at {l : List Obj} : (hpOf l life).objs.size = l.length := by simp [hpOf]

noncomputable def Fresh (lo : Int) (es : List DictEntry) : Prop := ∀ e ∈ es, e.hash ≤ lo
noncomputable def rising : Int → List (Int × Str) → Bool
  | _, [] => true
  | lo, (k, _) :: r => decide (lo < k) && decide (k < 2 ^ 31) && rising k r
noncomputable def ents (step : Nat) : Nat → List (Int × Str) → List DictEntry
  | _, [] => []
  | t, (k, x) :: r => ⟨k, .int k t, .str x (t + 1)⟩ :: ents step (t + step) r
theorem ents_length (step : Nat) : ∀ (l : List (Int × Str)) (t : Nat), (ents step t l).length = l.length
  | [], _ => rfl
  | _ :: r, t => congrArg (· + 1) (ents_length step r _)

theorem goes_dictSetL {pre post : List Obj} {es : List DictEntry} {ep toks d : Nat} {k lo : Int} {t : Tok} {v : Value} (hd : d = pre.length) (hn : n₀ ≤ d) (h0 : 0 ≤ lo) (h1 : lo < k) (h2 : k < 2 ^ 31) (hf : Fresh lo es) (hz : es.length < 1000) :
    Goes p w n₀ ann (.body b e) fp 10 (dictSet d (.int k t) v) (St (pre ++ D es ep :: post) life gens drawn toks os) q () (St (pre ++ D (es ++ [⟨k, .int k t, v⟩]) (ep + 1) :: post) life gens drawn (toks + 1) os) q := by
  have h := goes_dictSet (p := p) (w := w) (n₀ := n₀) (ann := ann) (b := b) (e := e) (fp := fp) (q := q) (s := St (pre ++ D es ep :: post) life gens drawn toks os) (k := k) (t := t) (v := v) (by omega) h2 (get_at hd) (Nat.ble_eq_true_of_le hn)
    (fun e he => by have := hf e (by simpa using he); omega) (by simpa using hz)
  simp only [upd_at hd, List.push_toArray] at h
  exact h
theorem goes_dictPutL {pre post : List Obj} {es : List DictEntry} {ep toks d : Nat} {k lo : Int} {t : Tok} {v : Value} (hd : d = pre.length) (hn : n₀ ≤ d) (h1 : lo < k) (hf : Fresh lo es) (hz : es.length < 1000) :
    Goes p w n₀ ann (.body b e) fp 4 (dictPut d k (.int k t) v) (St (pre ++ D es ep :: post) life gens drawn toks os) q () (St (pre ++ D (es ++ [⟨k, .int k t, v⟩]) (ep + 1) :: post) life gens drawn toks os) q := by
  have h := goes_dictPut (p := p) (w := w) (n₀ := n₀) (ann := ann) (c := .body b e) (fp := fp) (q := q) (s := St (pre ++ D es ep :: post) life gens drawn toks os) (k := k) (t := t) (h := k) (v := v) (get_at hd) (Nat.ble_eq_true_of_le hn)
    (fun e he => by have := hf e (by simpa using he); omega) (by simpa using hz)
  simp only [upd_at hd, List.push_toArray] at h
  exact h
theorem Fresh.push {lo k : Int} {es : List DictEntry} {u v : Value} (hf : Fresh lo es) (h1 : lo < k) : Fresh k (es ++ [⟨k, u, v⟩]) := fun e he => by
  rcases List.mem_append.mp he with h | h
  · have := hf e h; omega
  · rw [List.mem_singleton.mp h]; exact Int.le_refl _

noncomputable def endP (q pos : Pos) : List (Int × Str) → Pos
  | [] => q
  | _ :: _ => pos
/-- the pairs of the display -/
noncomputable def prs (pos : Pos) (l : List (Int × Str)) : List (Sem Value × Sem Value) := l.map fun x => (keyT x.1, valT x.2 pos)
theorem goes_fill {pre post : List Obj} {d : Nat} {pos : Pos} (hd : d = pre.length) (hn : n₀ ≤ d) (l : List (Int × Str)) : ∀ (es : List DictEntry) (ep toks : Nat) (lo : Int) (q : Pos), 0 ≤ lo → rising lo l = true → Fresh lo es → es.length + l.length < 1000 →
    Goes p w n₀ ann (.body b e) fp (13 * l.length) (forIn (prs pos l) PUnit.unit fun (x : Sem Value × Sem Value) (_ : PUnit) => (do
        let kv ← x.1
        let vv ← holding [kv] x.2
        holding [kv, vv] (dictSet d kv vv)
        pure (ForInStep.yield PUnit.unit) : Sem (ForInStep PUnit)))
      (St (pre ++ D es ep :: post) life gens drawn toks os) q PUnit.unit (St (pre ++ D (es ++ ents 3 toks l) (ep + l.length) :: post) life gens drawn (toks + 3 * l.length) os) (endP q pos l) := by
  induction l with
  | nil =>
    intro es ep toks lo q _ _ _ _
    simp only [prs, List.map_nil, List.forIn_nil, ents, List.append_nil, List.length_nil, Nat.mul_zero, Nat.add_zero]
    exact goes_pure
  | cons y r ih =>
    obtain ⟨k, x⟩ := y
    intro es ep toks lo q h0 hr hf hz
    simp only [rising, Bool.and_eq_true, decide_eq_true_eq] at hr
    rw [List.length_cons] at hz
    have ih := ih (es ++ [⟨k, .int k toks, .str x (toks + 1)⟩]) (ep + 1) (toks + 3) k pos (by omega) hr.2 (hf.push hr.1.1) (by simp; omega)
    have e1 : endP pos pos r = pos := by cases r <;> rfl
    rw [e1] at ih
    simp only [prs, List.map_cons, List.forIn_cons]
    refine goes_cast (n := 13 * r.length + 13) (goes_bind (s₁ := St (pre ++ D (es ++ [⟨k, .int k toks, .str x (toks + 1)⟩]) (ep + 1) :: post) life gens drawn (toks + 3) os) (q₁ := pos) (a := ForInStep.yield PUnit.unit) ?_ ?_) (by rw [List.length_cons]; omega)
    · refine goes_bind (k := 12) goes_keyT ?_
      refine goes_bind (k := 10) (goes_holding goes_valT) ?_
      exact goes_bind (k := 0) (goes_holding (goes_dictSetL hd hn h0 hr.1.1 hr.1.2 hf (by omega))) goes_pure
    · simp only [List.length_cons, ents]
      have e2 : es ++ { hash := k, key := Value.int k toks, val := Value.str x (toks + 1) } :: ents 3 (toks + 3) r = (es ++ [⟨k, .int k toks, .str x (toks + 1)⟩]) ++ ents 3 (toks + 3) r := by simp
      rw [e2, show ep + (r.length + 1) = ep + 1 + r.length by omega, show toks + 3 * (r.length + 1) = toks + 3 + 3 * r.length by omega]
      exact ih
end Goes5
end Mine
open PySem PySem.W PyProof.Rows PySem.Calls
namespace Mine
local macro_rules | `(tactic| walk_at "mine0") => `(tactic| fail)
local macro_rules | `(tactic| walk_at "mine1") => `(tactic| fail)
local macro_rules | `(tactic| walk_at "mine2") => `(tactic| fail)
local macro_rules | `(tactic| walk_at "mine3") => `(tactic| fail)
local macro_rules | `(tactic| walk_at "mine4") => `(tactic| fail)
local macro_rules | `(tactic| walk_at "mine5") => `(tactic| fail)
local macro_rules | `(tactic| walk_at "mine6") => `(tactic| fail)
local macro_rules | `(tactic| walk_at "mine7") => `(tactic| fail)
local macro_rules | `(tactic| walk_at "mine8") => `(tactic| fail)
local macro_rules | `(tactic| walk_at "mine9") => `(tactic| fail)
local macro_rules | `(tactic| walk_at "mine10") => `(tactic| fail)
local macro_rules | `(tactic| walk_at "mine11") => `(tactic| fail)
local macro_rules | `(tactic| walk_at "mine12") => `(tactic| fail)
local macro_rules | `(tactic| walk_at "mine13") => `(tactic| fail)
local macro_rules | `(tactic| walk_at "mine14") => `(tactic| fail)
section Goes6
variable {p : Program} {w : World} {n₀ : Nat} {ann : Option Value} {b : List Stmt} {e : Env} {fp : Pos} {q q' q₁ : Pos}
variable {gens : Array GenState} {drawn : Drawn} {os : OsState} {life : Life}

noncomputable def vsOf : Nat → List (Int × Str) → List (Value × Value)
  | _, [] => []
  | t, (k, x) :: r => (.int k t, .str x (t + 1)) :: vsOf (t + 2) r
theorem goes_evalPairs {pos : Pos} {l₀ : List Obj} (l : List (Int × Str)) : ∀ (toks : Nat) (q : Pos),
    Goes p w n₀ ann (.body b e) fp (3 * l.length) (evalPairs (prs pos l)) (St l₀ life gens drawn toks os) q (vsOf toks l) (St l₀ life gens drawn (toks + 2 * l.length) os) (endP q pos l) := by
  induction l with
  | nil => intro toks q; exact goes_pure
  | cons y r ih =>
    obtain ⟨k, x⟩ := y
    intro toks q
    have ih := ih (toks + 2) pos
    have e1 : endP pos pos r = pos := by cases r <;> rfl
    rw [e1] at ih
    simp only [prs, List.map_cons, evalPairs, vsOf, List.length_cons, endP]
    rw [show toks + 2 * (r.length + 1) = toks + 2 + 2 * r.length by omega]
    refine goes_cast (n := (0 + 3 * r.length + 2) + 1) (goes_bind goes_keyT ?_) (by omega)
    refine goes_bind (goes_holding goes_valT) ?_
    exact goes_bind (goes_holding ih) goes_pure
theorem goes_setAll {pre post : List Obj} {d : Nat} (hd : d = pre.length) (hn : n₀ ≤ d) (l : List (Int × Str)) : ∀ (es : List DictEntry) (ep t toks : Nat) (lo : Int), 0 ≤ lo → rising lo l = true → Fresh lo es → es.length + l.length < 1000 →
    Goes p w n₀ ann (.body b e) fp (10 * l.length) (forIn (vsOf t l) PUnit.unit fun (x : Value × Value) (_ : PUnit) => (do
        dictSet d x.1 x.2
        pure (ForInStep.yield PUnit.unit) : Sem (ForInStep PUnit)))
      (St (pre ++ D es ep :: post) life gens drawn toks os) q PUnit.unit (St (pre ++ D (es ++ ents 2 t l) (ep + l.length) :: post) life gens drawn (toks + l.length) os) q := by
  induction l with
  | nil =>
    intro es ep t toks lo _ _ _ _
    simp only [vsOf, List.forIn_nil, ents, List.append_nil, List.length_nil, Nat.mul_zero, Nat.add_zero]
    exact goes_pure
  | cons y r ih =>
    obtain ⟨k, x⟩ := y
    intro es ep t toks lo h0 hr hf hz
    simp only [rising, Bool.and_eq_true, decide_eq_true_eq] at hr
    rw [List.length_cons] at hz
    have ih := ih (es ++ [⟨k, .int k t, .str x (t + 1)⟩]) (ep + 1) (t + 2) (toks + 1) k (by omega) hr.2 (hf.push hr.1.1) (by simp; omega)
    simp only [vsOf, List.forIn_cons]
    refine goes_cast (n := 10 * r.length + (0 + 10)) (goes_bind (goes_bind (goes_dictSetL hd hn h0 hr.1.1 hr.1.2 hf (by omega)) goes_pure) ?_) (by rw [List.length_cons]; omega)
    simp only [List.length_cons, ents]
    have e2 : es ++ { hash := k, key := Value.int k t, val := Value.str x (t + 1) } :: ents 2 (t + 2) r = (es ++ [⟨k, .int k t, .str x (t + 1)⟩]) ++ ents 2 (t + 2) r := by simp
    rw [e2, show ep + (r.length + 1) = ep + 1 + r.length by omega, show toks + (r.length + 1) = toks + 1 + r.length by omega]
    exact ih
theorem prs_length {pos : Pos} {l : List (Int × Str)} : (prs pos l).length = l.length := by simp [prs]
theorem goes_subLong {l₀ : List Obj} {pos : Pos} {l : List (Int × Str)} {toks : Nat} {lo : Int} (hl : 15 < l.length) (hl2 : l.length < 1000) (hn : n₀ ≤ l₀.length) (h0 : 0 ≤ lo) (hr : rising lo l = true) :
    Goes p w n₀ ann (.body b e) fp (2 + 13 * l.length) (subDict (prs pos l)) (St l₀ life gens drawn toks os) q l₀.length (St (l₀ ++ [D (ents 3 toks l) l.length]) life gens drawn (toks + 3 * l.length) os) pos := by
  have hne : endP q pos l = pos := by cases l with | nil => simp at hl | cons => rfl
  unfold subDict
  refine goes_cast (n := (0 + (13 * l.length + 1)) + 1) (goes_bind goes_alloc ?_) (by omega)
  rw [size_at, push_at]
  refine goes_bind (a := PUnit.unit) (goes_holding ?_) goes_pure
  rw [if_neg (by rw [prs_length]; omega)]
  have h := goes_fill (p := p) (w := w) (n₀ := n₀) (ann := ann) (b := b) (e := e) (fp := fp) (gens := gens) (drawn := drawn) (os := os) (life := life) (pre := l₀) (post := []) (pos := pos) rfl hn l [] 0 toks lo q h0 hr (fun _ h => nomatch h) (by simpa using hl2)
  rw [hne, List.nil_append, Nat.zero_add] at h
  exact goes_bind (k := 13 * l.length) goes_rule (goes_cast (goes_bind h goes_pure) (Nat.zero_add _))
theorem goes_subShort {l₀ : List Obj} {pos : Pos} {l : List (Int × Str)} {toks : Nat} {lo : Int} (hl0 : l ≠ []) (hl : l.length ≤ 15) (hn : n₀ ≤ l₀.length) (h0 : 0 ≤ lo) (hr : rising lo l = true) :
    Goes p w n₀ ann (.body b e) fp (1 + 13 * l.length) (subDict (prs pos l)) (St l₀ life gens drawn toks os) q l₀.length (St (l₀ ++ [D (ents 2 toks l) l.length]) life gens drawn (toks + 3 * l.length) os) pos := by
  have hne : endP q pos l = pos := by cases l with | nil => exact absurd rfl hl0 | cons => rfl
  unfold subDict
  refine goes_cast (n := (0 + (10 * l.length + 3 * l.length)) + 1) (goes_bind goes_alloc ?_) (by omega)
  rw [size_at, push_at]
  refine goes_bind (a := PUnit.unit) (goes_holding ?_) goes_pure
  rw [if_pos (by rw [prs_length]; omega)]
  have h1 := goes_evalPairs (p := p) (w := w) (n₀ := n₀) (ann := ann) (b := b) (e := e) (fp := fp) (gens := gens) (drawn := drawn) (os := os) (life := life) (pos := pos) (l₀ := l₀ ++ [D [] 0]) l toks q
  have h2 := goes_setAll (p := p) (w := w) (n₀ := n₀) (ann := ann) (b := b) (e := e) (fp := fp) (gens := gens) (drawn := drawn) (os := os) (life := life) (q := pos) (pre := l₀) (post := []) rfl hn l [] 0 toks (toks + 2 * l.length) lo h0 hr (fun _ h => nomatch h) (by simp; omega)
  rw [hne] at h1
  rw [List.nil_append, Nat.zero_add, show toks + 2 * l.length + l.length = toks + 3 * l.length by omega] at h2
  exact goes_bind (k := 10 * l.length) h1 (goes_holding (goes_cast (goes_bind h2 goes_pure) (Nat.zero_add _)))
end Goes6
end Mine
open PySem PySem.W PyProof.Rows PySem.Calls
namespace Mine
section Goes7
variable {p : Program} {w : World} {n₀ : Nat} {ann : Option Value} {b : List Stmt} {e : Env} {fp : Pos} {q q' q₁ : Pos}
variable {gens : Array GenState} {drawn : Drawn} {os : OsState} {life : Life}

noncomputable def rent : Int → List DictEntry → Prop
  | _, [] => True
  | lo, e :: r => (∃ t, e.key = .int e.hash t) ∧ lo < e.hash ∧ rent e.hash r
theorem rent_ents (step : Nat) : ∀ (l : List (Int × Str)) (lo : Int) (t : Nat), rising lo l = true → rent lo (ents step t l)
  | [], _, _, _ => trivial
  | (k, x) :: r, lo, t, h => by
    simp only [rising, Bool.and_eq_true, decide_eq_true_eq] at h
    exact ⟨⟨t, rfl⟩, h.1.1, rent_ents step r k _ h.2⟩
noncomputable def lastK (lo : Int) : List (Int × Str) → Int
  | [] => lo
  | (k, _) :: r => lastK k r
theorem fresh_mono {lo hi : Int} {es : List DictEntry} (h : Fresh lo es) (hl : lo ≤ hi) : Fresh hi es := fun e he => Int.le_trans (h e he) hl
theorem lastK_ge : ∀ (l : List (Int × Str)) (lo : Int), rising lo l = true → lo ≤ lastK lo l
  | [], _, _ => Int.le_refl _
  | (k, x) :: r, lo, h => by
    simp only [rising, Bool.and_eq_true, decide_eq_true_eq] at h
    have := lastK_ge r k h.2
    simp only [lastK]; omega
theorem fresh_ents (step : Nat) : ∀ (l : List (Int × Str)) (lo : Int) (t : Nat), rising lo l = true → Fresh (lastK lo l) (ents step t l)
  | [], _, _, _ => fun _ h => nomatch h
  | (k, x) :: r, lo, t, h => by
    simp only [rising, Bool.and_eq_true, decide_eq_true_eq] at h
    intro e he
    rcases List.mem_cons.mp he with rfl | he
    · exact lastK_ge r k h.2
    · exact fresh_ents step r k _ h.2 e he
theorem fresh_app {lo : Int} {es fs : List DictEntry} (h1 : Fresh lo es) (h2 : Fresh lo fs) : Fresh lo (es ++ fs) := fun e he => (List.mem_append.mp he).elim (h1 e) (h2 e)

theorem sub_dict : isSubtype (.type "dict") (.type "dict") = pure true := by kernel_rfl
theorem look_dict : typeLookup (.type "dict") "__iter__" = pure (some (.builtin "dict.__iter__")) := by kernel_rfl
theorem goes_typeDict {a : Addr} {es : Array DictEntry} {ep : Nat} {s : Shared} (ho : s.heap.get? a = some ⟨.type "dict", none, .dict es ep, #[]⟩) : Goes p w n₀ ann (.body b e) fp 1 (typeOf (.ref a)) s q (.type "dict") s q := by
  unfold typeOf
  exact goes_bind (k := 0) (goes_loadPart ho) goes_pure
theorem goes_isDict {a : Addr} {es : Array DictEntry} {ep : Nat} {s : Shared} (ho : s.heap.get? a = some ⟨.type "dict", none, .dict es ep, #[]⟩) : Goes p w n₀ ann (.body b e) fp 1 (isInstance (.ref a) (.type "dict")) s q true s q := by
  unfold isInstance
  refine goes_bind (k := 0) (goes_typeDict ho) ?_
  rw [sub_dict]; exact goes_pure
theorem goes_specialDict {a : Addr} {es : Array DictEntry} {ep : Nat} {s : Shared} (ho : s.heap.get? a = some ⟨.type "dict", none, .dict es ep, #[]⟩) : Goes p w n₀ ann (.body b e) fp 1 (specialOf (.ref a) "__iter__") s q (some (.builtin "dict.__iter__")) s q := by
  unfold specialOf
  refine goes_bind (k := 0) (goes_typeDict ho) ?_
  rw [look_dict]; exact goes_pure

theorem goes_merge {pre mid : List Obj} {E F : List DictEntry} {ep f toks d a : Nat} {lo : Int} (hd : d = pre.length) (ha : a = pre.length + 1 + mid.length) (hn : n₀ ≤ d) (hs : (a == sysModules) = false) (hE : E ≠ [])
    (hf : Fresh lo E) (hr : rent lo F) (hz : E.length + F.length < 1000) :
    Goes p w n₀ ann (.body b e) fp (5 + 6 * F.length) (mergeMapping d (.ref a) false) (St (pre ++ D E ep :: (mid ++ [D F f])) life gens drawn toks os) q () (St (pre ++ D (E ++ F) (ep + F.length) :: (mid ++ [D F f])) life gens drawn toks os) q := by
  have hsub : ∀ E' ep', (hpOf (pre ++ D E' ep' :: (mid ++ [D F f])) life).get? a = some (D F f) := fun E' ep' => by
    have : pre ++ D E' ep' :: (mid ++ [D F f]) = (pre ++ D E' ep' :: mid) ++ D F f :: [] := by simp
    rw [this]
    exact get_at (by simp; omega)
  have hmain : ∀ E' ep', (hpOf (pre ++ D E' ep' :: (mid ++ [D F f])) life).get? d = some (D E' ep') := fun E' ep' => get_at hd
  unfold mergeMapping
  refine goes_cast (n := (4 + 6 * F.length) + 1) (goes_bind (goes_isDict (hsub E ep)) ?_) (by omega)
  rw [if_pos rfl]
  refine goes_cast (n := (3 + 6 * F.length) + 1) (goes_bind (goes_specialDict (hsub E ep)) ?_) (by omega)
  refine goes_cast (n := (3 + 6 * F.length) + 0) (goes_bind goes_pure ?_) (by omega)
  rw [show ((some (Value.builtin "dict.__iter__") == some (Value.builtin "dict.__iter__")) = true) from by rw [beq_self_eq_true]]
  dsimp only
  rw [if_neg (by rw [hs]; exact Bool.false_ne_true)]
  refine goes_cast (n := (2 + 6 * F.length) + 1) (goes_bind (goes_dictEntries (hmain E ep)) ?_) (by omega)
  rw [if_neg (by simpa using hE)]
  refine goes_cast (n := (1 + 6 * F.length) + 1) (goes_bind (goes_dictEntries (hsub E ep)) ?_) (by omega)
  refine goes_cast (n := (6 * F.length) + 1) (goes_bind (goes_dictEpoch (hsub E ep)) ?_) (by omega)
  have loop : ∀ (rest done E : List DictEntry) (ep : Nat) (lo : Int), F = done ++ rest → Fresh lo E → rent lo rest → E.length + rest.length < 1000 →
      Goes p w n₀ ann (.body b e) fp (6 * rest.length) (forIn (List.range' done.length rest.length) PUnit.unit fun (i : Nat) (_ : PUnit) => (do
          let __do_lift ← dictEntries a
          match __do_lift[i]? with
            | some e => do
              holding [e.key, e.val]
                  (if false = true then do
                    let __do_lift ← dictFind d e.key e.hash
                    if __do_lift.isSome = true then do
                        rule "dict.merge.duplicate-key"
                        let __do_lift ← newExc (Value.type "KeyError") [e.key]
                        raiseNew __do_lift
                        dictPut d e.hash e.key e.val
                      else dictPut d e.hash e.key e.val
                  else dictPut d e.hash e.key e.val)
              let __do_lift ← dictEpoch a
              if (__do_lift != f) = true then do
                  unsupported "dict.changed-during-merge"
                  pure (ForInStep.yield PUnit.unit)
                else pure (ForInStep.yield PUnit.unit)
            | x => do
              unsupported "dict.changed-during-merge"
              pure (ForInStep.yield PUnit.unit) : Sem (ForInStep PUnit)))
        (St (pre ++ D E ep :: (mid ++ [D F f])) life gens drawn toks os) q PUnit.unit (St (pre ++ D (E ++ rest) (ep + rest.length) :: (mid ++ [D F f])) life gens drawn toks os) q := by
    intro rest
    induction rest with
    | nil =>
      intro done E ep lo _ _ _ _
      simp only [List.length_nil, List.range'_zero, List.forIn_nil, List.append_nil, Nat.mul_zero, Nat.add_zero]
      exact goes_pure
    | cons g r ih =>
      intro done E ep lo hF hf hr hz
      obtain ⟨⟨t, hk⟩, hlo, hr⟩ := hr
      rw [List.length_cons] at hz
      have ih := ih (done ++ [g]) (E ++ [g]) (ep + 1) g.hash (by rw [hF]; simp) (fun x hx => by
        rcases List.mem_append.mp hx with h | h
        · have := hf x h; omega
        · rw [List.mem_singleton.mp h]; exact Int.le_refl _) hr (by simp; omega)
      rw [List.length_cons, List.range'_succ, List.forIn_cons]
      have hget : F.toArray[done.length]? = some g := by rw [hF]; simp
      refine goes_cast (n := 6 * r.length + 6) (goes_bind (a := ForInStep.yield PUnit.unit) (s₁ := St (pre ++ D (E ++ [g]) (ep + 1) :: (mid ++ [D F f])) life gens drawn toks os) (q₁ := q) ?_ ?_) (by omega)
      · refine goes_bind (k := 5) (goes_dictEntries (hsub E ep)) ?_
        rw [hget]
        dsimp only
        rw [if_neg Bool.false_ne_true]
        have hput := goes_dictPutL (p := p) (w := w) (n₀ := n₀) (ann := ann) (b := b) (e := e) (fp := fp) (q := q) (gens := gens) (drawn := drawn) (os := os) (life := life) (pre := pre) (post := mid ++ [D F f]) (es := E) (ep := ep) (toks := toks) (d := d) (k := g.hash) (lo := lo) (t := t) (v := g.val) hd hn hlo hf (by omega)
        rw [← hk] at hput
        refine goes_bind (k := 1) (goes_holding hput) ?_
        refine goes_bind (k := 0) (goes_dictEpoch (hsub (E ++ [g]) (ep + 1))) ?_
        rw [if_neg (by simp)]
        exact goes_pure
      · simp only [List.length_append, List.length_cons, List.length_nil, Nat.zero_add, List.append_assoc, List.cons_append, List.nil_append] at ih ⊢
        rw [show ep + (r.length + 1) = ep + 1 + r.length by omega]
        exact ih
  have h := loop F [] E ep lo rfl hf hr hz
  rw [List.range_eq_range', show F.toArray.size = F.length by simp]
  exact goes_cast (goes_bind h goes_pure) (Nat.zero_add _)
end Goes7
end Mine
open PySem PySem.W PyProof.Rows PySem.Calls
namespace Mine
local macro_rules | `(tactic| walk_at "mine0") => `(tactic| fail)
local macro_rules | `(tactic| walk_at "mine1") => `(tactic| fail)
local macro_rules | `(tactic| walk_at "mine2") => `(tactic| fail)
local macro_rules | `(tactic| walk_at "mine3") => `(tactic| fail)
local macro_rules | `(tactic| walk_at "mine4") => `(tactic| fail)
local macro_rules | `(tactic| walk_at "mine5") => `(tactic| fail)
local macro_rules | `(tactic| walk_at "mine6") => `(tactic| fail)
local macro_rules | `(tactic| walk_at "mine7") => `(tactic| fail)
local macro_rules | `(tactic| walk_at "mine8") => `(tactic| fail)
local macro_rules | `(tactic| walk_at "mine9") => `(tactic| fail)
local macro_rules | `(tactic| walk_at "mine10") => `(tactic| fail)
local macro_rules | `(tactic| walk_at "mine11") => `(tactic| fail)
local macro_rules | `(tactic| walk_at "mine12") => `(tactic| fail)
local macro_rules | `(tactic| walk_at "mine13") => `(tactic| fail)
local macro_rules | `(tactic| walk_at "mine14") => `(tactic| fail)
section Goes8
variable {p : Program} {w : World} {n₀ : Nat} {ann : Option Value} {b : List Stmt} {e : Env} {fp : Pos} {q q' q₁ : Pos}
variable {gens : Array GenState} {drawn : Drawn} {os : OsState} {life : Life}

noncomputable abbrev Gath := Option Addr × List (Sem Value × Sem Value)
noncomputable def flushT (run : List (Sem Value × Sem Value)) (main : Option Addr) : Sem (Option Addr) :=
  if run.isEmpty = true then pure main
  else
    match main with
    | none => do
      let __do_lift ← subDict run
      pure (some __do_lift)
    | some d => do
      let sub ← holding [Value.ref d] (subDict run)
      (holding [Value.ref d, Value.ref sub] (mergeMapping d (Value.ref sub) false)).onRaise fun x => do
          let _ ← holding [Value.ref d, x] (runValue (Code.builtin "proto.let_go" { }))
          pure ()
      pure (some d)
noncomputable abbrev Body := (Option (Sem Value) × Sem Value) → Gath → Sem (ForInStep Gath)
noncomputable def Good (f : Body) : Prop := ∀ (k v : Sem Value) (main : Option Addr) (run : List (Sem Value × Sem Value)), f (some k, v) (main, run) =
  if ((run ++ [(k, v)]).length == 17) = true then (do let m ← flushT (run ++ [(k, v)]) main; pure (.yield (m, []))) else pure (.yield (main, run ++ [(k, v)]))
noncomputable def its (l : List (Sem Value × Sem Value)) : List (Option (Sem Value) × Sem Value) := l.map fun x => (some x.1, x.2)
theorem gath {f : Body} (hf : Good f) (main : Option Addr) (rest : List (Option (Sem Value) × Sem Value)) : ∀ (l run : List (Sem Value × Sem Value)), run.length + l.length < 17 →
    forIn (its l ++ rest) ((main, run) : Gath) f = forIn rest ((main, run ++ l) : Gath) f
  | [], run, _ => by simp [its]
  | (k, v) :: r, run, h => by
    have ih := gath hf main rest r (run ++ [(k, v)]) (by simp at h ⊢; omega)
    simp only [its, List.map_cons, List.cons_append, List.forIn_cons] at ih ⊢
    rw [hf k v main run, if_neg (by simp at h ⊢; omega), pure_bind]
    dsimp only
    rw [ih, List.append_assoc]; rfl
theorem gath17 {f : Body} (hf : Good f) (main : Option Addr) (rest : List (Option (Sem Value) × Sem Value)) (l : List (Sem Value × Sem Value)) (hl : l.length = 17) :
    forIn (its l ++ rest) ((main, []) : Gath) f = (flushT l main >>= fun m => forIn rest ((m, []) : Gath) f) := by
  have hne : l ≠ [] := by intro h; rw [h] at hl; cases hl
  have hsplit : l = l.dropLast ++ [l.getLast hne] := (List.dropLast_concat_getLast hne).symm
  have hlen : l.dropLast.length = 16 := by rw [List.length_dropLast, hl]
  generalize l.getLast hne = x at hsplit
  generalize l.dropLast = i at hsplit hlen
  subst hsplit
  obtain ⟨k, v⟩ := x
  have e1 : its (i ++ [(k, v)]) ++ rest = its i ++ ((some k, v) :: rest) := by simp [its]
  rw [e1, gath hf main _ i [] (by simp [hlen]), List.nil_append, List.forIn_cons, hf k v main i, if_pos (by simp [hlen])]
  simp only [bind_assoc, pure_bind]
theorem goes_flush0 {l₀ : List Obj} {pos : Pos} {l : List (Int × Str)} {toks : Nat} {lo : Int} (hl : l.length = 17) (hn : n₀ ≤ l₀.length) (h0 : 0 ≤ lo) (hr : rising lo l = true) :
    Goes p w n₀ ann (.body b e) fp 223 (flushT (prs pos l) none) (St l₀ life gens drawn toks os) q (some l₀.length) (St (l₀ ++ [D (ents 3 toks l) 17]) life gens drawn (toks + 51) os) pos := by
  unfold flushT
  rw [if_neg (by rw [List.isEmpty_iff]; intro h; have := congrArg List.length h; rw [prs_length, hl] at this; cases this)]
  dsimp only
  have h := goes_subLong (p := p) (w := w) (n₀ := n₀) (ann := ann) (b := b) (e := e) (fp := fp) (q := q) (gens := gens) (drawn := drawn) (os := os) (life := life) (l₀ := l₀) (pos := pos) (l := l) (toks := toks) (by omega) (by omega) hn h0 hr
  rw [hl] at h
  exact goes_cast (goes_bind h goes_pure) rfl
theorem goes_flush1 {pre mid : List Obj} {E : List DictEntry} {ep : Nat} {pos : Pos} {l : List (Int × Str)} {toks : Nat} {lo : Int} (hl : l.length = 17) (hn : n₀ ≤ pre.length) (hs : 2 ≤ pre.length) (h0 : 0 ≤ lo) (hr : rising lo l = true) (hE : E ≠ []) (hf : Fresh lo E) (hz : E.length + 17 < 1000) :
    Goes p w n₀ ann (.body b e) fp 330 (flushT (prs pos l) (some pre.length)) (St (pre ++ D E ep :: mid) life gens drawn toks os) q (some pre.length)
      (St (pre ++ D (E ++ ents 3 toks l) (ep + 17) :: (mid ++ [D (ents 3 toks l) 17])) life gens drawn (toks + 51) os) pos := by
  unfold flushT
  rw [if_neg (by rw [List.isEmpty_iff]; intro h; have := congrArg List.length h; rw [prs_length, hl] at this; cases this)]
  dsimp only
  have h := goes_subLong (p := p) (w := w) (n₀ := n₀) (ann := ann) (b := b) (e := e) (fp := fp) (q := q) (gens := gens) (drawn := drawn) (os := os) (life := life) (l₀ := pre ++ D E ep :: mid) (pos := pos) (l := l) (toks := toks) (by omega) (by omega) (by simp; omega) h0 hr
  rw [hl] at h
  have e1 : (pre ++ D E ep :: mid).length = pre.length + 1 + mid.length := by simp; omega
  have e2 : (pre ++ D E ep :: mid) ++ [D (ents 3 toks l) 17] = pre ++ D E ep :: (mid ++ [D (ents 3 toks l) 17]) := by simp
  rw [e1, e2] at h
  refine goes_bind (k := 107) (n := 223) (goes_holding h) ?_
  have hm := goes_merge (p := p) (w := w) (n₀ := n₀) (ann := ann) (b := b) (e := e) (fp := fp) (q := pos) (gens := gens) (drawn := drawn) (os := os) (life := life) (pre := pre) (mid := mid) (E := E) (F := ents 3 toks l) (ep := ep) (f := 17) (toks := toks + 51) rfl rfl hn
    (by have : sysModules = 1 := rfl; rw [beq_eq_false_iff_ne, this]; omega) hE hf (rent_ents 3 l lo toks hr) (by rw [ents_length, hl]; omega)
  rw [ents_length, hl] at hm
  exact goes_bind (k := 0) (n := 107) (goes_onRaise (goes_holding hm)) goes_pure
theorem goes_flushT {pre mid : List Obj} {E : List DictEntry} {ep : Nat} {pos : Pos} {l : List (Int × Str)} {toks : Nat} {lo : Int} (hl0 : l ≠ []) (hl : l.length ≤ 15) (hn : n₀ ≤ pre.length) (hs : 2 ≤ pre.length) (h0 : 0 ≤ lo) (hr : rising lo l = true) (hE : E ≠ []) (hf : Fresh lo E) (hz : E.length + l.length < 1000) :
    Goes p w n₀ ann (.body b e) fp (6 + 19 * l.length) (flushT (prs pos l) (some pre.length)) (St (pre ++ D E ep :: mid) life gens drawn toks os) q (some pre.length)
      (St (pre ++ D (E ++ ents 2 toks l) (ep + l.length) :: (mid ++ [D (ents 2 toks l) l.length])) life gens drawn (toks + 3 * l.length) os) pos := by
  unfold flushT
  rw [if_neg (by rw [List.isEmpty_iff]; intro h; have := congrArg List.length h; rw [prs_length] at this; exact hl0 (List.eq_nil_of_length_eq_zero this))]
  dsimp only
  have h := goes_subShort (p := p) (w := w) (n₀ := n₀) (ann := ann) (b := b) (e := e) (fp := fp) (q := q) (gens := gens) (drawn := drawn) (os := os) (life := life) (l₀ := pre ++ D E ep :: mid) (pos := pos) (l := l) (toks := toks) hl0 hl (by simp; omega) h0 hr
  have e1 : (pre ++ D E ep :: mid).length = pre.length + 1 + mid.length := by simp; omega
  have e2 : (pre ++ D E ep :: mid) ++ [D (ents 2 toks l) l.length] = pre ++ D E ep :: (mid ++ [D (ents 2 toks l) l.length]) := by simp
  rw [e1, e2] at h
  refine goes_cast (n := (5 + 6 * l.length) + (1 + 13 * l.length)) (goes_bind (goes_holding h) ?_) (by omega)
  have hm := goes_merge (p := p) (w := w) (n₀ := n₀) (ann := ann) (b := b) (e := e) (fp := fp) (q := pos) (gens := gens) (drawn := drawn) (os := os) (life := life) (pre := pre) (mid := mid) (E := E) (F := ents 2 toks l) (ep := ep) (f := l.length) (toks := toks + 3 * l.length) rfl rfl hn
    (by have : sysModules = 1 := rfl; rw [beq_eq_false_iff_ne, this]; omega) hE hf (rent_ents 2 l lo toks hr) (by rw [ents_length]; omega)
  rw [ents_length] at hm
  exact goes_cast (goes_bind (goes_onRaise (goes_holding hm)) goes_pure) (Nat.zero_add _)
end Goes8
end Mine
open PySem PySem.W PyProof.Rows PySem.Calls
namespace Mine
section Goes9
variable {p : Program} {w : World} {n₀ : Nat} {ann : Option Value} {b : List Stmt} {e : Env} {fp : Pos} {q q' q₁ : Pos}
variable {gens : Array GenState} {drawn : Drawn} {os : OsState} {life : Life}

noncomputable def midOf : Nat → List (List (Int × Str)) → List Obj
  | _, [] => []
  | t, l :: r => D (ents 3 t l) 17 :: midOf (t + 51) r
noncomputable def entsOf : Nat → List (List (Int × Str)) → List DictEntry
  | _, [] => []
  | t, l :: r => ents 3 t l ++ entsOf (t + 51) r
noncomputable def risingC : Int → List (List (Int × Str)) → Bool
  | _, [] => true
  | lo, l :: r => l.length == 17 && rising lo l && risingC (lastK lo l) r
noncomputable def lastC : Int → List (List (Int × Str)) → Int
  | lo, [] => lo
  | lo, l :: r => lastC (lastK lo l) r
theorem entsOf_length : ∀ (cs : List (List (Int × Str))) (t : Nat) (lo : Int), risingC lo cs = true → (entsOf t cs).length = 17 * cs.length
  | [], _, _, _ => rfl
  | l :: r, t, lo, h => by
    simp only [risingC, Bool.and_eq_true, beq_iff_eq] at h
    rw [entsOf, List.length_append, ents_length, h.1.1, entsOf_length r _ _ h.2, List.length_cons]; omega
theorem midOf_length : ∀ (cs : List (List (Int × Str))) (t : Nat), (midOf t cs).length = cs.length
  | [], _ => rfl
  | _ :: r, t => congrArg (· + 1) (midOf_length r _)
noncomputable def endC (q pos : Pos) : List (List (Int × Str)) → Pos
  | [] => q
  | _ :: _ => pos
theorem goes_chunks {f : Body} (hf : Good f) {pre : List Obj} {pos : Pos} (hn : n₀ ≤ pre.length) (hs : 2 ≤ pre.length) (tl : List (Int × Str)) (htl : tl.length < 17) (cs : List (List (Int × Str))) : ∀ (mid : List Obj) (E : List DictEntry) (ep toks : Nat) (lo : Int) (q : Pos),
    0 ≤ lo → risingC lo cs = true → E ≠ [] → Fresh lo E → E.length + 17 * cs.length < 1000 →
    Goes p w n₀ ann (.body b e) fp (330 * cs.length) (forIn ((cs.map fun l => its (prs pos l)).flatten ++ its (prs pos tl)) ((some pre.length, []) : Gath) f) (St (pre ++ D E ep :: mid) life gens drawn toks os) q (some pre.length, prs pos tl)
      (St (pre ++ D (E ++ entsOf toks cs) (ep + 17 * cs.length) :: (mid ++ midOf toks cs)) life gens drawn (toks + 51 * cs.length) os) (endC q pos cs) := by
  induction cs with
  | nil =>
    intro mid E ep toks lo q _ _ _ _ _
    have h := gath hf (some pre.length) [] (prs pos tl) [] (by rw [prs_length]; simpa using htl)
    rw [List.append_nil, List.nil_append] at h
    simp only [List.map_nil, List.flatten_nil, List.nil_append, h, List.forIn_nil, entsOf, midOf, List.append_nil, List.length_nil, Nat.mul_zero, Nat.add_zero]
    exact goes_pure
  | cons l r ih =>
    intro mid E ep toks lo q h0 hr hE hfr hz
    simp only [risingC, Bool.and_eq_true, beq_iff_eq] at hr
    obtain ⟨⟨hl, hr1⟩, hr2⟩ := hr
    rw [List.length_cons] at hz
    have hge := lastK_ge l lo hr1
    have ih := ih (mid ++ [D (ents 3 toks l) 17]) (E ++ ents 3 toks l) (ep + 17) (toks + 51) (lastK lo l) pos (by omega) hr2 (by simp [hE]) (fresh_app (fresh_mono hfr hge) (fresh_ents 3 l lo toks hr1)) (by rw [List.length_append, ents_length, hl]; omega)
    have e1 : endC pos pos r = pos := by cases r <;> rfl
    rw [e1] at ih
    have hfl := goes_flush1 (p := p) (w := w) (n₀ := n₀) (ann := ann) (b := b) (e := e) (fp := fp) (q := q) (gens := gens) (drawn := drawn) (os := os) (life := life) (pre := pre) (mid := mid) (E := E) (ep := ep) (pos := pos) (l := l) (toks := toks) hl hn hs h0 hr1 hE hfr (by omega)
    rw [List.map_cons, List.flatten_cons, List.append_assoc, gath17 hf _ _ _ (by rw [prs_length, hl])]
    refine goes_cast (n := 330 * r.length + 330) (goes_bind hfl ?_) (by rw [List.length_cons]; omega)
    simp only [entsOf, midOf, List.length_cons]
    rw [show ep + 17 * (r.length + 1) = ep + 17 + 17 * r.length by omega, show toks + 51 * (r.length + 1) = toks + 51 + 51 * r.length by omega]
    simpa only [List.append_assoc, List.cons_append, List.nil_append, endC] using ih
theorem prs_append {pos : Pos} {l r : List (Int × Str)} : prs pos (l ++ r) = prs pos l ++ prs pos r := by simp [prs]
theorem its_append {l r : List (Sem Value × Sem Value)} : its (l ++ r) = its l ++ its r := by simp [its]
theorem its_flatten {pos : Pos} : ∀ cs : List (List (Int × Str)), its (prs pos cs.flatten) = (cs.map fun l => its (prs pos l)).flatten
  | [] => rfl
  | l :: r => by rw [List.flatten_cons, prs_append, its_append, its_flatten r, List.map_cons, List.flatten_cons]
theorem fresh_entsOf : ∀ (cs : List (List (Int × Str))) (lo : Int) (t : Nat), risingC lo cs = true → Fresh (lastC lo cs) (entsOf t cs) ∧ lo ≤ lastC lo cs
  | [], lo, _, _ => ⟨(fun _ h => nomatch h), Int.le_refl _⟩
  | l :: r, lo, t, h => by
    simp only [risingC, Bool.and_eq_true, beq_iff_eq] at h
    have ih := fresh_entsOf r (lastK lo l) (t + 51) h.2
    exact ⟨fresh_app (fresh_mono (fresh_ents 3 l lo t h.1.2) ih.2) ih.1, Int.le_trans (lastK_ge l lo h.1.2) ih.2⟩
theorem goes_display {pre : List Obj} {pos : Pos} {c₀ tl : List (Int × Str)} {cs : List (List (Int × Str))} {toks : Nat} (hn : n₀ ≤ pre.length) (hs : 2 ≤ pre.length) (h1 : risingC 0 (c₀ :: cs) = true) (h2 : rising (lastC 0 (c₀ :: cs)) tl = true) (ht0 : tl ≠ []) (ht : tl.length ≤ 15) (hz : cs.length < 50) :
    Goes p w n₀ ann (.body b e) fp (223 + 330 * cs.length + (6 + 19 * tl.length)) (dictDisplay (its (prs pos (c₀ ++ (cs.flatten ++ tl))))) (St pre life gens drawn toks os) q (.ref pre.length)
      (St (pre ++ D (ents 3 toks c₀ ++ entsOf (toks + 51) cs ++ ents 2 (toks + 51 + 51 * cs.length) tl) (17 + 17 * cs.length + tl.length) :: (midOf (toks + 51) cs ++ [D (ents 2 (toks + 51 + 51 * cs.length) tl) tl.length])) life gens drawn (toks + 51 + 51 * cs.length + 3 * tl.length) os) pos := by
  have hr := h1
  simp only [risingC, Bool.and_eq_true, beq_iff_eq] at hr
  obtain ⟨⟨hl, hr1⟩, hr2⟩ := hr
  have hall : its (prs pos (c₀ ++ (cs.flatten ++ tl))) = its (prs pos c₀) ++ ((cs.map fun l => its (prs pos l)).flatten ++ its (prs pos tl)) := by
    rw [prs_append, prs_append, its_append, its_append, its_flatten]
  unfold dictDisplay
  dsimp only
  rw [hall]
  have hge := lastK_ge c₀ 0 hr1
  have hfc := fresh_entsOf cs (lastK 0 c₀) (toks + 51) hr2
  have hE : ents 3 toks c₀ ≠ [] := by intro h; have := congrArg List.length h; rw [ents_length, hl] at this; cases this
  refine goes_cast (n := (0 + (6 + 19 * tl.length)) + (330 * cs.length + 223)) (goes_bind (a := ((some pre.length, prs pos tl) : Gath)) (q₁ := endC pos pos cs)
    (s₁ := St (pre ++ D (ents 3 toks c₀ ++ entsOf (toks + 51) cs) (17 + 17 * cs.length) :: midOf (toks + 51) cs) life gens drawn (toks + 51 + 51 * cs.length) os) ?_ ?_) (by omega)
  · rw [gath17 ?hgood none _ (prs pos c₀) (by rw [prs_length, hl])]
    case hgood => intro k v main run; rfl
    have hfl := goes_flush0 (p := p) (w := w) (n₀ := n₀) (ann := ann) (b := b) (e := e) (fp := fp) (q := q) (gens := gens) (drawn := drawn) (os := os) (life := life) (l₀ := pre) (pos := pos) (l := c₀) (toks := toks) hl hn (Int.le_refl 0) hr1
    refine goes_bind hfl ?_
    have hc : ∀ f : Body, Good f → _ := fun f hf => goes_chunks (p := p) (w := w) (n₀ := n₀) (ann := ann) (b := b) (e := e) (fp := fp) (gens := gens) (drawn := drawn) (os := os) (life := life) (pos := pos) (pre := pre) (f := f) hf hn hs tl (by omega) cs [] (ents 3 toks c₀) 17 (toks + 51) (lastK 0 c₀) pos hge hr2 hE (fresh_ents 3 c₀ 0 toks hr1) (by rw [ents_length, hl]; omega)
    simp only [List.nil_append] at hc
    refine hc _ ?_
    intro k v main run; rfl
  · have e1 : endC pos pos cs = pos := by cases cs <;> rfl
    rw [e1]
    have hft := goes_flushT (p := p) (w := w) (n₀ := n₀) (ann := ann) (b := b) (e := e) (fp := fp) (q := pos) (gens := gens) (drawn := drawn) (os := os) (life := life) (pre := pre) (mid := midOf (toks + 51) cs) (E := ents 3 toks c₀ ++ entsOf (toks + 51) cs) (ep := 17 + 17 * cs.length) (pos := pos) (l := tl) (toks := toks + 51 + 51 * cs.length) (lo := lastC 0 (c₀ :: cs)) ht0 ht hn hs
      (by show (0 : Int) ≤ lastC (lastK 0 c₀) cs; have := hfc.2; omega) h2 (by simp [hE]) (fresh_app (fresh_mono (fresh_ents 3 c₀ 0 toks hr1) hfc.2) hfc.1) (by rw [List.length_append, ents_length, hl, entsOf_length cs _ _ hr2]; omega)
    exact goes_bind hft goes_pure
end Goes9
end Mine
open PySem PySem.W PyProof.Rows PySem.Calls
namespace Mine
local macro_rules | `(tactic| walk_at "mine0") => `(tactic| fail)
local macro_rules | `(tactic| walk_at "mine1") => `(tactic| fail)
local macro_rules | `(tactic| walk_at "mine2") => `(tactic| fail)
local macro_rules | `(tactic| walk_at "mine3") => `(tactic| fail)
local macro_rules | `(tactic| walk_at "mine4") => `(tactic| fail)
local macro_rules | `(tactic| walk_at "mine5") => `(tactic| fail)
local macro_rules | `(tactic| walk_at "mine6") => `(tactic| fail)
local macro_rules | `(tactic| walk_at "mine7") => `(tactic| fail)
local macro_rules | `(tactic| walk_at "mine8") => `(tactic| fail)
local macro_rules | `(tactic| walk_at "mine9") => `(tactic| fail)
local macro_rules | `(tactic| walk_at "mine10") => `(tactic| fail)
local macro_rules | `(tactic| walk_at "mine11") => `(tactic| fail)
local macro_rules | `(tactic| walk_at "mine12") => `(tactic| fail)
local macro_rules | `(tactic| walk_at "mine13") => `(tactic| fail)
local macro_rules | `(tactic| walk_at "mine14") => `(tactic| fail)
theorem assign_dict (x : Str) (pos' : Pos) (keys : List (Option Expr)) (values : List Expr) (dpos spos : Pos) (e : Env) : exec (.Assign [.Name x pos'] (.Dict keys values dpos) spos) e = (do
    standAt spos
    let v ← (do standAt dpos; dictDisplay ((evalEachOpt keys e).zip ((evalEach values e).map fun v => do let x ← v; standAt dpos; pure x)))
    (do standAt pos'; bindName e x v; pure .next)) := by rw [exec_Assign_Name e x pos' (.Dict keys values dpos) spos rfl, arm_eval_Dict]
noncomputable def tailW (env : Env) (x : Str) (p1 : Pos) (v : Value) : Sem Fin :=
  ((do standAt p1; bindName env x v; pure .next : Sem Flow)).wrap (fun f => match f with | .next => (execs [] env).wrap doneF deadEnd id id | f => doneF f) deadEnd id id
theorem seg_assign {p : Program} {w : World} {n₀ : Nat} {ann : Option Value} {b : List Stmt} {fp q : Pos} {s s' : Shared} {env e' : Env} {st : Stmt} {x : Str} {p1 dp sp : Pos} {ks : List (Option Expr)} {vs : List Expr} {l : List (Int × Str)} {n N : Nat} {v : Value} {r : Flow × Shared × Code × Pos}
    (hst : st = .Assign [.Name x p1] (.Dict ks vs dp) sp)
    (hi : (evalEachOpt ks env).zip ((evalEach vs env).map fun v => do let x ← v; standAt dp; pure x) = its (prs dp l))
    (hd : Goes p w n₀ ann (.body b e') fp n (dictDisplay (its (prs dp l))) s dp v s' dp)
    (ht : segRun treeTable p w n₀ ann 1 N s' ⟨tailW env x p1 v, .body b e', dp, [topFrame fp]⟩ = some r) :
    segRun treeTable p w n₀ ann 1 (N + (n + 1) + 1) s (piecesOf [st] env (.body b e') q [topFrame fp]) = some r := by
  show segRun treeTable p w n₀ ann 1 (N + (n + 1) + 1) s ⟨(execs [st] env).wrap doneF deadEnd id id, _, _, _⟩ = _
  rw [execs_cons_wrap, hst, assign_dict, hi, bind_wrap']
  refine goes_standAt _ _ _ _ _ _ ?_
  rw [bind_wrap']
  exact goes_bind (n := 1) (k := n) goes_standAt hd _ _ _ _ N _ ht
end Mine
namespace Mine
local macro_rules | `(tactic| walk_at "mine0") => `(tactic| fail)
local macro_rules | `(tactic| walk_at "mine1") => `(tactic| fail)
local macro_rules | `(tactic| walk_at "mine2") => `(tactic| fail)
local macro_rules | `(tactic| walk_at "mine3") => `(tactic| fail)
local macro_rules | `(tactic| walk_at "mine4") => `(tactic| fail)
local macro_rules | `(tactic| walk_at "mine5") => `(tactic| fail)
local macro_rules | `(tactic| walk_at "mine6") => `(tactic| fail)
local macro_rules | `(tactic| walk_at "mine7") => `(tactic| fail)
local macro_rules | `(tactic| walk_at "mine8") => `(tactic| fail)
local macro_rules | `(tactic| walk_at "mine9") => `(tactic| fail)
local macro_rules | `(tactic| walk_at "mine10") => `(tactic| fail)
local macro_rules | `(tactic| walk_at "mine11") => `(tactic| fail)
local macro_rules | `(tactic| walk_at "mine12") => `(tactic| fail)
local macro_rules | `(tactic| walk_at "mine13") => `(tactic| fail)
local macro_rules | `(tactic| walk_at "mine14") => `(tactic| fail)
theorem goes_display' {p : Program} {w : World} {n₀ : Nat} {ann : Option Value} {b : List Stmt} {e : Env} {fp q : Pos} {gens : Array GenState} {drawn : Drawn} {os : OsState} {life : Life} {pre : List Obj} {pos : Pos} {c₀ tl all : List (Int × Str)} {cs : List (List (Int × Str))} {toks a m k : Nat}
    (ha : pre.length = a) (hm : cs.length = m) (hk : tl.length = k) (hall : all = c₀ ++ (cs.flatten ++ tl)) (hn : Nat.ble n₀ a = true) (hs : Nat.ble 2 a = true) (h1 : risingC 0 (c₀ :: cs) = true) (h2 : rising (lastC 0 (c₀ :: cs)) tl = true) (ht0 : Nat.ble 1 k = true) (ht : Nat.ble k 15 = true) (hz : Nat.ble (m + 1) 50 = true) :
    Goes p w n₀ ann (.body b e) fp (223 + 330 * m + (6 + 19 * k)) (dictDisplay (its (prs pos all))) (St pre life gens drawn toks os) q (.ref a)
      (St (pre ++ D (ents 3 toks c₀ ++ entsOf (toks + 51) cs ++ ents 2 (toks + 51 + 51 * m) tl) (17 + 17 * m + k) :: (midOf (toks + 51) cs ++ [D (ents 2 (toks + 51 + 51 * m) tl) k])) life gens drawn (toks + 51 + 51 * m + 3 * k) os) pos := by
  subst ha hm hk hall
  exact goes_display (Nat.le_of_ble_eq_true hn) (Nat.le_of_ble_eq_true hs) h1 h2 (by intro h; rw [h] at ht0; cases ht0) (Nat.le_of_ble_eq_true ht) (Nat.le_of_ble_eq_true hz)
end Mine
open PySem PySem.W PyProof.Rows PySem.Calls
namespace Mine
noncomputable section
noncomputable abbrev pw : Program := PySem.Challenge.pw_wa0029_01
noncomputable def stAt (i : Nat) : Stmt := match pw.main.body[i]? with | some s => s | none => .Pass default
noncomputable def bodyAt (i : Nat) : List Stmt := match stAt i with | .FunctionDef _ _ b _ _ _ _ _ _ _ => b | _ => []
noncomputable def argsAt (i : Nat) : Arguments := match stAt i with | .FunctionDef _ a _ _ _ _ _ _ _ _ => a | _ => { posonlyargs := [], args := [], vararg := none, kwonlyargs := [], kw_defaults := [], kwarg := none, defaults := [] }
noncomputable def scopeAt (i : Nat) : Scope := match stAt i with | .FunctionDef _ _ _ _ _ _ sc _ _ _ => sc | _ => { kind := .module, names := [], isGenerator := false, isCoroutine := false, more := [] }
noncomputable def bd : List Stmt := behindTheImports pw
noncomputable def env : Env := { scope := pw.main.scope, locals := mainNs, globals := mainNs, cells := [], code := .ref 13, frame := some 14 }
noncomputable def cE : Code := .body bd env
noncomputable def B : List Frame := [topFrame ⟨0, 0, 0, 0⟩]
noncomputable def dispAt : List (Option Expr) × List Expr × Pos := match stAt 8 with | .Assign _ (.Dict ks vs p) _ => (ks, vs, p) | _ => ([], [], default)
noncomputable def tgtAt : Str × Pos × Pos := match stAt 8 with | .Assign [.Name x p] _ q => (x, p, q) | _ => (.empty, default, default)
noncomputable def tbl : List (Int × Str) := (dispAt.1.zip dispAt.2.1).filterMap fun
  | (some (.Constant (.int i) _ _), .Constant (.str s) _ _) => some (i, s)
  | _ => none
noncomputable def chunk (i : Nat) : List (Int × Str) := (tbl.drop (17 * i)).take 17
noncomputable def chunks : List (List (Int × Str)) := (List.range 37).map fun i => chunk (i + 1)
noncomputable def tblEnd : List (Int × Str) := tbl.drop 646

noncomputable def o11_a (P : Params) : Obj := ⟨(.type "tuple"), none, (.seq [].toArray 0), [].toArray⟩
noncomputable def o12_a (P : Params) : Obj := ⟨.none, none, (.fields [].toArray), [].toArray⟩
noncomputable def o13_a (P : Params) : Obj := ⟨(.type "code"), none, (.fields [(.str (.ofString "<module>") 182), (.str (.ofString "<module>") 183), (.str (.ofString "/claim/cut.py") 184), (.int 1 0), (.int 0 0), (.int 0 0), (.int 0 0), (.int 0 0), (.ref 11), (.bool false), (.int 181 0), (.ref 12), .none, .none, .none, .none, (.int 185 0), (.int 1 0), (.str (.ofString "/claim/cut.py") 186)].toArray), [].toArray⟩
noncomputable def o14_a (P : Params) : Obj := ⟨(.type "frame"), none, .plain, [(some (.ref 13)), (some (.ref 3)), (some (.ref 3)), none, (some (.str (.ofString "__main__") 164)), none, (some (.ref 0))].toArray⟩
noncomputable def la (P : Params) : List Obj := [boot_o_0 P, boot_o_1 P, boot_o_2 P, boot_o_3 P, boot_o_4 P, boot_o_5 P, boot_o_6 P, boot_o_7 P, boot_o_8 P, boot_o_9 P, boot_o_10 P, o11_a P, o12_a P, o13_a P, o14_a P]
noncomputable def hpa (P : Params) : Heap := hpOf (la P) {}
noncomputable def o3_1 (P : Params) : Obj := ⟨(.type "dict"), none, (.dict [⟨PyData.keyHash P (.ofString "__name__"), (.str (.ofString "__name__") 165), (.str (.ofString "cpy313.imaplib") 187)⟩, ⟨PyData.keyHash P (.ofString "__doc__"), (.str (.ofString "__doc__") 166), .none⟩, ⟨PyData.keyHash P (.ofString "__package__"), (.str (.ofString "__package__") 167), .none⟩, ⟨PyData.keyHash P (.ofString "__loader__"), (.str (.ofString "__loader__") 168), (.builtin "__main__.__loader__#opaque")⟩, ⟨PyData.keyHash P (.ofString "__spec__"), (.str (.ofString "__spec__") 169), .none⟩, ⟨PyData.keyHash P (.ofString "__annotations__"), (.str (.ofString "__annotations__") 170), (.ref 6)⟩, ⟨PyData.keyHash P (.ofString "__builtins__"), (.str (.ofString "__builtins__") 171), (.ref 4)⟩, ⟨PyData.keyHash P (.ofString "__file__"), (.str (.ofString "__file__") 173), (.str (.ofString "/claim/cut.py") 172)⟩, ⟨PyData.keyHash P (.ofString "__cached__"), (.str (.ofString "__cached__") 174), .none⟩].toArray 9), [].toArray⟩
noncomputable def l1 (P : Params) : List Obj := [boot_o_0 P, boot_o_1 P, boot_o_2 P, o3_1 P, boot_o_4 P, boot_o_5 P, boot_o_6 P, boot_o_7 P, boot_o_8 P, boot_o_9 P, boot_o_10 P, o11_a P, o12_a P, o13_a P, o14_a P]
noncomputable def hp1 (P : Params) : Heap := hpOf (l1 P) {}
noncomputable def o3_2 (P : Params) : Obj := ⟨(.type "dict"), none, (.dict [⟨PyData.keyHash P (.ofString "__name__"), (.str (.ofString "__name__") 165), (.str (.ofString "cpy313.imaplib") 187)⟩, ⟨PyData.keyHash P (.ofString "__doc__"), (.str (.ofString "__doc__") 166), .none⟩, ⟨PyData.keyHash P (.ofString "__package__"), (.str (.ofString "__package__") 167), .none⟩, ⟨PyData.keyHash P (.ofString "__loader__"), (.str (.ofString "__loader__") 168), (.builtin "__main__.__loader__#opaque")⟩, ⟨PyData.keyHash P (.ofString "__spec__"), (.str (.ofString "__spec__") 169), .none⟩, ⟨PyData.keyHash P (.ofString "__annotations__"), (.str (.ofString "__annotations__") 170), (.ref 6)⟩, ⟨PyData.keyHash P (.ofString "__builtins__"), (.str (.ofString "__builtins__") 171), (.ref 4)⟩, ⟨PyData.keyHash P (.ofString "__file__"), (.str (.ofString "__file__") 173), (.str (.ofString "/claim/cut.py") 172)⟩, ⟨PyData.keyHash P (.ofString "__cached__"), (.str (.ofString "__cached__") 174), .none⟩, ⟨PyData.keyHash P (.ofString "Int2AP"), (.str (.ofString "Int2AP") 198), (.ref 21)⟩].toArray 10), [].toArray⟩
noncomputable def o12_2 (P : Params) : Obj := ⟨.none, none, (.fields [(.int 2 0), (.int 0 0), (.ref 20)].toArray), [].toArray⟩
noncomputable def o15_2 (P : Params) : Obj := ⟨(.type "tuple"), none, (.seq [].toArray 0), [].toArray⟩
noncomputable def o16_2 (P : Params) : Obj := ⟨.none, none, (.fields [].toArray), [].toArray⟩
noncomputable def o17_2 (P : Params) : Obj := ⟨(.type "tuple"), none, (.seq [(.str (.ofString "num") 192), (.str (.ofString "val") 193), (.str (.ofString "AP") 194), (.str (.ofString "mod") 195)].toArray 0), [].toArray⟩
noncomputable def o18_2 (P : Params) : Obj := ⟨(.type "tuple"), none, (.seq [].toArray 0), [].toArray⟩
noncomputable def o19_2 (P : Params) : Obj := ⟨.none, none, (.func { name := (.ofString "Int2AP"), qualname := (.ofString "Int2AP"), params := (argsAt 1), body := .stmts (bodyAt 1), scope := (scopeAt 1), globals := 0, closure := [], defaults := .none, kwdefaults := .none, doc := .none, pyModule := .none, annotations := none, code := .none, closureTuple := .none, builtins := 0 }), [].toArray⟩
noncomputable def o20_2 (P : Params) : Obj := ⟨(.type "code"), none, (.fields [(.str (.ofString "Int2AP") 189), (.str (.ofString "Int2AP") 190), (.str (.ofString "/claim/cut.py") 191), (.int 2 0), (.int 1 0), (.int 0 0), (.int 0 0), (.int 3 0), (.ref 15), (.bool true), (.int 181 0), (.ref 16), .none, (.ref 17), (.ref 18), (.ref 19), (.int 196 0), (.int 2 0), (.str (.ofString "/claim/cut.py") 197)].toArray), [].toArray⟩
noncomputable def o21_2 (P : Params) : Obj := ⟨(.type "function"), none, (.func { name := (.ofString "Int2AP"), qualname := (.ofString "Int2AP"), params := (argsAt 1), body := .stmts (bodyAt 1), scope := (scopeAt 1), globals := 3, closure := [], defaults := .none, kwdefaults := .none, doc := .none, pyModule := (.str (.ofString "cpy313.imaplib") 187), annotations := none, code := (.ref 20), closureTuple := .none, builtins := 0 }), [].toArray⟩
noncomputable def l2 (P : Params) : List Obj := [boot_o_0 P, boot_o_1 P, boot_o_2 P, o3_2 P, boot_o_4 P, boot_o_5 P, boot_o_6 P, boot_o_7 P, boot_o_8 P, boot_o_9 P, boot_o_10 P, o11_a P, o12_2 P, o13_a P, o14_a P, o15_2 P, o16_2 P, o17_2 P, o18_2 P, o19_2 P, o20_2 P, o21_2 P]
noncomputable def hp2 (P : Params) : Heap := hpOf (l2 P) {}
noncomputable def o3_3 (P : Params) : Obj := ⟨(.type "dict"), none, (.dict [⟨PyData.keyHash P (.ofString "__name__"), (.str (.ofString "__name__") 165), (.str (.ofString "cpy313.email.utils") 199)⟩, ⟨PyData.keyHash P (.ofString "__doc__"), (.str (.ofString "__doc__") 166), .none⟩, ⟨PyData.keyHash P (.ofString "__package__"), (.str (.ofString "__package__") 167), .none⟩, ⟨PyData.keyHash P (.ofString "__loader__"), (.str (.ofString "__loader__") 168), (.builtin "__main__.__loader__#opaque")⟩, ⟨PyData.keyHash P (.ofString "__spec__"), (.str (.ofString "__spec__") 169), .none⟩, ⟨PyData.keyHash P (.ofString "__annotations__"), (.str (.ofString "__annotations__") 170), (.ref 6)⟩, ⟨PyData.keyHash P (.ofString "__builtins__"), (.str (.ofString "__builtins__") 171), (.ref 4)⟩, ⟨PyData.keyHash P (.ofString "__file__"), (.str (.ofString "__file__") 173), (.str (.ofString "/claim/cut.py") 172)⟩, ⟨PyData.keyHash P (.ofString "__cached__"), (.str (.ofString "__cached__") 174), .none⟩, ⟨PyData.keyHash P (.ofString "Int2AP"), (.str (.ofString "Int2AP") 198), (.ref 21)⟩].toArray 10), [].toArray⟩
noncomputable def l3 (P : Params) : List Obj := [boot_o_0 P, boot_o_1 P, boot_o_2 P, o3_3 P, boot_o_4 P, boot_o_5 P, boot_o_6 P, boot_o_7 P, boot_o_8 P, boot_o_9 P, boot_o_10 P, o11_a P, o12_2 P, o13_a P, o14_a P, o15_2 P, o16_2 P, o17_2 P, o18_2 P, o19_2 P, o20_2 P, o21_2 P]
noncomputable def hp3 (P : Params) : Heap := hpOf (l3 P) {}
noncomputable def o3_4 (P : Params) : Obj := ⟨(.type "dict"), none, (.dict [⟨PyData.keyHash P (.ofString "__name__"), (.str (.ofString "__name__") 165), (.str (.ofString "cpy313.email.utils") 199)⟩, ⟨PyData.keyHash P (.ofString "__doc__"), (.str (.ofString "__doc__") 166), .none⟩, ⟨PyData.keyHash P (.ofString "__package__"), (.str (.ofString "__package__") 167), .none⟩, ⟨PyData.keyHash P (.ofString "__loader__"), (.str (.ofString "__loader__") 168), (.builtin "__main__.__loader__#opaque")⟩, ⟨PyData.keyHash P (.ofString "__spec__"), (.str (.ofString "__spec__") 169), .none⟩, ⟨PyData.keyHash P (.ofString "__annotations__"), (.str (.ofString "__annotations__") 170), (.ref 6)⟩, ⟨PyData.keyHash P (.ofString "__builtins__"), (.str (.ofString "__builtins__") 171), (.ref 4)⟩, ⟨PyData.keyHash P (.ofString "__file__"), (.str (.ofString "__file__") 173), (.str (.ofString "/claim/cut.py") 172)⟩, ⟨PyData.keyHash P (.ofString "__cached__"), (.str (.ofString "__cached__") 174), .none⟩, ⟨PyData.keyHash P (.ofString "Int2AP"), (.str (.ofString "Int2AP") 198), (.ref 21)⟩, ⟨PyData.keyHash P (.ofString "TICK"), (.str (.ofString "TICK") 202), (.str (.ofString "'") 201)⟩].toArray 11), [].toArray⟩
noncomputable def l4 (P : Params) : List Obj := [boot_o_0 P, boot_o_1 P, boot_o_2 P, o3_4 P, boot_o_4 P, boot_o_5 P, boot_o_6 P, boot_o_7 P, boot_o_8 P, boot_o_9 P, boot_o_10 P, o11_a P, o12_2 P, o13_a P, o14_a P, o15_2 P, o16_2 P, o17_2 P, o18_2 P, o19_2 P, o20_2 P, o21_2 P]
noncomputable def hp4 (P : Params) : Heap := hpOf (l4 P) {}
noncomputable def o3_5 (P : Params) : Obj := ⟨(.type "dict"), none, (.dict [⟨PyData.keyHash P (.ofString "__name__"), (.str (.ofString "__name__") 165), (.str (.ofString "cpy313.email.utils") 199)⟩, ⟨PyData.keyHash P (.ofString "__doc__"), (.str (.ofString "__doc__") 166), .none⟩, ⟨PyData.keyHash P (.ofString "__package__"), (.str (.ofString "__package__") 167), .none⟩, ⟨PyData.keyHash P (.ofString "__loader__"), (.str (.ofString "__loader__") 168), (.builtin "__main__.__loader__#opaque")⟩, ⟨PyData.keyHash P (.ofString "__spec__"), (.str (.ofString "__spec__") 169), .none⟩, ⟨PyData.keyHash P (.ofString "__annotations__"), (.str (.ofString "__annotations__") 170), (.ref 6)⟩, ⟨PyData.keyHash P (.ofString "__builtins__"), (.str (.ofString "__builtins__") 171), (.ref 4)⟩, ⟨PyData.keyHash P (.ofString "__file__"), (.str (.ofString "__file__") 173), (.str (.ofString "/claim/cut.py") 172)⟩, ⟨PyData.keyHash P (.ofString "__cached__"), (.str (.ofString "__cached__") 174), .none⟩, ⟨PyData.keyHash P (.ofString "Int2AP"), (.str (.ofString "Int2AP") 198), (.ref 21)⟩, ⟨PyData.keyHash P (.ofString "TICK"), (.str (.ofString "TICK") 202), (.str (.ofString "'") 201)⟩, ⟨PyData.keyHash P (.ofString "decode_rfc2231"), (.str (.ofString "decode_rfc2231") 210), (.ref 28)⟩].toArray 12), [].toArray⟩
noncomputable def o12_5 (P : Params) : Obj := ⟨.none, none, (.fields [(.int 2 0), (.int 0 0), (.ref 20), (.int 12 0), (.int 0 0), (.ref 27)].toArray), [].toArray⟩
noncomputable def o22_5 (P : Params) : Obj := ⟨(.type "tuple"), none, (.seq [].toArray 0), [].toArray⟩
noncomputable def o23_5 (P : Params) : Obj := ⟨.none, none, (.fields [].toArray), [].toArray⟩
noncomputable def o24_5 (P : Params) : Obj := ⟨(.type "tuple"), none, (.seq [(.str (.ofString "s") 206), (.str (.ofString "parts") 207)].toArray 0), [].toArray⟩
noncomputable def o25_5 (P : Params) : Obj := ⟨(.type "tuple"), none, (.seq [].toArray 0), [].toArray⟩
noncomputable def o26_5 (P : Params) : Obj := ⟨.none, none, (.func { name := (.ofString "decode_rfc2231"), qualname := (.ofString "decode_rfc2231"), params := (argsAt 4), body := .stmts (bodyAt 4), scope := (scopeAt 4), globals := 0, closure := [], defaults := .none, kwdefaults := .none, doc := .none, pyModule := .none, annotations := none, code := .none, closureTuple := .none, builtins := 0 }), [].toArray⟩
noncomputable def o27_5 (P : Params) : Obj := ⟨(.type "code"), none, (.fields [(.str (.ofString "decode_rfc2231") 203), (.str (.ofString "decode_rfc2231") 204), (.str (.ofString "/claim/cut.py") 205), (.int 12 0), (.int 1 0), (.int 0 0), (.int 0 0), (.int 3 0), (.ref 22), (.bool true), (.int 181 0), (.ref 23), .none, (.ref 24), (.ref 25), (.ref 26), (.int 208 0), (.int 12 0), (.str (.ofString "/claim/cut.py") 209)].toArray), [].toArray⟩
noncomputable def o28_5 (P : Params) : Obj := ⟨(.type "function"), none, (.func { name := (.ofString "decode_rfc2231"), qualname := (.ofString "decode_rfc2231"), params := (argsAt 4), body := .stmts (bodyAt 4), scope := (scopeAt 4), globals := 3, closure := [], defaults := .none, kwdefaults := .none, doc := .none, pyModule := (.str (.ofString "cpy313.email.utils") 199), annotations := none, code := (.ref 27), closureTuple := .none, builtins := 0 }), [].toArray⟩
noncomputable def l5 (P : Params) : List Obj := [boot_o_0 P, boot_o_1 P, boot_o_2 P, o3_5 P, boot_o_4 P, boot_o_5 P, boot_o_6 P, boot_o_7 P, boot_o_8 P, boot_o_9 P, boot_o_10 P, o11_a P, o12_5 P, o13_a P, o14_a P, o15_2 P, o16_2 P, o17_2 P, o18_2 P, o19_2 P, o20_2 P, o21_2 P, o22_5 P, o23_5 P, o24_5 P, o25_5 P, o26_5 P, o27_5 P, o28_5 P]
noncomputable def hp5 (P : Params) : Heap := hpOf (l5 P) {}
noncomputable def o3_6 (P : Params) : Obj := ⟨(.type "dict"), none, (.dict [⟨PyData.keyHash P (.ofString "__name__"), (.str (.ofString "__name__") 165), (.str (.ofString "cpy313.stringprep") 211)⟩, ⟨PyData.keyHash P (.ofString "__doc__"), (.str (.ofString "__doc__") 166), .none⟩, ⟨PyData.keyHash P (.ofString "__package__"), (.str (.ofString "__package__") 167), .none⟩, ⟨PyData.keyHash P (.ofString "__loader__"), (.str (.ofString "__loader__") 168), (.builtin "__main__.__loader__#opaque")⟩, ⟨PyData.keyHash P (.ofString "__spec__"), (.str (.ofString "__spec__") 169), .none⟩, ⟨PyData.keyHash P (.ofString "__annotations__"), (.str (.ofString "__annotations__") 170), (.ref 6)⟩, ⟨PyData.keyHash P (.ofString "__builtins__"), (.str (.ofString "__builtins__") 171), (.ref 4)⟩, ⟨PyData.keyHash P (.ofString "__file__"), (.str (.ofString "__file__") 173), (.str (.ofString "/claim/cut.py") 172)⟩, ⟨PyData.keyHash P (.ofString "__cached__"), (.str (.ofString "__cached__") 174), .none⟩, ⟨PyData.keyHash P (.ofString "Int2AP"), (.str (.ofString "Int2AP") 198), (.ref 21)⟩, ⟨PyData.keyHash P (.ofString "TICK"), (.str (.ofString "TICK") 202), (.str (.ofString "'") 201)⟩, ⟨PyData.keyHash P (.ofString "decode_rfc2231"), (.str (.ofString "decode_rfc2231") 210), (.ref 28)⟩].toArray 12), [].toArray⟩
noncomputable def l6 (P : Params) : List Obj := [boot_o_0 P, boot_o_1 P, boot_o_2 P, o3_6 P, boot_o_4 P, boot_o_5 P, boot_o_6 P, boot_o_7 P, boot_o_8 P, boot_o_9 P, boot_o_10 P, o11_a P, o12_5 P, o13_a P, o14_a P, o15_2 P, o16_2 P, o17_2 P, o18_2 P, o19_2 P, o20_2 P, o21_2 P, o22_5 P, o23_5 P, o24_5 P, o25_5 P, o26_5 P, o27_5 P, o28_5 P]
noncomputable def hp6 (P : Params) : Heap := hpOf (l6 P) {}
noncomputable def o3_7 (P : Params) : Obj := ⟨(.type "dict"), none, (.dict [⟨PyData.keyHash P (.ofString "__name__"), (.str (.ofString "__name__") 165), (.str (.ofString "cpy313.stringprep") 211)⟩, ⟨PyData.keyHash P (.ofString "__doc__"), (.str (.ofString "__doc__") 166), .none⟩, ⟨PyData.keyHash P (.ofString "__package__"), (.str (.ofString "__package__") 167), .none⟩, ⟨PyData.keyHash P (.ofString "__loader__"), (.str (.ofString "__loader__") 168), (.builtin "__main__.__loader__#opaque")⟩, ⟨PyData.keyHash P (.ofString "__spec__"), (.str (.ofString "__spec__") 169), .none⟩, ⟨PyData.keyHash P (.ofString "__annotations__"), (.str (.ofString "__annotations__") 170), (.ref 6)⟩, ⟨PyData.keyHash P (.ofString "__builtins__"), (.str (.ofString "__builtins__") 171), (.ref 4)⟩, ⟨PyData.keyHash P (.ofString "__file__"), (.str (.ofString "__file__") 173), (.str (.ofString "/claim/cut.py") 172)⟩, ⟨PyData.keyHash P (.ofString "__cached__"), (.str (.ofString "__cached__") 174), .none⟩, ⟨PyData.keyHash P (.ofString "Int2AP"), (.str (.ofString "Int2AP") 198), (.ref 21)⟩, ⟨PyData.keyHash P (.ofString "TICK"), (.str (.ofString "TICK") 202), (.str (.ofString "'") 201)⟩, ⟨PyData.keyHash P (.ofString "decode_rfc2231"), (.str (.ofString "decode_rfc2231") 210), (.ref 28)⟩, ⟨PyData.keyHash P (.ofString "b1_set"), (.str (.ofString "b1_set") 272), (.ref 36)⟩].toArray 13), [].toArray⟩
noncomputable def o29_7 (P : Params) : Obj := ⟨(.type "list"), none, (.seq [(.int 173 213), (.int 847 214), (.int 6150 215), (.int 6155 216), (.int 6156 217), (.int 6157 218), (.int 8203 219), (.int 8204 220), (.int 8205 221), (.int 8288 222), (.int 65279 223)].toArray 0), [].toArray⟩
noncomputable def o30_7 (P : Params) : Obj := ⟨(.type "range"), none, (.fields [(.int 65024 224), (.int 65040 225), (.int 1 226)].toArray), [].toArray⟩
noncomputable def o31_7 (P : Params) : Obj := ⟨(.type "list"), none, (.seq [(.int 65024 229), (.int 65025 230), (.int 65026 231), (.int 65027 232), (.int 65028 233), (.int 65029 234), (.int 65030 235), (.int 65031 236), (.int 65032 237), (.int 65033 238), (.int 65034 239), (.int 65035 240), (.int 65036 241), (.int 65037 242), (.int 65038 243), (.int 65039 244)].toArray 18), [].toArray⟩
noncomputable def o32_7 (P : Params) : Obj := ⟨(.type "range_iterator"), none, (.fields [(.int 65040 0), (.int 0 0), (.int 1 0)].toArray), [].toArray⟩
noncomputable def o33_7 (P : Params) : Obj := ⟨(.type "tuple"), none, (.seq [].toArray 0), [].toArray⟩
noncomputable def o34_7 (P : Params) : Obj := ⟨(.type "StopIteration"), none, (.fields [(.ref 33), .none, .none, .none, (.bool false), .none].toArray), [].toArray⟩
noncomputable def o35_7 (P : Params) : Obj := ⟨(.type "list"), none, (.seq [(.int 173 213), (.int 847 214), (.int 6150 215), (.int 6155 216), (.int 6156 217), (.int 6157 218), (.int 8203 219), (.int 8204 220), (.int 8205 221), (.int 8288 222), (.int 65279 223), (.int 65024 229), (.int 65025 230), (.int 65026 231), (.int 65027 232), (.int 65028 233), (.int 65029 234), (.int 65030 235), (.int 65031 236), (.int 65032 237), (.int 65033 238), (.int 65034 239), (.int 65035 240), (.int 65036 241), (.int 65037 242), (.int 65038 243), (.int 65039 244)].toArray 0), [].toArray⟩
noncomputable def o36_7 (P : Params) : Obj := ⟨(.type "set"), none, (.set [(65024, (.int 65024 229)), (65025, (.int 65025 230)), (65026, (.int 65026 231)), (65027, (.int 65027 232)), (65028, (.int 65028 233)), (65029, (.int 65029 234)), (6150, (.int 6150 215)), (65030, (.int 65030 235)), (65031, (.int 65031 236)), (65032, (.int 65032 237)), (65033, (.int 65033 238)), (6155, (.int 6155 216)), (6156, (.int 6156 217)), (6157, (.int 6157 218)), (8203, (.int 8203 219)), (8204, (.int 8204 220)), (8205, (.int 8205 221)), (65034, (.int 65034 239)), (65035, (.int 65035 240)), (65036, (.int 65036 241)), (65037, (.int 65037 242)), (65038, (.int 65038 243)), (65039, (.int 65039 244)), (173, (.int 173 213)), (847, (.int 847 214)), (8288, (.int 8288 222)), (65279, (.int 65279 223))].toArray 29 ⟨127, [0, 1, 2, 3, 4, 5, 6, 7, 8, 9, 10, 11, 12, 13, 14, 15, 16, 17, 18, 19, 20, 21, 22, 45, 79, 96, 127].toArray, [].toArray, 0, !P.followText "set-order", 2, true⟩), [].toArray⟩
noncomputable def o37_7 (P : Params) : Obj := ⟨(.type "list_iterator"), none, (.fields [.none, (.int 27 0)].toArray), [].toArray⟩
noncomputable def o38_7 (P : Params) : Obj := ⟨(.type "tuple"), none, (.seq [].toArray 0), [].toArray⟩
noncomputable def o39_7 (P : Params) : Obj := ⟨(.type "StopIteration"), none, (.fields [(.ref 38), .none, .none, .none, (.bool false), .none].toArray), [].toArray⟩
noncomputable def l7 (P : Params) : List Obj := [boot_o_0 P, boot_o_1 P, boot_o_2 P, o3_7 P, boot_o_4 P, boot_o_5 P, boot_o_6 P, boot_o_7 P, boot_o_8 P, boot_o_9 P, boot_o_10 P, o11_a P, o12_5 P, o13_a P, o14_a P, o15_2 P, o16_2 P, o17_2 P, o18_2 P, o19_2 P, o20_2 P, o21_2 P, o22_5 P, o23_5 P, o24_5 P, o25_5 P, o26_5 P, o27_5 P, o28_5 P, o29_7 P, o30_7 P, o31_7 P, o32_7 P, o33_7 P, o34_7 P, o35_7 P, o36_7 P, o37_7 P, o38_7 P, o39_7 P]
noncomputable def hp7 (P : Params) : Heap := hpOf (l7 P) {}
noncomputable def o3_8 (P : Params) : Obj := ⟨(.type "dict"), none, (.dict [⟨PyData.keyHash P (.ofString "__name__"), (.str (.ofString "__name__") 165), (.str (.ofString "cpy313.stringprep") 211)⟩, ⟨PyData.keyHash P (.ofString "__doc__"), (.str (.ofString "__doc__") 166), .none⟩, ⟨PyData.keyHash P (.ofString "__package__"), (.str (.ofString "__package__") 167), .none⟩, ⟨PyData.keyHash P (.ofString "__loader__"), (.str (.ofString "__loader__") 168), (.builtin "__main__.__loader__#opaque")⟩, ⟨PyData.keyHash P (.ofString "__spec__"), (.str (.ofString "__spec__") 169), .none⟩, ⟨PyData.keyHash P (.ofString "__annotations__"), (.str (.ofString "__annotations__") 170), (.ref 6)⟩, ⟨PyData.keyHash P (.ofString "__builtins__"), (.str (.ofString "__builtins__") 171), (.ref 4)⟩, ⟨PyData.keyHash P (.ofString "__file__"), (.str (.ofString "__file__") 173), (.str (.ofString "/claim/cut.py") 172)⟩, ⟨PyData.keyHash P (.ofString "__cached__"), (.str (.ofString "__cached__") 174), .none⟩, ⟨PyData.keyHash P (.ofString "Int2AP"), (.str (.ofString "Int2AP") 198), (.ref 21)⟩, ⟨PyData.keyHash P (.ofString "TICK"), (.str (.ofString "TICK") 202), (.str (.ofString "'") 201)⟩, ⟨PyData.keyHash P (.ofString "decode_rfc2231"), (.str (.ofString "decode_rfc2231") 210), (.ref 28)⟩, ⟨PyData.keyHash P (.ofString "b1_set"), (.str (.ofString "b1_set") 272), (.ref 36)⟩, ⟨PyData.keyHash P (.ofString "in_table_b1"), (.str (.ofString "in_table_b1") 279), (.ref 46)⟩].toArray 14), [].toArray⟩
noncomputable def o12_8 (P : Params) : Obj := ⟨.none, none, (.fields [(.int 2 0), (.int 0 0), (.ref 20), (.int 12 0), (.int 0 0), (.ref 27), (.int 19 0), (.int 0 0), (.ref 45)].toArray), [].toArray⟩
noncomputable def o40_8 (P : Params) : Obj := ⟨(.type "tuple"), none, (.seq [].toArray 0), [].toArray⟩
noncomputable def o41_8 (P : Params) : Obj := ⟨.none, none, (.fields [].toArray), [].toArray⟩
noncomputable def o42_8 (P : Params) : Obj := ⟨(.type "tuple"), none, (.seq [(.str (.ofString "code") 276)].toArray 0), [].toArray⟩
noncomputable def o43_8 (P : Params) : Obj := ⟨(.type "tuple"), none, (.seq [].toArray 0), [].toArray⟩
noncomputable def o44_8 (P : Params) : Obj := ⟨.none, none, (.func { name := (.ofString "in_table_b1"), qualname := (.ofString "in_table_b1"), params := (argsAt 7), body := .stmts (bodyAt 7), scope := (scopeAt 7), globals := 0, closure := [], defaults := .none, kwdefaults := .none, doc := .none, pyModule := .none, annotations := none, code := .none, closureTuple := .none, builtins := 0 }), [].toArray⟩
noncomputable def o45_8 (P : Params) : Obj := ⟨(.type "code"), none, (.fields [(.str (.ofString "in_table_b1") 273), (.str (.ofString "in_table_b1") 274), (.str (.ofString "/claim/cut.py") 275), (.int 19 0), (.int 1 0), (.int 0 0), (.int 0 0), (.int 3 0), (.ref 40), (.bool true), (.int 181 0), (.ref 41), .none, (.ref 42), (.ref 43), (.ref 44), (.int 277 0), (.int 19 0), (.str (.ofString "/claim/cut.py") 278)].toArray), [].toArray⟩
noncomputable def o46_8 (P : Params) : Obj := ⟨(.type "function"), none, (.func { name := (.ofString "in_table_b1"), qualname := (.ofString "in_table_b1"), params := (argsAt 7), body := .stmts (bodyAt 7), scope := (scopeAt 7), globals := 3, closure := [], defaults := .none, kwdefaults := .none, doc := .none, pyModule := (.str (.ofString "cpy313.stringprep") 211), annotations := none, code := (.ref 45), closureTuple := .none, builtins := 0 }), [].toArray⟩
noncomputable def l8 (P : Params) : List Obj := [boot_o_0 P, boot_o_1 P, boot_o_2 P, o3_8 P, boot_o_4 P, boot_o_5 P, boot_o_6 P, boot_o_7 P, boot_o_8 P, boot_o_9 P, boot_o_10 P, o11_a P, o12_8 P, o13_a P, o14_a P, o15_2 P, o16_2 P, o17_2 P, o18_2 P, o19_2 P, o20_2 P, o21_2 P, o22_5 P, o23_5 P, o24_5 P, o25_5 P, o26_5 P, o27_5 P, o28_5 P, o29_7 P, o30_7 P, o31_7 P, o32_7 P, o33_7 P, o34_7 P, o35_7 P, o36_7 P, o37_7 P, o38_7 P, o39_7 P, o40_8 P, o41_8 P, o42_8 P, o43_8 P, o44_8 P, o45_8 P, o46_8 P]
noncomputable def hp8 (P : Params) : Heap := hpOf (l8 P) {}
noncomputable def o3_9 (P : Params) : Obj := ⟨(.type "dict"), none, (.dict [⟨PyData.keyHash P (.ofString "__name__"), (.str (.ofString "__name__") 165), (.str (.ofString "cpy313.stringprep") 211)⟩, ⟨PyData.keyHash P (.ofString "__doc__"), (.str (.ofString "__doc__") 166), .none⟩, ⟨PyData.keyHash P (.ofString "__package__"), (.str (.ofString "__package__") 167), .none⟩, ⟨PyData.keyHash P (.ofString "__loader__"), (.str (.ofString "__loader__") 168), (.builtin "__main__.__loader__#opaque")⟩, ⟨PyData.keyHash P (.ofString "__spec__"), (.str (.ofString "__spec__") 169), .none⟩, ⟨PyData.keyHash P (.ofString "__annotations__"), (.str (.ofString "__annotations__") 170), (.ref 6)⟩, ⟨PyData.keyHash P (.ofString "__builtins__"), (.str (.ofString "__builtins__") 171), (.ref 4)⟩, ⟨PyData.keyHash P (.ofString "__file__"), (.str (.ofString "__file__") 173), (.str (.ofString "/claim/cut.py") 172)⟩, ⟨PyData.keyHash P (.ofString "__cached__"), (.str (.ofString "__cached__") 174), .none⟩, ⟨PyData.keyHash P (.ofString "Int2AP"), (.str (.ofString "Int2AP") 198), (.ref 21)⟩, ⟨PyData.keyHash P (.ofString "TICK"), (.str (.ofString "TICK") 202), (.str (.ofString "'") 201)⟩, ⟨PyData.keyHash P (.ofString "decode_rfc2231"), (.str (.ofString "decode_rfc2231") 210), (.ref 28)⟩, ⟨PyData.keyHash P (.ofString "b1_set"), (.str (.ofString "b1_set") 272), (.ref 36)⟩, ⟨PyData.keyHash P (.ofString "in_table_b1"), (.str (.ofString "in_table_b1") 279), (.ref 46)⟩, ⟨PyData.keyHash P (.ofString "b3_exceptions"), (.str (.ofString "b3_exceptions") 2230), (.ref 47)⟩].toArray 15), [].toArray⟩
noncomputable def o47_9 (P : Params) : Obj := D (ents 3 280 (chunk 0) ++ entsOf 331 chunks ++ ents 2 2218 tblEnd) 650
noncomputable def o48_9 (P : Params) : Obj := D (ents 3 331 (chunk 1)) 17
noncomputable def o49_9 (P : Params) : Obj := D (ents 3 382 (chunk 2)) 17
noncomputable def o50_9 (P : Params) : Obj := D (ents 3 433 (chunk 3)) 17
noncomputable def o51_9 (P : Params) : Obj := D (ents 3 484 (chunk 4)) 17
noncomputable def o52_9 (P : Params) : Obj := D (ents 3 535 (chunk 5)) 17
noncomputable def o53_9 (P : Params) : Obj := D (ents 3 586 (chunk 6)) 17
noncomputable def o54_9 (P : Params) : Obj := D (ents 3 637 (chunk 7)) 17
noncomputable def o55_9 (P : Params) : Obj := D (ents 3 688 (chunk 8)) 17
noncomputable def o56_9 (P : Params) : Obj := D (ents 3 739 (chunk 9)) 17
noncomputable def o57_9 (P : Params) : Obj := D (ents 3 790 (chunk 10)) 17
noncomputable def o58_9 (P : Params) : Obj := D (ents 3 841 (chunk 11)) 17
noncomputable def o59_9 (P : Params) : Obj := D (ents 3 892 (chunk 12)) 17
noncomputable def o60_9 (P : Params) : Obj := D (ents 3 943 (chunk 13)) 17
noncomputable def o61_9 (P : Params) : Obj := D (ents 3 994 (chunk 14)) 17
noncomputable def o62_9 (P : Params) : Obj := D (ents 3 1045 (chunk 15)) 17
noncomputable def o63_9 (P : Params) : Obj := D (ents 3 1096 (chunk 16)) 17
noncomputable def o64_9 (P : Params) : Obj := D (ents 3 1147 (chunk 17)) 17
noncomputable def o65_9 (P : Params) : Obj := D (ents 3 1198 (chunk 18)) 17
noncomputable def o66_9 (P : Params) : Obj := D (ents 3 1249 (chunk 19)) 17
noncomputable def o67_9 (P : Params) : Obj := D (ents 3 1300 (chunk 20)) 17
noncomputable def o68_9 (P : Params) : Obj := D (ents 3 1351 (chunk 21)) 17
noncomputable def o69_9 (P : Params) : Obj := D (ents 3 1402 (chunk 22)) 17
noncomputable def o70_9 (P : Params) : Obj := D (ents 3 1453 (chunk 23)) 17
noncomputable def o71_9 (P : Params) : Obj := D (ents 3 1504 (chunk 24)) 17
noncomputable def o72_9 (P : Params) : Obj := D (ents 3 1555 (chunk 25)) 17
noncomputable def o73_9 (P : Params) : Obj := D (ents 3 1606 (chunk 26)) 17
noncomputable def o74_9 (P : Params) : Obj := D (ents 3 1657 (chunk 27)) 17
noncomputable def o75_9 (P : Params) : Obj := D (ents 3 1708 (chunk 28)) 17
noncomputable def o76_9 (P : Params) : Obj := D (ents 3 1759 (chunk 29)) 17
noncomputable def o77_9 (P : Params) : Obj := D (ents 3 1810 (chunk 30)) 17
noncomputable def o78_9 (P : Params) : Obj := D (ents 3 1861 (chunk 31)) 17
noncomputable def o79_9 (P : Params) : Obj := D (ents 3 1912 (chunk 32)) 17
noncomputable def o80_9 (P : Params) : Obj := D (ents 3 1963 (chunk 33)) 17
noncomputable def o81_9 (P : Params) : Obj := D (ents 3 2014 (chunk 34)) 17
noncomputable def o82_9 (P : Params) : Obj := D (ents 3 2065 (chunk 35)) 17
noncomputable def o83_9 (P : Params) : Obj := D (ents 3 2116 (chunk 36)) 17
noncomputable def o84_9 (P : Params) : Obj := D (ents 3 2167 (chunk 37)) 17
noncomputable def o85_9 (P : Params) : Obj := D (ents 2 2218 tblEnd) 4
noncomputable def l9 (P : Params) : List Obj := [boot_o_0 P, boot_o_1 P, boot_o_2 P, o3_9 P, boot_o_4 P, boot_o_5 P, boot_o_6 P, boot_o_7 P, boot_o_8 P, boot_o_9 P, boot_o_10 P, o11_a P, o12_8 P, o13_a P, o14_a P, o15_2 P, o16_2 P, o17_2 P, o18_2 P, o19_2 P, o20_2 P, o21_2 P, o22_5 P, o23_5 P, o24_5 P, o25_5 P, o26_5 P, o27_5 P, o28_5 P, o29_7 P, o30_7 P, o31_7 P, o32_7 P, o33_7 P, o34_7 P, o35_7 P, o36_7 P, o37_7 P, o38_7 P, o39_7 P, o40_8 P, o41_8 P, o42_8 P, o43_8 P, o44_8 P, o45_8 P, o46_8 P, o47_9 P, o48_9 P, o49_9 P, o50_9 P, o51_9 P, o52_9 P, o53_9 P, o54_9 P, o55_9 P, o56_9 P, o57_9 P, o58_9 P, o59_9 P, o60_9 P, o61_9 P, o62_9 P, o63_9 P, o64_9 P, o65_9 P, o66_9 P, o67_9 P, o68_9 P, o69_9 P, o70_9 P, o71_9 P, o72_9 P, o73_9 P, o74_9 P, o75_9 P, o76_9 P, o77_9 P, o78_9 P, o79_9 P, o80_9 P, o81_9 P, o82_9 P, o83_9 P, o84_9 P, o85_9 P]
noncomputable def hp9 (P : Params) : Heap := hpOf (l9 P) {}
noncomputable def o3_10 (P : Params) : Obj := ⟨(.type "dict"), none, (.dict [⟨PyData.keyHash P (.ofString "__name__"), (.str (.ofString "__name__") 165), (.str (.ofString "cpy313.stringprep") 211)⟩, ⟨PyData.keyHash P (.ofString "__doc__"), (.str (.ofString "__doc__") 166), .none⟩, ⟨PyData.keyHash P (.ofString "__package__"), (.str (.ofString "__package__") 167), .none⟩, ⟨PyData.keyHash P (.ofString "__loader__"), (.str (.ofString "__loader__") 168), (.builtin "__main__.__loader__#opaque")⟩, ⟨PyData.keyHash P (.ofString "__spec__"), (.str (.ofString "__spec__") 169), .none⟩, ⟨PyData.keyHash P (.ofString "__annotations__"), (.str (.ofString "__annotations__") 170), (.ref 6)⟩, ⟨PyData.keyHash P (.ofString "__builtins__"), (.str (.ofString "__builtins__") 171), (.ref 4)⟩, ⟨PyData.keyHash P (.ofString "__file__"), (.str (.ofString "__file__") 173), (.str (.ofString "/claim/cut.py") 172)⟩, ⟨PyData.keyHash P (.ofString "__cached__"), (.str (.ofString "__cached__") 174), .none⟩, ⟨PyData.keyHash P (.ofString "Int2AP"), (.str (.ofString "Int2AP") 198), (.ref 21)⟩, ⟨PyData.keyHash P (.ofString "TICK"), (.str (.ofString "TICK") 202), (.str (.ofString "'") 201)⟩, ⟨PyData.keyHash P (.ofString "decode_rfc2231"), (.str (.ofString "decode_rfc2231") 210), (.ref 28)⟩, ⟨PyData.keyHash P (.ofString "b1_set"), (.str (.ofString "b1_set") 272), (.ref 36)⟩, ⟨PyData.keyHash P (.ofString "in_table_b1"), (.str (.ofString "in_table_b1") 279), (.ref 46)⟩, ⟨PyData.keyHash P (.ofString "b3_exceptions"), (.str (.ofString "b3_exceptions") 2230), (.ref 47)⟩, ⟨PyData.keyHash P (.ofString "map_table_b3"), (.str (.ofString "map_table_b3") 2238), (.ref 92)⟩].toArray 16), [].toArray⟩
noncomputable def o12_10 (P : Params) : Obj := ⟨.none, none, (.fields [(.int 2 0), (.int 0 0), (.ref 20), (.int 12 0), (.int 0 0), (.ref 27), (.int 19 0), (.int 0 0), (.ref 45), (.int 22 0), (.int 0 0), (.ref 91)].toArray), [].toArray⟩
noncomputable def o86_10 (P : Params) : Obj := ⟨(.type "tuple"), none, (.seq [].toArray 0), [].toArray⟩
noncomputable def o87_10 (P : Params) : Obj := ⟨.none, none, (.fields [].toArray), [].toArray⟩
noncomputable def o88_10 (P : Params) : Obj := ⟨(.type "tuple"), none, (.seq [(.str (.ofString "code") 2234), (.str (.ofString "r") 2235)].toArray 0), [].toArray⟩
noncomputable def o89_10 (P : Params) : Obj := ⟨(.type "tuple"), none, (.seq [].toArray 0), [].toArray⟩
noncomputable def o90_10 (P : Params) : Obj := ⟨.none, none, (.func { name := (.ofString "map_table_b3"), qualname := (.ofString "map_table_b3"), params := (argsAt 9), body := .stmts (bodyAt 9), scope := (scopeAt 9), globals := 0, closure := [], defaults := .none, kwdefaults := .none, doc := .none, pyModule := .none, annotations := none, code := .none, closureTuple := .none, builtins := 0 }), [].toArray⟩
noncomputable def o91_10 (P : Params) : Obj := ⟨(.type "code"), none, (.fields [(.str (.ofString "map_table_b3") 2231), (.str (.ofString "map_table_b3") 2232), (.str (.ofString "/claim/cut.py") 2233), (.int 22 0), (.int 1 0), (.int 0 0), (.int 0 0), (.int 3 0), (.ref 86), (.bool true), (.int 181 0), (.ref 87), .none, (.ref 88), (.ref 89), (.ref 90), (.int 2236 0), (.int 22 0), (.str (.ofString "/claim/cut.py") 2237)].toArray), [].toArray⟩
noncomputable def o92_10 (P : Params) : Obj := ⟨(.type "function"), none, (.func { name := (.ofString "map_table_b3"), qualname := (.ofString "map_table_b3"), params := (argsAt 9), body := .stmts (bodyAt 9), scope := (scopeAt 9), globals := 3, closure := [], defaults := .none, kwdefaults := .none, doc := .none, pyModule := (.str (.ofString "cpy313.stringprep") 211), annotations := none, code := (.ref 91), closureTuple := .none, builtins := 0 }), [].toArray⟩
noncomputable def l10 (P : Params) : List Obj := [boot_o_0 P, boot_o_1 P, boot_o_2 P, o3_10 P, boot_o_4 P, boot_o_5 P, boot_o_6 P, boot_o_7 P, boot_o_8 P, boot_o_9 P, boot_o_10 P, o11_a P, o12_10 P, o13_a P, o14_a P, o15_2 P, o16_2 P, o17_2 P, o18_2 P, o19_2 P, o20_2 P, o21_2 P, o22_5 P, o23_5 P, o24_5 P, o25_5 P, o26_5 P, o27_5 P, o28_5 P, o29_7 P, o30_7 P, o31_7 P, o32_7 P, o33_7 P, o34_7 P, o35_7 P, o36_7 P, o37_7 P, o38_7 P, o39_7 P, o40_8 P, o41_8 P, o42_8 P, o43_8 P, o44_8 P, o45_8 P, o46_8 P, o47_9 P, o48_9 P, o49_9 P, o50_9 P, o51_9 P, o52_9 P, o53_9 P, o54_9 P, o55_9 P, o56_9 P, o57_9 P, o58_9 P, o59_9 P, o60_9 P, o61_9 P, o62_9 P, o63_9 P, o64_9 P, o65_9 P, o66_9 P, o67_9 P, o68_9 P, o69_9 P, o70_9 P, o71_9 P, o72_9 P, o73_9 P, o74_9 P, o75_9 P, o76_9 P, o77_9 P, o78_9 P, o79_9 P, o80_9 P, o81_9 P, o82_9 P, o83_9 P, o84_9 P, o85_9 P, o86_10 P, o87_10 P, o88_10 P, o89_10 P, o90_10 P, o91_10 P, o92_10 P]
noncomputable def hp10 (P : Params) : Heap := hpOf (l10 P) {}
noncomputable def o3_11 (P : Params) : Obj := ⟨(.type "dict"), none, (.dict [⟨PyData.keyHash P (.ofString "__name__"), (.str (.ofString "__name__") 165), (.str (.ofString "law_wa0029_01") 2239)⟩, ⟨PyData.keyHash P (.ofString "__doc__"), (.str (.ofString "__doc__") 166), .none⟩, ⟨PyData.keyHash P (.ofString "__package__"), (.str (.ofString "__package__") 167), .none⟩, ⟨PyData.keyHash P (.ofString "__loader__"), (.str (.ofString "__loader__") 168), (.builtin "__main__.__loader__#opaque")⟩, ⟨PyData.keyHash P (.ofString "__spec__"), (.str (.ofString "__spec__") 169), .none⟩, ⟨PyData.keyHash P (.ofString "__annotations__"), (.str (.ofString "__annotations__") 170), (.ref 6)⟩, ⟨PyData.keyHash P (.ofString "__builtins__"), (.str (.ofString "__builtins__") 171), (.ref 4)⟩, ⟨PyData.keyHash P (.ofString "__file__"), (.str (.ofString "__file__") 173), (.str (.ofString "/claim/cut.py") 172)⟩, ⟨PyData.keyHash P (.ofString "__cached__"), (.str (.ofString "__cached__") 174), .none⟩, ⟨PyData.keyHash P (.ofString "Int2AP"), (.str (.ofString "Int2AP") 198), (.ref 21)⟩, ⟨PyData.keyHash P (.ofString "TICK"), (.str (.ofString "TICK") 202), (.str (.ofString "'") 201)⟩, ⟨PyData.keyHash P (.ofString "decode_rfc2231"), (.str (.ofString "decode_rfc2231") 210), (.ref 28)⟩, ⟨PyData.keyHash P (.ofString "b1_set"), (.str (.ofString "b1_set") 272), (.ref 36)⟩, ⟨PyData.keyHash P (.ofString "in_table_b1"), (.str (.ofString "in_table_b1") 279), (.ref 46)⟩, ⟨PyData.keyHash P (.ofString "b3_exceptions"), (.str (.ofString "b3_exceptions") 2230), (.ref 47)⟩, ⟨PyData.keyHash P (.ofString "map_table_b3"), (.str (.ofString "map_table_b3") 2238), (.ref 92)⟩].toArray 16), [].toArray⟩
noncomputable def l11 (P : Params) : List Obj := [boot_o_0 P, boot_o_1 P, boot_o_2 P, o3_11 P, boot_o_4 P, boot_o_5 P, boot_o_6 P, boot_o_7 P, boot_o_8 P, boot_o_9 P, boot_o_10 P, o11_a P, o12_10 P, o13_a P, o14_a P, o15_2 P, o16_2 P, o17_2 P, o18_2 P, o19_2 P, o20_2 P, o21_2 P, o22_5 P, o23_5 P, o24_5 P, o25_5 P, o26_5 P, o27_5 P, o28_5 P, o29_7 P, o30_7 P, o31_7 P, o32_7 P, o33_7 P, o34_7 P, o35_7 P, o36_7 P, o37_7 P, o38_7 P, o39_7 P, o40_8 P, o41_8 P, o42_8 P, o43_8 P, o44_8 P, o45_8 P, o46_8 P, o47_9 P, o48_9 P, o49_9 P, o50_9 P, o51_9 P, o52_9 P, o53_9 P, o54_9 P, o55_9 P, o56_9 P, o57_9 P, o58_9 P, o59_9 P, o60_9 P, o61_9 P, o62_9 P, o63_9 P, o64_9 P, o65_9 P, o66_9 P, o67_9 P, o68_9 P, o69_9 P, o70_9 P, o71_9 P, o72_9 P, o73_9 P, o74_9 P, o75_9 P, o76_9 P, o77_9 P, o78_9 P, o79_9 P, o80_9 P, o81_9 P, o82_9 P, o83_9 P, o84_9 P, o85_9 P, o86_10 P, o87_10 P, o88_10 P, o89_10 P, o90_10 P, o91_10 P, o92_10 P]
noncomputable def hp11 (P : Params) : Heap := hpOf (l11 P) {}
noncomputable def o3_12 (P : Params) : Obj := ⟨(.type "dict"), none, (.dict [⟨PyData.keyHash P (.ofString "__name__"), (.str (.ofString "__name__") 165), (.str (.ofString "law_wa0029_01") 2239)⟩, ⟨PyData.keyHash P (.ofString "__doc__"), (.str (.ofString "__doc__") 166), .none⟩, ⟨PyData.keyHash P (.ofString "__package__"), (.str (.ofString "__package__") 167), .none⟩, ⟨PyData.keyHash P (.ofString "__loader__"), (.str (.ofString "__loader__") 168), (.builtin "__main__.__loader__#opaque")⟩, ⟨PyData.keyHash P (.ofString "__spec__"), (.str (.ofString "__spec__") 169), .none⟩, ⟨PyData.keyHash P (.ofString "__annotations__"), (.str (.ofString "__annotations__") 170), (.ref 6)⟩, ⟨PyData.keyHash P (.ofString "__builtins__"), (.str (.ofString "__builtins__") 171), (.ref 4)⟩, ⟨PyData.keyHash P (.ofString "__file__"), (.str (.ofString "__file__") 173), (.str (.ofString "/claim/cut.py") 172)⟩, ⟨PyData.keyHash P (.ofString "__cached__"), (.str (.ofString "__cached__") 174), .none⟩, ⟨PyData.keyHash P (.ofString "Int2AP"), (.str (.ofString "Int2AP") 198), (.ref 21)⟩, ⟨PyData.keyHash P (.ofString "TICK"), (.str (.ofString "TICK") 202), (.str (.ofString "'") 201)⟩, ⟨PyData.keyHash P (.ofString "decode_rfc2231"), (.str (.ofString "decode_rfc2231") 210), (.ref 28)⟩, ⟨PyData.keyHash P (.ofString "b1_set"), (.str (.ofString "b1_set") 272), (.ref 36)⟩, ⟨PyData.keyHash P (.ofString "in_table_b1"), (.str (.ofString "in_table_b1") 279), (.ref 46)⟩, ⟨PyData.keyHash P (.ofString "b3_exceptions"), (.str (.ofString "b3_exceptions") 2230), (.ref 47)⟩, ⟨PyData.keyHash P (.ofString "map_table_b3"), (.str (.ofString "map_table_b3") 2238), (.ref 92)⟩, ⟨PyData.keyHash P (.ofString "_law_forms"), (.str (.ofString "_law_forms") 2251), (.ref 99)⟩].toArray 17), [].toArray⟩
noncomputable def o12_12 (P : Params) : Obj := ⟨.none, none, (.fields [(.int 2 0), (.int 0 0), (.ref 20), (.int 12 0), (.int 0 0), (.ref 27), (.int 19 0), (.int 0 0), (.ref 45), (.int 22 0), (.int 0 0), (.ref 91), (.int 28 0), (.int 0 0), (.ref 98)].toArray), [].toArray⟩
noncomputable def o93_12 (P : Params) : Obj := ⟨(.type "tuple"), none, (.seq [].toArray 0), [].toArray⟩
noncomputable def o94_12 (P : Params) : Obj := ⟨.none, none, (.fields [].toArray), [].toArray⟩
noncomputable def o95_12 (P : Params) : Obj := ⟨(.type "tuple"), none, (.seq [(.str (.ofString "prime") 2244), (.str (.ofString "many") 2245), (.str (.ofString "b") 2246), (.str (.ofString "product") 2247), (.str (.ofString "a") 2248)].toArray 0), [].toArray⟩
noncomputable def o96_12 (P : Params) : Obj := ⟨(.type "tuple"), none, (.seq [].toArray 0), [].toArray⟩
noncomputable def o97_12 (P : Params) : Obj := ⟨.none, none, (.func { name := (.ofString "_law_forms"), qualname := (.ofString "_law_forms"), params := (argsAt 11), body := .stmts (bodyAt 11), scope := (scopeAt 11), globals := 0, closure := [], defaults := .none, kwdefaults := .none, doc := .none, pyModule := .none, annotations := none, code := .none, closureTuple := .none, builtins := 0 }), [].toArray⟩
noncomputable def o98_12 (P : Params) : Obj := ⟨(.type "code"), none, (.fields [(.str (.ofString "_law_forms") 2241), (.str (.ofString "_law_forms") 2242), (.str (.ofString "/claim/cut.py") 2243), (.int 28 0), (.int 1 0), (.int 0 0), (.int 0 0), (.int 3 0), (.ref 93), (.bool true), (.int 181 0), (.ref 94), .none, (.ref 95), (.ref 96), (.ref 97), (.int 2249 0), (.int 28 0), (.str (.ofString "/claim/cut.py") 2250)].toArray), [].toArray⟩
noncomputable def o99_12 (P : Params) : Obj := ⟨(.type "function"), none, (.func { name := (.ofString "_law_forms"), qualname := (.ofString "_law_forms"), params := (argsAt 11), body := .stmts (bodyAt 11), scope := (scopeAt 11), globals := 3, closure := [], defaults := .none, kwdefaults := .none, doc := .none, pyModule := (.str (.ofString "law_wa0029_01") 2239), annotations := none, code := (.ref 98), closureTuple := .none, builtins := 0 }), [].toArray⟩
noncomputable def l12 (P : Params) : List Obj := [boot_o_0 P, boot_o_1 P, boot_o_2 P, o3_12 P, boot_o_4 P, boot_o_5 P, boot_o_6 P, boot_o_7 P, boot_o_8 P, boot_o_9 P, boot_o_10 P, o11_a P, o12_12 P, o13_a P, o14_a P, o15_2 P, o16_2 P, o17_2 P, o18_2 P, o19_2 P, o20_2 P, o21_2 P, o22_5 P, o23_5 P, o24_5 P, o25_5 P, o26_5 P, o27_5 P, o28_5 P, o29_7 P, o30_7 P, o31_7 P, o32_7 P, o33_7 P, o34_7 P, o35_7 P, o36_7 P, o37_7 P, o38_7 P, o39_7 P, o40_8 P, o41_8 P, o42_8 P, o43_8 P, o44_8 P, o45_8 P, o46_8 P, o47_9 P, o48_9 P, o49_9 P, o50_9 P, o51_9 P, o52_9 P, o53_9 P, o54_9 P, o55_9 P, o56_9 P, o57_9 P, o58_9 P, o59_9 P, o60_9 P, o61_9 P, o62_9 P, o63_9 P, o64_9 P, o65_9 P, o66_9 P, o67_9 P, o68_9 P, o69_9 P, o70_9 P, o71_9 P, o72_9 P, o73_9 P, o74_9 P, o75_9 P, o76_9 P, o77_9 P, o78_9 P, o79_9 P, o80_9 P, o81_9 P, o82_9 P, o83_9 P, o84_9 P, o85_9 P, o86_10 P, o87_10 P, o88_10 P, o89_10 P, o90_10 P, o91_10 P, o92_10 P, o93_12 P, o94_12 P, o95_12 P, o96_12 P, o97_12 P, o98_12 P, o99_12 P]
noncomputable def hp12 (P : Params) : Heap := hpOf (l12 P) {}
noncomputable def o3_13 (P : Params) : Obj := ⟨(.type "dict"), none, (.dict [⟨PyData.keyHash P (.ofString "__name__"), (.str (.ofString "__name__") 165), (.str (.ofString "law_wa0029_01") 2239)⟩, ⟨PyData.keyHash P (.ofString "__doc__"), (.str (.ofString "__doc__") 166), .none⟩, ⟨PyData.keyHash P (.ofString "__package__"), (.str (.ofString "__package__") 167), .none⟩, ⟨PyData.keyHash P (.ofString "__loader__"), (.str (.ofString "__loader__") 168), (.builtin "__main__.__loader__#opaque")⟩, ⟨PyData.keyHash P (.ofString "__spec__"), (.str (.ofString "__spec__") 169), .none⟩, ⟨PyData.keyHash P (.ofString "__annotations__"), (.str (.ofString "__annotations__") 170), (.ref 6)⟩, ⟨PyData.keyHash P (.ofString "__builtins__"), (.str (.ofString "__builtins__") 171), (.ref 4)⟩, ⟨PyData.keyHash P (.ofString "__file__"), (.str (.ofString "__file__") 173), (.str (.ofString "/claim/cut.py") 172)⟩, ⟨PyData.keyHash P (.ofString "__cached__"), (.str (.ofString "__cached__") 174), .none⟩, ⟨PyData.keyHash P (.ofString "Int2AP"), (.str (.ofString "Int2AP") 198), (.ref 21)⟩, ⟨PyData.keyHash P (.ofString "TICK"), (.str (.ofString "TICK") 202), (.str (.ofString "'") 201)⟩, ⟨PyData.keyHash P (.ofString "decode_rfc2231"), (.str (.ofString "decode_rfc2231") 210), (.ref 28)⟩, ⟨PyData.keyHash P (.ofString "b1_set"), (.str (.ofString "b1_set") 272), (.ref 36)⟩, ⟨PyData.keyHash P (.ofString "in_table_b1"), (.str (.ofString "in_table_b1") 279), (.ref 46)⟩, ⟨PyData.keyHash P (.ofString "b3_exceptions"), (.str (.ofString "b3_exceptions") 2230), (.ref 47)⟩, ⟨PyData.keyHash P (.ofString "map_table_b3"), (.str (.ofString "map_table_b3") 2238), (.ref 92)⟩, ⟨PyData.keyHash P (.ofString "_law_forms"), (.str (.ofString "_law_forms") 2251), (.ref 99)⟩, ⟨PyData.keyHash P (.ofString "_law_dressed"), (.str (.ofString "_law_dressed") 2261), (.ref 106)⟩].toArray 18), [].toArray⟩
noncomputable def o12_13 (P : Params) : Obj := ⟨.none, none, (.fields [(.int 2 0), (.int 0 0), (.ref 20), (.int 12 0), (.int 0 0), (.ref 27), (.int 19 0), (.int 0 0), (.ref 45), (.int 22 0), (.int 0 0), (.ref 91), (.int 28 0), (.int 0 0), (.ref 98), (.int 36 0), (.int 0 0), (.ref 105)].toArray), [].toArray⟩
noncomputable def o100_13 (P : Params) : Obj := ⟨(.type "tuple"), none, (.seq [].toArray 0), [].toArray⟩
noncomputable def o101_13 (P : Params) : Obj := ⟨.none, none, (.fields [].toArray), [].toArray⟩
noncomputable def o102_13 (P : Params) : Obj := ⟨(.type "tuple"), none, (.seq [(.str (.ofString "letter") 2255), (.str (.ofString "number") 2256), (.str (.ofString "place") 2257), (.str (.ofString "nothing") 2258)].toArray 0), [].toArray⟩
noncomputable def o103_13 (P : Params) : Obj := ⟨(.type "tuple"), none, (.seq [].toArray 0), [].toArray⟩
noncomputable def o104_13 (P : Params) : Obj := ⟨.none, none, (.func { name := (.ofString "_law_dressed"), qualname := (.ofString "_law_dressed"), params := (argsAt 12), body := .stmts (bodyAt 12), scope := (scopeAt 12), globals := 0, closure := [], defaults := .none, kwdefaults := .none, doc := .none, pyModule := .none, annotations := none, code := .none, closureTuple := .none, builtins := 0 }), [].toArray⟩
noncomputable def o105_13 (P : Params) : Obj := ⟨(.type "code"), none, (.fields [(.str (.ofString "_law_dressed") 2252), (.str (.ofString "_law_dressed") 2253), (.str (.ofString "/claim/cut.py") 2254), (.int 36 0), (.int 2 0), (.int 0 0), (.int 0 0), (.int 3 0), (.ref 100), (.bool true), (.int 181 0), (.ref 101), .none, (.ref 102), (.ref 103), (.ref 104), (.int 2259 0), (.int 36 0), (.str (.ofString "/claim/cut.py") 2260)].toArray), [].toArray⟩
noncomputable def o106_13 (P : Params) : Obj := ⟨(.type "function"), none, (.func { name := (.ofString "_law_dressed"), qualname := (.ofString "_law_dressed"), params := (argsAt 12), body := .stmts (bodyAt 12), scope := (scopeAt 12), globals := 3, closure := [], defaults := .none, kwdefaults := .none, doc := .none, pyModule := (.str (.ofString "law_wa0029_01") 2239), annotations := none, code := (.ref 105), closureTuple := .none, builtins := 0 }), [].toArray⟩
noncomputable def l13 (P : Params) : List Obj := [boot_o_0 P, boot_o_1 P, boot_o_2 P, o3_13 P, boot_o_4 P, boot_o_5 P, boot_o_6 P, boot_o_7 P, boot_o_8 P, boot_o_9 P, boot_o_10 P, o11_a P, o12_13 P, o13_a P, o14_a P, o15_2 P, o16_2 P, o17_2 P, o18_2 P, o19_2 P, o20_2 P, o21_2 P, o22_5 P, o23_5 P, o24_5 P, o25_5 P, o26_5 P, o27_5 P, o28_5 P, o29_7 P, o30_7 P, o31_7 P, o32_7 P, o33_7 P, o34_7 P, o35_7 P, o36_7 P, o37_7 P, o38_7 P, o39_7 P, o40_8 P, o41_8 P, o42_8 P, o43_8 P, o44_8 P, o45_8 P, o46_8 P, o47_9 P, o48_9 P, o49_9 P, o50_9 P, o51_9 P, o52_9 P, o53_9 P, o54_9 P, o55_9 P, o56_9 P, o57_9 P, o58_9 P, o59_9 P, o60_9 P, o61_9 P, o62_9 P, o63_9 P, o64_9 P, o65_9 P, o66_9 P, o67_9 P, o68_9 P, o69_9 P, o70_9 P, o71_9 P, o72_9 P, o73_9 P, o74_9 P, o75_9 P, o76_9 P, o77_9 P, o78_9 P, o79_9 P, o80_9 P, o81_9 P, o82_9 P, o83_9 P, o84_9 P, o85_9 P, o86_10 P, o87_10 P, o88_10 P, o89_10 P, o90_10 P, o91_10 P, o92_10 P, o93_12 P, o94_12 P, o95_12 P, o96_12 P, o97_12 P, o98_12 P, o99_12 P, o100_13 P, o101_13 P, o102_13 P, o103_13 P, o104_13 P, o105_13 P, o106_13 P]
noncomputable def hp13 (P : Params) : Heap := hpOf (l13 P) {}
noncomputable def o3_14 (P : Params) : Obj := ⟨(.type "dict"), none, (.dict [⟨PyData.keyHash P (.ofString "__name__"), (.str (.ofString "__name__") 165), (.str (.ofString "law_wa0029_01") 2239)⟩, ⟨PyData.keyHash P (.ofString "__doc__"), (.str (.ofString "__doc__") 166), .none⟩, ⟨PyData.keyHash P (.ofString "__package__"), (.str (.ofString "__package__") 167), .none⟩, ⟨PyData.keyHash P (.ofString "__loader__"), (.str (.ofString "__loader__") 168), (.builtin "__main__.__loader__#opaque")⟩, ⟨PyData.keyHash P (.ofString "__spec__"), (.str (.ofString "__spec__") 169), .none⟩, ⟨PyData.keyHash P (.ofString "__annotations__"), (.str (.ofString "__annotations__") 170), (.ref 6)⟩, ⟨PyData.keyHash P (.ofString "__builtins__"), (.str (.ofString "__builtins__") 171), (.ref 4)⟩, ⟨PyData.keyHash P (.ofString "__file__"), (.str (.ofString "__file__") 173), (.str (.ofString "/claim/cut.py") 172)⟩, ⟨PyData.keyHash P (.ofString "__cached__"), (.str (.ofString "__cached__") 174), .none⟩, ⟨PyData.keyHash P (.ofString "Int2AP"), (.str (.ofString "Int2AP") 198), (.ref 21)⟩, ⟨PyData.keyHash P (.ofString "TICK"), (.str (.ofString "TICK") 202), (.str (.ofString "'") 201)⟩, ⟨PyData.keyHash P (.ofString "decode_rfc2231"), (.str (.ofString "decode_rfc2231") 210), (.ref 28)⟩, ⟨PyData.keyHash P (.ofString "b1_set"), (.str (.ofString "b1_set") 272), (.ref 36)⟩, ⟨PyData.keyHash P (.ofString "in_table_b1"), (.str (.ofString "in_table_b1") 279), (.ref 46)⟩, ⟨PyData.keyHash P (.ofString "b3_exceptions"), (.str (.ofString "b3_exceptions") 2230), (.ref 47)⟩, ⟨PyData.keyHash P (.ofString "map_table_b3"), (.str (.ofString "map_table_b3") 2238), (.ref 92)⟩, ⟨PyData.keyHash P (.ofString "_law_forms"), (.str (.ofString "_law_forms") 2251), (.ref 99)⟩, ⟨PyData.keyHash P (.ofString "_law_dressed"), (.str (.ofString "_law_dressed") 2261), (.ref 106)⟩, ⟨PyData.keyHash P (.ofString "_law_number"), (.str (.ofString "_law_number") 2270), (.ref 113)⟩].toArray 19), [].toArray⟩
noncomputable def o12_14 (P : Params) : Obj := ⟨.none, none, (.fields [(.int 2 0), (.int 0 0), (.ref 20), (.int 12 0), (.int 0 0), (.ref 27), (.int 19 0), (.int 0 0), (.ref 45), (.int 22 0), (.int 0 0), (.ref 91), (.int 28 0), (.int 0 0), (.ref 98), (.int 36 0), (.int 0 0), (.ref 105), (.int 40 0), (.int 0 0), (.ref 112)].toArray), [].toArray⟩
noncomputable def o107_14 (P : Params) : Obj := ⟨(.type "tuple"), none, (.seq [].toArray 0), [].toArray⟩
noncomputable def o108_14 (P : Params) : Obj := ⟨.none, none, (.fields [].toArray), [].toArray⟩
noncomputable def o109_14 (P : Params) : Obj := ⟨(.type "tuple"), none, (.seq [(.str (.ofString "values") 2265), (.str (.ofString "number") 2266), (.str (.ofString "value") 2267)].toArray 0), [].toArray⟩
noncomputable def o110_14 (P : Params) : Obj := ⟨(.type "tuple"), none, (.seq [].toArray 0), [].toArray⟩
noncomputable def o111_14 (P : Params) : Obj := ⟨.none, none, (.func { name := (.ofString "_law_number"), qualname := (.ofString "_law_number"), params := (argsAt 13), body := .stmts (bodyAt 13), scope := (scopeAt 13), globals := 0, closure := [], defaults := .none, kwdefaults := .none, doc := .none, pyModule := .none, annotations := none, code := .none, closureTuple := .none, builtins := 0 }), [].toArray⟩
noncomputable def o112_14 (P : Params) : Obj := ⟨(.type "code"), none, (.fields [(.str (.ofString "_law_number") 2262), (.str (.ofString "_law_number") 2263), (.str (.ofString "/claim/cut.py") 2264), (.int 40 0), (.int 1 0), (.int 0 0), (.int 0 0), (.int 3 0), (.ref 107), (.bool true), (.int 181 0), (.ref 108), .none, (.ref 109), (.ref 110), (.ref 111), (.int 2268 0), (.int 40 0), (.str (.ofString "/claim/cut.py") 2269)].toArray), [].toArray⟩
noncomputable def o113_14 (P : Params) : Obj := ⟨(.type "function"), none, (.func { name := (.ofString "_law_number"), qualname := (.ofString "_law_number"), params := (argsAt 13), body := .stmts (bodyAt 13), scope := (scopeAt 13), globals := 3, closure := [], defaults := .none, kwdefaults := .none, doc := .none, pyModule := (.str (.ofString "law_wa0029_01") 2239), annotations := none, code := (.ref 112), closureTuple := .none, builtins := 0 }), [].toArray⟩
noncomputable def l14 (P : Params) : List Obj := [boot_o_0 P, boot_o_1 P, boot_o_2 P, o3_14 P, boot_o_4 P, boot_o_5 P, boot_o_6 P, boot_o_7 P, boot_o_8 P, boot_o_9 P, boot_o_10 P, o11_a P, o12_14 P, o13_a P, o14_a P, o15_2 P, o16_2 P, o17_2 P, o18_2 P, o19_2 P, o20_2 P, o21_2 P, o22_5 P, o23_5 P, o24_5 P, o25_5 P, o26_5 P, o27_5 P, o28_5 P, o29_7 P, o30_7 P, o31_7 P, o32_7 P, o33_7 P, o34_7 P, o35_7 P, o36_7 P, o37_7 P, o38_7 P, o39_7 P, o40_8 P, o41_8 P, o42_8 P, o43_8 P, o44_8 P, o45_8 P, o46_8 P, o47_9 P, o48_9 P, o49_9 P, o50_9 P, o51_9 P, o52_9 P, o53_9 P, o54_9 P, o55_9 P, o56_9 P, o57_9 P, o58_9 P, o59_9 P, o60_9 P, o61_9 P, o62_9 P, o63_9 P, o64_9 P, o65_9 P, o66_9 P, o67_9 P, o68_9 P, o69_9 P, o70_9 P, o71_9 P, o72_9 P, o73_9 P, o74_9 P, o75_9 P, o76_9 P, o77_9 P, o78_9 P, o79_9 P, o80_9 P, o81_9 P, o82_9 P, o83_9 P, o84_9 P, o85_9 P, o86_10 P, o87_10 P, o88_10 P, o89_10 P, o90_10 P, o91_10 P, o92_10 P, o93_12 P, o94_12 P, o95_12 P, o96_12 P, o97_12 P, o98_12 P, o99_12 P, o100_13 P, o101_13 P, o102_13 P, o103_13 P, o104_13 P, o105_13 P, o106_13 P, o107_14 P, o108_14 P, o109_14 P, o110_14 P, o111_14 P, o112_14 P, o113_14 P]
noncomputable def hp14 (P : Params) : Heap := hpOf (l14 P) {}
noncomputable def o3_15 (P : Params) : Obj := ⟨(.type "dict"), none, (.dict [⟨PyData.keyHash P (.ofString "__name__"), (.str (.ofString "__name__") 165), (.str (.ofString "law_wa0029_01") 2239)⟩, ⟨PyData.keyHash P (.ofString "__doc__"), (.str (.ofString "__doc__") 166), .none⟩, ⟨PyData.keyHash P (.ofString "__package__"), (.str (.ofString "__package__") 167), .none⟩, ⟨PyData.keyHash P (.ofString "__loader__"), (.str (.ofString "__loader__") 168), (.builtin "__main__.__loader__#opaque")⟩, ⟨PyData.keyHash P (.ofString "__spec__"), (.str (.ofString "__spec__") 169), .none⟩, ⟨PyData.keyHash P (.ofString "__annotations__"), (.str (.ofString "__annotations__") 170), (.ref 6)⟩, ⟨PyData.keyHash P (.ofString "__builtins__"), (.str (.ofString "__builtins__") 171), (.ref 4)⟩, ⟨PyData.keyHash P (.ofString "__file__"), (.str (.ofString "__file__") 173), (.str (.ofString "/claim/cut.py") 172)⟩, ⟨PyData.keyHash P (.ofString "__cached__"), (.str (.ofString "__cached__") 174), .none⟩, ⟨PyData.keyHash P (.ofString "Int2AP"), (.str (.ofString "Int2AP") 198), (.ref 21)⟩, ⟨PyData.keyHash P (.ofString "TICK"), (.str (.ofString "TICK") 202), (.str (.ofString "'") 201)⟩, ⟨PyData.keyHash P (.ofString "decode_rfc2231"), (.str (.ofString "decode_rfc2231") 210), (.ref 28)⟩, ⟨PyData.keyHash P (.ofString "b1_set"), (.str (.ofString "b1_set") 272), (.ref 36)⟩, ⟨PyData.keyHash P (.ofString "in_table_b1"), (.str (.ofString "in_table_b1") 279), (.ref 46)⟩, ⟨PyData.keyHash P (.ofString "b3_exceptions"), (.str (.ofString "b3_exceptions") 2230), (.ref 47)⟩, ⟨PyData.keyHash P (.ofString "map_table_b3"), (.str (.ofString "map_table_b3") 2238), (.ref 92)⟩, ⟨PyData.keyHash P (.ofString "_law_forms"), (.str (.ofString "_law_forms") 2251), (.ref 99)⟩, ⟨PyData.keyHash P (.ofString "_law_dressed"), (.str (.ofString "_law_dressed") 2261), (.ref 106)⟩, ⟨PyData.keyHash P (.ofString "_law_number"), (.str (.ofString "_law_number") 2270), (.ref 113)⟩, ⟨PyData.keyHash P (.ofString "law"), (.str (.ofString "law") 2276), (.ref 118)⟩].toArray 20), [].toArray⟩
noncomputable def o12_15 (P : Params) : Obj := ⟨.none, none, (.fields [(.int 2 0), (.int 0 0), (.ref 20), (.int 12 0), (.int 0 0), (.ref 27), (.int 19 0), (.int 0 0), (.ref 45), (.int 22 0), (.int 0 0), (.ref 91), (.int 28 0), (.int 0 0), (.ref 98), (.int 36 0), (.int 0 0), (.ref 105), (.int 40 0), (.int 0 0), (.ref 112), (.int 45 0), (.int 0 0), (.ref 117)].toArray), [].toArray⟩
noncomputable def o114_15 (P : Params) : Obj := ⟨(.type "tuple"), none, (.seq [].toArray 0), [].toArray⟩
noncomputable def o115_15 (P : Params) : Obj := ⟨.none, none, (.fields [].toArray), [].toArray⟩
noncomputable def o116_15 (P : Params) : Obj := ⟨.none, none, (.func { name := (.ofString "law"), qualname := (.ofString "law"), params := (argsAt 14), body := .stmts (bodyAt 14), scope := (scopeAt 14), globals := 0, closure := [], defaults := .none, kwdefaults := .none, doc := .none, pyModule := .none, annotations := none, code := .none, closureTuple := .none, builtins := 0 }), [].toArray⟩
noncomputable def o117_15 (P : Params) : Obj := ⟨(.type "code"), none, (.fields [(.str (.ofString "law") 2271), (.str (.ofString "law") 2272), (.str (.ofString "/claim/cut.py") 2273), (.int 45 0), (.int 1 0), (.int 0 0), (.int 0 0), (.int 3 0), (.ref 114), (.bool true), (.int 181 0), (.ref 115), .none, .none, .none, (.ref 116), (.int 2274 0), (.int 45 0), (.str (.ofString "/claim/cut.py") 2275)].toArray), [].toArray⟩
noncomputable def o118_15 (P : Params) : Obj := ⟨(.type "function"), none, (.func { name := (.ofString "law"), qualname := (.ofString "law"), params := (argsAt 14), body := .stmts (bodyAt 14), scope := (scopeAt 14), globals := 3, closure := [], defaults := .none, kwdefaults := .none, doc := .none, pyModule := (.str (.ofString "law_wa0029_01") 2239), annotations := none, code := (.ref 117), closureTuple := .none, builtins := 0 }), [].toArray⟩
noncomputable def l15 (P : Params) : List Obj := [boot_o_0 P, boot_o_1 P, boot_o_2 P, o3_15 P, boot_o_4 P, boot_o_5 P, boot_o_6 P, boot_o_7 P, boot_o_8 P, boot_o_9 P, boot_o_10 P, o11_a P, o12_15 P, o13_a P, o14_a P, o15_2 P, o16_2 P, o17_2 P, o18_2 P, o19_2 P, o20_2 P, o21_2 P, o22_5 P, o23_5 P, o24_5 P, o25_5 P, o26_5 P, o27_5 P, o28_5 P, o29_7 P, o30_7 P, o31_7 P, o32_7 P, o33_7 P, o34_7 P, o35_7 P, o36_7 P, o37_7 P, o38_7 P, o39_7 P, o40_8 P, o41_8 P, o42_8 P, o43_8 P, o44_8 P, o45_8 P, o46_8 P, o47_9 P, o48_9 P, o49_9 P, o50_9 P, o51_9 P, o52_9 P, o53_9 P, o54_9 P, o55_9 P, o56_9 P, o57_9 P, o58_9 P, o59_9 P, o60_9 P, o61_9 P, o62_9 P, o63_9 P, o64_9 P, o65_9 P, o66_9 P, o67_9 P, o68_9 P, o69_9 P, o70_9 P, o71_9 P, o72_9 P, o73_9 P, o74_9 P, o75_9 P, o76_9 P, o77_9 P, o78_9 P, o79_9 P, o80_9 P, o81_9 P, o82_9 P, o83_9 P, o84_9 P, o85_9 P, o86_10 P, o87_10 P, o88_10 P, o89_10 P, o90_10 P, o91_10 P, o92_10 P, o93_12 P, o94_12 P, o95_12 P, o96_12 P, o97_12 P, o98_12 P, o99_12 P, o100_13 P, o101_13 P, o102_13 P, o103_13 P, o104_13 P, o105_13 P, o106_13 P, o107_14 P, o108_14 P, o109_14 P, o110_14 P, o111_14 P, o112_14 P, o113_14 P, o114_15 P, o115_15 P, o116_15 P, o117_15 P, o118_15 P]
noncomputable def hp15 (P : Params) : Heap := hpOf (l15 P) {}
noncomputable def S (h : Params → Heap) (k : Nat) (w : World) (os : OsState) : Shared := ⟨h w.params, Array.mk [], boot_drawn, k, os⟩
noncomputable abbrev Piece (i n : Nat) (h h' : Params → Heap) (k k' : Nat) (q q' : Pos) (w : World) : Prop :=
  ∀ os, segRun treeTable pw w 11 (some (.ref 6)) 1 (n + 1) (S h k w os) (piecesOf [stAt i] env cE q B) = some (.next, S h' k' w os, cE, q')
theorem pPre (w : World) (os : OsState) : topGo treeTable pw w 11 (some (.ref 6)) 12 (S boot_heap boot_toks w os) (topStub pw) = some (S hpa 187 w os, ⟨denote treeTable cE, cE, ⟨0, 0, 0, 0⟩, B⟩) := by kernel_rfl
theorem pBlock (w : World) (os : OsState) : segRun treeTable pw w 11 (some (.ref 6)) 1 1 (S hpa 187 w os) (blockOf bd env cE ⟨0, 0, 0, 0⟩ B) = some (.next, S hpa 187 w os, cE, ⟨0, 0, 0, 0⟩) := by kernel_rfl

theorem p1 (w : World) : Piece 0 9 hpa hp1 187 189 ⟨0, 0, 0, 0⟩ ⟨1, 0, 1, 8⟩ w := by intro os; kernel_rfl
theorem p2 (w : World) : Piece 1 32 hp1 hp2 189 199 ⟨1, 0, 1, 8⟩ ⟨2, 0, 9, 14⟩ w := by intro os; kernel_rfl
theorem p3 (w : World) : Piece 2 9 hp2 hp3 199 201 ⟨2, 0, 9, 14⟩ ⟨10, 0, 10, 8⟩ w := by intro os; kernel_rfl
theorem p4 (w : World) : Piece 3 9 hp3 hp4 201 203 ⟨10, 0, 10, 8⟩ ⟨11, 0, 11, 4⟩ w := by intro os; kernel_rfl
theorem p5 (w : World) : Piece 4 30 hp4 hp5 203 211 ⟨11, 0, 11, 4⟩ ⟨12, 0, 16, 16⟩ w := by intro os; kernel_rfl
theorem p6 (w : World) : Piece 5 9 hp5 hp6 211 213 ⟨12, 0, 16, 16⟩ ⟨17, 0, 17, 8⟩ w := by intro os; kernel_rfl
noncomputable abbrev P7 (w : World) : Prop := Piece 6 998 hp6 hp7 213 273 ⟨17, 0, 17, 8⟩ ⟨18, 0, 18, 6⟩ w
theorem p7ff (w : World) : P7 ((w.withFollow "special-get-raises" false).withFollow "set-order" false) := by
  intro os
  unfold piecesOf
  rw [PySem.W.Fast.te14374325043358763698, PySem.W.Fast.te14364793385576792824, PySem.W.Fast.te12563942051412417395]
  kernel_rfl
theorem p7ft (w : World) : P7 ((w.withFollow "special-get-raises" false).withFollow "set-order" true) := by
  intro os
  unfold piecesOf
  rw [PySem.W.Fast.te14374325043358763698, PySem.W.Fast.te14364793385576792824, PySem.W.Fast.te12563942051412417395]
  kernel_rfl
theorem p7tf (w : World) : P7 ((w.withFollow "special-get-raises" true).withFollow "set-order" false) := by
  intro os
  unfold piecesOf
  rw [PySem.W.Fast.te14374325043358763698, PySem.W.Fast.te14364793385576792824, PySem.W.Fast.te12563942051412417395]
  kernel_rfl
theorem p7tt (w : World) : P7 ((w.withFollow "special-get-raises" true).withFollow "set-order" true) := by
  intro os
  unfold piecesOf
  rw [PySem.W.Fast.te14374325043358763698, PySem.W.Fast.te14364793385576792824, PySem.W.Fast.te12563942051412417395]
  kernel_rfl
theorem p7 (w : World) : P7 w := by
  refine byRow2 "set-order" (P := P7) (fun w => ?_) (fun w => ?_) w
  · exact byRow2 "special-get-raises" (P := fun w => P7 (w.withFollow "set-order" false)) p7ff p7tf w
  · exact byRow2 "special-get-raises" (P := fun w => P7 (w.withFollow "set-order" true)) p7ft p7tt w
theorem p8 (w : World) : Piece 7 29 hp7 hp8 273 280 ⟨18, 0, 18, 6⟩ ⟨19, 0, 20, 30⟩ w := by intro os; kernel_rfl
theorem st8 : stAt 8 = .Assign [.Name tgtAt.1 tgtAt.2.1] (.Dict dispAt.1 dispAt.2.1 dispAt.2.2) tgtAt.2.2 := by kernel_rfl
theorem items8 : (evalEachOpt dispAt.1 env).zip ((evalEach dispAt.2.1 env).map fun v => do let x ← v; standAt dispAt.2.2; pure x) = its (prs dispAt.2.2 tbl) := by kernel_rfl
theorem tbl_parts : tbl = chunk 0 ++ (chunks.flatten ++ tblEnd) := by kernel_rfl
theorem tbl_rise : risingC 0 (chunk 0 :: chunks) = true := by kernel_rfl
theorem tbl_rise2 : rising (lastC 0 (chunk 0 :: chunks)) tblEnd = true := by kernel_rfl
theorem e37 : chunks.length = 37 := by kernel_rfl
theorem e4 : tblEnd.length = 4 := by kernel_rfl
theorem l8_len (P : Params) : (l8 P).length = 47 := by kernel_rfl
theorem p9tail (w : World) (os : OsState) : segRun treeTable pw w 11 (some (.ref 6)) 1 8
    (St (l8 w.params ++ o47_9 w.params :: (midOf 331 chunks ++ [o85_9 w.params])) {} (Array.mk []) boot_drawn 2230 os)
    ⟨tailW env tgtAt.1 tgtAt.2.1 (.ref 47), cE, dispAt.2.2, B⟩ = some (.next, S hp9 2231 w os, cE, ⟨21, 0, 21, 13⟩) := by kernel_rfl
theorem hd9 (w : World) (os : OsState) : Goes pw w 11 (some (.ref 6)) (.body bd env) ⟨0, 0, 0, 0⟩ 12515 (dictDisplay (its (prs dispAt.2.2 tbl))) (St (l8 w.params) {} (Array.mk []) boot_drawn 280 os) dispAt.2.2 (.ref 47)
    (St (l8 w.params ++ o47_9 w.params :: (midOf 331 chunks ++ [o85_9 w.params])) {} (Array.mk []) boot_drawn 2230 os) dispAt.2.2 :=
  goes_display' (a := 47) (m := 37) (k := 4) (c₀ := chunk 0) (tl := tblEnd) (cs := chunks) (toks := 280) (l8_len w.params) e37 e4 tbl_parts rfl rfl tbl_rise tbl_rise2 rfl rfl rfl
theorem p9 (w : World) : Piece 8 12524 hp8 hp9 280 2231 ⟨19, 0, 20, 30⟩ ⟨21, 0, 21, 13⟩ w := fun os => seg_assign (q := ⟨19, 0, 20, 30⟩) (N := 8) (n := 12515) st8 items8 (hd9 w os) (p9tail w os)
theorem p10 (w : World) : Piece 9 30 hp9 hp10 2231 2239 ⟨21, 0, 21, 13⟩ ⟨22, 0, 26, 23⟩ w := by intro os; kernel_rfl
theorem p11 (w : World) : Piece 10 9 hp10 hp11 2239 2241 ⟨22, 0, 26, 23⟩ ⟨27, 0, 27, 8⟩ w := by intro os; kernel_rfl
theorem p12 (w : World) : Piece 11 33 hp11 hp12 2241 2252 ⟨27, 0, 27, 8⟩ ⟨28, 0, 35, 15⟩ w := by intro os; kernel_rfl
theorem p13 (w : World) : Piece 12 32 hp12 hp13 2252 2262 ⟨28, 0, 35, 15⟩ ⟨36, 0, 39, 87⟩ w := by intro os; kernel_rfl
theorem p14 (w : World) : Piece 13 31 hp13 hp14 2262 2271 ⟨36, 0, 39, 87⟩ ⟨40, 0, 44, 17⟩ w := by intro os; kernel_rfl
theorem p15 (w : World) : Piece 14 26 hp14 hp15 2271 2277 ⟨40, 0, 44, 17⟩ ⟨45, 0, 67, 101⟩ w := by intro os; kernel_rfl
theorem pFin (w : World) (os : OsState) : topRun treeTable pw w 11 (some (.ref 6)) 2 (S hp15 2277 w os) ⟨doneF .next, cE, ⟨45, 0, 67, 101⟩, B⟩ = some (S hp15 2277 w os) := by kernel_rfl
theorem topRan (w : World) (os : OsState) : topRun treeTable pw w 11 (some (.ref 6)) 13840 (S boot_heap boot_toks w os) (topStub pw) = some (S hp15 2277 w os) := by
  refine go_top (n := 12) (N := 13828) (pPre w os) ?_
  refine piece_block (n := 1) (N := 13827) (pBlock w os) ?_
  show topRun treeTable pw w 11 (some (.ref 6)) 13827 _ (restOf ([stAt 0] ++ ([stAt 1] ++ ([stAt 2] ++ ([stAt 3] ++ ([stAt 4] ++ ([stAt 5] ++ ([stAt 6] ++ ([stAt 7] ++ ([stAt 8] ++ ([stAt 9] ++ ([stAt 10] ++ ([stAt 11] ++ ([stAt 12] ++ ([stAt 13] ++ ([stAt 14] ++ []))))))))))))))) env cE _ _) = _
  refine piece_app (n := 10) (N := 13817) (p1 w os) ?_
  refine piece_app (n := 33) (N := 13784) (p2 w os) ?_
  refine piece_app (n := 10) (N := 13774) (p3 w os) ?_
  refine piece_app (n := 10) (N := 13764) (p4 w os) ?_
  refine piece_app (n := 31) (N := 13733) (p5 w os) ?_
  refine piece_app (n := 10) (N := 13723) (p6 w os) ?_
  refine piece_app (n := 999) (N := 12724) (p7 w os) ?_
  refine piece_app (n := 30) (N := 12694) (p8 w os) ?_
  refine piece_app (n := 12525) (N := 169) (p9 w os) ?_
  refine piece_app (n := 31) (N := 138) (p10 w os) ?_
  refine piece_app (n := 10) (N := 128) (p11 w os) ?_
  refine piece_app (n := 34) (N := 94) (p12 w os) ?_
  refine piece_app (n := 33) (N := 61) (p13 w os) ?_
  refine piece_app (n := 32) (N := 29) (p14 w os) ?_
  refine piece_app (n := 27) (N := 2) (p15 w os) ?_
  exact piece_nil (pFin w os)
end
end Mine
open PySem PySem.W PyProof.Rows PySem.Calls
namespace Mine
local macro_rules | `(tactic| walk_at "mine0") => `(tactic| fail)
local macro_rules | `(tactic| walk_at "mine1") => `(tactic| fail)
local macro_rules | `(tactic| walk_at "mine2") => `(tactic| fail)
local macro_rules | `(tactic| walk_at "mine3") => `(tactic| fail)
local macro_rules | `(tactic| walk_at "mine4") => `(tactic| fail)
local macro_rules | `(tactic| walk_at "mine5") => `(tactic| fail)
local macro_rules | `(tactic| walk_at "mine6") => `(tactic| fail)
local macro_rules | `(tactic| walk_at "mine7") => `(tactic| fail)
local macro_rules | `(tactic| walk_at "mine8") => `(tactic| fail)
local macro_rules | `(tactic| walk_at "mine9") => `(tactic| fail)
local macro_rules | `(tactic| walk_at "mine10") => `(tactic| fail)
local macro_rules | `(tactic| walk_at "mine11") => `(tactic| fail)
local macro_rules | `(tactic| walk_at "mine12") => `(tactic| fail)
local macro_rules | `(tactic| walk_at "mine13") => `(tactic| fail)
local macro_rules | `(tactic| walk_at "mine14") => `(tactic| fail)
noncomputable section
noncomputable def view : Program := { pw with main := { pw.main with body := [stAt 1, stAt 3, stAt 4, stAt 7, stAt 9, stAt 11, stAt 12, stAt 13, stAt 14] } }
noncomputable abbrev loose : List Str := [Str.ofString "b1_set", Str.ofString "b3_exceptions"]
noncomputable def hookB (H : Hook) : Hook := ⟨H.α × Option Obj × Option Obj, fun s => (H.obs s, s.heap.get? 36, s.heap.get? 47), fun w => (H.val w, some (o36_7 w.params), some (o47_9 w.params)),
  fun w h => H.says w h ∧ h.get? 36 = some (o36_7 w.params) ∧ h.get? 47 = some (o47_9 w.params),
  fun w s e => ⟨H.of w s (congrArg Prod.fst e), congrArg (fun x => x.2.1) e, congrArg (fun x => x.2.2) e⟩, fun w h h' x k => ⟨H.keeps w h h' x.1 k, k _ _ x.2.1, k _ _ x.2.2⟩⟩
theorem openP : ∀ w : World, (fencedOpening treeTable pw w 30000).map (fun s => (s.heap, s.gens, s.drawn, s.toks)) = some (boot_heap w.params, Array.mk [], boot_drawn, boot_toks) := boot_open (by rfl) (by rfl) (fun s => by rfl)
theorem sizeP : ∀ w : World, ((boot_heap w.params).isNs mainGlobals && (Array.mk [] : Array GenState).size == 0, (boot_heap w.params).objs.size, (boot_heap w.params).nsMap mainGlobals "__annotations__") = (true, 11, some (.ref 6)) := fun w => by kernel_rfl
theorem look1 (w : World) (os : OsState) : (staticsOk (importedModules pw.main.body) (boot_heap w.params) (hp15 w.params) && namesBound pw (hp15 w.params) && gensDone ⟨hp15 w.params, Array.mk [], boot_drawn, 2277, os⟩ && laidKept (boot_heap w.params) (hp15 w.params)) = true := by kernel_rfl
theorem look2 (w : World) (os : OsState) : openSeen view loose (importedModules pw.main.body) (fun s => xlAt view [] s && recOk (RowW.records PySem.Challenge.rw_wa0029_01.row.toRowW) s) true ⟨hp15 w.params, Array.mk [], boot_drawn, 2277, os⟩ = openGood view loose := by kernel_rfl
end
end Mine
namespace Mine
local macro_rules | `(tactic| walk_at "mine0") => `(tactic| fail)
local macro_rules | `(tactic| walk_at "mine1") => `(tactic| fail)
local macro_rules | `(tactic| walk_at "mine2") => `(tactic| fail)
local macro_rules | `(tactic| walk_at "mine3") => `(tactic| fail)
local macro_rules | `(tactic| walk_at "mine4") => `(tactic| fail)
local macro_rules | `(tactic| walk_at "mine5") => `(tactic| fail)
local macro_rules | `(tactic| walk_at "mine6") => `(tactic| fail)
local macro_rules | `(tactic| walk_at "mine7") => `(tactic| fail)
local macro_rules | `(tactic| walk_at "mine8") => `(tactic| fail)
local macro_rules | `(tactic| walk_at "mine9") => `(tactic| fail)
local macro_rules | `(tactic| walk_at "mine10") => `(tactic| fail)
local macro_rules | `(tactic| walk_at "mine11") => `(tactic| fail)
local macro_rules | `(tactic| walk_at "mine12") => `(tactic| fail)
local macro_rules | `(tactic| walk_at "mine13") => `(tactic| fail)
local macro_rules | `(tactic| walk_at "mine14") => `(tactic| fail)
noncomputable section
noncomputable abbrev XtP : Shared → Bool := fun s => xlAt view [] s && recOk (RowW.records PySem.Challenge.rw_wa0029_01.row.toRowW) s
theorem leftP {K : Params → Frag} {as : List Addr} {e : ∀ P, as = (K P).map (·.1)} (h : ∀ w : World, as.map (hp15 w.params).get? = (K w.params).map fun p => some p.2) :
    LeftO PySem.Challenge.rw_wa0029_01.row.prog view loose XtP (Hook.obs (hookB (kHook K as e))) (Hook.val (hookB (kHook K as e))) 30000 :=
  LeftO.of_pieces (H₀ := boot_heap) (H₁ := hp15) (gs₀ := Array.mk []) (gs₁ := Array.mk []) (d₀ := boot_drawn) (d₁ := boot_drawn) (k₀ := boot_toks) (k₁ := 2277) (m₀ := 11) (ann := some (.ref 6)) openP sizeP topRan (by rfl)
    fun w => funext fun os => Prod.ext (look1 w os) (Prod.ext (look2 w os) (Prod.ext (h w) (Prod.ext (show (hp15 w.params).get? 36 = some (o36_7 w.params) by kernel_rfl) (show (hp15 w.params).get? 47 = some (o47_9 w.params) by kernel_rfl))))
end
end Mine
open PySem PySem.W PyProof.Rows PySem.Calls
namespace Mine
local macro_rules | `(tactic| o_head $H) => `(tactic| (
  refine PySem.W.holds_open (q := view) (loose := loose) (Xt := XtP) (XP := XL view []) (Yf := Hook.obs (hookB $H)) (Ya := Hook.val (hookB $H)) (YP := Hook.says (hookB $H)) (N := 30000) ?hl (Hook.of (hookB $H)) (Hook.keeps (hookB $H)) (fun s e => xl_of s (Bool.and_eq_true_iff.mp e).1) XL.keeps (by rfl) (by rfl) (by rfl) (fun s e => recFacts_of (Bool.and_eq_true_iff.mp e).2) (by rfl) (by assumption) (by decide +kernel) ⟨rfl, rfl, rfl, rfl, rfl, by decide +kernel⟩ ?hw ?hc
  (case hl => exact leftP (fun w => by kernel_rfl))))
set_option maxHeartbeats 8000000
open_top hd for PySem.Challenge.rw_wa0029_01
end Mine
open PySem PySem.W PyProof.Rows PySem.Calls
namespace Mine
local macro_rules | `(tactic| walk_at "mine0") => `(tactic| fail)
local macro_rules | `(tactic| walk_at "mine1") => `(tactic| fail)
local macro_rules | `(tactic| walk_at "mine2") => `(tactic| fail)
local macro_rules | `(tactic| walk_at "mine3") => `(tactic| fail)
local macro_rules | `(tactic| walk_at "mine4") => `(tactic| fail)
local macro_rules | `(tactic| walk_at "mine5") => `(tactic| fail)
local macro_rules | `(tactic| walk_at "mine6") => `(tactic| fail)
local macro_rules | `(tactic| walk_at "mine7") => `(tactic| fail)
local macro_rules | `(tactic| walk_at "mine8") => `(tactic| fail)
local macro_rules | `(tactic| walk_at "mine9") => `(tactic| fail)
local macro_rules | `(tactic| walk_at "mine10") => `(tactic| fail)
local macro_rules | `(tactic| walk_at "mine11") => `(tactic| fail)
local macro_rules | `(tactic| walk_at "mine12") => `(tactic| fail)
local macro_rules | `(tactic| walk_at "mine13") => `(tactic| fail)
local macro_rules | `(tactic| walk_at "mine14") => `(tactic| fail)
set_option maxHeartbeats 2000000

structure Facts (w : World) (mean : ExcName → Option Value) (mg mb : Str → Option Value) (h : Heap) : Prop where
  K : (hd.heap_39 w.params).In h
  S : h.get? 36 = some (o36_7 w.params)
  B : h.get? 47 = some (o47_9 w.params)
  T : Top view (looseW view loose) mean mg mb h
theorem Facts.keeps {w : World} {mean : ExcName → Option Value} {mg mb : Str → Option Value} {h h' : Heap} (F : Facts w mean mg mb h) (k : ∀ b o, h.get? b = some o → h'.get? b = some o) : Facts w mean mg mb h' :=
  ⟨F.K.keeps k, k _ _ F.S, k _ _ F.B, F.T.keeps k⟩

noncomputable def b1L : List Int := [65024, 65025, 65026, 65027, 65028, 65029, 6150, 65030, 65031, 65032, 65033, 6155, 6156, 6157, 8203, 8204, 8205, 65034, 65035, 65036, 65037, 65038, 65039, 173, 847, 8288, 65279]
noncomputable def b1 (k : Int) : Bool := b1L.contains k
theorem setOf {prog : Program} {w : World} {h : Heap} (S : h.get? 36 = some (o36_7 w.params)) : h.SetOf (intKind prog w) 36 b1 27 := by
  refine ⟨_, _, _, _, S, ⟨rfl, rfl, rfl⟩, rfl, ?_, ?_, by decide, by rfl, rfl⟩
  · intro e he
    have hall : ∀ x : List (Int × Value), (x.all fun e => match e.2 with | .int k _ => e.1 == hashInt k | _ => false) = true → ∀ e ∈ x, (∃ k, (intKind prog w).is k e.2 = true ∧ e.1 = (intKind prog w).hash k) ∧ e.2.scannable = true := by
      intro x hx e he
      have h := List.all_eq_true.mp hx e he
      obtain ⟨a, v⟩ := e
      cases v <;> first | cases h | skip
      rename_i k t
      exact ⟨⟨k, intKind_is _ _ _ _, beq_iff_eq.mp h⟩, rfl⟩
    exact hall _ (by decide +kernel) e he
  · intro k
    have hb : ∀ (x : List (Int × Value)) (l : List Int), (x.map fun e => match e.2 with | .int k _ => k | _ => 0) = l → (x.all fun e => match e.2 with | .int _ _ => true | _ => false) = true → (l.contains k = true ↔ ∃ e ∈ x, (intKind prog w).is k e.2 = true) := by
      intro x l hl ha
      subst hl
      rw [List.contains_iff_mem, List.mem_map]
      constructor
      · rintro ⟨e, he, hk⟩
        refine ⟨e, he, ?_⟩
        have h := List.all_eq_true.mp ha e he
        obtain ⟨a, v⟩ := e
        cases v <;> first | cases h | skip
        dsimp only at hk ⊢
        rw [hk]; exact intKind_is _ _ _ _
      · rintro ⟨e, he, hk⟩
        refine ⟨e, he, ?_⟩
        have h := List.all_eq_true.mp ha e he
        obtain ⟨a, v⟩ := e
        cases v <;> first | cases h | skip
        have : (_ == k) = true := hk
        simpa using this
    exact hb _ b1L (by rfl) (by rfl)

local macro_rules | `(tactic| walk_at "compareOp In") => `(tactic| ((with_reducible show wpAny _ _ (compareOp CmpOp.In (Value.int _ _) (Value.ref 36)) _ _ _); refine wpAny_inSet_of (intKind_is _ _ _ _) rfl (setOf (Fr.keep (by assumption) _ _ (Facts.S (by assumption)))) ?_))
local macro_rules | `(tactic| walk_at "Keeps") => `(tactic| exact ⟨_, _, rfl, Fr.keep (by assumption)⟩)
theorem b1_spec {w : World} {mean : ExcName → Option Value} {mg mb : Str → Option Value} {A : Around} {E : Value → Shared → Prop} {s : Shared} (X : Facts w mean mg mb s.heap) (hroom : A.depth + 5 < recursionLimit) (c : Nat) (t : Tok) :
    wpAny (model PySem.Challenge.rw_wa0029_01.row.prog w) A (call (.ref 46) [.str ⟨#[c]⟩ t]) (fun v s' => v = .bool (b1 c) ∧ Keeps s s') E s := by
  have KX : (hd.heap_39 w.params).In s.heap := X.K
  revert KX
  k_fill
  intro KX
  have T := X.T
  refine wpAny_call ?_
  refine call_plain_ret (binds := [(Str.ofString "code", .str ⟨#[c]⟩ t)]) (by omega) (KX 46 _ (by k_is)) (by rfl) T.nolimit (codeRec_of KX (by k_is)) (by rfl) (locs (by rfl)) (fun h₁ F => ?_)
  k_steps
end Mine
open PySem PySem.W PyProof.Rows PySem.Calls
namespace Mine
set_option maxHeartbeats 8000000
section
local macro_rules | `(tactic| walk_at "Keeps") => `(tactic| exact ⟨_, _, rfl, Fr.keep (by assumption)⟩)
theorem fold_pair (ns : List Int) : ∀ x : Int, (List.foldl (fun (σ : Int × Unit) n => (16 * σ.fst + n, ())) (x, ()) ns).fst = ns.foldl (fun a b => 16 * a + b) x := by
  induction ns with
  | nil => intro x; rfl
  | cons n r ih => intro x; exact ih _
theorem num_spec {w : World} {mean : ExcName → Option Value} {mg mb : Str → Option Value} {A : Around} {E : Value → Shared → Prop} {s : Shared} {T : Addr} {its : List Value} {ns : List Int} (X : Facts w mean mg mb s.heap) (hh : A.handled = none) (hroom : A.depth + 5 < recursionLimit) (hl : s.heap.IsList T its.toArray) (hi : IntsAre its ns) (hlen : (ns.length : Int) ≤ 1000) (hb : ∀ n ∈ ns, 0 ≤ n ∧ n < 16) :
    wpAny (model PySem.Challenge.rw_wa0029_01.row.prog w) A (call (.ref 113) [.ref T]) (fun v s' => (∃ u, v = .int (ns.foldl (fun a b => 16 * a + b) 0) u) ∧ Keeps s s') E s := by
  obtain ⟨ah, ad, af, ag, au⟩ := A
  subst hh
  have KX : (hd.heap_39 w.params).In s.heap := X.K
  revert KX
  k_fill
  intro KX
  have Tp := X.T
  refine wpAny_call ?_
  refine call_plain_ret (binds := [(Str.ofString "values", .ref T)]) (by omega) (KX 113 _ (by k_is)) (by rfl) Tp.nolimit (codeRec_of KX (by k_is)) (by rfl) (locs (by rfl)) (fun h₁ F => ?_)
  have N : News s.heap s.heap.objs.size h₁ [] := News.nil
  k_steps
  exact congrArg (fun k => Value.int k _) (fold_pair ns 0)
end
end Mine
open PySem PySem.W PyProof.Rows PySem.Calls
namespace Mine
local macro_rules | `(tactic| walk_at "mine0") => `(tactic| fail)
local macro_rules | `(tactic| walk_at "mine1") => `(tactic| fail)
local macro_rules | `(tactic| walk_at "mine2") => `(tactic| fail)
local macro_rules | `(tactic| walk_at "mine3") => `(tactic| fail)
local macro_rules | `(tactic| walk_at "mine4") => `(tactic| fail)
local macro_rules | `(tactic| walk_at "mine5") => `(tactic| fail)
local macro_rules | `(tactic| walk_at "mine6") => `(tactic| fail)
local macro_rules | `(tactic| walk_at "mine7") => `(tactic| fail)
local macro_rules | `(tactic| walk_at "mine8") => `(tactic| fail)
local macro_rules | `(tactic| walk_at "mine9") => `(tactic| fail)
local macro_rules | `(tactic| walk_at "mine10") => `(tactic| fail)
local macro_rules | `(tactic| walk_at "mine11") => `(tactic| fail)
local macro_rules | `(tactic| walk_at "mine12") => `(tactic| fail)
local macro_rules | `(tactic| walk_at "mine13") => `(tactic| fail)
local macro_rules | `(tactic| walk_at "mine14") => `(tactic| fail)
set_option maxHeartbeats 2000000

noncomputable def es47 : List DictEntry := ents 3 280 (chunk 0) ++ entsOf 331 chunks ++ ents 2 2218 tblEnd
noncomputable def b3f (k : Int) : Option Value := findBy Value.isInt es47.toArray k
theorem at47 {w : World} {mean : ExcName → Option Value} {mg mb : Str → Option Value} {h : Heap} (X : Facts w mean mg mb h) : h.get? 47 = some (D es47 650) := X.B
theorem keys47 : (es47.all fun e => match e.key with | .int k _ => e.hash == hashInt k | _ => false) = true := by decide +kernel
theorem mapOf {prog : Program} {w : World} {h : Heap} (S : h.get? 47 = some (D es47 650)) : h.MapOf (intKind prog w) 47 b3f := by
  refine ⟨_, es47.toArray, 650, S, ⟨rfl, rfl, rfl⟩, rfl, ?_, fun k => rfl⟩
  intro e he
  have h := List.all_eq_true.mp keys47 e (by simpa using he)
  obtain ⟨a, v, u⟩ := e
  cases v <;> first | cases h | skip
  rename_i k t
  exact ⟨k, intKind_is _ _ _ _, beq_iff_eq.mp h⟩
theorem mapOf_dict {s : Shared} (S : s.heap.get? 47 = some (D es47 650)) : s.TypeIs (.ref 47) "dict" := ⟨_, S, rfl⟩
theorem get47 {w : World} {prog : Program} {A : Around} {E : Value → Shared → Prop} {s : Shared} {k : Int} {t : Tok} {r : Option Value} {Q : Value → Shared → Prop} (S : s.heap.get? 47 = some (D es47 650)) (hb : b3f k = r) (h : Q (r.getD .none) { s with toks := s.toks + 1 }) :
    wpAny (model prog w) A (call (.builtin "dict.get") [.ref 47, .int k t]) Q E s :=
  call_meetsIn PySem.F.slot_dict_get (mapOf_dict S) PySem.F.entry_dict_get (PySem.F.args_dict_get_2 _ _) (meets_dict_get (knd := intKind prog w) 47 (intKind_is _ _ _ _) rfl) ⟨b3f, mapOf S, by rw [hb]; exact h⟩
/-- the signs that a law lets by, and what the table and the small letters make of them -/
noncomputable def signOk (c : Nat) : Bool := c == 39 || (65 ≤ c && c ≤ 80) || (97 ≤ c && c ≤ 112) || (119808 ≤ c && c ≤ 119823)
noncomputable def low (c : Nat) : Nat := if c < 97 then (if c < 65 then c else c + 32) else if c < 119808 then c else c - 119808 + 97
theorem find_rise : ∀ (l : List (Int × Str)) (lo : Int) (i : Nat) (k : Int) (x : Str), rising lo l = true → l[i]? = some (k, x) → l.find? (fun p => p.1 == k) = some (k, x) ∧ lo < k
  | [], _, _, _, _, _, h => by cases h
  | (k', x') :: r, lo, i, k, x, hr, h => by
    simp only [rising, Bool.and_eq_true, decide_eq_true_eq] at hr
    cases i with
    | zero => cases h; exact ⟨by simp, hr.1.1⟩
    | succ i =>
      have ih := find_rise r k' i k x hr.2 h
      refine ⟨?_, by omega⟩
      rw [List.find?_cons_of_neg (by simp only [beq_iff_eq]; omega)]
      exact ih.1
theorem find_low : ∀ (l : List (Int × Str)) (lo k : Int), rising lo l = true → k ≤ lo → l.find? (fun p => p.1 == k) = none
  | [], _, _, _, _ => rfl
  | (k', x') :: r, lo, k, hr, h => by
    simp only [rising, Bool.and_eq_true, decide_eq_true_eq] at hr
    rw [List.find?_cons_of_neg (by simp only [beq_iff_eq]; omega)]
    exact find_low r k' k hr.2 (by omega)
inductive Like : List DictEntry → List (Int × Str) → Prop
  | nil : Like [] []
  | cons {h : Int} {k : Int} {x : Str} {t u : Tok} {es : List DictEntry} {l : List (Int × Str)} (r : Like es l) : Like (⟨h, .int k t, .str x u⟩ :: es) ((k, x) :: l)
theorem Like.ents (step : Nat) : ∀ (l : List (Int × Str)) (t : Nat), Like (Mine.ents step t l) l
  | [], _ => .nil
  | _ :: r, _ => .cons (Like.ents step r _)
theorem Like.app {es es' : List DictEntry} {l l' : List (Int × Str)} (a : Like es l) (b : Like es' l') : Like (es ++ es') (l ++ l') := by
  induction a with
  | nil => exact b
  | cons _ ih => exact .cons ih
theorem Like.entsOf : ∀ (cs : List (List (Int × Str))) (t : Nat), Like (Mine.entsOf t cs) cs.flatten
  | [], _ => .nil
  | l :: r, t => by rw [List.flatten_cons]; exact (Like.ents 3 l t).app (Like.entsOf r _)
theorem Like.find {es : List DictEntry} {l : List (Int × Str)} (a : Like es l) (k : Int) : match l.find? (fun p => p.1 == k) with
    | none => es.find? (fun e => Value.isInt k e.key) = none
    | some p => ∃ e u, es.find? (fun e => Value.isInt k e.key) = some e ∧ e.val = .str p.2 u := by
  induction a with
  | nil => rfl
  | @cons h k' x t u es l r ih =>
    by_cases hk : k' = k
    · subst hk
      rw [List.find?_cons_of_pos (by simp)]
      exact ⟨_, u, List.find?_cons_of_pos (by simp [Value.isInt]), rfl⟩
    · rw [List.find?_cons_of_neg (by simpa using hk), List.find?_cons_of_neg (by simpa [Value.isInt] using hk)]
      exact ih
theorem like47 : Like es47 tbl := by
  have h : tbl = chunk 0 ++ chunks.flatten ++ tblEnd := by rw [List.append_assoc]; exact tbl_parts
  rw [h]
  exact ((Like.ents 3 _ _).app (Like.entsOf _ _)).app (Like.ents 2 _ _)
theorem rise172 : rising 172 tbl = true := by decide +kernel
theorem b3_none {k : Int} (h : k ≤ 172) : b3f k = none := by
  have := like47.find k
  rw [find_low tbl 172 k rise172 h] at this
  unfold b3f findBy
  rw [List.find?_toArray]
  exact congrArg (Option.map (·.val)) this
theorem b3_some {k : Int} {i : Nat} {x : Str} (h : tbl[i]? = some (k, x)) : ∃ u, b3f k = some (.str x u) := by
  have := like47.find k
  rw [(find_rise tbl 172 i k x rise172 h).1] at this
  obtain ⟨e, u, h1, h2⟩ := this
  refine ⟨u, ?_⟩
  unfold b3f findBy
  rw [List.find?_toArray]
  exact (congrArg (Option.map (·.val)) h1).trans (congrArg some h2)
noncomputable def b3Says (c : Nat) : Prop := (b3f c = none ∧ Txt.lower ⟨#[c]⟩ = ⟨#[low c]⟩) ∨ ∃ u, b3f c = some (.str ⟨#[low c]⟩ u)
theorem lows : (([39] ++ (List.range 16).map (65 + ·) ++ (List.range 16).map (97 + ·)).all fun c => Txt.lower (Str.mk #[c]) == Str.mk #[low c]) = true := by decide +kernel
theorem greats : ((List.range 16).all fun j => tbl[202 + j]? == some (((119808 + j : Nat) : Int), Str.mk #[97 + j])) = true := by decide +kernel
theorem says {c : Nat} (h : signOk c = true) : b3Says c := by
  simp only [signOk, Bool.or_eq_true, Bool.and_eq_true, beq_iff_eq, decide_eq_true_eq] at h
  by_cases hc : c < 113
  · refine .inl ⟨b3_none (by omega), beq_iff_eq.mp (List.all_eq_true.mp lows c ?_)⟩
    simp only [List.mem_append, List.mem_map, List.mem_range, List.mem_singleton]
    rcases h with ((h | h) | h) | h
    · exact .inl (.inl h)
    · exact .inl (.inr ⟨c - 65, by omega, by omega⟩)
    · exact .inr ⟨c - 97, by omega, by omega⟩
    · omega
  · right
    obtain ⟨j, hj, rfl⟩ : ∃ j, j < 16 ∧ c = 119808 + j := ⟨c - 119808, by omega, by omega⟩
    have hg := beq_iff_eq.mp (List.all_eq_true.mp greats j (by simpa using hj))
    obtain ⟨u, hu⟩ := b3_some hg
    refine ⟨u, hu.trans ?_⟩
    have : low (119808 + j) = 97 + j := by unfold low; rw [if_neg (by omega), if_neg (by omega)]; omega
    rw [this]
section
local macro_rules | `(tactic| walk_at "Keeps") => `(tactic| exact ⟨_, _, rfl, Fr.keep (by assumption)⟩)
local macro_rules | `(tactic| walk_at "getMethod ref") => `(tactic| ((with_reducible show wpAny _ _ (getMethod (Value.ref 47) _ _) _ _ _); refine getMethod_builtin (mapOf_dict (Fr.keep (by assumption) _ _ (at47 (by assumption)))) PySem.F.plainAttrs_dict PySem.F.slot_dict_get PySem.F.type_dict_get (fun a e => ⟨_, (by injection e with e; subst e; exact Fr.keep (by assumption) _ _ (at47 (by assumption))), rfl⟩) ?_))
local macro_rules | `(tactic| walk_at "call builtin:dict.get") => `(tactic| ((with_reducible show wpAny _ _ (call (Value.builtin "dict.get") [Value.ref 47, Value.int _ _]) _ _ _); refine get47 (Fr.keep (by assumption) _ _ (at47 (by assumption))) (by assumption) ?_; (try dsimp only [Option.getD])))
theorem lower1 {prog : Program} {w : World} {A : Around} {E : Value → Shared → Prop} {s : Shared} {c : Nat} {y : Str} {t : Tok} {Q : Value → Shared → Prop} (hl : Txt.lower ⟨#[c]⟩ = y) (h : Q (.str y s.toks) { s with toks := s.toks + 1 }) :
    wpAny (model prog w) A (call (.builtin "str.lower") [.str ⟨#[c]⟩ t]) Q E s := SCL.lower (by show 1 ≤ 5592405; omega) fun _ => by rw [hl]; exact h
local macro_rules | `(tactic| walk_at "call builtin:str.lower") => `(tactic| (refine lower1 (by assumption) ?_))
theorem b3_spec {w : World} {mean : ExcName → Option Value} {mg mb : Str → Option Value} {A : Around} {E : Value → Shared → Prop} {s : Shared} (X : Facts w mean mg mb s.heap) (hroom : A.depth + 5 < recursionLimit) (c : Nat) (hc : b3Says c) (t : Tok) :
    wpAny (model PySem.Challenge.rw_wa0029_01.row.prog w) A (call (.ref 92) [.str ⟨#[c]⟩ t]) (fun v s' => (∃ u, v = .str ⟨#[low c]⟩ u) ∧ Keeps s s') E s := by
  have KX : (hd.heap_39 w.params).In s.heap := X.K
  revert KX
  k_fill
  intro KX
  have T := X.T
  refine wpAny_call ?_
  refine call_plain_ret (binds := [(Str.ofString "code", .str ⟨#[c]⟩ t)]) (by omega) (KX 92 _ (by k_is)) (by rfl) T.nolimit (codeRec_of KX (by k_is)) (by rfl) (locs (by rfl)) (fun h₁ F => ?_)
  rcases hc with ⟨hb, hl⟩ | ⟨u, hb⟩
  · k_steps
  · k_steps
end
end Mine
open PySem PySem.W PyProof.Rows PySem.Calls
namespace Mine
set_option maxHeartbeats 2000000
noncomputable def stm (i j : Nat) : Stmt := match (bodyAt i)[j]? with | some s => s | none => .Pass default
noncomputable def apD : Nat → List UInt8
  | 0 => []
  | n + 1 => apD ((n + 1) / 16) ++ [UInt8.ofNat (65 + (n + 1) % 16)]
decreasing_by exact Nat.div_lt_self (Nat.succ_pos _) (by decide)
theorem apD_pos {n : Nat} (h : 0 < n) : apD n = apD (n / 16) ++ [UInt8.ofNat (65 + n % 16)] := by
  cases n with
  | zero => cases h
  | succ n => rw [apD]
noncomputable abbrev AP : Array UInt8 := #[65, 66, 67, 68, 69, 70, 71, 72, 73, 74, 75, 76, 77, 78, 79, 80]
theorem cutAP (n : Nat) : KBy.picked AP (some ((n : Int).fmod 16)) (some ((n : Int).fmod 16 + 1)) = #[UInt8.ofNat (65 + n % 16)] ∧ KBy.whole AP (some ((n : Int).fmod 16)) (some ((n : Int).fmod 16 + 1)) = false ∧ (KBy.picked AP (some ((n : Int).fmod 16)) (some ((n : Int).fmod 16 + 1))).size ≤ 16777216 := by
  have h : ∀ j : Fin 16, KBy.picked AP (some ((j.val : Nat) : Int)) (some ((j.val : Nat) + 1 : Int)) = #[UInt8.ofNat (65 + j.val)] ∧ KBy.whole AP (some ((j.val : Nat) : Int)) (some ((j.val : Nat) + 1 : Int)) = false := by decide +kernel
  have e : (n : Int).fmod 16 = ((n % 16 : Nat) : Int) := by rw [Int.fmod_eq_emod_of_nonneg _ (by decide)]; rfl
  have := h ⟨n % 16, Nat.mod_lt _ (by decide)⟩
  rw [e]
  refine ⟨this.1, this.2, ?_⟩
  rw [this.1]
  show 1 ≤ 16777216
  omega
section
local macro_rules | `(tactic| walk_at "Keeps") => `(tactic| exact ⟨_, _, rfl, Fr.keep (by assumption)⟩)
local macro_rules | `(tactic| walk_at "subscriptTail") => `(tactic| (k_here; (with_reducible show wpAny _ _ (subscriptTail _ (Expr.Slice _ _ none _) (Value.bytes _ _) (Value.ref _)) _ _ _); (with_reducible rename Fr _ _ _ _ => F'); (with_reducible rename News _ _ _ _ => N'); (refine KBy.slice_N (s := ⟨_, _, _, _, _⟩) F' N' (by constructor) (by constructor) (cutAP _).2.1 (cutAP _).2.2 ?_); (rw [(cutAP _).1]); intro _ _ _ _ _))
local macro_rules | `(tactic| walk_at "binaryOp Add bytes bytes") => `(tactic| (k_here; (refine KBy.add_bytes (by assumption) ?_); intro _ _))
theorem canon3 {m : Str → Option Value} {a b c : Str} {u v z : Value} (h1 : m a = some u) (h2 : m b = some v) (h3 : m c = some z) : m = fun y => if y = a then some u else if y = b then some v else if y = c then some z else m y := by
  funext y
  by_cases e1 : y = a
  · subst e1; simp [h1]
  · by_cases e2 : y = b
    · subst e2; simp [e1, h2]
    · by_cases e3 : y = c
      · subst e3; simp [e1, e2, h3]
      · simp [e1, e2, e3]
theorem ap_loop {w : World} {mean : ExcName → Option Value} {mg mb : Str → Option Value} {A : Around} {s : Shared} {h₀ : Heap} {L : Addr} {m : Str → Option Value} {k : Int} {x : Nat} {b : Array UInt8} {tx tb ta : Tok} {Q : Flow → Shared → Prop} {E : Value → Shared → Prop}
    (X : Facts w mean mg mb h₀) (hh : A.handled = none) (F : Fr h₀ L s.heap m) (h1 : m "num" = some (.int k tx)) (hk : k = x) (h2 : m "val" = some (.bytes b tb)) (h3 : m "AP" = some (.bytes AP ta)) (hsz : (apD x).length + b.size ≤ 1000)
    (hQ : ∀ (h' : Heap) (tk : Nat) (u : Tok) (m' : Str → Option Value), Fr h₀ L h' (fun y => if y = "val" then some (.bytes (apD x ++ b.toList).toArray u) else m' y) → Q .next { s with heap := h', toks := tk })
    (hE : PassesOwn (model PySem.Challenge.rw_wa0029_01.row.prog w) A (envOf "Int2AP" (scopeAt 1) L 21 (.ref 20)) E) :
    wpAny (model PySem.Challenge.rw_wa0029_01.row.prog w) A (exec (stm 1 3) (envOf "Int2AP" (scopeAt 1) L 21 (.ref 20))) Q E s := by
  subst hk
  obtain ⟨ah, ad, af, ag, au⟩ := A
  subst hh
  have KX : (hd.heap_39 w.params).In h₀ := X.K
  revert KX
  k_fill
  intro KX
  have T := X.T
  refine While_inv (fun n m news => ∃ (y : Nat) (c : Array UInt8) (u v z : Tok), n = y ∧ m "num" = some (.int y u) ∧ m "val" = some (.bytes c v) ∧ m "AP" = some (.bytes AP z) ∧ apD x ++ b.toList = apD y ++ c.toList) F News.nil ⟨x, b, tx, tb, ta, rfl, h1, h2, h3, rfl⟩ ?_ hE
  rintro n m₁ news₁ h₁ tk₁ F₁ N₁ ⟨y, c, u, v, z, rfl, g1, g2, g3, g4⟩
  rw [canon3 g1 g2 g3] at F₁
  by_cases hy : n = 0
  · have hy' : ((n : Int) != 0) = false := by subst hy; rfl
    k_steps
    subst hy
    have F₂ := F₁
    rw [← canon3 g1 g2 g3] at F₂
    refine hQ h₁ tk₁ v m₁ ?_
    have e : apD x ++ b.toList = c.toList := by rw [g4]; simp [apD]
    rw [e]
    have e2 : (fun y => if y = Str.ofString "val" then some (Value.bytes c.toList.toArray v) else m₁ y) = m₁ := by
      funext y
      by_cases hy : y = Str.ofString "val"
      · subst hy; simp [g2]
      · simp [hy]
    rw [e2]
    exact F₂
  · have hy' : ((n : Int) != 0) = true := by simpa using hy
    have hz : (#[UInt8.ofNat (65 + n % 16)] : Array UInt8).size + c.size ≤ 16777216 := by
      have h := congrArg List.length g4
      have : 0 < (apD n).length := by rw [apD_pos (by omega)]; simp
      simp only [List.length_append, Array.length_toList] at h
      show 1 + c.size ≤ _
      omega
    have e2 : ((n : Int).fdiv 16) = ((n / 16 : Nat) : Int) := by rw [Int.fdiv_eq_ediv_of_nonneg _ (by decide)]; rfl
    have e3 : apD x ++ b.toList = apD (n / 16) ++ (#[UInt8.ofNat (65 + n % 16)] ++ c).toList := by
      rw [g4, apD_pos (by omega)]
      simp
    k_steps
    refine WhileStep.intro (n' := n / 16) (by assumption) (by assumption) (by omega) ?_
    exact ⟨n / 16, #[UInt8.ofNat (65 + n % 16)] ++ c, _, _, _, rfl, congrArg (fun k => some (Value.int k _)) e2, rfl, rfl, e3⟩
theorem absNat (n : Nat) : (if (n : Int) < 0 then -(n : Int) else (n : Int)) = n := if_neg (by omega)
local macro_rules | `(tactic| walk_at "exec While") => `(tactic| (refine ap_loop (by assumption) (by rfl) (by with_reducible assumption) (by rfl) (absNat _) (by rfl) (by rfl) (by assumption) ?_ (by passes_own); intro _ _ _ _ _))
theorem ap_spec {w : World} {mean : ExcName → Option Value} {mg mb : Str → Option Value} {A : Around} {E : Value → Shared → Prop} {s : Shared} (X : Facts w mean mg mb s.heap) (hh : A.handled = none) (hroom : A.depth + 5 < recursionLimit) (n : Nat) (hn : (apD n).length + 0 ≤ 1000) (t : Tok) :
    wpAny (model PySem.Challenge.rw_wa0029_01.row.prog w) A (call (.ref 21) [.int n t]) (fun v s' => (∃ u, v = .bytes (apD n).toArray u) ∧ Keeps s s') E s := by
  obtain ⟨ah, ad, af, ag, au⟩ := A
  subst hh
  have KX : (hd.heap_39 w.params).In s.heap := X.K
  revert KX
  k_fill
  intro KX
  have T := X.T
  refine wpAny_call ?_
  refine call_plain_ret (binds := [(Str.ofString "num", .int n t)]) (by omega) (KX 21 _ (by k_is)) (by rfl) T.nolimit (codeRec_of KX (by k_is)) (by rfl) (locs (by rfl)) (fun h₁ F => ?_)
  k_steps
  exact congrArg (fun l => Value.bytes (List.toArray l) _) (List.append_nil (apD n))
end
end Mine
open PySem PySem.W PyProof.Rows PySem.Calls
namespace Mine
local macro_rules | `(tactic| walk_at "mine0") => `(tactic| fail)
local macro_rules | `(tactic| walk_at "mine1") => `(tactic| fail)
local macro_rules | `(tactic| walk_at "mine2") => `(tactic| fail)
local macro_rules | `(tactic| walk_at "mine3") => `(tactic| fail)
local macro_rules | `(tactic| walk_at "mine4") => `(tactic| fail)
local macro_rules | `(tactic| walk_at "mine5") => `(tactic| fail)
local macro_rules | `(tactic| walk_at "mine6") => `(tactic| fail)
local macro_rules | `(tactic| walk_at "mine7") => `(tactic| fail)
local macro_rules | `(tactic| walk_at "mine8") => `(tactic| fail)
local macro_rules | `(tactic| walk_at "mine9") => `(tactic| fail)
local macro_rules | `(tactic| walk_at "mine10") => `(tactic| fail)
local macro_rules | `(tactic| walk_at "mine11") => `(tactic| fail)
local macro_rules | `(tactic| walk_at "mine12") => `(tactic| fail)
local macro_rules | `(tactic| walk_at "mine13") => `(tactic| fail)
local macro_rules | `(tactic| walk_at "mine14") => `(tactic| fail)
noncomputable def plc : List Nat → Nat → List Nat
  | [], _ => []
  | c :: r, i => if c = 39 then i :: plc r (i + 1) else plc r (i + 1)
theorem subAt_one (pre r : List Nat) (c : Nat) : PySem.Builtin.Str.subAt ⟨(pre ++ c :: r).toArray⟩ ⟨#[39]⟩ pre.length = decide (c = 39) := by
  unfold PySem.Builtin.Str.subAt
  have h : (pre ++ c :: r).toArray.extract pre.length (pre.length + 1) = #[c] := by simp
  show ((pre ++ c :: r).toArray.extract pre.length (pre.length + 1) == #[39]) = _
  rw [h]
  by_cases hc : c = 39
  · subst hc; rfl
  · rw [decide_eq_false hc]
    simpa using hc
theorem occ_go (hi limit : Nat) : ∀ (l pre : List Nat) (found : Array Nat) (free : Nat), hi = pre.length + l.length → free ≤ pre.length →
    (forIn (List.range' pre.length (l.length + 1)) (found, free) (PySem.StrLaws.occBody ⟨(pre ++ l).toArray⟩ ⟨#[39]⟩ hi limit)).run.fst.toList = found.toList ++ (plc l pre.length).take (limit - found.size)
  | [], pre, found, free, hh, hf => by
    rw [show ([] : List Nat).length + 1 = 0 + 1 from rfl, List.range'_succ, List.range'_zero, List.forIn_cons]
    unfold PySem.StrLaws.occBody
    rw [if_neg (fun h => by have h2 : pre.length + 1 ≤ hi := h.1.2; simp at hh; omega)]
    show found.toList = _
    simp [plc]
  | c :: l, pre, found, free, hh, hf => by
    rw [show (c :: l).length + 1 = (l.length + 1) + 1 from rfl, List.range'_succ, List.forIn_cons]
    have e : pre ++ c :: l = (pre ++ [c]) ++ l := by simp
    have e1 : pre.length + 1 = (pre ++ [c]).length := by simp
    have hz : hi = (pre ++ [c]).length + l.length := by simp only [List.length_cons, List.length_append, List.length_nil] at hh ⊢; omega
    have step : ∀ st : Array Nat × Nat, st.2 ≤ (pre ++ [c]).length → (forIn (List.range' (pre.length + 1) (l.length + 1)) st (PySem.StrLaws.occBody ⟨(pre ++ c :: l).toArray⟩ ⟨#[39]⟩ hi limit)).run.fst.toList = st.1.toList ++ (plc l (pre.length + 1)).take (limit - st.1.size) := by
      intro st hst
      have := occ_go hi limit l (pre ++ [c]) st.1 st.2 hz hst
      rw [← e, ← e1] at this
      exact this
    unfold PySem.StrLaws.occBody
    by_cases hc : c = 39
    · by_cases hl : found.size < limit
      · rw [if_pos ⟨⟨⟨hl, hf⟩, by show pre.length + 1 ≤ hi; simp only [List.length_append, List.length_cons, List.length_nil] at hz; omega⟩, by rw [subAt_one]; exact decide_eq_true hc⟩]
        refine (step (found.push pre.length, pre.length + 1) (by simp)).trans ?_
        simp only [plc, if_pos hc, Array.toList_push, Array.size_push]
        rw [show limit - found.size = (limit - (found.size + 1)) + 1 by omega, List.take_succ_cons]
        simp
      · rw [if_neg (fun h => hl h.1.1.1)]
        refine (step (found, free) (by simp; omega)).trans ?_
        rw [show limit - found.size = 0 by omega]
        simp
    · rw [if_neg (fun h => hc (by have h2 := h.2; rw [subAt_one] at h2; exact of_decide_eq_true h2))]
      refine (step (found, free) (by simp; omega)).trans ?_
      simp only [plc, if_neg hc]
theorem occ_plc (l : List Nat) (limit : Nat) : PySem.Builtin.Str.occurrences ⟨l.toArray⟩ ⟨#[39]⟩ 0 (Str.length ⟨l.toArray⟩) limit = (plc l 0).take limit := by
  rw [PySem.StrLaws.occ_eq]
  have := occ_go l.length limit l [] #[] 0 (by simp) (Nat.le_refl _)
  exact this.trans (by simp)
theorem plc_none : ∀ (l : List Nat) (i : Nat), (∀ c ∈ l, c ≠ 39) → plc l i = []
  | [], _, _ => rfl
  | c :: r, i, h => by
    rw [plc, if_neg (h c (.head _))]
    exact plc_none r (i + 1) fun x hx => h x (.tail _ hx)
theorem plc_app : ∀ (a b : List Nat) (i : Nat), plc (a ++ b) i = plc a i ++ plc b (i + a.length)
  | [], b, i => rfl
  | c :: r, b, i => by
    have := plc_app r b (i + 1)
    rw [List.cons_append, plc, plc, this]
    have e : i + 1 + r.length = i + (c :: r).length := by simp; omega
    rw [e]
    by_cases hc : c = 39 <;> simp [hc]
noncomputable def parted (a b c : List Nat) : List Nat := a ++ 39 :: (b ++ 39 :: c)
theorem kind39 (x : Str) : ¬ (PySem.Builtin.Str.strKind x < PySem.Builtin.Str.strKind ⟨#[39]⟩) := by
  have : PySem.Builtin.Str.strKind ⟨#[39]⟩ = 1 := by decide +kernel
  rw [this]
  unfold PySem.Builtin.Str.strKind
  split
  · omega
  · split <;> omega
theorem split_parted (a b c : List Nat) (ha : ∀ x ∈ a, x ≠ 39) (hb : ∀ x ∈ b, x ≠ 39) (hc : ∀ x ∈ c, x ≠ 39) :
    Txt.splitMax ⟨(parted a b c).toArray⟩ ⟨#[39]⟩ 2 = [⟨a.toArray⟩, ⟨b.toArray⟩, ⟨c.toArray⟩] := by
  have hp : plc (parted a b c) 0 = [a.length, a.length + 1 + b.length] := by
    unfold parted
    rw [plc_app, plc_none a _ ha, plc, if_pos rfl, plc_app, plc_none b _ hb, plc, if_pos rfl, plc_none c _ hc]
    simp
  unfold Txt.splitMax
  rw [if_neg (by
    rw [Bool.or_eq_true, decide_eq_true_eq, decide_eq_true_eq]
    rintro (h | h)
    · have h2 : (parted a b c).length < 1 := h
      simp [parted] at h2
    · exact kind39 _ h), show PySem.limitOf (Str.mk (parted a b c).toArray) 2 = 2 from rfl, occ_plc, hp]
  rw [if_neg (by simp)]
  show ([(0, a.length), (a.length + 1, a.length + 1 + b.length), (a.length + 1 + b.length + 1, (parted a b c).length)].map fun (p : Nat × Nat) => PySem.Builtin.Str.strSub ⟨(parted a b c).toArray⟩ p.1 p.2) = _
  simp only [List.map_cons, List.map_nil, PySem.Builtin.Str.strSub]
  have e1 : (parted a b c).toArray.extract 0 a.length = a.toArray := by simp [parted]
  have e2 : (parted a b c).toArray.extract (a.length + 1) (a.length + 1 + b.length) = b.toArray := by
    simp only [parted, List.extract_toArray, List.extract_eq_take_drop]
    congr 1
    rw [← List.drop_drop, List.drop_left, show a.length + 1 + b.length - (a.length + 1) = b.length by omega]
    simp
  have e3 : (parted a b c).toArray.extract (a.length + 1 + b.length + 1) (parted a b c).length = c.toArray := by
    have hl : (parted a b c).length = a.length + 1 + b.length + 1 + c.length := by simp [parted]; omega
    rw [hl]
    simp only [parted, List.extract_toArray, List.extract_eq_take_drop]
    congr 1
    rw [show a.length + 1 + b.length + 1 = a.length + (1 + (b.length + 1)) by omega, ← List.drop_drop, List.drop_left, ← List.drop_drop]
    rw [show List.drop 1 (39 :: (b ++ 39 :: c)) = b ++ 39 :: c from rfl, ← List.drop_drop, List.drop_left]
    simp
  rw [e1, e2, e3]
end Mine
open PySem PySem.W PyProof.Rows PySem.Calls
namespace Mine
set_option maxHeartbeats 2000000
theorem values3 {l : List (Str × Tok)} {x y z : Str} (e : l.map (·.1) = [x, y, z]) : ∃ u₁ u₂ u₃, l = [(x, u₁), (y, u₂), (z, u₃)] := by
  obtain ⟨u₁, l1, rfl, e1⟩ := KSpl.cons_of e
  obtain ⟨u₂, l2, rfl, e2⟩ := KSpl.cons_of e1
  obtain ⟨u₃, l3, rfl, e3⟩ := KSpl.cons_of e2
  obtain rfl := KSpl.nil_of e3
  exact ⟨u₁, u₂, u₃, rfl⟩
theorem split3 {prog : Program} {w : World} {A : Around} {E : Value → Shared → Prop} {s : Shared} {h₀ : Heap} {L : Addr} {m : Str → Option Value} {a b c : List Nat} {t u v : Tok} {Q : Value → Shared → Prop} (hF : Fr h₀ L s.heap m)
    (ha : ∀ x ∈ a, x ≠ 39) (hb : ∀ x ∈ b, x ≠ 39) (hc : ∀ x ∈ c, x ≠ 39) (hsz : (parted a b c).length ≤ 1000)
    (h : ∀ D u₁ u₂ u₃ h' tk, Fr h₀ L h' m → News h₀ L h' [(D, { cls := .type "list", data := .seq ([.str ⟨a.toArray⟩ u₁, .str ⟨b.toArray⟩ u₂, .str ⟨c.toArray⟩ u₃] : List Value).toArray })] → Q (.ref D) { s with heap := h', toks := tk }) :
    wpAny (model prog w) A (call (.builtin "str.split") [.str ⟨(parted a b c).toArray⟩ t, .str (Str.ofString "'") u, .int 2 v]) Q E s := by
  refine splitN2A (y := Str.ofString "'") hF News.nil (by rfl) (by decide) ?_ (by show (parted a b c).length + 2 ≤ 16777216; omega)
  intro l h' tk e hs hz hl F N
  have e2 : Str.ofString "'" = ⟨#[39]⟩ := by rfl
  rw [e2, split_parted a b c ha hb hc] at e
  obtain ⟨u₁, u₂, u₃, rfl⟩ := values3 e
  exact h _ u₁ u₂ u₃ h' tk F N
section
local macro_rules | `(tactic| walk_at "Keeps") => `(tactic| exact ⟨_, _, rfl, Fr.keep (by assumption)⟩)
local macro_rules | `(tactic| walk_at "call builtin:str.split") => `(tactic| (k_here; refine split3 (by with_reducible assumption) (by assumption) (by assumption) (by assumption) (by assumption) ?_; intro _ _ _ _ _ _ _ _))
local macro_rules | `(tactic| walk_at "Exists") => `(tactic| exact ⟨_, _, _, _, rfl, News.get (by assumption) (.head _), News.fresh (by assumption) (.head _)⟩)
theorem dec_spec {w : World} {mean : ExcName → Option Value} {mg mb : Str → Option Value} {A : Around} {E : Value → Shared → Prop} {s : Shared} (X : Facts w mean mg mb s.heap) (hh : A.handled = none) (hroom : A.depth + 5 < recursionLimit) (a b c : List Nat) (ha : ∀ x ∈ a, x ≠ 39) (hb : ∀ x ∈ b, x ≠ 39) (hc : ∀ x ∈ c, x ≠ 39) (hsz : (parted a b c).length ≤ 1000) (t : Tok) :
    wpAny (model PySem.Challenge.rw_wa0029_01.row.prog w) A (call (.ref 28) [.str ⟨(parted a b c).toArray⟩ t]) (fun v s' => (∃ l u₁ u₂ u₃, v = .ref l ∧ s'.heap.get? l = some { cls := .type "list", data := .seq #[.str ⟨a.toArray⟩ u₁, .str ⟨b.toArray⟩ u₂, .str ⟨c.toArray⟩ u₃] } ∧ s.heap.get? l = none) ∧ Keeps s s') E s := by
  obtain ⟨ah, ad, af, ag, au⟩ := A
  subst hh
  have KX : (hd.heap_39 w.params).In s.heap := X.K
  revert KX
  k_fill
  intro KX
  have T := X.T
  refine wpAny_call ?_
  refine call_plain_ret (binds := [(Str.ofString "s", .str ⟨(parted a b c).toArray⟩ t)]) (by omega) (KX 28 _ (by k_is)) (by rfl) T.nolimit (codeRec_of KX (by k_is)) (by rfl) (locs (by rfl)) (fun h₁ F => ?_)
  k_steps
end
end Mine
open PySem PySem.W PyProof.Rows PySem.Calls
namespace Mine
local macro_rules | `(tactic| walk_at "mine0") => `(tactic| fail)
local macro_rules | `(tactic| walk_at "mine1") => `(tactic| fail)
local macro_rules | `(tactic| walk_at "mine2") => `(tactic| fail)
local macro_rules | `(tactic| walk_at "mine3") => `(tactic| fail)
local macro_rules | `(tactic| walk_at "mine4") => `(tactic| fail)
local macro_rules | `(tactic| walk_at "mine5") => `(tactic| fail)
local macro_rules | `(tactic| walk_at "mine6") => `(tactic| fail)
local macro_rules | `(tactic| walk_at "mine7") => `(tactic| fail)
local macro_rules | `(tactic| walk_at "mine8") => `(tactic| fail)
local macro_rules | `(tactic| walk_at "mine9") => `(tactic| fail)
local macro_rules | `(tactic| walk_at "mine10") => `(tactic| fail)
local macro_rules | `(tactic| walk_at "mine11") => `(tactic| fail)
local macro_rules | `(tactic| walk_at "mine12") => `(tactic| fail)
local macro_rules | `(tactic| walk_at "mine13") => `(tactic| fail)
local macro_rules | `(tactic| walk_at "mine14") => `(tactic| fail)
set_option maxHeartbeats 2000000
noncomputable def Dressed (p : Nat) (d : List Nat) : Prop := d.length ≤ 2 ∧ ∃ e, d.filter (fun c : Nat => !b1 c) = [e] ∧ signOk e = true ∧ low e = 97 + p
noncomputable def DressedV (p : Nat) (v : Value) : Prop := ∃ d u, v = .str ⟨d.toArray⟩ u ∧ Dressed p d
noncomputable def plainSign (p n : Nat) : Prop := b1 n = false ∧ signOk n = true ∧ low n = 97 + p
theorem plainSigns {p : Nat} (h : p < 16) : plainSign p (65 + p) ∧ plainSign p (97 + p) ∧ plainSign p (119808 + p) := by
  have h0 : ∀ p : Fin 16, (b1 ((65 + p.val : Nat) : Int) = false ∧ signOk (65 + p.val) = true ∧ low (65 + p.val) = 97 + p.val) ∧ (b1 ((97 + p.val : Nat) : Int) = false ∧ signOk (97 + p.val) = true ∧ low (97 + p.val) = 97 + p.val) ∧ (b1 ((119808 + p.val : Nat) : Int) = false ∧ signOk (119808 + p.val) = true ∧ low (119808 + p.val) = 97 + p.val) := by decide +kernel
  exact h0 ⟨p, h⟩
theorem dv1 {p n : Nat} {t : Tok} (h : plainSign p n) : DressedV p (.str ⟨#[n]⟩ t) := by
  refine ⟨[n], t, rfl, by simp, n, ?_, h.2.1, h.2.2⟩
  rw [List.filter_cons_of_pos (by rw [h.1]; rfl)]
  rfl
theorem dv0 {p : Nat} {t : Tok} (h : p < 16) : DressedV p (.str ⟨#[65 + p]⟩ t) := dv1 (plainSigns h).1
theorem dvs {p : Nat} {t : Tok} (h : p < 16) : DressedV p (.str ⟨#[(97 + (((65 + p : Nat) : Int) - 65)).toNat]⟩ t) := by
  rw [show (97 + (((65 + p : Nat) : Int) - 65)).toNat = 97 + p by omega]
  exact dv1 (plainSigns h).2.1
theorem dvb {p : Nat} {t : Tok} (h : p < 16) : DressedV p (.str ⟨#[(119808 + (((65 + p : Nat) : Int) - 65)).toNat]⟩ t) := by
  rw [show (119808 + (((65 + p : Nat) : Int) - 65)).toNat = 119808 + p by omega]
  exact dv1 (plainSigns h).2.2
theorem dv3 {p : Nat} {t : Tok} {y : Str} (q : Nat) (h : p < 16) (hy : y = ⟨#[q]⟩) (hq : b1 q = true) : DressedV p (.str (⟨#[65 + p]⟩ ++ y) t) := by
  subst hy
  have hs := (plainSigns h).1
  refine ⟨[65 + p, q], t, rfl, by simp, 65 + p, ?_, hs.2.1, hs.2.2⟩
  rw [List.filter_cons_of_pos (by rw [hs.1]; rfl), List.filter_cons_of_neg (by rw [hq]; simp)]
  rfl
section
local macro_rules | `(tactic| walk_at "DressedV") => `(tactic| first | exact dv0 (by assumption) | exact dvs (by assumption) | exact dvb (by assumption) | exact dv3 173 (by assumption) (by rfl) (by decide) | exact dv3 8203 (by assumption) (by rfl) (by decide) | exact dv3 65279 (by assumption) (by rfl) (by decide) | exact dv3 65029 (by assumption) (by rfl) (by decide))
local macro_rules | `(tactic| walk_at "Keeps") => `(tactic| exact ⟨_, _, rfl, Fr.keep (by assumption)⟩)
theorem dress_spec {w : World} {mean : ExcName → Option Value} {mg mb : Str → Option Value} {A : Around} {E : Value → Shared → Prop} {s : Shared} (X : Facts w mean mg mb s.heap) (hh : A.handled = none) (hroom : A.depth + 5 < recursionLimit) (p : Nat) (hp : p < 16) (k : Int) (t u : Tok) :
    wpAny (model PySem.Challenge.rw_wa0029_01.row.prog w) A (call (.ref 106) [.str ⟨#[65 + p]⟩ t, .int k u]) (fun v s' => DressedV p v ∧ Keeps s s') E s := by
  obtain ⟨ah, ad, af, ag, au⟩ := A
  subst hh
  have KX : (hd.heap_39 w.params).In s.heap := X.K
  revert KX
  k_fill
  intro KX
  have T := X.T
  refine wpAny_call ?_
  refine call_plain_ret (binds := [(Str.ofString "letter", .str ⟨#[65 + p]⟩ t), (Str.ofString "number", .int k u)]) (by omega) (KX 106 _ (by k_is)) (by rfl) T.nolimit (codeRec_of KX (by k_is)) (by rfl) (locs (by rfl)) (fun h₁ F => ?_)
  have N : News s.heap s.heap.objs.size h₁ [] := News.nil
  k_steps
end
end Mine
open PySem PySem.W PyProof.Rows PySem.Calls
namespace Mine
set_option maxHeartbeats 8000000
noncomputable abbrev env1 (h₀ : Heap) (fa : Addr) (cd : Value) : Env := envOfC "law" (scopeAt 14) h₀.objs.size fa cd
section
variable {w : World} {mean : ExcName → Option Value} {mg mb : Str → Option Value} {s : Shared} {fa : Addr} {cd : Value} {h₀ : Heap} {a D : Addr} {vs : List Value} {NS : List Int} {ob : Obj} {Q : Flow → Shared → Prop} {m : Str → Option Value}
noncomputable def primes : List Nat := [7, 11, 19, 23, 47, 59, 67, 71, 79, 83]
theorem pickPrime (x : Int) : ∃ p : Nat, p ∈ primes ∧ ([7, 11, 19, 23, 47, 59, 67, 71, 79, 83] : List Int).getD (x.fmod 10).toNat 0 = (p : Int) := by
  have h : ∀ j : Fin 10, ∃ p : Nat, p ∈ primes ∧ ([7, 11, 19, 23, 47, 59, 67, 71, 79, 83] : List Int).getD j.val 0 = (p : Int) := by
    intro j
    refine ⟨primes.getD j.val 0, ?_, ?_⟩ <;> revert j <;> decide
  have h1 : 0 ≤ x.fmod 10 := Int.fmod_nonneg_of_pos _ (by decide)
  have h2 : x.fmod 10 < 10 := Int.fmod_lt_of_pos _ (by decide)
  exact h ⟨(x.fmod 10).toNat, by omega⟩
theorem primes_le {p : Nat} (h : p ∈ primes) : 7 ≤ p ∧ p ≤ 83 := by
  have : ∀ q ∈ primes, 7 ≤ q ∧ q ≤ 83 := by decide
  exact this p h
theorem law_1 
    (X : Facts w mean mg mb h₀) (hI : IntsAre vs NS) (hN : 7 ≤ NS.length)
    (F : Fr h₀ h₀.objs.size s.heap (fun y => if y = "numbers" then some (.ref D) else m y)) (N : News h₀ h₀.objs.size s.heap [(D, listOf vs.toArray 0), (h₀.objs.size + 1, ob)]) (X0 : ob.data = .cell none)
    (hQ : ∀ h' tk (p : Nat) u ob', p ∈ primes → Fr h₀ h₀.objs.size h' (fun y => if y = "numbers" then some (.ref D) else m y) → News h₀ h₀.objs.size h' [(D, listOf vs.toArray 0), (h₀.objs.size + 1, ob')] → ob'.data = .cell (some (.int p u)) → Q .next { s with heap := h', toks := tk }) :
    wpAny (model PySem.Challenge.rw_wa0029_01.row.prog w) (callerA.deeper (env1 h₀ fa cd)) (exec (stm 14 1) (env1 h₀ fa cd)) Q (fun _ _ => False) s := by
  have KX : (hd.heap_39 w.params).In h₀ := X.K
  revert KX
  k_fill
  intro KX
  have T := X.T
  have hst : stm 14 1 = stm 14 1 := rfl
  conv at hst => { rhs; whnf }
  rw [hst]
  clear hst
  k_steps
  (with_reducible rename Fr _ _ _ _ => F')
  (with_reducible rename News _ _ _ _ => N')
  (rename _ = Data.cell (some _) => d')
  obtain ⟨p, hp, e⟩ := pickPrime (NS.getD (Int.toNat 0) 0)
  rw [e] at d'
  exact hQ _ _ p _ _ hp F' (fun q hq => N' q (.tail _ hq)) d'
theorem law_2 {p : Nat} {u : Tok}
    (X : Facts w mean mg mb h₀) (hI : IntsAre vs NS) (hN : 7 ≤ NS.length) (hp : 7 ≤ p ∧ p ≤ 83)
    (F : Fr h₀ h₀.objs.size s.heap (fun y => if y = "numbers" then some (.ref D) else m y)) (N : News h₀ h₀.objs.size s.heap [(D, listOf vs.toArray 0), (h₀.objs.size + 1, ob)]) (X0 : ob.data = .cell (some (.int p u)))
    (hQ : ∀ h' tk (o : Nat) u, 1 ≤ o → o < p → Fr h₀ h₀.objs.size h' (fun y => if y = "over" then some (.int o u) else if y = "numbers" then some (.ref D) else m y) → News h₀ h₀.objs.size h' [(D, listOf vs.toArray 0), (h₀.objs.size + 1, ob)] → Q .next { s with heap := h', toks := tk }) :
    wpAny (model PySem.Challenge.rw_wa0029_01.row.prog w) (callerA.deeper (env1 h₀ fa cd)) (exec (stm 14 2) (env1 h₀ fa cd)) Q (fun _ _ => False) s := by
  have KX : (hd.heap_39 w.params).In h₀ := X.K
  revert KX
  k_fill
  intro KX
  have T := X.T
  have hst : stm 14 2 = stm 14 2 := rfl
  conv at hst => { rhs; whnf }
  rw [hst]
  clear hst
  k_steps
  (with_reducible rename Fr _ _ _ _ => F')
  (with_reducible rename News _ _ _ _ => N')
  have h1 : 0 ≤ (NS.getD (Int.toNat 1) 0).fmod ((p : Int) - 1) := Int.fmod_nonneg_of_pos _ (by omega)
  have h2 : (NS.getD (Int.toNat 1) 0).fmod ((p : Int) - 1) < (p : Int) - 1 := Int.fmod_lt_of_pos _ (by omega)
  obtain ⟨o, e⟩ : ∃ o : Nat, (NS.getD (Int.toNat 1) 0).fmod ((p : Int) - 1) + 1 = (o : Int) := ⟨((NS.getD (Int.toNat 1) 0).fmod ((p : Int) - 1) + 1).toNat, by omega⟩
  rw [e] at F'
  exact hQ _ _ o _ (by omega) (by omega) F' N'
theorem law_3 {o : Value}
    (X : Facts w mean mg mb h₀) (hI : IntsAre vs NS) (hN : 7 ≤ NS.length) 
    (F : Fr h₀ h₀.objs.size s.heap (fun y => if y = "over" then some o else if y = "numbers" then some (.ref D) else m y)) (N : News h₀ h₀.objs.size s.heap [(D, listOf vs.toArray 0), (h₀.objs.size + 1, ob)])
    (hQ : ∀ h' tk (W : Nat) u, 1 ≤ W → W ≤ 4095 → Fr h₀ h₀.objs.size h' (fun y => if y = "whole" then some (.int W u) else if y = "over" then some o else if y = "numbers" then some (.ref D) else m y) → News h₀ h₀.objs.size h' [(D, listOf vs.toArray 0), (h₀.objs.size + 1, ob)] → Q .next { s with heap := h', toks := tk }) :
    wpAny (model PySem.Challenge.rw_wa0029_01.row.prog w) (callerA.deeper (env1 h₀ fa cd)) (exec (stm 14 3) (env1 h₀ fa cd)) Q (fun _ _ => False) s := by
  have KX : (hd.heap_39 w.params).In h₀ := X.K
  revert KX
  k_fill
  intro KX
  have T := X.T
  have hst : stm 14 3 = stm 14 3 := rfl
  conv at hst => { rhs; whnf }
  rw [hst]
  clear hst
  k_steps
  (with_reducible rename Fr _ _ _ _ => F')
  (with_reducible rename News _ _ _ _ => N')
  have h1 : 0 ≤ (NS.getD (Int.toNat 2) 0).fmod 4095 := Int.fmod_nonneg_of_pos _ (by omega)
  have h2 : (NS.getD (Int.toNat 2) 0).fmod 4095 < 4095 := Int.fmod_lt_of_pos _ (by omega)
  obtain ⟨o, e⟩ : ∃ o : Nat, (NS.getD (Int.toNat 2) 0).fmod 4095 + 1 = (o : Int) := ⟨((NS.getD (Int.toNat 2) 0).fmod 4095 + 1).toNat, by omega⟩
  rw [e] at F'
  exact hQ _ _ o _ (by omega) (by omega) F' N'
theorem law_4 {p : Nat} {u : Tok}
    (X : Facts w mean mg mb h₀)
    (F : Fr h₀ h₀.objs.size s.heap m) (N : News h₀ h₀.objs.size s.heap [(D, listOf vs.toArray 0), (h₀.objs.size + 1, ob)]) (X0 : ob.data = .cell (some (.int p u)))
    (hQ : ∀ h' tk u, Fr h₀ h₀.objs.size h' (fun y => if y = "half" then some (.int ((p / 2 : Nat) : Int) u) else m y) → News h₀ h₀.objs.size h' [(D, listOf vs.toArray 0), (h₀.objs.size + 1, ob)] → Q .next { s with heap := h', toks := tk }) :
    wpAny (model PySem.Challenge.rw_wa0029_01.row.prog w) (callerA.deeper (env1 h₀ fa cd)) (exec (stm 14 4) (env1 h₀ fa cd)) Q (fun _ _ => False) s := by
  have KX : (hd.heap_39 w.params).In h₀ := X.K
  revert KX
  k_fill
  intro KX
  have T := X.T
  have hst : stm 14 4 = stm 14 4 := rfl
  conv at hst => { rhs; whnf }
  rw [hst]
  clear hst
  k_steps
  (with_reducible rename Fr _ _ _ _ => F')
  (with_reducible rename News _ _ _ _ => N')
  rw [show (p : Int).fdiv 2 = ((p / 2 : Nat) : Int) by rw [Int.fdiv_eq_ediv_of_nonneg _ (by decide)]; rfl] at F'
  exact hQ _ _ _ F' N'
end
end Mine
open PySem PySem.W PyProof.Rows PySem.Calls
namespace Mine
local macro_rules | `(tactic| walk_at "mine0") => `(tactic| fail)
local macro_rules | `(tactic| walk_at "mine1") => `(tactic| fail)
local macro_rules | `(tactic| walk_at "mine2") => `(tactic| fail)
local macro_rules | `(tactic| walk_at "mine3") => `(tactic| fail)
local macro_rules | `(tactic| walk_at "mine4") => `(tactic| fail)
local macro_rules | `(tactic| walk_at "mine5") => `(tactic| fail)
local macro_rules | `(tactic| walk_at "mine6") => `(tactic| fail)
local macro_rules | `(tactic| walk_at "mine7") => `(tactic| fail)
local macro_rules | `(tactic| walk_at "mine8") => `(tactic| fail)
local macro_rules | `(tactic| walk_at "mine9") => `(tactic| fail)
local macro_rules | `(tactic| walk_at "mine10") => `(tactic| fail)
local macro_rules | `(tactic| walk_at "mine11") => `(tactic| fail)
local macro_rules | `(tactic| walk_at "mine12") => `(tactic| fail)
local macro_rules | `(tactic| walk_at "mine13") => `(tactic| fail)
local macro_rules | `(tactic| walk_at "mine14") => `(tactic| fail)
open PySem.Builtin
noncomputable def utfOut (l : List UInt8) (k : Nat) : Array Nat := ((l.take k).map UInt8.toNat).toArray
theorem utf_go {S : Type} (l : List UInt8) (f : Nat → Nat × Array Nat × S → Sem (ForInStep (Nat × Array Nat × S))) (hf : ∀ x k st, k < l.length → f x (k, utfOut l k, st) = pure (.yield (k + 1, utfOut l (k + 1), st))) :
    ∀ (n i k : Nat) (st : S), k + n = l.length → forIn (List.range' i n) (k, utfOut l k, st) f = pure (l.length, utfOut l l.length, st)
  | 0, i, k, st, h => by
    have : k = l.length := by omega
    subst this
    rw [List.range'_zero, List.forIn_nil]
  | n + 1, i, k, st, h => by
    rw [List.range'_succ, List.forIn_cons, hf i k st (by omega), pure_bind]
    exact utf_go l f hf n (i + 1) (k + 1) st (by omega)
theorem utf_at (l : List UInt8) (hl : ∀ x ∈ l, x < 128) (k : Nat) (hk : k < l.length) : _codecs.utf8Decoder.find true l.toArray k = .text [l[k].toNat] (k + 1) := by
  have h1 : l.toArray.getD k 0 = l[k] := by simp [hk]
  have h2 : l[k].toNat < 128 := by
    have := hl _ (List.getElem_mem hk)
    exact this
  show (match Bytes.utf8At l.toArray k with
    | (.char c, nx) => _codecs.Found.char c nx
    | (.bad _ stop reason, _) => _) = _
  have h3 : Bytes.utf8At l.toArray k = (.char l[k].toNat, k + 1) := by
    unfold Bytes.utf8At
    simp only [h1]
    rw [if_pos h2]
  rw [h3]
  rfl
theorem utf_run (id : String) (l : List UInt8) (hl : ∀ x ∈ l, x < 128) (hz : l.length ≤ 1000) : _codecs.runDecoder id _codecs.utf8Decoder none true l.toArray 0 [] = pure ((l.map UInt8.toNat).toArray, l.length) := by
  unfold _codecs.runDecoder
  simp
  have e0 : (#[] : Array Nat) = utfOut l 0 := rfl
  rw [e0, utf_go l]
  · simp [utfOut]
  · intro x k st hk
    have hs : (utfOut l k).size = k := by simp [utfOut]; omega
    have h1 : ¬ sizeLine < k := by rw [sizeLine_eq]; omega
    dsimp only
    rw [hs, if_neg h1, if_neg (by omega), utf_at l hl k hk]
    dsimp only
    have : utfOut l k ++ #[l[k].toNat] = utfOut l (k + 1) := by
      unfold utfOut
      rw [List.take_succ_eq_append_getElem hk, List.map_append, List.append_toArray]
      rfl
    rw [← this]
  · omega
end Mine
open PySem PySem.W PyProof.Rows PySem.Calls
namespace Mine
set_option maxHeartbeats 8000000
section
variable {w : World} {mean : ExcName → Option Value} {mg mb : Str → Option Value} {s : Shared} {fa : Addr} {cd : Value} {h₀ : Heap} {a D : Addr} {vs : List Value} {NS : List Int} {ob : Obj} {Q : Flow → Shared → Prop} {m : Str → Option Value}
noncomputable def bigN (W p o : Nat) : Nat := (W * p + o) * 16 ^ (p / 2 + 3) / p
theorem apD_len : ∀ (k n : Nat), n < 16 ^ k → (apD n).length ≤ k
  | 0, n, h => by
    have : n = 0 := by simpa using h
    subst this; simp [apD]
  | k + 1, n, h => by
    by_cases h0 : n = 0
    · subst h0; simp [apD]
    · rw [apD_pos (by omega), List.length_append]
      have := apD_len k (n / 16) (by rw [Nat.pow_succ] at h; omega)
      simp only [List.length_cons, List.length_nil]
      omega
theorem bigN_lt {W p o : Nat} (hp : 7 ≤ p ∧ p ≤ 83) (hW : W ≤ 4095) (ho : o < p) : bigN W p o < 16 ^ (p / 2 + 6) := by
  unfold bigN
  rw [Nat.div_lt_iff_lt_mul (by omega)]
  have h1 : W * p + o < 4096 * p := by
    have : W * p ≤ 4095 * p := Nat.mul_le_mul_right _ hW
    omega
  have e : 16 ^ (p / 2 + 6) = 4096 * 16 ^ (p / 2 + 3) := by
    rw [show p / 2 + 6 = 3 + (p / 2 + 3) by omega, Nat.pow_add]
  rw [e]
  calc (W * p + o) * 16 ^ (p / 2 + 3) < (4096 * p) * 16 ^ (p / 2 + 3) := Nat.mul_lt_mul_of_pos_right h1 (Nat.pow_pos (by decide))
    _ = 4096 * 16 ^ (p / 2 + 3) * p := by rw [Nat.mul_assoc, Nat.mul_comm p, ← Nat.mul_assoc]
theorem bigN_int {W p o : Nat} : (((W : Int) * (p : Int) + (o : Int)) * 16 ^ (((p / 2 : Nat) : Int) + 3).toNat).fdiv (p : Int) = ((bigN W p o : Nat) : Int) := by
  rw [Int.fdiv_eq_ediv_of_nonneg _ (by omega), show (((p / 2 : Nat) : Int) + 3).toNat = p / 2 + 3 by omega]
  unfold bigN
  simp
noncomputable def dg : Nat → List Nat
  | 0 => []
  | n + 1 => dg ((n + 1) / 16) ++ [(n + 1) % 16]
decreasing_by exact Nat.div_lt_self (Nat.succ_pos _) (by decide)
theorem dg_pos {n : Nat} (h : 0 < n) : dg n = dg (n / 16) ++ [n % 16] := by
  cases n with
  | zero => cases h
  | succ n => rw [dg]
theorem ap_dg : ∀ (k n : Nat), n < k → (apD n).map UInt8.toNat = (dg n).map (65 + ·) ∧ (∀ x ∈ apD n, x < 128) ∧ (∀ x ∈ dg n, x < 16)
  | 0, n, h => by omega
  | k + 1, n, h => by
    by_cases h0 : n = 0
    · subst h0; simp [apD, dg]
    · have ih := ap_dg k (n / 16) (by omega)
      rw [apD_pos (by omega), dg_pos (by omega)]
      have e : (UInt8.ofNat (65 + n % 16)).toNat = 65 + n % 16 := by
        show (65 + n % 16) % 256 = _
        omega
      refine ⟨?_, ?_, ?_⟩
      · rw [List.map_append, List.map_append, ih.1]
        simp only [List.map_cons, List.map_nil, e]
      · intro x hx
        rcases List.mem_append.mp hx with hx | hx
        · exact ih.2.1 x hx
        · rw [List.mem_singleton.mp hx]
          show (UInt8.ofNat (65 + n % 16)).toNat < 128
          rw [e]; omega
      · intro x hx
        rcases List.mem_append.mp hx with hx | hx
        · exact ih.2.2 x hx
        · rw [List.mem_singleton.mp hx]
          omega
theorem apD_ne {n : Nat} (h : 0 < n) : ∃ c cs, apD n = c :: cs := by
  rw [apD_pos h]
  cases apD (n / 16) with
  | nil => exact ⟨_, _, rfl⟩
  | cons c cs => exact ⟨_, _, rfl⟩
theorem decode_ap {prog : Program} {w : World} {A : Around} {E : Value → Shared → Prop} {s : Shared} {n : Nat} {t : Tok} {Q : Value → Shared → Prop} (hn : 0 < n) (hl : (apD n).length + 0 ≤ 1000) (h : ∀ t' k, Q (.str ⟨((dg n).map (65 + ·)).toArray⟩ t') { s with toks := k }) :
    wpAny (model prog w) A (call (.builtin "bytes.decode") [.bytes (apD n).toArray t]) Q E s := by
  obtain ⟨e1, e2, _⟩ := ap_dg _ n (Nat.lt_succ_self n)
  obtain ⟨c, cs, e⟩ := apD_ne hn
  rw [e] at e1 e2 hl ⊢
  refine KBd.decode (x := ⟨((dg n).map (65 + ·)).toArray⟩) (n := (c :: cs).length) (fun id => ?_) ?_ h
  · rw [utf_run id (c :: cs) e2 (by omega), e1]
  · rw [← e1]
    show ((c :: cs).map UInt8.toNat).toArray.size ≤ _
    simp only [List.size_toArray, List.length_map]
    omega
theorem room1 (e : Env) : (callerA.deeper e).depth + 5 < recursionLimit := by
  show 1 + claimMargin + 1 + 5 < recursionLimit
  decide
theorem ap_call {w : World} {mean : ExcName → Option Value} {mg mb : Str → Option Value} {A : Around} {E : Value → Shared → Prop} {s : Shared} {h₀ : Heap} {L : Addr} {Q : Value → Shared → Prop} {k : Int} {n : Nat} (X : Facts w mean mg mb h₀) (F : Fr h₀ L s.heap m) (N : News h₀ L s.heap [(D, listOf vs.toArray 0), (c, ob)]) (hk : k = n) (hh : A.handled = none) (hroom : A.depth + 5 < recursionLimit) (hn : (apD n).length + 0 ≤ 1000) (t : Tok)
    (hQ : ∀ h' tk u, Fr h₀ L h' m → News h₀ L h' [(D, listOf vs.toArray 0), (c, ob)] → Q (.bytes (apD n).toArray u) { s with heap := h', toks := tk }) :
    wpAny (model PySem.Challenge.rw_wa0029_01.row.prog w) A (call (.ref 21) [.int k t]) Q E s := by
  subst hk
  refine wpAny_mono (ap_spec (X.keeps F.keep) hh hroom n hn t) ?_ (fun _ _ h => h)
  rintro v s' ⟨⟨u, rfl⟩, h', tk, rfl, hk⟩
  exact hQ h' tk u (F.keeps hk) fun q hq => ⟨hk _ _ (N q hq).1, (N q hq).2⟩
local macro_rules | `(tactic| walk_at "binaryOp Pow int int") => `(tactic| (k_here; (with_reducible refine pow_int_small (by omega) (by omega) (by decide) ?_)))
local macro_rules | `(tactic| walk_at "call ref") => `(tactic| (k_here; refine ap_call (by assumption) (by with_reducible assumption) (by with_reducible assumption) bigN_int (by rfl) (room1 _) (by assumption) _ ?_; intro _ _ _ _ _))
local macro_rules | `(tactic| walk_at "call builtin:bytes.decode") => `(tactic| (k_here; refine decode_ap (by assumption) (by assumption) ?_; intro _ _))
theorem bigN_pos {W p o : Nat} (hp : 7 ≤ p ∧ p ≤ 83) (hW : 1 ≤ W) : 0 < bigN W p o := by
  unfold bigN
  refine Nat.div_pos ?_ (by omega)
  have h1 : 1 * p ≤ W * p := Nat.mul_le_mul_right _ hW
  have h2 : 1 ≤ 16 ^ (p / 2 + 3) := Nat.pow_pos (by decide)
  have h3 : (W * p + o) * 1 ≤ (W * p + o) * 16 ^ (p / 2 + 3) := Nat.mul_le_mul_left _ h2
  omega
theorem law_5 {p o W : Nat} {u u₁ u₂ u₃ : Tok}
    (X : Facts w mean mg mb h₀) (hp : 7 ≤ p ∧ p ≤ 83) (hW0 : 1 ≤ W) (hW : W ≤ 4095) (ho : o < p)
    (F : Fr h₀ h₀.objs.size s.heap (fun y => if y = "half" then some (.int ((p / 2 : Nat) : Int) u₁) else if y = "whole" then some (.int W u₂) else if y = "over" then some (.int o u₃) else m y)) (N : News h₀ h₀.objs.size s.heap [(D, listOf vs.toArray 0), (h₀.objs.size + 1, ob)]) (X0 : ob.data = .cell (some (.int p u)))
    (hQ : ∀ h' tk t, Fr h₀ h₀.objs.size h' (fun y => if y = "letters" then some (.str ⟨((dg (bigN W p o)).map (65 + ·)).toArray⟩ t) else if y = "half" then some (.int ((p / 2 : Nat) : Int) u₁) else if y = "whole" then some (.int W u₂) else if y = "over" then some (.int o u₃) else m y) → News h₀ h₀.objs.size h' [(D, listOf vs.toArray 0), (h₀.objs.size + 1, ob)] → Q .next { s with heap := h', toks := tk }) :
    wpAny (model PySem.Challenge.rw_wa0029_01.row.prog w) (callerA.deeper (env1 h₀ fa cd)) (exec (stm 14 5) (env1 h₀ fa cd)) Q (fun _ _ => False) s := by
  have KX : (hd.heap_39 w.params).In h₀ := X.K
  revert KX
  k_fill
  intro KX
  have T := X.T
  have hl : (apD (bigN W p o)).length + 0 ≤ 1000 := by
    have := apD_len _ _ (bigN_lt hp hW ho)
    omega
  have hpos : 0 < bigN W p o := bigN_pos hp hW0
  have hb : Builtin.Int.intBits ((W : Int) * (p : Int) + (o : Int)) ≤ 64 := by
    have h1 : W * p ≤ 4095 * 83 := Nat.mul_le_mul hW hp.2
    have h2 : ((W : Int) * (p : Int)) = ((W * p : Nat) : Int) := by simp
    rw [h2]
    exact PySem.intBits_le_64 (by omega) (by omega)
  have hst : stm 14 5 = stm 14 5 := rfl
  conv at hst => { rhs; whnf }
  rw [hst]
  clear hst
  k_steps
  (with_reducible rename Fr _ _ _ _ => F')
  (with_reducible rename News _ _ _ _ => N')
  exact hQ _ _ _ F' N'
end
end Mine
open PySem PySem.W PyProof.Rows PySem.Calls
namespace Mine
local macro_rules | `(tactic| walk_at "mine0") => `(tactic| fail)
local macro_rules | `(tactic| walk_at "mine1") => `(tactic| fail)
local macro_rules | `(tactic| walk_at "mine2") => `(tactic| fail)
local macro_rules | `(tactic| walk_at "mine3") => `(tactic| fail)
local macro_rules | `(tactic| walk_at "mine4") => `(tactic| fail)
local macro_rules | `(tactic| walk_at "mine5") => `(tactic| fail)
local macro_rules | `(tactic| walk_at "mine6") => `(tactic| fail)
local macro_rules | `(tactic| walk_at "mine7") => `(tactic| fail)
local macro_rules | `(tactic| walk_at "mine8") => `(tactic| fail)
local macro_rules | `(tactic| walk_at "mine9") => `(tactic| fail)
local macro_rules | `(tactic| walk_at "mine10") => `(tactic| fail)
local macro_rules | `(tactic| walk_at "mine11") => `(tactic| fail)
local macro_rules | `(tactic| walk_at "mine12") => `(tactic| fail)
local macro_rules | `(tactic| walk_at "mine13") => `(tactic| fail)
local macro_rules | `(tactic| walk_at "mine14") => `(tactic| fail)
set_option maxHeartbeats 8000000
noncomputable def ra (p o : Nat) : Nat → Nat
  | 0 => o
  | n + 1 => 16 * ra p o n % p
noncomputable def outs (p o cut : Nat) (ds : List Nat) : Nat → List Nat
  | 0 => []
  | j + 1 => outs p o cut ds j ++ ((if cut ≤ j ∧ ra p o (j - cut) = o then [39] else []) ++ [97 + ds.getD j 0])
noncomputable def kept (xs : List Nat) : List Nat := xs.filter (fun c : Nat => !b1 c)
structure Txt1 (p o cut : Nat) (ds : List Nat) (i : Nat) (xs : List Nat) : Prop where
  size : xs.length ≤ 3 * i
  ok : ∀ c ∈ kept xs, signOk c = true
  out : (kept xs).map low = outs p o cut ds i
noncomputable def ifs : List (Str × Value) → (Str → Option Value) → Str → Option Value
  | [], m => m
  | p :: r, m => fun y => if y = p.1 then some p.2 else ifs r m y
theorem canonL {m : Str → Option Value} : ∀ (l : List (Str × Value)), (∀ p ∈ l, m p.1 = some p.2) → m = ifs l m
  | [], _ => rfl
  | p :: r, h => by
    funext y
    show m y = if y = p.1 then some p.2 else ifs r m y
    rw [← canonL r fun q hq => h q (.tail _ hq)]
    by_cases e : y = p.1
    · subst e; rw [if_pos rfl]; exact h p (.head _)
    · rw [if_neg e]
noncomputable def forBody : List Stmt := match stm 14 8 with | .For _ _ b _ _ => b | _ => []
noncomputable def forIter : Expr := match stm 14 8 with | .For _ e _ _ _ => e | _ => default
noncomputable def ltrs (W p o : Nat) : List Nat := (dg (bigN W p o)).map (65 + ·)
section
variable {w : World} {mean : ExcName → Option Value} {mg mb : Str → Option Value} {s : Shared} {fa : Addr} {cd : Value} {h₀ : Heap} {a D : Addr} {vs : List Value} {NS : List Int} {ob : Obj} {Q : Flow → Shared → Prop} {m : Str → Option Value} {own : List (Addr × Obj)}
theorem dress_call {w : World} {mean : ExcName → Option Value} {mg mb : Str → Option Value} {A : Around} {E : Value → Shared → Prop} {s : Shared} {h₀ : Heap} {L : Addr} {Q : Value → Shared → Prop} {q : Nat} {k : Int} {news : List (Addr × Obj)} (X : Facts w mean mg mb h₀) (F : Fr h₀ L s.heap m) (N : News h₀ L s.heap news) (hh : A.handled = none) (hroom : A.depth + 5 < recursionLimit) (hq : q < 16) (t u : Tok)
    (hQ : ∀ h' tk d u, d.length ≤ 2 → Dressed q d → Fr h₀ L h' m → News h₀ L h' news → Q (.str ⟨d.toArray⟩ u) { s with heap := h', toks := tk }) :
    wpAny (model PySem.Challenge.rw_wa0029_01.row.prog w) A (call (.ref 106) [.str ⟨#[65 + q]⟩ t, .int k u]) Q E s := by
  refine wpAny_mono (dress_spec (X.keeps F.keep) hh hroom q hq k t u) ?_ (fun _ _ h => h)
  rintro v s' ⟨⟨d, u, rfl, hd⟩, h', tk, rfl, hk⟩
  exact hQ h' tk d u hd.1 hd (F.keeps hk) fun q hq => ⟨hk _ _ (N q hq).1, (N q hq).2⟩
local macro_rules | `(tactic| walk_at "call ref") => `(tactic| (k_here; refine dress_call (by assumption) (by with_reducible assumption) (by with_reducible assumption) (by rfl) (room1 _) (by assumption) _ _ ?_; intro _ _ _ _ _ _ _ _))
theorem lenT {prog : Program} {w : World} {A : Around} {E : Value → Shared → Prop} {s : Shared} {l : List Nat} {t : Tok} {Q : Value → Shared → Prop} (hl : l.length ≤ 1000) (h : Q (.int (l.length : Int) (s.toks + 1)) { s with toks := s.toks + 1 + 1 }) : wpAny (model prog w) A (call (.builtin "len") [.str ⟨l.toArray⟩ t]) Q E s :=
  P.len_str (x := ⟨l.toArray⟩) (by show ¬ ((l.toArray.size : Nat) : Int) ≥ 2 ^ 63; simp only [List.size_toArray]; omega) (by exact h)
theorem iaddT {prog : Program} {w : World} {A : Around} {E : Value → Shared → Prop} {s : Shared} {xs ds : List Nat} {t u : Tok} {Q : Value → Shared → Prop} (hl : xs.length ≤ 10000) (hd : ds.length ≤ 2) (h : ∀ t' k, Q (.str ⟨(xs ++ ds).toArray⟩ t') { s with toks := k }) : wpAny (model prog w) A (inplaceOp .Add (.str ⟨xs.toArray⟩ t) (.str ⟨ds.toArray⟩ u)) Q E s := by
  refine PyProof.Rows.iadd_str (x := ⟨xs.toArray⟩) (y := ⟨ds.toArray⟩) (fun t' tk => ?_) ?_
  · have e : (Str.mk xs.toArray ++ Str.mk ds.toArray : Str) = ⟨(xs ++ ds).toArray⟩ := by
      show (Str.mk (xs.toArray ++ ds.toArray)) = _
      rw [List.append_toArray]
    rw [e]
    exact h t' tk
  · show xs.toArray.size + ds.toArray.size ≤ sizeLine
    rw [sizeLine_eq]
    simp only [List.size_toArray]
    omega
theorem iaddQ {prog : Program} {w : World} {A : Around} {E : Value → Shared → Prop} {s : Shared} {xs : List Nat} {t u : Tok} {Q : Value → Shared → Prop} (hl : xs.length ≤ 10000) (h : ∀ t' k, Q (.str ⟨(xs ++ [39]).toArray⟩ t') { s with toks := k }) : wpAny (model prog w) A (inplaceOp .Add (.str ⟨xs.toArray⟩ t) (.str (Str.ofString "'") u)) Q E s :=
  iaddT (ds := [39]) hl (by decide) h
local macro_rules | `(tactic| walk_at "call builtin:len") => `(tactic| (k_here; (with_reducible show wpAny _ _ (call (Value.builtin "len") [Value.str ⟨List.toArray _⟩ _]) _ _ _); refine lenT (by omega) ?_))
local macro_rules | `(tactic| walk_at "inplaceOp Add str str") => `(tactic| (k_here; first | (refine iaddQ (by omega) ?_; intro _ _) | (refine iaddT (by first | omega | (simp only [List.length_append, List.length_cons, List.length_nil]; omega)) (by assumption) ?_; intro _ _)))
theorem turn_8 {p o W i q r : Nat} {xs : List Nat} {u t1 t2 t3 t4 t5 t6 t7 : Tok}
    (X : Facts w mean mg mb h₀) (hI : IntsAre vs NS) (hN : 7 ≤ NS.length) (hN2 : NS.length ≤ 100) (hp : 7 ≤ p ∧ p ≤ 83) (hq : q < 16)
    (F : Fr h₀ h₀.objs.size s.heap (fun y => if y = "letter" then some (.str ⟨#[65 + q]⟩ t1) else if y = "k" then some (.int i t2) else if y = "rest" then some (.int r t3) else if y = "text" then some (.str ⟨xs.toArray⟩ t4) else if y = "letters" then some (.str ⟨(ltrs W p o).toArray⟩ t5) else if y = "half" then some (.int ((p / 2 : Nat) : Int) t6) else if y = "over" then some (.int o t7) else if y = "numbers" then some (.ref D) else m y))
    (N : News h₀ h₀.objs.size s.heap ((D, listOf vs.toArray 0) :: (h₀.objs.size + 1, ob) :: own)) (X0 : ob.data = .cell (some (.int p u)))
    (hx : xs.length ≤ 500) (hl : (ltrs W p o).length ≤ 500)
    (hc : p / 2 + 3 ≤ (ltrs W p o).length)
    (hQ : ∀ h' tk d r' m', Dressed q d → r' = (if (ltrs W p o).length - p / 2 - 3 ≤ i then 16 * r % p else r) → Fr h₀ h₀.objs.size h' m' → News h₀ h₀.objs.size h' ((D, listOf vs.toArray 0) :: (h₀.objs.size + 1, ob) :: own) →
      (∃ t, m' "text" = some (.str ⟨(xs ++ ((if (ltrs W p o).length - p / 2 - 3 ≤ i ∧ r = o then [39] else []) ++ d)).toArray⟩ t)) → (∃ t', m' "rest" = some (.int (r' : Nat) t')) →
      (∀ y : Str, y ≠ "text" → y ≠ "rest" → y ≠ "letter" → y ≠ "k" → m' y = (if y = "letters" then some (.str ⟨(ltrs W p o).toArray⟩ t5) else if y = "half" then some (.int ((p / 2 : Nat) : Int) t6) else if y = "over" then some (.int o t7) else if y = "numbers" then some (.ref D) else m y)) → Q .next { s with heap := h', toks := tk }) :
    wpAny (model PySem.Challenge.rw_wa0029_01.row.prog w) (callerA.deeper (env1 h₀ fa cd)) (execs forBody (env1 h₀ fa cd)) Q (fun _ _ => False) s := by
  have KX : (hd.heap_39 w.params).In h₀ := X.K
  revert KX
  k_fill
  intro KX
  have T := X.T
  have hst : forBody = forBody := rfl
  conv at hst => { rhs; whnf }
  rw [hst]
  clear hst
  k_steps
  all_goals (with_reducible rename Fr _ _ _ _ => F')
  all_goals (with_reducible rename News _ _ _ _ => N')
  all_goals (with_reducible rename Dressed _ _ => hd')
  · rename (_ - _ - 3 : Int) ≤ _ => e1
    rename ((r : Int) = (o : Int)) => e2
    have h1 : ∀ d, xs ++ [39] ++ d = xs ++ ((if (ltrs W p o).length - p / 2 - 3 ≤ i ∧ r = o then [39] else []) ++ d) := fun d => by rw [if_pos ⟨by omega, by omega⟩, List.append_assoc]
    have h2 : (16 * (r : Int)).fmod p = ((16 * r % p : Nat) : Int) := by rw [Int.fmod_eq_emod_of_nonneg _ (by omega)]; rfl
    refine hQ _ _ _ (16 * r % p) _ hd' (by rw [if_pos (by omega)]) F' N' ⟨_, congrArg (fun l => some (Value.str ⟨List.toArray l⟩ _)) (h1 _)⟩ ⟨_, congrArg (fun k => some (Value.int k _)) h2⟩ ?_
    intro y n1 n2 n3 n4
    simp only [n1, n2, n3, n4, if_false]
  · rename (_ - _ - 3 : Int) ≤ _ => e1
    rename ((r : Int) ≠ (o : Int)) => e2
    have h1 : ∀ d, xs ++ d = xs ++ ((if (ltrs W p o).length - p / 2 - 3 ≤ i ∧ r = o then [39] else []) ++ d) := fun d => by rw [if_neg (by omega)]; rfl
    have h2 : (16 * (r : Int)).fmod p = ((16 * r % p : Nat) : Int) := by rw [Int.fmod_eq_emod_of_nonneg _ (by omega)]; rfl
    refine hQ _ _ _ (16 * r % p) _ hd' (by rw [if_pos (by omega)]) F' N' ⟨_, congrArg (fun l => some (Value.str ⟨List.toArray l⟩ _)) (h1 _)⟩ ⟨_, congrArg (fun k => some (Value.int k _)) h2⟩ ?_
    intro y n1 n2 n3 n4
    simp only [n1, n2, n3, n4, if_false]
  · rename ¬ ((_ - _ - 3 : Int) ≤ _) => e1
    have h1 : ∀ d, xs ++ d = xs ++ ((if (ltrs W p o).length - p / 2 - 3 ≤ i ∧ r = o then [39] else []) ++ d) := fun d => by rw [if_neg (by omega)]; rfl
    refine hQ _ _ _ r _ hd' (by rw [if_neg (by omega)]) F' N' ⟨_, congrArg (fun l => some (Value.str ⟨List.toArray l⟩ _)) (h1 _)⟩ ⟨_, rfl⟩ ?_
    intro y n1 n2 n3 n4
    simp only [n1, n2, n3, n4, if_false]
end
end Mine
open PySem PySem.W PyProof.Rows PySem.Calls
namespace Mine
set_option maxHeartbeats 8000000
theorem Txt1.step {p o cut : Nat} {ds : List Nat} {i q : Nat} {xs d : List Nat} (T : Txt1 p o cut ds i xs) (hd : Dressed q d) (hq : ds.getD i 0 = q) :
    Txt1 p o cut ds (i + 1) (xs ++ ((if cut ≤ i ∧ ra p o (i - cut) = o then [39] else []) ++ d)) := by
  obtain ⟨h1, c, h2, h3, h4⟩ := hd
  have k39 : kept [39] = [39] := by decide
  have hk : kept (xs ++ ((if cut ≤ i ∧ ra p o (i - cut) = o then [39] else []) ++ d)) = kept xs ++ ((if cut ≤ i ∧ ra p o (i - cut) = o then [39] else []) ++ [c]) := by
    unfold kept at *
    rw [List.filter_append, List.filter_append, h2]
    split
    · rw [k39]
    · rfl
  refine ⟨?_, ?_, ?_⟩
  · have := T.size
    rw [List.length_append, List.length_append]
    have : (if cut ≤ i ∧ ra p o (i - cut) = o then [39] else ([] : List Nat)).length ≤ 1 := by split <;> simp
    omega
  · rw [hk]
    intro x hx
    rcases List.mem_append.mp hx with hx | hx
    · exact T.ok x hx
    rcases List.mem_append.mp hx with hx | hx
    · split at hx
      · rw [List.mem_singleton.mp hx]; decide
      · cases hx
    · rw [List.mem_singleton.mp hx]; exact h3
  · rw [hk, List.map_append, T.out, outs, List.map_append, hq]
    congr 2
    · split <;> rfl
    · simp [h4]
theorem getD_lt {l : List Nat} {i : Nat} (h : i < l.length) : l.getD i 0 = l[i] := by
  rw [List.getD_eq_getElem?_getD, List.getElem?_eq_getElem h]
  rfl
theorem dg_len : ∀ (k n : Nat), n < 16 ^ k → (dg n).length ≤ k
  | 0, n, h => by
    have : n = 0 := by simpa using h
    subst this; simp [dg]
  | k + 1, n, h => by
    by_cases h0 : n = 0
    · subst h0; simp [dg]
    · rw [dg_pos (by omega), List.length_append]
      have := dg_len k (n / 16) (by rw [Nat.pow_succ] at h; omega)
      simp only [List.length_cons, List.length_nil]
      omega
theorem dg_lo : ∀ (k n : Nat), 16 ^ k ≤ n → k + 1 ≤ (dg n).length
  | 0, n, h => by
    have h1 : 1 ≤ n := by simpa using h
    rw [dg_pos (by omega), List.length_append]
    simp
  | k + 1, n, h => by
    have h1 : 0 < 16 ^ (k + 1) := Nat.pow_pos (by decide)
    rw [dg_pos (by omega), List.length_append]
    have := dg_lo k (n / 16) (by rw [Nat.pow_succ] at h; omega)
    simp only [List.length_cons, List.length_nil]
    omega
theorem bigN_lo {W p o : Nat} (hp : 7 ≤ p) (hW : 1 ≤ W) : 16 ^ (p / 2 + 3) ≤ bigN W p o := by
  unfold bigN
  rw [Nat.le_div_iff_mul_le (by omega), Nat.mul_comm]
  refine Nat.mul_le_mul_right _ ?_
  have h1 : 1 * p ≤ W * p := Nat.mul_le_mul_right _ hW
  omega
section
variable {w : World} {mean : ExcName → Option Value} {mg mb : Str → Option Value} {s : Shared} {fa : Addr} {cd : Value} {h₀ : Heap} {a D : Addr} {vs : List Value} {NS : List Int} {ob : Obj} {Q : Flow → Shared → Prop} {m : Str → Option Value} {own : List (Addr × Obj)}
theorem law_6 {o : Value} {own : List (Addr × Obj)}
    (X : Facts w mean mg mb h₀)
    (F : Fr h₀ h₀.objs.size s.heap (fun y => if y = "over" then some o else m y)) (N : News h₀ h₀.objs.size s.heap own)
    (hQ : ∀ h' tk, Fr h₀ h₀.objs.size h' (fun y => if y = "rest" then some o else if y = "over" then some o else m y) → News h₀ h₀.objs.size h' own → Q .next { s with heap := h', toks := tk }) :
    wpAny (model PySem.Challenge.rw_wa0029_01.row.prog w) (callerA.deeper (env1 h₀ fa cd)) (exec (stm 14 6) (env1 h₀ fa cd)) Q (fun _ _ => False) s := by
  have KX : (hd.heap_39 w.params).In h₀ := X.K
  revert KX
  k_fill
  intro KX
  have T := X.T
  have hst : stm 14 6 = stm 14 6 := rfl
  conv at hst => { rhs; whnf }
  rw [hst]
  clear hst
  k_steps
  exact hQ _ _ (by assumption) (by assumption)
theorem law_7 {own : List (Addr × Obj)}
    (X : Facts w mean mg mb h₀)
    (F : Fr h₀ h₀.objs.size s.heap m) (N : News h₀ h₀.objs.size s.heap own)
    (hQ : ∀ h' tk u, Fr h₀ h₀.objs.size h' (fun y => if y = "text" then some (.str ⟨([] : List Nat).toArray⟩ u) else m y) → News h₀ h₀.objs.size h' own → Q .next { s with heap := h', toks := tk }) :
    wpAny (model PySem.Challenge.rw_wa0029_01.row.prog w) (callerA.deeper (env1 h₀ fa cd)) (exec (stm 14 7) (env1 h₀ fa cd)) Q (fun _ _ => False) s := by
  have KX : (hd.heap_39 w.params).In h₀ := X.K
  revert KX
  k_fill
  intro KX
  have T := X.T
  have hst : stm 14 7 = stm 14 7 := rfl
  conv at hst => { rhs; whnf }
  rw [hst]
  clear hst
  k_steps
  exact hQ _ _ _ (by assumption) (by assumption)
local macro_rules | `(tactic| walk_at "call type:enumerate") => `(tactic| (k_here; refine call_enum_str (by rfl) (by with_reducible assumption) (by with_reducible assumption) (by assumption)))
theorem iter_8 {x : Str} {t : Tok} {Q : Value → Shared → Prop} (X : Facts w mean mg mb h₀)
    (F : Fr h₀ h₀.objs.size s.heap (fun y => if y = "letters" then some (.str x t) else m y)) (N : News h₀ h₀.objs.size s.heap own)
    (hQ : ∀ h' e, Fr h₀ h₀.objs.size h' (fun y => if y = "letters" then some (.str x t) else m y) → News h₀ h₀.objs.size h' own → PairSrcL PySem.Challenge.rw_wa0029_01.row.prog w (callerA.deeper (env1 h₀ fa cd)) (fun _ _ => False) h₀ h₀.objs.size ItemKind.str (signs x) (.ref e) { s with heap := h' } (fun y => if y = "letters" then some (.str x t) else m y) own → Q (.ref e) { s with heap := h' }) :
    wpAny (model PySem.Challenge.rw_wa0029_01.row.prog w) (callerA.deeper (env1 h₀ fa cd)) (eval forIter (env1 h₀ fa cd)) Q (fun _ _ => False) s := by
  have KX : (hd.heap_39 w.params).In h₀ := X.K
  revert KX
  k_fill
  intro KX
  have T := X.T
  have hst : forIter = forIter := rfl
  conv at hst => { rhs; whnf }
  rw [hst]
  clear hst
  k_steps
  exact hQ _ _ (by assumption) (by assumption) (by assumption)
theorem law_8 {p o W : Nat} {u t2 t3 t4 t5 t6 t7 : Tok} {wv : Value}
    (X : Facts w mean mg mb h₀) (hI : IntsAre vs NS) (hN : 7 ≤ NS.length) (hN2 : NS.length ≤ 100) (hp : 7 ≤ p ∧ p ≤ 83) (hW0 : 1 ≤ W) (hW : W ≤ 4095) (ho : o < p)
    (F : Fr h₀ h₀.objs.size s.heap (fun y => if y = "letters" then some (.str ⟨(ltrs W p o).toArray⟩ t5) else m y))
    (hm : ∀ x ∈ [(("rest" : Str), Value.int o t2), ("text", .str ⟨([] : List Nat).toArray⟩ t3), ("half", .int ((p / 2 : Nat) : Int) t6), ("over", .int o t7), ("numbers", .ref D), ("whole", wv)], m x.1 = some x.2)
    (N : News h₀ h₀.objs.size s.heap [(D, listOf vs.toArray 0), (h₀.objs.size + 1, ob)]) (X0 : ob.data = .cell (some (.int p u)))
    (hQ : ∀ h' tk xs t m', Txt1 p o ((ltrs W p o).length - p / 2 - 3) (dg (bigN W p o)) (ltrs W p o).length xs → Fr h₀ h₀.objs.size h' m' → News h₀ h₀.objs.size h' [(D, listOf vs.toArray 0), (h₀.objs.size + 1, ob)] →
      (∀ x ∈ [(("text" : Str), Value.str ⟨xs.toArray⟩ t), ("half", .int ((p / 2 : Nat) : Int) t6), ("over", .int o t7), ("whole", wv)], m' x.1 = some x.2) → Q .next { s with heap := h', toks := tk }) :
    wpAny (model PySem.Challenge.rw_wa0029_01.row.prog w) (callerA.deeper (env1 h₀ fa cd)) (exec (stm 14 8) (env1 h₀ fa cd)) Q (fun _ _ => False) s := by
  have hlen : (ltrs W p o).length = (dg (bigN W p o)).length := by unfold ltrs; rw [List.length_map]
  have hl1 := dg_len _ _ (bigN_lt hp hW ho)
  have hl2 := dg_lo _ _ (bigN_lo (o := o) hp.1 hW0)
  refine For_pair3F F (by rfl) (by rfl) (by rfl) (by rfl) ?_ (by intro x; rfl) PassesOwn.never
  refine iter_8 X F N ?_
  intro h' e F' N' S
  refine (S.at _ rfl) _ _ _ _ (fun i m₁ news₁ => news₁ = [(D, listOf vs.toArray 0), (h₀.objs.size + 1, ob)] ∧ ∃ xs t r t', Txt1 p o ((ltrs W p o).length - p / 2 - 3) (dg (bigN W p o)) i xs ∧ r = ra p o (i - ((ltrs W p o).length - p / 2 - 3)) ∧ ∀ x ∈ [(("rest" : Str), Value.int r t'), ("text", .str ⟨xs.toArray⟩ t), ("letters", .str ⟨(ltrs W p o).toArray⟩ t5), ("half", .int ((p / 2 : Nat) : Int) t6), ("over", .int o t7), ("numbers", .ref D), ("whole", wv)], m₁ x.1 = some x.2) ?_ ?_ ?_
  · refine ⟨rfl, [], t3, o, t2, ⟨Nat.le_refl _, fun c hc => (by cases hc), rfl⟩, by rw [Nat.zero_sub]; rfl, ?_⟩
    intro x hx
    simp only [List.mem_cons, List.not_mem_nil, or_false] at hx
    rcases hx with rfl | rfl | rfl | rfl | rfl | rfl | rfl
    · exact (if_neg (by dsimp only; decide)).trans (hm _ (.head _))
    · exact (if_neg (by dsimp only; decide)).trans (hm _ (.tail _ (.head _)))
    · exact if_pos rfl
    · exact (if_neg (by dsimp only; decide)).trans (hm _ (.tail _ (.tail _ (.head _))))
    · exact (if_neg (by dsimp only; decide)).trans (hm _ (.tail _ (.tail _ (.tail _ (.head _)))))
    · exact (if_neg (by dsimp only; decide)).trans (hm _ (.tail _ (.tail _ (.tail _ (.tail _ (.head _))))))
    · exact (if_neg (by dsimp only; decide)).trans (hm _ (.tail _ (.tail _ (.tail _ (.tail _ (.tail _ (.head _)))))))
  · rintro i a t v m₁ news₁ s₁ own ⟨h5, tk5, rfl⟩ ha ⟨t1, rfl⟩ ⟨rfl, xs, t4, r, t3, hT, hr, hv⟩ hsame hap F₁ N₁
    have hi : i < (ltrs W p o).length := by
      have := (List.getElem?_eq_some_iff.mp ha).1
      rw [signs_def, List.length_map] at this
      exact this
    have hds : i < (dg (bigN W p o)).length := by omega
    obtain ⟨q, hq1, hq2, rfl⟩ : ∃ q, (dg (bigN W p o)).getD i 0 = q ∧ q < 16 ∧ a = ⟨#[65 + q]⟩ := by
      refine ⟨_, rfl, ?_, ?_⟩
      · rw [getD_lt hds]
        exact (ap_dg _ _ (Nat.lt_succ_self _)).2.2 _ (List.getElem_mem hds)
      · have : (signs ⟨(ltrs W p o).toArray⟩)[i]? = some ⟨#[65 + (dg (bigN W p o)).getD i 0]⟩ := by
          rw [signs_def]
          show ((ltrs W p o).map fun n => (⟨#[n]⟩ : Str))[i]? = _
          unfold ltrs
          rw [List.map_map, List.getElem?_map, List.getElem?_eq_getElem hds, getD_lt hds]
          rfl
        rw [this] at ha
        exact (Option.some.inj ha).symm
    rw [canonL _ hv] at F₁
    refine wpAny_mono (turn_8 (p := p) (o := o) (W := W) (i := i) (q := q) (r := r) (xs := xs) (t1 := t1) (t2 := t) (t3 := t3) (t4 := t4) (t5 := t5) (t6 := t6) (t7 := t7) (m := ifs [("whole", wv)] m₁) (D := D) X hI hN hN2 hp hq2 F₁ (own := own) ?_ X0 ?_ ?_ (by omega) ?_) (fun _ _ h => h) (fun _ _ h => h)
    · intro x hx
      refine N₁ x ?_
      rcases List.mem_cons.mp hx with rfl | hx
      · exact List.mem_append_right _ (.head _)
      rcases List.mem_cons.mp hx with rfl | hx
      · exact List.mem_append_right _ (.tail _ (.head _))
      · exact List.mem_append_left _ hx
    · have := hT.size
      omega
    · omega
    · intro h' tk d r' m' hd hr' F' N' ht hrest hoth
      refine LoopStep3.of2 (LoopStep2.intro F' ?_ rfl ?_)
      · intro x hx
        refine N' x ?_
        rcases List.mem_append.mp hx with hx | hx
        · exact .tail _ (.tail _ hx)
        rcases List.mem_cons.mp hx with rfl | hx
        · exact .head _
        · rw [List.mem_singleton.mp hx]
          exact .tail _ (.head _)
      · obtain ⟨t8, ht⟩ := ht
        obtain ⟨t9, hrest⟩ := hrest
        rw [hr] at ht
        refine ⟨rfl, _, t8, r', t9, hT.step hd hq1, ?_, ?_⟩
        · rw [hr', hr]
          by_cases hc : (ltrs W p o).length - p / 2 - 3 ≤ i
          · rw [if_pos hc, show i + 1 - ((ltrs W p o).length - p / 2 - 3) = (i - ((ltrs W p o).length - p / 2 - 3)) + 1 by omega]
            rfl
          · rw [if_neg hc, show i + 1 - ((ltrs W p o).length - p / 2 - 3) = 0 by omega, show i - ((ltrs W p o).length - p / 2 - 3) = 0 by omega]
        · intro x hx
          simp only [List.mem_cons, List.not_mem_nil, or_false] at hx
          rcases hx with rfl | rfl | rfl | rfl | rfl | rfl | rfl
          · exact hrest
          · exact ht
          · exact (hoth _ (by dsimp only; decide) (by dsimp only; decide) (by dsimp only; decide) (by dsimp only; decide)).trans rfl
          · exact (hoth _ (by dsimp only; decide) (by dsimp only; decide) (by dsimp only; decide) (by dsimp only; decide)).trans rfl
          · exact (hoth _ (by dsimp only; decide) (by dsimp only; decide) (by dsimp only; decide) (by dsimp only; decide)).trans rfl
          · exact (hoth _ (by dsimp only; decide) (by dsimp only; decide) (by dsimp only; decide) (by dsimp only; decide)).trans rfl
          · exact (hoth _ (by dsimp only; decide) (by dsimp only; decide) (by dsimp only; decide) (by dsimp only; decide)).trans rfl
  · intro h2 tk m' news' F₂ N₂ _ hJ
    obtain ⟨rfl, xs, t, r, t', hT, _, hv⟩ := hJ
    refine hQ h2 tk xs t m' ?_ F₂ N₂ ?_
    · have e : (signs ⟨(ltrs W p o).toArray⟩).length = (ltrs W p o).length := by rw [signs_def, List.length_map]
      rw [e] at hT
      exact hT
    · intro x hx
      refine hv x ?_
      simp only [List.mem_cons, List.not_mem_nil, or_false] at hx ⊢
      rcases hx with rfl | rfl | rfl | rfl <;> simp
end
end Mine
open PySem PySem.W PyProof.Rows PySem.Calls
namespace Mine
local macro_rules | `(tactic| walk_at "mine0") => `(tactic| fail)
local macro_rules | `(tactic| walk_at "mine1") => `(tactic| fail)
local macro_rules | `(tactic| walk_at "mine2") => `(tactic| fail)
local macro_rules | `(tactic| walk_at "mine3") => `(tactic| fail)
local macro_rules | `(tactic| walk_at "mine4") => `(tactic| fail)
local macro_rules | `(tactic| walk_at "mine5") => `(tactic| fail)
local macro_rules | `(tactic| walk_at "mine6") => `(tactic| fail)
local macro_rules | `(tactic| walk_at "mine7") => `(tactic| fail)
local macro_rules | `(tactic| walk_at "mine8") => `(tactic| fail)
local macro_rules | `(tactic| walk_at "mine9") => `(tactic| fail)
local macro_rules | `(tactic| walk_at "mine10") => `(tactic| fail)
local macro_rules | `(tactic| walk_at "mine11") => `(tactic| fail)
local macro_rules | `(tactic| walk_at "mine12") => `(tactic| fail)
local macro_rules | `(tactic| walk_at "mine13") => `(tactic| fail)
local macro_rules | `(tactic| walk_at "mine14") => `(tactic| fail)
set_option maxHeartbeats 8000000
noncomputable def asgVal : Stmt → Expr | .Assign _ v _ => v | _ => default
noncomputable def comp9 : Expr := match asgVal (stm 14 9) with | .Call _ [.Call _ [c] _ _] _ _ => c | _ => default
noncomputable def elt9 : Expr := match comp9 with | .ListComp e _ _ _ => e | _ => default
noncomputable def if9 : Expr := match comp9 with | .ListComp _ [⟨_, _, [c], _⟩] _ _ => c | _ => default
noncomputable def scope9 : Scope := match comp9 with | .ListComp _ _ sc _ => sc | _ => scopeAt 14
section
variable {w : World} {mean : ExcName → Option Value} {mg mb : Str → Option Value} {s : Shared} {fa : Addr} {cd : Value} {h₀ : Heap} {a D C : Addr} {vs : List Value} {NS : List Int} {ob : Obj} {m : Str → Option Value} {own : List (Addr × Obj)}
theorem b1_call {w : World} {mean : ExcName → Option Value} {mg mb : Str → Option Value} {A : Around} {E : Value → Shared → Prop} {s : Shared} {h₀ : Heap} {L : Addr} {Q : Value → Shared → Prop} {c : Nat} (X : Facts w mean mg mb h₀) (F : Fr h₀ L s.heap m) (hroom : A.depth + 5 < recursionLimit) (t : Tok)
    (hQ : ∀ h' tk, Fr h₀ L h' m → (∀ b o, s.heap.get? b = some o → h'.get? b = some o) → Q (.bool (b1 c)) { s with heap := h', toks := tk }) :
    wpAny (model PySem.Challenge.rw_wa0029_01.row.prog w) A (call (.ref 46) [.str ⟨#[c]⟩ t]) Q E s := by
  refine wpAny_mono (b1_spec (X.keeps F.keep) hroom c t) ?_ (fun _ _ h => h)
  rintro v s' ⟨rfl, h', tk, rfl, hk⟩
  exact hQ h' tk (F.keeps hk) hk
local macro_rules | `(tactic| walk_at "Keeps") => `(tactic| exact ⟨_, _, rfl, by assumption⟩)
local macro_rules | `(tactic| walk_at "call ref") => `(tactic| (k_here; refine b1_call (by assumption) (by with_reducible assumption) (room1 _) _ ?_; intro _ _ _ _))
theorem test_9 {c : Nat} {t : Tok} {E : Value → Shared → Prop} (X : Facts w mean mg mb h₀)
    (F : Fr h₀ C s.heap (fun y => if y = "sign" then some (.str ⟨#[c]⟩ t) else m y)) :
    wpAny (model PySem.Challenge.rw_wa0029_01.row.prog w) (callerA.deeper (env1 h₀ fa cd)) (isTrue if9 (compEnvC scope9 [] C (env1 h₀ fa cd)) (eval if9 (compEnvC scope9 [] C (env1 h₀ fa cd)))) (fun ok s' => ok = (!b1 c) ∧ Keeps s s') E s := by
  have KX : (hd.heap_39 w.params).In h₀ := X.K
  revert KX
  k_fill
  intro KX
  have T := X.T
  have hst : if9 = if9 := rfl
  conv at hst => { rhs; whnf }
  rw [hst]
  clear hst
  k_steps
  · exact fa
  · exact ("x" : Str)
  · exact cd
  · exact []
theorem b3_call {w : World} {mean : ExcName → Option Value} {mg mb : Str → Option Value} {A : Around} {E : Value → Shared → Prop} {s : Shared} {h₀ : Heap} {L : Addr} {Q : Value → Shared → Prop} {c : Nat} (X : Facts w mean mg mb h₀) (F : Fr h₀ L s.heap m) (hroom : A.depth + 5 < recursionLimit) (hc : b3Says c) (t : Tok)
    (hQ : ∀ h' tk u, Fr h₀ L h' m → (∀ b o, s.heap.get? b = some o → h'.get? b = some o) → Q (.str ⟨#[low c]⟩ u) { s with heap := h', toks := tk }) :
    wpAny (model PySem.Challenge.rw_wa0029_01.row.prog w) A (call (.ref 92) [.str ⟨#[c]⟩ t]) Q E s := by
  refine wpAny_mono (b3_spec (X.keeps F.keep) hroom c hc t) ?_ (fun _ _ h => h)
  rintro v s' ⟨⟨u, rfl⟩, h', tk, rfl, hk⟩
  exact hQ h' tk u (F.keeps hk) hk
noncomputable def IsLow (c : Nat) (v : Value) : Prop := ∃ u, v = .str ⟨#[low c]⟩ u
local macro_rules | `(tactic| walk_at "IsLow") => `(tactic| exact ⟨_, rfl⟩)
local macro_rules | `(tactic| walk_at "call ref") => `(tactic| (k_here; refine b3_call (by assumption) (by with_reducible assumption) (room1 _) (by assumption) _ ?_; intro _ _ _ _ _))
theorem elt_9 {c : Nat} {t : Tok} {E : Value → Shared → Prop} (X : Facts w mean mg mb h₀) (hc : b3Says c)
    (F : Fr h₀ C s.heap (fun y => if y = "sign" then some (.str ⟨#[c]⟩ t) else m y)) :
    wpAny (model PySem.Challenge.rw_wa0029_01.row.prog w) (callerA.deeper (env1 h₀ fa cd)) (eval elt9 (compEnvC scope9 [] C (env1 h₀ fa cd))) (fun v s' => IsLow c v ∧ Keeps s s') E s := by
  have KX : (hd.heap_39 w.params).In h₀ := X.K
  revert KX
  k_fill
  intro KX
  have T := X.T
  have hst : elt9 = elt9 := rfl
  conv at hst => { rhs; whnf }
  rw [hst]
  clear hst
  k_steps
  · exact fa
  · exact ("x" : Str)
  · exact cd
  · exact []
theorem low_low {p o cut : Nat} {ds : List Nat} {i : Nat} {xs : List Nat} (T : Txt1 p o cut ds i xs) {c : Nat} (h1 : c ∈ xs) (h2 : (!b1 (c : Int)) = true) : b3Says c :=
  says (T.ok c (List.mem_filter.mpr ⟨h1, h2⟩))
noncomputable def signNat : Value → Nat | .str ⟨a⟩ _ => a.getD 0 0 | _ => 0
theorem pairs_low : ∀ (l : List Value) (ys : List Value), Paired (fun v y => IsLow (signNat v) y) l ys → ∃ zs : List (Str × Tok), ys = strValues zs ∧ zs.map (·.1) = (l.map signNat).map (fun c => (⟨#[low c]⟩ : Str)) := by
  intro l ys h
  induction h with
  | nil => exact ⟨[], rfl, rfl⟩
  | cons hd _ ih =>
    obtain ⟨u, rfl⟩ := hd
    obtain ⟨zs, rfl, e⟩ := ih
    exact ⟨(_, u) :: zs, rfl, by simp only [List.map_cons, e]⟩
theorem signs_back {xs : List Nat} {vs : List Value} (hn : vs.length = xs.length) (h : ∀ j v, vs[j]? = some v → SignAt ⟨xs.toArray⟩ j v) : vs.map signNat = xs := by
  refine List.ext_getElem? fun j => ?_
  rw [List.getElem?_map]
  by_cases hj : j < vs.length
  · obtain ⟨c, u, hc, e⟩ := h j vs[j] (List.getElem?_eq_getElem hj)
    rw [List.getElem?_eq_getElem hj, e]
    have hc' : xs[j]? = some c := by simpa using hc
    rw [hc']
    rfl
  · rw [List.getElem?_eq_none (by omega), List.getElem?_eq_none (by omega)]
    rfl
theorem filter_back (vs : List Value) : (vs.filter fun v => !b1 (signNat v : Int)).map signNat = kept (vs.map signNat) := by
  induction vs with
  | nil => rfl
  | cons v r ih =>
    unfold kept at *
    rw [List.map_cons]
    by_cases h : (!b1 (signNat v : Int)) = true
    · rw [List.filter_cons_of_pos (by exact h), List.filter_cons_of_pos (by exact h), List.map_cons, ih]
    · rw [List.filter_cons_of_neg (by exact h), List.filter_cons_of_neg (by exact h), ih]
noncomputable def iter9 : Expr := match comp9 with | .ListComp _ [⟨_, e, _, _⟩] _ _ => e | _ => default
theorem text_9 {v : Value} {Q : Value → Shared → Prop} (X : Facts w mean mg mb h₀)
    (F : Fr h₀ h₀.objs.size s.heap (fun y => if y = "text" then some v else m y)) (hQ : Q v s) :
    wpAny (model PySem.Challenge.rw_wa0029_01.row.prog w) (callerA.deeper (env1 h₀ fa cd)) (eval iter9 (env1 h₀ fa cd)) Q (fun _ _ => False) s := by
  have KX : (hd.heap_39 w.params).In h₀ := X.K
  revert KX
  k_fill
  intro KX
  have T := X.T
  have hst : iter9 = iter9 := rfl
  conv at hst => { rhs; whnf }
  rw [hst]
  clear hst
  k_steps
  exact hQ
theorem comp_9 {p o cut i : Nat} {ds xs : List Nat} {t : Tok} {Q : Value → Shared → Prop} (X : Facts w mean mg mb h₀) (hT : Txt1 p o cut ds i xs) (hi : i ≤ 1000)
    (F : Fr h₀ h₀.objs.size s.heap (fun y => if y = "text" then some (.str ⟨xs.toArray⟩ t) else m y)) (N : News h₀ h₀.objs.size s.heap own)
    (hQ : ∀ h' tk D (zs : List (Str × Tok)), zs.map (·.1) = (kept xs).map (fun c => (⟨#[low c]⟩ : Str)) → Fr h₀ h₀.objs.size h' (fun y => if y = "text" then some (.str ⟨xs.toArray⟩ t) else m y) → News h₀ h₀.objs.size h' own → h'.IsList D (strValues zs).toArray → Q (.ref D) { s with heap := h', toks := tk }) :
    wpAny (model PySem.Challenge.rw_wa0029_01.row.prog w) (callerA.deeper (env1 h₀ fa cd)) (eval comp9 (env1 h₀ fa cd)) Q (fun _ _ => False) s := by
  have hz : xs.length ≤ 3000 := by have := hT.size; omega
  refine wpAny_ListComp_free (scope := scope9) (cl := []) (x := "sign") (fun v => !b1 (signNat v : Int)) (fun v y => IsLow (signNat v) y) (by rfl) (by decide) (by rfl) (by decide) (by rfl) ?_
  refine text_9 X F ?_
  refine wpAny_pyIter_str (fun ob St W hst => ?_)
  have old : ∀ b o, s.heap.get? b = some o → b ∉ [s.heap.objs.size] := fun b o e hm => by
    have := Heap.lt_size e
    rw [List.mem_singleton.mp hm] at this
    exact Nat.lt_irrefl _ this
  have up : ∀ (h' : Heap), (∀ b o', b ∉ [s.heap.objs.size] → (s.heap.push ob).get? b = some o' → h'.get? b = some o') → ∀ b o', s.heap.get? b = some o' → h'.get? b = some o' :=
    fun h' hk b o' e => hk b o' (old b o' e) (Heap.get?_push_of_some _ e)
  have room : ∀ C, (s.heap.push ob).objs.size ≤ C → h₀.objs.size ≤ C := fun C hC => by
    rw [Heap.size_push] at hC
    exact Nat.le_trans (Nat.le_of_lt F.ns.lt) (Nat.le_trans (Nat.le_succ _) hC)
  have mem : ∀ {c : Nat} {i : Nat}, (Str.mk xs.toArray).cps[i]? = some c → c ∈ xs := fun {c i} hc => by
    have hc' : xs[i]? = some c := by simpa using hc
    exact List.mem_of_getElem? hc'
  refine ⟨s.heap.objs.size, [s.heap.objs.size], [s.heap.objs.size], _, SignAt _, St, rfl, W _ (by rfl), ?_, hst, ?_, ⟨?_, ?_⟩, ?_⟩
  · rw [sizeLine_eq]
    simp only [List.size_toArray]
    omega
  · intro b hb
    rw [List.mem_singleton.mp hb, Heap.size_push]
    exact Nat.lt_succ_self _
  · rintro C i v s₃ m₃ E' hC ⟨c, u, hc, rfl⟩ hn hm hk htk
    refine wpAny_tests_one ?_
    have F3 : Fr h₀ C s₃.heap m₃ := ⟨hn, fun b o e => up _ hk b o (F.keep b o e), room C hC⟩
    rw [canonL (m := m₃) [("sign", Value.str ⟨#[c]⟩ u)] (by intro x hx; rw [List.mem_singleton.mp hx]; exact hm)] at F3
    exact test_9 X F3
  · rintro C i v s₃ m₃ E' hC ⟨c, u, hc, rfl⟩ hp hn hm hk htk
    have F3 : Fr h₀ C s₃.heap m₃ := ⟨hn, fun b o e => up _ hk b o (F.keep b o e), room C hC⟩
    rw [canonL (m := m₃) [("sign", Value.str ⟨#[c]⟩ u)] (by intro x hx; rw [List.mem_singleton.mp hx]; exact hm)] at F3
    exact elt_9 X (low_low hT (mem hc) hp) F3
  · intro D h' tk ys vs hD hl hpl hlen hP hPair hk
    obtain ⟨zs, e1, e2⟩ := pairs_low _ _ hPair
    rw [filter_back, signs_back (by rw [hlen]; simp) hP] at e2
    refine hQ h' tk D zs e2 (F.keeps (up h' hk)) (fun q hq => ⟨up h' hk _ _ (N q hq).1, (N q hq).2⟩) ?_
    rw [← e1]
    exact hl
end
end Mine
open PySem PySem.W PyProof.Rows PySem.Calls
namespace Mine
set_option maxHeartbeats 8000000
theorem join_go : ∀ (cs : List Nat) (acc : Array Nat), (cs.map fun c => (⟨#[c]⟩ : Str)).foldl (fun acc p => acc ++ (Str.ofString "").cps ++ p.cps) acc = acc ++ cs.toArray
  | [], acc => by simp
  | c :: r, acc => by
    rw [List.map_cons, List.foldl_cons, join_go r]
    have : (Str.ofString "").cps = #[] := by rfl
    rw [this]
    simp
theorem join_cs (cs : List Nat) : Txt.join (Str.ofString "") (cs.map fun c => (⟨#[c]⟩ : Str)) = ⟨cs.toArray⟩ := by
  cases cs with
  | nil => rfl
  | cons c r =>
    show Str.mk ((r.map fun c => (⟨#[c]⟩ : Str)).foldl (fun acc p => acc ++ (Str.ofString "").cps ++ p.cps) #[c]) = _
    rw [join_go]
    simp
theorem joinOk_go (cs : List Nat) : ∀ n : Nat, (cs.map fun c => (⟨#[c]⟩ : Str)).foldl (· + ·.length + (Str.ofString "").length) n = n + cs.length := by
  induction cs with
  | nil => intro n; rfl
  | cons c r ih =>
    intro n
    rw [List.map_cons, List.foldl_cons, ih]
    have h1 : (Str.ofString "").length = 0 := by rfl
    have h2 : (Str.mk #[c]).length = 1 := rfl
    rw [h1, h2, List.length_cons]
    omega
theorem joinOk_cs (cs : List Nat) (h : cs.length ≤ 100000) : JoinOk (Str.ofString "") (cs.map fun c => (⟨#[c]⟩ : Str)) = true := by
  unfold JoinOk
  rw [List.foldl_toArray, joinOk_go]
  unfold PySem.Builtin.Str.tooLong
  rw [sizeLine_eq]
  simp
  omega
section
variable {w : World} {mean : ExcName → Option Value} {mg mb : Str → Option Value} {s : Shared} {fa : Addr} {cd : Value} {h₀ : Heap} {a D C : Addr} {vs : List Value} {NS : List Int} {ob : Obj} {m : Str → Option Value} {own : List (Addr × Obj)}
theorem join_call {prog : Program} {w : World} {A : Around} {E : Value → Shared → Prop} {s : Shared} {t : Tok} {l : Addr} {zs : List (Str × Tok)} {xs cs : List Nat} {Q : Value → Shared → Prop} (hl : s.heap.IsList l (strValues zs).toArray) (hz : zs.map (·.1) = (kept xs).map (fun c => (⟨#[low c]⟩ : Str))) (hcs : (kept xs).map low = cs) (hn : cs.length ≤ 1000)
    (h : ∀ t' k, Q (.str ⟨cs.toArray⟩ t') { s with toks := k }) : wpAny (model prog w) A (call (.builtin "str.join") [.str (Str.ofString "") t, .ref l]) Q E s := by
  have e : zs.map (·.1) = cs.map (fun c => (⟨#[c]⟩ : Str)) := by rw [hz, ← hcs, List.map_map]; rfl
  refine SC.join hl e (joinOk_cs _ (by omega)) ?_
  rw [join_cs]
  exact h
theorem dec_call {w : World} {mean : ExcName → Option Value} {mg mb : Str → Option Value} {A : Around} {E : Value → Shared → Prop} {s : Shared} {h₀ : Heap} {L : Addr} {Q : Value → Shared → Prop} {a b c : List Nat} (X : Facts w mean mg mb h₀) (F : Fr h₀ L s.heap m) (N : News h₀ L s.heap own) (hh : A.handled = none) (hroom : A.depth + 5 < recursionLimit) (ha : ∀ x ∈ a, x ≠ 39) (hb : ∀ x ∈ b, x ≠ 39) (hc : ∀ x ∈ c, x ≠ 39) (hsz : (parted a b c).length ≤ 1000) (t : Tok)
    (hQ : ∀ h' tk l u₁ u₂ u₃, Fr h₀ L h' m → News h₀ L h' ((l, { cls := .type "list", data := .seq #[.str ⟨a.toArray⟩ u₁, .str ⟨b.toArray⟩ u₂, .str ⟨c.toArray⟩ u₃] }) :: own) → Q (.ref l) { s with heap := h', toks := tk }) :
    wpAny (model PySem.Challenge.rw_wa0029_01.row.prog w) A (call (.ref 28) [.str ⟨(parted a b c).toArray⟩ t]) Q E s := by
  refine wpAny_mono (dec_spec (X.keeps F.keep) hh hroom a b c ha hb hc hsz t) ?_ (fun _ _ h => h)
  rintro v s' ⟨⟨l, u₁, u₂, u₃, rfl, h1, h2⟩, h', tk, rfl, hk⟩
  refine hQ h' tk l u₁ u₂ u₃ (F.keeps hk) fun q hq => ?_
  rcases List.mem_cons.mp hq with rfl | hq
  · refine ⟨h1, fun e => ?_, ?_⟩
    · have e : l = L := e
      rw [e] at h2
      obtain ⟨_, _, _, ho, _⟩ := F.ns
      rw [ho] at h2
      cases h2
    · cases e : h₀.get? l with
      | none => rfl
      | some o => rw [F.keep _ _ e] at h2; cases h2
  · exact ⟨hk _ _ (N q hq).1, (N q hq).2⟩
local macro_rules | `(tactic| walk_at "eval ListComp") => `(tactic| (k_here; k_dflt (refine comp_9 (by assumption) (by assumption) (by assumption) (by with_reducible assumption) (by with_reducible assumption) ?_); intro _ _ _ _ _ _ _ _))
local macro_rules | `(tactic| walk_at "call builtin:str.join") => `(tactic| (k_here; refine join_call (by assumption) (by assumption) (by assumption) (by assumption) ?_; intro _ _))
local macro_rules | `(tactic| walk_at "call ref") => `(tactic| (k_here; refine dec_call (by assumption) (by with_reducible assumption) (by with_reducible assumption) (by rfl) (room1 _) (by assumption) (by assumption) (by assumption) (by assumption) _ ?_; intro _ _ _ _ _ _ _ _))
theorem law_9 {p o cut i : Nat} {ds xs : List Nat} {t : Tok} {Q : Flow → Shared → Prop} {a b c : List Nat} (X : Facts w mean mg mb h₀) (hT : Txt1 p o cut ds i xs) (hi : i ≤ 1000) (ha : ∀ x ∈ a, x ≠ 39) (hb : ∀ x ∈ b, x ≠ 39) (hc : ∀ x ∈ c, x ≠ 39) (hcs : (kept xs).map low = parted a b c) (hsz : (parted a b c).length ≤ 1000)
    (F : Fr h₀ h₀.objs.size s.heap (fun y => if y = "text" then some (.str ⟨xs.toArray⟩ t) else m y)) (N : News h₀ h₀.objs.size s.heap own)
    (hQ : ∀ h' tk l u₁ u₂ u₃, Fr h₀ h₀.objs.size h' (fun y => if y = "read" then some (.ref l) else if y = "text" then some (.str ⟨xs.toArray⟩ t) else m y) → News h₀ h₀.objs.size h' ((l, { cls := .type "list", data := .seq #[.str ⟨a.toArray⟩ u₁, .str ⟨b.toArray⟩ u₂, .str ⟨c.toArray⟩ u₃] }) :: own) → Q .next { s with heap := h', toks := tk }) :
    wpAny (model PySem.Challenge.rw_wa0029_01.row.prog w) (callerA.deeper (env1 h₀ fa cd)) (exec (stm 14 9) (env1 h₀ fa cd)) Q (fun _ _ => False) s := by
  have KX : (hd.heap_39 w.params).In h₀ := X.K
  revert KX
  k_fill
  intro KX
  have T := X.T
  have hst : stm 14 9 = stm 14 9 := rfl
  conv at hst => { rhs; whnf }
  rw [hst]
  clear hst
  k_steps
  (with_reducible rename Fr _ _ _ _ => F')
  (with_reducible rename News _ _ _ _ => N')
  exact hQ _ _ _ _ _ _ F' N'
end
end Mine
open PySem PySem.W PyProof.Rows PySem.Calls
namespace Mine
local macro_rules | `(tactic| walk_at "mine0") => `(tactic| fail)
local macro_rules | `(tactic| walk_at "mine1") => `(tactic| fail)
local macro_rules | `(tactic| walk_at "mine2") => `(tactic| fail)
local macro_rules | `(tactic| walk_at "mine3") => `(tactic| fail)
local macro_rules | `(tactic| walk_at "mine4") => `(tactic| fail)
local macro_rules | `(tactic| walk_at "mine5") => `(tactic| fail)
local macro_rules | `(tactic| walk_at "mine6") => `(tactic| fail)
local macro_rules | `(tactic| walk_at "mine7") => `(tactic| fail)
local macro_rules | `(tactic| walk_at "mine8") => `(tactic| fail)
local macro_rules | `(tactic| walk_at "mine9") => `(tactic| fail)
local macro_rules | `(tactic| walk_at "mine10") => `(tactic| fail)
local macro_rules | `(tactic| walk_at "mine11") => `(tactic| fail)
local macro_rules | `(tactic| walk_at "mine12") => `(tactic| fail)
local macro_rules | `(tactic| walk_at "mine13") => `(tactic| fail)
local macro_rules | `(tactic| walk_at "mine14") => `(tactic| fail)
set_option maxHeartbeats 8000000
section
variable {w : World} {mean : ExcName → Option Value} {mg mb : Str → Option Value} {s : Shared} {fa : Addr} {cd : Value} {h₀ : Heap} {D C : Addr} {vs : List Value} {NS : List Int} {ob : Obj} {m : Str → Option Value} {own : List (Addr × Obj)}
theorem none_in3 {prog : Program} {w : World} {A : Around} {E : Value → Shared → Prop} {s : Shared} {l : Addr} {a b c : Str} {u₁ u₂ u₃ : Tok} {Q : Value → Shared → Prop} (N : News h₀ D s.heap ((l, { cls := .type "list", data := .seq #[.str a u₁, .str b u₂, .str c u₃] }) :: own)) (h : Q (.bool false) s) :
    wpAny (model prog w) A (compareOp .In .none (.ref l)) Q E s := by
  refine PySem.SeqAt.in_listAt (items := #[.str a u₁, .str b u₂, .str c u₃]) (fun _ => false) ⟨_, N.get (.head _), rfl, _, rfl⟩ ?_ (by rw [show (#[Value.str a u₁, .str b u₂, .str c u₃].any fun _ => false) = false from by simp]; exact h)
  intro y hy
  have hy' : y ∈ ([.str a u₁, .str b u₂, .str c u₃] : List Value) := by simpa using hy
  simp only [List.mem_cons, List.not_mem_nil, or_false] at hy'
  rcases hy' with rfl | rfl | rfl <;> exact PySem.SeqAt.EqAt.str_none _ _
local macro_rules | `(tactic| walk_at "compareOp In") => `(tactic| (k_here; k_dflt (refine none_in3 (by with_reducible assumption) ?_)))
theorem law_10 {l : Addr} {a b c : Str} {u₁ u₂ u₃ : Tok} {Q : Flow → Shared → Prop} (X : Facts w mean mg mb h₀)
    (F : Fr h₀ h₀.objs.size s.heap (fun y => if y = "read" then some (.ref l) else m y)) (N : News h₀ h₀.objs.size s.heap ((l, { cls := .type "list", data := .seq #[.str a u₁, .str b u₂, .str c u₃] }) :: own))
    (hQ : ∀ h' tk, Fr h₀ h₀.objs.size h' (fun y => if y = "read" then some (.ref l) else m y) → News h₀ h₀.objs.size h' ((l, { cls := .type "list", data := .seq #[.str a u₁, .str b u₂, .str c u₃] }) :: own) → Q .next { s with heap := h', toks := tk }) :
    wpAny (model PySem.Challenge.rw_wa0029_01.row.prog w) (callerA.deeper (env1 h₀ fa cd)) (exec (stm 14 10) (env1 h₀ fa cd)) Q (fun _ _ => False) s := by
  have KX : (hd.heap_39 w.params).In h₀ := X.K
  revert KX
  k_fill
  intro KX
  have T := X.T
  have hst : stm 14 10 = stm 14 10 := rfl
  conv at hst => { rhs; whnf }
  rw [hst]
  clear hst
  k_steps
  (with_reducible rename Fr _ _ _ _ => F')
  (with_reducible rename News _ _ _ _ => N')
  exact hQ _ _ F' N'

noncomputable def comp11 : Expr := asgVal (stm 14 11)
noncomputable def elt11 : Expr := match comp11 with | .ListComp e _ _ _ => e | _ => default
noncomputable def iter11 : Expr := match comp11 with | .ListComp _ [⟨_, e, _, _⟩] _ _ => e | _ => default
noncomputable def scope11 : Scope := match comp11 with | .ListComp _ _ sc _ => sc | _ => scopeAt 14
noncomputable def eltI : Expr := match elt11 with | .ListComp e _ _ _ => e | _ => default
noncomputable def scopeI : Scope := match elt11 with | .ListComp _ _ sc _ => sc | _ => scopeAt 14
noncomputable abbrev cEnv (h₀ : Heap) (fa : Addr) (cd : Value) (C : Addr) : Env := compEnvC scope11 [] C (env1 h₀ fa cd)
theorem find16 (d : Nat) (hd : d < 16) : (match PySem.Builtin.Str.occurrences (Str.ofString "abcdefghijklmnop") ⟨#[97 + d]⟩ 0 (Str.ofString "abcdefghijklmnop").length 1 with | i :: _ => (i : Int) | [] => -1) = (d : Int) := by
  have h : ∀ d : Fin 16, (match PySem.Builtin.Str.occurrences (Str.ofString "abcdefghijklmnop") ⟨#[97 + d.val]⟩ 0 (Str.ofString "abcdefghijklmnop").length 1 with | i :: _ => (i : Int) | [] => -1) = (d.val : Int) := by decide +kernel
  exact h ⟨d, hd⟩
local macro_rules | `(tactic| walk_at "Keeps") => `(tactic| exact ⟨_, _, rfl, by assumption⟩)
noncomputable def IsInt (d : Nat) (v : Value) : Prop := ∃ u, v = .int d u
local macro_rules | `(tactic| walk_at "IsInt") => `(tactic| exact ⟨_, congrArg (fun k => Value.int k _) (find16 _ (by assumption))⟩)
theorem eltI_ok {d : Nat} {t : Tok} {E : Value → Shared → Prop} {C C2 : Addr} (X : Facts w mean mg mb h₀) (hdd : d < 16)
    (F : Fr h₀ C2 s.heap (fun y => if y = "sign" then some (.str ⟨#[97 + d]⟩ t) else m y)) :
    wpAny (model PySem.Challenge.rw_wa0029_01.row.prog w) (callerA.deeper (env1 h₀ fa cd)) (eval eltI (compEnvC scopeI [] C2 (cEnv h₀ fa cd C))) (fun v s' => IsInt d v ∧ Keeps s s') E s := by
  have KX : (hd.heap_39 w.params).In h₀ := X.K
  revert KX
  k_fill
  intro KX
  have T := X.T
  have hst : eltI = eltI := rfl
  conv at hst => { rhs; whnf }
  rw [hst]
  clear hst
  k_steps
  · exact fa
  · exact ("x" : Str)
  · exact cd
  · exact []
end
end Mine
open PySem PySem.W PyProof.Rows PySem.Calls
namespace Mine
set_option maxHeartbeats 8000000
section
variable {w : World} {mean : ExcName → Option Value} {mg mb : Str → Option Value} {s : Shared} {fa : Addr} {cd : Value} {h₀ : Heap} {D C : Addr} {vs : List Value} {NS : List Int} {ob : Obj} {m : Str → Option Value} {own : List (Addr × Obj)}
noncomputable def iterI : Expr := match elt11 with | .ListComp _ [⟨_, e, _, _⟩] _ _ => e | _ => default
theorem part_I {v : Value} {Q : Value → Shared → Prop} {E : Value → Shared → Prop} (X : Facts w mean mg mb h₀)
    (F : Fr h₀ C s.heap (fun y => if y = "part" then some v else m y)) (hQ : Q v s) :
    wpAny (model PySem.Challenge.rw_wa0029_01.row.prog w) (callerA.deeper (env1 h₀ fa cd)) (eval iterI (cEnv h₀ fa cd C)) Q E s := by
  have KX : (hd.heap_39 w.params).In h₀ := X.K
  revert KX
  k_fill
  intro KX
  have T := X.T
  have hst : iterI = iterI := rfl
  conv at hst => { rhs; whnf }
  rw [hst]
  clear hst
  k_steps
  all_goals first | exact hQ | exact fa | exact ("x" : Str) | exact cd | exact []
theorem read_11 {v : Value} {Q : Value → Shared → Prop} {E : Value → Shared → Prop} (X : Facts w mean mg mb h₀)
    (F : Fr h₀ h₀.objs.size s.heap (fun y => if y = "read" then some v else m y)) (hQ : Q v s) :
    wpAny (model PySem.Challenge.rw_wa0029_01.row.prog w) (callerA.deeper (env1 h₀ fa cd)) (eval iter11 (env1 h₀ fa cd)) Q E s := by
  have KX : (hd.heap_39 w.params).In h₀ := X.K
  revert KX
  k_fill
  intro KX
  have T := X.T
  have hst : iter11 = iter11 := rfl
  conv at hst => { rhs; whnf }
  rw [hst]
  clear hst
  k_steps
  all_goals first | exact hQ | skip
noncomputable def nums (v : Value) : List Int := match v with | .str ⟨a⟩ _ => a.toList.map fun c => ((c - 97 : Nat) : Int) | _ => []
noncomputable def numSign (v : Value) : Int := ((signNat v - 97 : Nat) : Int)
theorem pairs_int : ∀ (l : List Value) (ys : List Value), Paired (fun v y => IsInt (signNat v - 97) y) l ys → IntsAre ys (l.map numSign) := by
  intro l ys h
  induction h with
  | nil => exact .nil
  | cons hx _ ih =>
    obtain ⟨u, rfl⟩ := hx
    exact .cons _ u ih
noncomputable def Letters (xs : List Nat) : Prop := ∀ c ∈ xs, 97 ≤ c ∧ c < 113
theorem elt_11 {xs : List Nat} {t : Tok} {E : Value → Shared → Prop} (X : Facts w mean mg mb h₀) (hx : Letters xs) (hz : xs.length ≤ 3000)
    (F : Fr h₀ C s.heap (fun y => if y = "part" then some (.str ⟨xs.toArray⟩ t) else m y)) :
    wpAny (model PySem.Challenge.rw_wa0029_01.row.prog w) (callerA.deeper (env1 h₀ fa cd)) (eval elt11 (cEnv h₀ fa cd C))
      (fun y s' => (∃ T its, y = .ref T ∧ s.heap.get? T = none ∧ s'.heap.IsList T its ∧ IntsAre its.toList (nums (.str ⟨xs.toArray⟩ t))) ∧ Keeps s s') E s := by
  refine wpAny_ListComp_free (scope := scopeI) (cl := []) (x := "sign") (fun v => true) (fun v y => IsInt (signNat v - 97) y) (by rfl) (by decide) (by rfl) (by decide) (by rfl) ?_
  refine part_I X F ?_
  refine wpAny_pyIter_str (fun ob St W hst => ?_)
  have old : ∀ b o, s.heap.get? b = some o → b ∉ [s.heap.objs.size] := fun b o e hm => by
    have := Heap.lt_size e
    rw [List.mem_singleton.mp hm] at this
    exact Nat.lt_irrefl _ this
  have up : ∀ (h' : Heap), (∀ b o', b ∉ [s.heap.objs.size] → (s.heap.push ob).get? b = some o' → h'.get? b = some o') → ∀ b o', s.heap.get? b = some o' → h'.get? b = some o' :=
    fun h' hk b o' e => hk b o' (old b o' e) (Heap.get?_push_of_some _ e)
  have room : ∀ C2, (s.heap.push ob).objs.size ≤ C2 → h₀.objs.size ≤ C2 := fun C2 hC => by
    rw [Heap.size_push] at hC
    exact Nat.le_trans F.above (Nat.le_trans (Nat.le_of_lt F.ns.lt) (Nat.le_trans (Nat.le_succ _) hC))
  have mem : ∀ {c : Nat} {i : Nat}, (Str.mk xs.toArray).cps[i]? = some c → c ∈ xs := fun {c i} hc => by
    have hc' : xs[i]? = some c := by simpa using hc
    exact List.mem_of_getElem? hc'
  refine ⟨s.heap.objs.size, [s.heap.objs.size], [s.heap.objs.size], _, SignAt _, St, rfl, W _ (by rfl), ?_, hst, ?_, ⟨?_, ?_⟩, ?_⟩
  · rw [sizeLine_eq]
    simp only [List.size_toArray]
    omega
  · intro b hb
    rw [List.mem_singleton.mp hb, Heap.size_push]
    exact Nat.lt_succ_self _
  · rintro C2 i v s₃ m₃ E' hC _ hn hm hk htk
    exact wpAny_tests_nil ⟨rfl, _, _, rfl, fun b o e => e⟩
  · rintro C2 i v s₃ m₃ E' hC ⟨c, u, hc, rfl⟩ hp hn hm hk htk
    have F3 : Fr h₀ C2 s₃.heap m₃ := ⟨hn, fun b o e => up _ hk b o (F.keep b o e), room C2 hC⟩
    rw [canonL (m := m₃) [("sign", Value.str ⟨#[c]⟩ u)] (by intro x hx; rw [List.mem_singleton.mp hx]; exact hm)] at F3
    have hcx := hx c (mem hc)
    obtain ⟨d, rfl⟩ : ∃ d, c = 97 + d := ⟨c - 97, by omega⟩
    have : signNat (Value.str ⟨#[97 + d]⟩ u) - 97 = d := by show 97 + d - 97 = d; omega
    rw [this]
    exact eltI_ok X (by omega) F3
  · intro D h' tk ys vs hD hl hpl hlen hP hPair hk
    have e := pairs_int _ _ hPair
    have e2 : (vs.filter fun _ => true) = vs := by simp
    rw [e2] at e
    have e3 := signs_back (by rw [hlen]; simp) hP
    have e4 : vs.map numSign = nums (.str ⟨xs.toArray⟩ t) := by
      show vs.map (fun v => ((signNat v - 97 : Nat) : Int)) = xs.map fun c => ((c - 97 : Nat) : Int)
      rw [← e3, List.map_map]
      rfl
    rw [e4] at e
    refine ⟨⟨D, ys, rfl, ?_, hl, e⟩, h', tk, rfl, up h' hk⟩
    cases e5 : s.heap.get? D with
    | none => rfl
    | some o => rw [Heap.get?_push_of_some _ e5] at hD; cases hD
theorem three {F : Value → Value → Prop} {v1 v2 v3 : Value} : ∀ {ys : List Value}, Paired F [v1, v2, v3] ys → ∃ y1 y2 y3, ys = [y1, y2, y3] ∧ F v1 y1 ∧ F v2 y2 ∧ F v3 y3
  | _, .cons h1 (.cons h2 (.cons h3 .nil)) => ⟨_, _, _, rfl, h1, h2, h3⟩
noncomputable def lst (items : Array Value) (n : Nat) (d : Option Addr) (sl : Array (Option Value)) : Obj := { cls := .type "list", dict := d, data := .seq items n, slots := sl }
theorem comp_11 {l : Addr} {a b c : List Nat} {u₁ u₂ u₃ : Tok} {Q : Value → Shared → Prop} (X : Facts w mean mg mb h₀) (ha : Letters a) (hb : Letters b) (hc : Letters c) (za : a.length ≤ 3000) (zb : b.length ≤ 3000) (zc : c.length ≤ 3000)
    (F : Fr h₀ h₀.objs.size s.heap (fun y => if y = "read" then some (.ref l) else m y)) (N : News h₀ h₀.objs.size s.heap ((l, { cls := .type "list", data := .seq #[.str ⟨a.toArray⟩ u₁, .str ⟨b.toArray⟩ u₂, .str ⟨c.toArray⟩ u₃] }) :: own))
    (hQ : ∀ h' tk D T1 T2 T3 n i1 i2 i3 n1 n2 n3 d1 d2 d3 s1 s2 s3, IntsAre i1.toList (a.map fun c => ((c - 97 : Nat) : Int)) → IntsAre i2.toList (b.map fun c => ((c - 97 : Nat) : Int)) → IntsAre i3.toList (c.map fun c => ((c - 97 : Nat) : Int)) →
      Fr h₀ h₀.objs.size h' (fun y => if y = "read" then some (.ref l) else m y) →
      News h₀ h₀.objs.size h' ((D, { cls := .type "list", data := .seq #[.ref T1, .ref T2, .ref T3] n }) :: (T1, { cls := .type "list", dict := d1, data := .seq i1 n1, slots := s1 }) :: (T2, { cls := .type "list", dict := d2, data := .seq i2 n2, slots := s2 }) :: (T3, { cls := .type "list", dict := d3, data := .seq i3 n3, slots := s3 }) :: own) → Q (.ref D) { s with heap := h', toks := tk }) :
    wpAny (model PySem.Challenge.rw_wa0029_01.row.prog w) (callerA.deeper (env1 h₀ fa cd)) (eval comp11 (env1 h₀ fa cd)) Q (fun _ _ => False) s := by
  refine wpAny_ListComp_freeO (scope := scope11) (cl := []) (x := "part") (fun v => true) (fun v its => IntsAre its.toList (nums v)) (by rfl) (by decide) (by rfl) (by decide) (by rfl) ?_
  refine read_11 X F ?_
  have hl : s.heap.IsList l #[.str ⟨a.toArray⟩ u₁, .str ⟨b.toArray⟩ u₂, .str ⟨c.toArray⟩ u₃] := ⟨_, N.get (.head _), rfl, _, rfl⟩
  have hlt : l < s.heap.objs.size := Heap.lt_size (N.get (.head _))
  refine wpAny_pyIter_list hl ?_
  have up : ∀ (h' : Heap), (∀ b o', b ∉ [s.heap.objs.size] → (s.heap.push { cls := .type "list_iterator", data := .fields #[.ref l, .int 0 0] }).get? b = some o' → h'.get? b = some o') → ∀ b o', s.heap.get? b = some o' → h'.get? b = some o' :=
    fun h' hk b o' e => hk b o' (old_not_new e) (Heap.get?_push_of_some _ e)
  have hP3 : ∀ (i : Nat) (v : Value), (#[Value.str ⟨a.toArray⟩ u₁, .str ⟨b.toArray⟩ u₂, .str ⟨c.toArray⟩ u₃] : Array Value)[i]? = some v → ∃ xs t, v = .str ⟨xs.toArray⟩ t ∧ Letters xs ∧ xs.length ≤ 3000 := by
    intro i v hv
    have hv' : ([Value.str ⟨a.toArray⟩ u₁, .str ⟨b.toArray⟩ u₂, .str ⟨c.toArray⟩ u₃] : List Value)[i]? = some v := by simpa using hv
    have := List.mem_of_getElem? hv'
    simp only [List.mem_cons, List.not_mem_nil, or_false] at this
    rcases this with rfl | rfl | rfl
    · exact ⟨a, _, rfl, ha, za⟩
    · exact ⟨b, _, rfl, hb, zb⟩
    · exact ⟨c, _, rfl, hc, zc⟩
  refine ⟨s.heap.objs.size, [s.heap.objs.size, l], [s.heap.objs.size], _, _, _, rfl, Walks.list (by rfl) s.heap.objs.size l (Nat.ne_of_lt hlt) #[.str ⟨a.toArray⟩ u₁, .str ⟨b.toArray⟩ u₂, .str ⟨c.toArray⟩ u₃], ?_, ?_, ?_, ?_, ⟨?_, ?_⟩, ?_⟩
  · rw [sizeLine_eq]; show 3 ≤ 16777216; omega
  · rintro i h ⟨⟨o, ho, _⟩, _⟩ b hb
    rw [List.mem_singleton.mp hb]
    exact ⟨o, ho⟩
  · exact ⟨⟨_, Heap.get?_push_size _ rfl, rfl, rfl⟩, hl.at fun o e => Heap.get?_push_of_some _ e⟩
  · intro b hb
    rw [Heap.size_push]
    rcases List.mem_cons.mp hb with rfl | hb
    · exact Nat.lt_succ_self _
    · rw [List.mem_singleton.mp hb]
      exact Nat.lt_succ_of_lt hlt
  · rintro C2 i v s₃ m₃ E' hC _ hn hm hk htk
    exact wpAny_tests_nil ⟨rfl, _, _, rfl, fun b o e => e⟩
  · rintro C2 i v s₃ m₃ E' hC hv hp hn hm hk htk
    obtain ⟨xs, t, rfl, hx, hz⟩ := hP3 i v hv
    have F3 : Fr h₀ C2 s₃.heap m₃ := ⟨hn, fun b o e => up _ hk b o (F.keep b o e), by
      rw [Heap.size_push] at hC
      exact Nat.le_trans (Nat.le_of_lt F.ns.lt) (Nat.le_trans (Nat.le_succ _) hC)⟩
    rw [canonL (m := m₃) [("part", Value.str ⟨xs.toArray⟩ t)] (by intro x hx; rw [List.mem_singleton.mp hx]; exact hm)] at F3
    exact elt_11 X hx hz F3
  · intro D h' tk ys vs hD hlD hpl hlen hP hPair hne hnD hk
    have hvs : vs = [.str ⟨a.toArray⟩ u₁, .str ⟨b.toArray⟩ u₂, .str ⟨c.toArray⟩ u₃] := by
      refine List.ext_getElem? fun j => ?_
      by_cases hj : j < vs.length
      · rw [List.getElem?_eq_getElem hj]
        have := hP j _ (List.getElem?_eq_getElem hj)
        simpa using this.symm
      · have : vs.length = 3 := hlen
        rw [List.getElem?_eq_none (by omega), List.getElem?_eq_none (by simp; omega)]
    subst hvs
    have e2 : ([Value.str ⟨a.toArray⟩ u₁, .str ⟨b.toArray⟩ u₂, .str ⟨c.toArray⟩ u₃].filter fun _ => true) = [.str ⟨a.toArray⟩ u₁, .str ⟨b.toArray⟩ u₂, .str ⟨c.toArray⟩ u₃] := rfl
    rw [e2] at hPair
    obtain ⟨y1, y2, y3, hys, ⟨T1, i1, rfl, hT1, ⟨⟨c1, d1, k1, s1⟩, ho1, hc1, n1, hd1⟩, hi1⟩, ⟨T2, i2, rfl, hT2, ⟨⟨c2, d2, k2, s2⟩, ho2, hc2, n2, hd2⟩, hi2⟩, ⟨T3, i3, rfl, hT3, ⟨⟨c3, d3, k3, s3⟩, ho3, hc3, n3, hd3⟩, hi3⟩⟩ := three hPair
    simp only at hc1 hd1 hc2 hd2 hc3 hd3
    subst hc1 hd1 hc2 hd2 hc3 hd3
    have hys' : ys = #[.ref T1, .ref T2, .ref T3] := by
      have := congrArg List.toArray hys
      simpa using this
    subst hys'
    obtain ⟨n, hplD⟩ := hpl
    have fresh : ∀ T, (s.heap.push { cls := .type "list_iterator", data := .fields #[.ref l, .int 0 0] }).get? T = none → T ≠ h₀.objs.size ∧ h₀.get? T = none := by
      intro T hT
      constructor
      · rintro rfl
        obtain ⟨_, _, _, ho, _⟩ := F.ns
        rw [Heap.get?_push_of_some _ ho] at hT
        cases hT
      · cases e : h₀.get? T with
        | none => rfl
        | some o => rw [Heap.get?_push_of_some _ (F.keep _ _ e)] at hT; cases hT
    refine hQ h' tk D T1 T2 T3 n i1 i2 i3 n1 n2 n3 d1 d2 d3 s1 s2 s3 hi1 hi2 hi3 (F.keeps (up h' hk)) ?_
    intro q hq
    rcases List.mem_cons.mp hq with rfl | hq
    · exact ⟨hplD, (fresh _ hD).1, (fresh _ hD).2⟩
    rcases List.mem_cons.mp hq with rfl | hq
    · exact ⟨ho1, (fresh _ hT1).1, (fresh _ hT1).2⟩
    rcases List.mem_cons.mp hq with rfl | hq
    · exact ⟨ho2, (fresh _ hT2).1, (fresh _ hT2).2⟩
    rcases List.mem_cons.mp hq with rfl | hq
    · exact ⟨ho3, (fresh _ hT3).1, (fresh _ hT3).2⟩
    · have := N q (.tail _ hq)
      exact ⟨up h' hk _ _ this.1, this.2⟩
end
end Mine
open PySem PySem.W PyProof.Rows PySem.Calls
namespace Mine
local macro_rules | `(tactic| walk_at "mine0") => `(tactic| fail)
local macro_rules | `(tactic| walk_at "mine1") => `(tactic| fail)
local macro_rules | `(tactic| walk_at "mine2") => `(tactic| fail)
local macro_rules | `(tactic| walk_at "mine3") => `(tactic| fail)
local macro_rules | `(tactic| walk_at "mine4") => `(tactic| fail)
local macro_rules | `(tactic| walk_at "mine5") => `(tactic| fail)
local macro_rules | `(tactic| walk_at "mine6") => `(tactic| fail)
local macro_rules | `(tactic| walk_at "mine7") => `(tactic| fail)
local macro_rules | `(tactic| walk_at "mine8") => `(tactic| fail)
local macro_rules | `(tactic| walk_at "mine9") => `(tactic| fail)
local macro_rules | `(tactic| walk_at "mine10") => `(tactic| fail)
local macro_rules | `(tactic| walk_at "mine11") => `(tactic| fail)
local macro_rules | `(tactic| walk_at "mine12") => `(tactic| fail)
local macro_rules | `(tactic| walk_at "mine13") => `(tactic| fail)
local macro_rules | `(tactic| walk_at "mine14") => `(tactic| fail)
set_option maxHeartbeats 8000000
section
variable {w : World} {mean : ExcName → Option Value} {mg mb : Str → Option Value} {s : Shared} {fa : Addr} {cd : Value} {h₀ : Heap} {D C : Addr} {vs : List Value} {NS : List Int} {ob : Obj} {m : Str → Option Value} {own : List (Addr × Obj)}
section
theorem law_11 {l : Addr} {a b c : List Nat} {u₁ u₂ u₃ : Tok} {Q : Flow → Shared → Prop} (X : Facts w mean mg mb h₀) (ha : Letters a) (hb : Letters b) (hc : Letters c) (za : a.length ≤ 3000) (zb : b.length ≤ 3000) (zc : c.length ≤ 3000)
    (F : Fr h₀ h₀.objs.size s.heap (fun y => if y = "read" then some (.ref l) else m y)) (N : News h₀ h₀.objs.size s.heap ((l, { cls := .type "list", data := .seq #[.str ⟨a.toArray⟩ u₁, .str ⟨b.toArray⟩ u₂, .str ⟨c.toArray⟩ u₃] }) :: own))
    (hQ : ∀ h' tk T1 T2 T3 i1 i2 i3 n1 n2 n3 d1 d2 d3 s1 s2 s3, IntsAre i1.toList (a.map fun c => ((c - 97 : Nat) : Int)) → IntsAre i2.toList (b.map fun c => ((c - 97 : Nat) : Int)) → IntsAre i3.toList (c.map fun c => ((c - 97 : Nat) : Int)) →
      Fr h₀ h₀.objs.size h' (fun y => if y = "more" then some (.ref T3) else if y = "period" then some (.ref T2) else if y = "ahead" then some (.ref T1) else if y = "read" then some (.ref l) else m y) →
      News h₀ h₀.objs.size h' ((T1, { cls := .type "list", dict := d1, data := .seq i1 n1, slots := s1 }) :: (T2, { cls := .type "list", dict := d2, data := .seq i2 n2, slots := s2 }) :: (T3, { cls := .type "list", dict := d3, data := .seq i3 n3, slots := s3 }) :: own) → Q .next { s with heap := h', toks := tk }) :
    wpAny (model PySem.Challenge.rw_wa0029_01.row.prog w) (callerA.deeper (env1 h₀ fa cd)) (exec (stm 14 11) (env1 h₀ fa cd)) Q (fun _ _ => False) s := by
  have KX : (hd.heap_39 w.params).In h₀ := X.K
  revert KX
  k_fill
  intro KX
  have T := X.T
  have hst : stm 14 11 = stm 14 11 := rfl
  conv at hst => { rhs; whnf }
  rw [hst]
  clear hst
  refine Assign_Tuple ?_ (by rfl) (by rfl)
  refine comp_11 X ha hb hc za zb zc F N ?_
  intro h1 tk D T1 T2 T3 n i1 i2 i3 n1 n2 n3 d1 d2 d3 s1 s2 s3 e1 e2 e3 F' N'
  clear F N
  k_steps
  (with_reducible rename Fr _ _ _ _ => F2)
  (with_reducible rename News _ _ _ _ => N2)
  exact hQ _ _ T1 T2 T3 i1 i2 i3 n1 n2 n3 d1 d2 d3 s1 s2 s3 e1 e2 e3 F2 (fun q hq => N2 q (.tail _ hq))
end
end
end Mine
open PySem PySem.W PyProof.Rows PySem.Calls
namespace Mine
set_option maxHeartbeats 8000000
section
variable {w : World} {mean : ExcName → Option Value} {mg mb : Str → Option Value} {s : Shared} {fa : Addr} {cd : Value} {h₀ : Heap} {D C : Addr} {vs : List Value} {NS : List Int} {ob : Obj} {m : Str → Option Value} {own : List (Addr × Obj)}
noncomputable def fold16 (ns : List Int) : Int := ns.foldl (fun a b => 16 * a + b) 0
theorem num_call {w : World} {mean : ExcName → Option Value} {mg mb : Str → Option Value} {A : Around} {E : Value → Shared → Prop} {s : Shared} {h₀ : Heap} {L : Addr} {Q : Value → Shared → Prop} {T : Addr} {its : List Value} {ns : List Int} {n : Nat} {d : Option Addr} {sl : Array (Option Value)} (X : Facts w mean mg mb h₀) (F : Fr h₀ L s.heap m) (N : News h₀ L s.heap ((T, { cls := .type "list", dict := d, data := .seq its.toArray n, slots := sl }) :: own)) (hi : IntsAre its ns) (hh : A.handled = none) (hroom : A.depth + 5 < recursionLimit) (hlen : ns.length ≤ 1000) (hb : ∀ n ∈ ns, 0 ≤ n ∧ n < 16)
    (hQ : ∀ h' tk u, Fr h₀ L h' m → News h₀ L h' ((T, { cls := .type "list", dict := d, data := .seq its.toArray n, slots := sl }) :: own) → Q (.int (fold16 ns) u) { s with heap := h', toks := tk }) :
    wpAny (model PySem.Challenge.rw_wa0029_01.row.prog w) A (call (.ref 113) [.ref T]) Q E s := by
  refine wpAny_mono (num_spec (X.keeps F.keep) hh hroom ⟨_, N.get (.head _), rfl, _, rfl⟩ hi (by omega) hb) ?_ (fun _ _ h => h)
  rintro v s' ⟨⟨u, rfl⟩, h', tk, rfl, hk⟩
  exact hQ h' tk u (F.keeps hk) fun q hq => ⟨hk _ _ (N q hq).1, (N q hq).2⟩
local macro_rules | `(tactic| walk_at "call ref") => `(tactic| (k_here; k_dflt (refine num_call (by assumption) (by with_reducible assumption) (by with_reducible assumption) (by assumption) (by rfl) (room1 _) (by assumption) (by assumption) ?_); intro _ _ _ _ _))
theorem law_12 {T1 T2 T3 : Addr} {v1 v2 v3 : List Value} {NA NB NC : List Int} {W p : Nat} {u1 u2 : Tok} {n1 n2 n3 : Nat} {d1 d2 d3 : Option Addr} {s1 s2 s3 : Array (Option Value)} {Q : Flow → Shared → Prop} (X : Facts w mean mg mb h₀)
    (hA : IntsAre v1 NA) (hB : IntsAre v2 NB) (hC : IntsAre v3 NC) (lA : 1 ≤ NA.length) (lA2 : NA.length ≤ 1000) (bA : ∀ n ∈ NA, 0 ≤ n ∧ n < 16) (lB : NB.length ≤ 1000) (lC : NC.length ≤ 1000)
    (qA : NA.getD 0 0 ≠ 0) (qN : fold16 NA = (W : Int)) (qB : (NB.length : Int) = ((p / 2 : Nat) : Int)) (qC : NC = NB.take 3)
    (F : Fr h₀ h₀.objs.size s.heap (fun y => if y = "more" then some (.ref T3) else if y = "period" then some (.ref T2) else if y = "ahead" then some (.ref T1) else if y = "whole" then some (.int W u1) else if y = "half" then some (.int ((p / 2 : Nat) : Int) u2) else m y))
    (N : News h₀ h₀.objs.size s.heap ((T1, { cls := .type "list", dict := d1, data := .seq v1.toArray n1, slots := s1 }) :: (T2, { cls := .type "list", dict := d2, data := .seq v2.toArray n2, slots := s2 }) :: (T3, { cls := .type "list", dict := d3, data := .seq v3.toArray n3, slots := s3 }) :: own))
    (hQ : ∀ h' tk, Fr h₀ h₀.objs.size h' (fun y => if y = "more" then some (.ref T3) else if y = "period" then some (.ref T2) else if y = "ahead" then some (.ref T1) else if y = "whole" then some (.int W u1) else if y = "half" then some (.int ((p / 2 : Nat) : Int) u2) else m y) →
      News h₀ h₀.objs.size h' ((T2, { cls := .type "list", dict := d2, data := .seq v2.toArray n2, slots := s2 }) :: own) → Q .next { s with heap := h', toks := tk }) :
    wpAny (model PySem.Challenge.rw_wa0029_01.row.prog w) (callerA.deeper (env1 h₀ fa cd)) (exec (stm 14 12) (env1 h₀ fa cd)) Q (fun _ _ => False) s := by
  have KX : (hd.heap_39 w.params).In h₀ := X.K
  revert KX
  k_fill
  intro KX
  have T := X.T
  have hst : stm 14 12 = stm 14 12 := rfl
  conv at hst => { rhs; whnf }
  rw [hst]
  clear hst
  k_steps
  · exact absurd (show NA.getD (Int.toNat 0) 0 = 0 by assumption) qA
  · exact absurd qN (by assumption)
  · exact absurd qB (by assumption)
  · (with_reducible rename Fr _ _ _ _ => F')
    (with_reducible rename News _ _ _ _ => N')
    refine hQ _ _ F' (fun q hq => N' q ?_)
    simp only [List.mem_cons] at hq ⊢
    rcases hq with h | h
    · simp [h]
    · simp [h]
section
local macro_rules | `(tactic| walk_at "call ref") => `(tactic| fail)
noncomputable def isSq (p o : Nat) : Bool := (List.map (fun k' => (k' * k').fmod (p : Int)) (rangeKs 1 (((p / 2 : Nat) : Int) + 1 - 1).toNat)).any fun x => x == (o : Int)
theorem law_13 {p o : Nat} {u u2 u3 : Tok} {Q : Flow → Shared → Prop} {T2 : Addr} {o2 : Obj} (X : Facts w mean mg mb h₀) (hp : 7 ≤ p ∧ p ≤ 83)
    (F : Fr h₀ h₀.objs.size s.heap (fun y => if y = "half" then some (.int ((p / 2 : Nat) : Int) u2) else if y = "over" then some (.int o u3) else m y))
    (N : News h₀ h₀.objs.size s.heap [(T2, o2), (D, listOf vs.toArray 0), (h₀.objs.size + 1, ob)]) (X0 : ob.data = .cell (some (.int p u)))
    (hQ : ∀ h' tk, Fr h₀ h₀.objs.size h' (fun y => if y = "square" then some (.bool (isSq p o)) else if y = "half" then some (.int ((p / 2 : Nat) : Int) u2) else if y = "over" then some (.int o u3) else m y) → News h₀ h₀.objs.size h' [(T2, o2), (D, listOf vs.toArray 0), (h₀.objs.size + 1, ob)] → Q .next { s with heap := h', toks := tk }) :
    wpAny (model PySem.Challenge.rw_wa0029_01.row.prog w) (callerA.deeper (env1 h₀ fa cd)) (exec (stm 14 13) (env1 h₀ fa cd)) Q (fun _ _ => False) s := by
  have KX : (hd.heap_39 w.params).In h₀ := X.K
  revert KX
  k_fill
  intro KX
  have T := X.T
  have hst : stm 14 13 = stm 14 13 := rfl
  conv at hst => { rhs; whnf }
  rw [hst]
  clear hst
  k_steps
  (with_reducible rename Fr _ _ _ _ => F')
  (with_reducible rename News _ _ _ _ => N')
  exact hQ _ _ F' (fun q hq => N' q (.tail _ hq))
end
end
end Mine
open PySem PySem.W PyProof.Rows PySem.Calls
namespace Mine
local macro_rules | `(tactic| walk_at "mine0") => `(tactic| fail)
local macro_rules | `(tactic| walk_at "mine1") => `(tactic| fail)
local macro_rules | `(tactic| walk_at "mine2") => `(tactic| fail)
local macro_rules | `(tactic| walk_at "mine3") => `(tactic| fail)
local macro_rules | `(tactic| walk_at "mine4") => `(tactic| fail)
local macro_rules | `(tactic| walk_at "mine5") => `(tactic| fail)
local macro_rules | `(tactic| walk_at "mine6") => `(tactic| fail)
local macro_rules | `(tactic| walk_at "mine7") => `(tactic| fail)
local macro_rules | `(tactic| walk_at "mine8") => `(tactic| fail)
local macro_rules | `(tactic| walk_at "mine9") => `(tactic| fail)
local macro_rules | `(tactic| walk_at "mine10") => `(tactic| fail)
local macro_rules | `(tactic| walk_at "mine11") => `(tactic| fail)
local macro_rules | `(tactic| walk_at "mine12") => `(tactic| fail)
local macro_rules | `(tactic| walk_at "mine13") => `(tactic| fail)
local macro_rules | `(tactic| walk_at "mine14") => `(tactic| fail)
set_option maxHeartbeats 4000000
noncomputable def formIf : Stmt := match stm 11 1 with | .For _ _ [_, .For _ _ [i] _ _] _ _ => i | _ => .Pass default
noncomputable abbrev envF (L : Addr) : Env := envOf "_law_forms" (scopeAt 11) L 99 (.ref 98)
noncomputable def cnt (b a P : Int) : Int := if a * a ≤ P ∧ P.fmod a = 0 then (if b = a ∨ a * a = P then 1 else 2) else 0
section
theorem form_if {w : World} {mean : ExcName → Option Value} {mg mb : Str → Option Value} {A : Around} {E : Value → Shared → Prop} {s : Shared} {h₀ : Heap} {L : Addr} {m : Str → Option Value} {own : List (Addr × Obj)} {Q : Flow → Shared → Prop} {a b P M : Int} {ta tb tp tm : Tok}
    (X : Facts w mean mg mb h₀) (hh : A.handled = none) (F : Fr h₀ L s.heap m) (N : News h₀ L s.heap own) (g1 : m "a" = some (.int a ta)) (g2 : m "b" = some (.int b tb)) (g3 : m "product" = some (.int P tp)) (g4 : m "many" = some (.int M tm)) (ha : 0 < a) (ha5 : a ≤ 5)
    (hQ : ∀ h' tk u, Fr h₀ L h' (fun y => if y = "many" then some (.int (M + cnt b a P) u) else m y) → News h₀ L h' own → Q .next { s with heap := h', toks := tk }) :
    wpAny (model PySem.Challenge.rw_wa0029_01.row.prog w) A (exec formIf (envF L)) Q E s := by
  obtain ⟨ah, ad, af, ag, au⟩ := A
  subst hh
  have KX : (hd.heap_39 w.params).In h₀ := X.K
  revert KX
  k_fill
  intro KX
  have T := X.T
  have e0 : m = fun (y : Str) => if y = Str.ofString "a" then some (.int a ta) else if y = Str.ofString "b" then some (.int b tb) else if y = Str.ofString "product" then some (.int P tp) else if y = Str.ofString "many" then some (.int M tm) else m y := by
    funext y
    by_cases e1 : y = Str.ofString "a"
    · subst e1; simp [g1]
    · by_cases e2 : y = Str.ofString "b"
      · subst e2; simp [e1, g2]
      · by_cases e3 : y = Str.ofString "product"
        · subst e3; simp [e1, e2, g3]
        · by_cases e4 : y = Str.ofString "many"
          · subst e4; simp [e1, e2, e3, g4]
          · simp [e1, e2, e3, e4]
  rw [e0] at F
  have hst : formIf = formIf := rfl
  conv at hst => { rhs; whnf }
  rw [hst]
  clear hst
  have e2 : (fun y : Str => if y = Str.ofString "many" then some (Value.int M tm) else m y) = m := by
    funext y
    by_cases e : y = Str.ofString "many"
    · subst e; simp [g4]
    · simp [e]
  k_steps
  all_goals (with_reducible rename Fr _ _ _ _ => F')
  all_goals (with_reducible rename News _ _ _ _ => N')
  · have hc : cnt b a P = 1 := by unfold cnt; rw [if_pos ⟨by assumption, by assumption⟩, if_pos (Or.inl (by assumption))]
    exact hQ _ _ _ (by rw [hc, e0]; exact F') N'
  · have hc : cnt b a P = 1 := by unfold cnt; rw [if_pos ⟨by assumption, by assumption⟩, if_pos (Or.inr (by assumption))]
    exact hQ _ _ _ (by rw [hc, e0]; exact F') N'
  · have hc : cnt b a P = 2 := by unfold cnt; rw [if_pos ⟨by assumption, by assumption⟩, if_neg (fun h => h.elim (by assumption) (by assumption))]
    exact hQ _ _ _ (by rw [hc, e0]; exact F') N'
  · have hc : cnt b a P = 0 := by unfold cnt; exact if_neg (fun h => (by assumption : ¬ _) h.2)
    refine hQ _ _ tm ?_ N'
    rw [hc, Int.add_zero, e2, e0]
    exact F'
  · have hc : cnt b a P = 0 := by unfold cnt; exact if_neg (fun h => (by assumption : ¬ _) h.1)
    refine hQ _ _ tm ?_ N'
    rw [hc, Int.add_zero, e2, e0]
    exact F'
local macro_rules | `(tactic| walk_at "Keeps") => `(tactic| exact ⟨_, _, rfl, Fr.keep (by assumption)⟩)
local macro_rules | `(tactic| walk_at "exec If") => `(tactic| (k_here; k_dflt (refine form_if (by assumption) (by rfl) (by assumption) (by assumption) (by rfl) (by rfl) (by rfl) (by rfl) (by decide) (by decide) ?_); intro _ _ _ _ _))
noncomputable def cls (p : Nat) : Nat := if p = 23 then 3 else if p = 47 then 5 else if p = 59 then 3 else if p = 71 then 7 else if p = 79 then 5 else if p = 83 then 3 else 1
theorem sum_cls : ∀ p ∈ primes, 0 + cnt 1 (1 + ((0 : Nat) : Int)) ((1 * 1 + (p : Int)).fdiv 4) + cnt 1 (1 + ((0 + 1 : Nat) : Int)) ((1 * 1 + (p : Int)).fdiv 4) + cnt 1 (1 + ((0 + 1 + 1 : Nat) : Int)) ((1 * 1 + (p : Int)).fdiv 4) +
    cnt 1 (1 + ((0 + 1 + 1 + 1 : Nat) : Int)) ((1 * 1 + (p : Int)).fdiv 4) + cnt 1 (1 + ((0 + 1 + 1 + 1 + 1 : Nat) : Int)) ((1 * 1 + (p : Int)).fdiv 4) +
    cnt 3 (3 + ((0 : Nat) : Int)) ((3 * 3 + (p : Int)).fdiv 4) + cnt 3 (3 + ((0 + 1 : Nat) : Int)) ((3 * 3 + (p : Int)).fdiv 4) + cnt 3 (3 + ((0 + 1 + 1 : Nat) : Int)) ((3 * 3 + (p : Int)).fdiv 4) +
    cnt 5 (5 + ((0 : Nat) : Int)) ((5 * 5 + (p : Int)).fdiv 4) = (cls p : Int) := by decide +kernel
theorem form_any {w : World} {mean : ExcName → Option Value} {mg mb : Str → Option Value} {A : Around} {E : Value → Shared → Prop} {s : Shared} (X : Facts w mean mg mb s.heap) (hh : A.handled = none) (hroom : A.depth + 5 < recursionLimit) (p : Nat) (hp : p ∈ primes) (t : Tok) :
    wpAny (model PySem.Challenge.rw_wa0029_01.row.prog w) A (call (.ref 99) [.int p t]) (fun v s' => (∃ n u, v = .int n u ∧ n = cls p) ∧ Keeps s s') E s := by
  obtain ⟨ah, ad, af, ag, au⟩ := A
  subst hh
  have KX : (hd.heap_39 w.params).In s.heap := X.K
  revert KX
  k_fill
  intro KX
  have T := X.T
  refine wpAny_call ?_
  refine call_plain_ret (binds := [(Str.ofString "prime", .int p t)]) (by omega) (KX 99 _ (by k_is)) (by rfl) T.nolimit (codeRec_of KX (by k_is)) (by rfl) (locs (by rfl)) (fun h₁ F => ?_)
  have N : News s.heap s.heap.objs.size h₁ [] := News.nil
  k_steps
  exact sum_cls p hp
theorem forms_spec {w : World} {mean : ExcName → Option Value} {mg mb : Str → Option Value} {A : Around} {E : Value → Shared → Prop} {s : Shared} (X : Facts w mean mg mb s.heap) (hh : A.handled = none) (hroom : A.depth + 5 < recursionLimit) (p : Nat) (hp : p ∈ primes) (t : Tok) :
    wpAny (model PySem.Challenge.rw_wa0029_01.row.prog w) A (call (.ref 99) [.int p t]) (fun v s' => (∃ u, v = .int (cls p) u) ∧ Keeps s s') E s := by
  refine wpAny_mono (form_any X hh hroom p hp t) ?_ (fun _ _ h => h)
  rintro v s' ⟨⟨n, u, rfl, rfl⟩, hk⟩
  exact ⟨⟨u, rfl⟩, hk⟩
end
end Mine
open PySem PySem.W PyProof.Rows PySem.Calls
namespace Mine
set_option maxHeartbeats 8000000
section
variable {w : World} {mean : ExcName → Option Value} {mg mb : Str → Option Value} {s : Shared} {fa : Addr} {cd : Value} {h₀ : Heap} {D C : Addr} {vs : List Value} {NS : List Int} {ob : Obj} {m : Str → Option Value} {own : List (Addr × Obj)}
theorem forms_call {A : Around} {E : Value → Shared → Prop} {L : Addr} {Q : Value → Shared → Prop} {p : Nat} {t : Tok} (X : Facts w mean mg mb h₀) (F : Fr h₀ L s.heap m) (N : News h₀ L s.heap own) (hh : A.handled = none) (hroom : A.depth + 5 < recursionLimit) (hp : p ∈ primes)
    (hQ : ∀ h' tk u, Fr h₀ L h' m → News h₀ L h' own → Q (.int (cls p) u) { s with heap := h', toks := tk }) :
    wpAny (model PySem.Challenge.rw_wa0029_01.row.prog w) A (call (.ref 99) [.int p t]) Q E s := by
  refine wpAny_mono (forms_spec (X.keeps F.keep) hh hroom p hp t) ?_ (fun _ _ h => h)
  rintro v s' ⟨⟨u, rfl⟩, h', tk, rfl, hk⟩
  exact hQ h' tk u (F.keeps hk) fun q hq => ⟨hk _ _ (N q hq).1, (N q hq).2⟩
local macro_rules | `(tactic| walk_at "call ref") => `(tactic| (k_here; k_dflt (refine forms_call (by assumption) (by with_reducible assumption) (by with_reducible assumption) (by rfl) (room1 _) (by assumption) ?_); intro _ _ _ _ _))
theorem law_14 {p : Nat} {b : Bool} {u u2 : Tok} {Q : Flow → Shared → Prop} {T2 : Addr} {v2 : List Value} {NB : List Int} {n2 : Nat} {d2 : Option Addr} {s2 : Array (Option Value)} (X : Facts w mean mg mb h₀) (hp : p ∈ primes) (hp2 : 7 ≤ p ∧ p ≤ 83) (hB : IntsAre v2 NB) (lB : NB.length ≤ 1000) (bB : ∀ n ∈ NB, 0 ≤ n ∧ n < 16)
    (F : Fr h₀ h₀.objs.size s.heap (fun y => if y = "square" then some (.bool b) else if y = "half" then some (.int ((p / 2 : Nat) : Int) u2) else if y = "period" then some (.ref T2) else m y))
    (N : News h₀ h₀.objs.size s.heap [(T2, { cls := .type "list", dict := d2, data := .seq v2.toArray n2, slots := s2 }), (D, listOf vs.toArray 0), (h₀.objs.size + 1, ob)]) (X0 : ob.data = .cell (some (.int p u)))
    (hfin : 2 * NB.sum = 15 * (if b = true then ((p / 2 : Nat) : Int) - (cls p : Int) else ((p / 2 : Nat) : Int) + (cls p : Int)))
    (hQ : ∀ h' tk, (∀ b o, h₀.get? b = some o → h'.get? b = some o) → Q (.ret (.bool true)) { s with heap := h', toks := tk }) :
    wpAny (model PySem.Challenge.rw_wa0029_01.row.prog w) (callerA.deeper (env1 h₀ fa cd)) (exec (stm 14 14) (env1 h₀ fa cd)) Q (fun _ _ => False) s := by
  have KX : (hd.heap_39 w.params).In h₀ := X.K
  revert KX
  k_fill
  intro KX
  have T := X.T
  have hst : stm 14 14 = stm 14 14 := rfl
  conv at hst => { rhs; whnf }
  rw [hst]
  clear hst
  k_steps
  all_goals (with_reducible rename Fr _ _ _ _ => F')
  · have e : (2 * NB.sum == 15 * (((p / 2 : Nat) : Int) - (cls p : Int))) = true := by
      rw [beq_iff_eq, hfin, if_pos (by assumption)]
    rw [e]
    exact hQ _ _ F'.keep
  · have e : (2 * NB.sum == 15 * (((p / 2 : Nat) : Int) + (cls p : Int))) = true := by
      rw [beq_iff_eq, hfin, if_neg (by first | assumption | simp_all)]
    rw [e]
    exact hQ _ _ F'.keep
end
end Mine
open PySem PySem.W PyProof.Rows PySem.Calls
namespace Mine
local macro_rules | `(tactic| walk_at "mine0") => `(tactic| fail)
local macro_rules | `(tactic| walk_at "mine1") => `(tactic| fail)
local macro_rules | `(tactic| walk_at "mine2") => `(tactic| fail)
local macro_rules | `(tactic| walk_at "mine3") => `(tactic| fail)
local macro_rules | `(tactic| walk_at "mine4") => `(tactic| fail)
local macro_rules | `(tactic| walk_at "mine5") => `(tactic| fail)
local macro_rules | `(tactic| walk_at "mine6") => `(tactic| fail)
local macro_rules | `(tactic| walk_at "mine7") => `(tactic| fail)
local macro_rules | `(tactic| walk_at "mine8") => `(tactic| fail)
local macro_rules | `(tactic| walk_at "mine9") => `(tactic| fail)
local macro_rules | `(tactic| walk_at "mine10") => `(tactic| fail)
local macro_rules | `(tactic| walk_at "mine11") => `(tactic| fail)
local macro_rules | `(tactic| walk_at "mine12") => `(tactic| fail)
local macro_rules | `(tactic| walk_at "mine13") => `(tactic| fail)
local macro_rules | `(tactic| walk_at "mine14") => `(tactic| fail)
noncomputable def figs (p o : Nat) (k : Nat) : List Nat := (List.range k).map fun j => 16 * ra p o j / p
theorem ra_mod {p o : Nat} (hp : 0 < p) (ho : o < p) : ∀ k, ra p o k = o * 16 ^ k % p
  | 0 => by simp [ra, Nat.mod_eq_of_lt ho]
  | k + 1 => by
    rw [ra, ra_mod hp ho k, Nat.pow_succ, ← Nat.mul_assoc, Nat.mul_comm 16, Nat.mod_mul_mod]
theorem ra_lt {p o : Nat} (hp : 0 < p) (ho : o < p) (k : Nat) : ra p o k < p := by rw [ra_mod hp ho]; exact Nat.mod_lt _ hp
noncomputable def bN (W p o k : Nat) : Nat := (W * p + o) * 16 ^ k / p
theorem bN_succ {W p o : Nat} (hp : 0 < p) (ho : o < p) (k : Nat) : bN W p o (k + 1) = 16 * bN W p o k + 16 * ra p o k / p := by
  have hr : ra p o k = (W * p + o) * 16 ^ k % p := by
    rw [ra_mod hp ho, Nat.add_mul, Nat.mul_right_comm, Nat.add_comm, Nat.add_mul_mod_self_right]
  unfold bN
  rw [hr, Nat.pow_succ, ← Nat.mul_assoc]
  generalize (W * p + o) * 16 ^ k = x
  have h1 := Nat.div_add_mod x p
  have h2 : x * 16 = p * (16 * (x / p)) + 16 * (x % p) := by
    have : x * 16 = (p * (x / p) + x % p) * 16 := by rw [h1]
    rw [this, Nat.add_mul, Nat.mul_comm 16 (x / p), Nat.mul_assoc, Nat.mul_comm 16 (x % p)]
  rw [h2, Nat.mul_add_div hp]
theorem dg_bN {W p o : Nat} (hp : 0 < p) (hW : 0 < W) (ho : o < p) : ∀ k, dg (bN W p o k) = dg W ++ figs p o k ∧ 0 < bN W p o k
  | 0 => by
    have e : bN W p o 0 = W := by
      unfold bN
      rw [Nat.pow_zero, Nat.mul_one, Nat.add_comm, Nat.add_mul_div_right _ _ hp, Nat.div_eq_of_lt ho, Nat.zero_add]
    rw [e]
    exact ⟨by simp [figs], hW⟩
  | k + 1 => by
    obtain ⟨h1, h2⟩ := dg_bN hp hW ho k
    have hlt : 16 * ra p o k / p < 16 := by
      rw [Nat.div_lt_iff_lt_mul hp]
      have := ra_lt hp ho k
      omega
    have hfig : figs p o (k + 1) = figs p o k ++ [16 * ra p o k / p] := by
      unfold figs
      rw [List.range_succ, List.map_append]
      rfl
    rw [bN_succ hp ho, hfig]
    clear hfig
    generalize 16 * ra p o k / p = q at hlt ⊢
    refine ⟨?_, by omega⟩
    rw [dg_pos (by omega), show (16 * bN W p o k + q) / 16 = bN W p o k by omega, show (16 * bN W p o k + q) % 16 = q by omega, h1, List.append_assoc]
noncomputable def tl (p o : Nat) : Nat → Nat → List Nat
  | 0, _ => []
  | n + 1, r => (if r = o then [39] else []) ++ (97 + 16 * r / p) :: tl p o n (16 * r % p)
noncomputable def dgs (p : Nat) : Nat → Nat → List Nat
  | 0, _ => []
  | n + 1, r => 16 * r / p :: dgs p n (16 * r % p)
theorem ra_shift (p o : Nat) : ∀ k, ra p (16 * o % p) k = ra p o (k + 1)
  | 0 => rfl
  | k + 1 => by rw [ra, ra_shift p o k]; rfl
theorem outs_head {p o cut : Nat} {ds : List Nat} : ∀ i, i ≤ cut → i ≤ ds.length → outs p o cut ds i = (ds.take i).map (97 + ·)
  | 0, _, _ => rfl
  | i + 1, h, h2 => by
    rw [outs, outs_head i (by omega) (by omega), if_neg (by omega), List.take_succ_eq_append_getElem (by omega), List.map_append, getD_lt (by omega)]
    rfl
/-- the pieces behind the cut -/
noncomputable def pcs (p o : Nat) : Nat → List Nat
  | 0 => []
  | t + 1 => pcs p o t ++ ((if ra p o t = o then [39] else []) ++ [97 + 16 * ra p o t / p])
theorem outs_tail {p o : Nat} {A : List Nat} {k : Nat} : ∀ t, t ≤ k → outs p o A.length (A ++ figs p o k) (A.length + t) = A.map (97 + ·) ++ pcs p o t
  | 0, _ => by
    rw [Nat.add_zero, outs_head _ (Nat.le_refl _) (by rw [List.length_append]; omega), List.take_left]
    simp [pcs]
  | t + 1, h => by
    have hf : (figs p o k).length = k := by simp [figs]
    have hg : (A ++ figs p o k).getD (A.length + t) 0 = 16 * ra p o t / p := by
      rw [getD_lt (by rw [List.length_append, hf]; omega), List.getElem_append_right (by omega)]
      simp [figs]
    rw [← Nat.add_assoc, outs, outs_tail t (by omega), hg, Nat.add_sub_cancel_left, pcs, List.append_assoc]
    congr 2
    by_cases e : ra p o t = o
    · rw [if_pos ⟨by omega, e⟩, if_pos e]
    · rw [if_neg (by simp [e]), if_neg e]
noncomputable def tlr (p o : Nat) (f : Nat → Nat) : Nat → Nat → List Nat
  | 0, _ => []
  | n + 1, i => (if f i = o then [39] else []) ++ (97 + 16 * f i / p) :: tlr p o f n (i + 1)
theorem tl_tlr (p o : Nat) : ∀ n i, tl p o n (ra p o i) = tlr p o (ra p o) n i
  | 0, _ => rfl
  | n + 1, i => by
    rw [tl, tlr]
    have : 16 * ra p o i % p = ra p o (i + 1) := rfl
    rw [this, tl_tlr p o n (i + 1)]
theorem tlr_snoc (p o : Nat) (f : Nat → Nat) : ∀ n i, tlr p o f (n + 1) i = tlr p o f n i ++ ((if f (i + n) = o then [39] else []) ++ [97 + 16 * f (i + n) / p])
  | 0, i => by simp [tlr]
  | n + 1, i => by
    rw [tlr, tlr_snoc p o f n (i + 1), tlr, show i + 1 + n = i + (n + 1) by omega]
    simp
theorem pcs_tlr (p o : Nat) : ∀ n, pcs p o n = tlr p o (ra p o) n 0
  | 0 => rfl
  | n + 1 => by rw [pcs, tlr_snoc, pcs_tlr p o n, Nat.zero_add]
theorem pcs_tl (p o n : Nat) : pcs p o n = tl p o n o := by rw [pcs_tlr, ← tl_tlr]; rfl
end Mine
open PySem PySem.W PyProof.Rows PySem.Calls
namespace Mine
noncomputable def chk (p o : Nat) : Bool :=
  let B := dgs p (p / 2) o
  tl p o (p / 2 + 3) o == 39 :: (B.map (97 + ·) ++ 39 :: (B.take 3).map (97 + ·)) && B.all (· < 16) && (B.length == p / 2) &&
    decide (2 * ((B.map fun d : Nat => (d : Int)).sum) = 15 * (if isSq p o = true then ((p / 2 : Nat) : Int) - (cls p : Int) else ((p / 2 : Nat) : Int) + (cls p : Int)))
theorem chk_all : (primes.all fun p => (List.range p).all fun o => o == 0 || chk p o) = true := by decide +kernel
theorem chk_ok {p o : Nat} (hp : p ∈ primes) (h0 : 1 ≤ o) (ho : o < p) : chk p o = true := by
  have h1 := List.all_eq_true.mp chk_all p hp
  have h2 := List.all_eq_true.mp h1 o (List.mem_range.mpr ho)
  rcases Bool.or_eq_true_iff.mp h2 with h | h
  · rw [beq_iff_eq] at h; omega
  · exact h
theorem dg_head : ∀ (k n : Nat), n < k → 0 < n → (dg n).getD 0 0 ≠ 0
  | 0, _, h, _ => by omega
  | k + 1, n, h, h0 => by
    rw [dg_pos h0]
    by_cases hn : n / 16 = 0
    · rw [hn, show dg 0 = [] by simp [dg]]
      show n % 16 ≠ 0
      omega
    · have ih := dg_head k (n / 16) (by omega) (by omega)
      have hl := dg_lo 0 (n / 16) (by simp; omega)
      rw [getD_lt (by omega)] at ih
      rw [getD_lt (by rw [List.length_append]; omega), List.getElem_append_left (by omega)]
      exact ih
theorem dg_fold : ∀ (k n : Nat), n < k → ((dg n).map fun d : Nat => (d : Int)).foldl (fun a b => 16 * a + b) 0 = (n : Int)
  | 0, _, h => by omega
  | k + 1, n, h => by
    by_cases h0 : n = 0
    · subst h0; simp [dg]
    · rw [dg_pos (by omega), List.map_append, List.foldl_append, dg_fold k (n / 16) (by omega)]
      show 16 * ((n / 16 : Nat) : Int) + ((n % 16 : Nat) : Int) = n
      omega
theorem back97 (l : List Nat) : ((l.map (97 + ·)).map fun c => ((c - 97 : Nat) : Int)) = l.map fun d : Nat => (d : Int) := by
  rw [List.map_map]
  refine List.map_congr_left fun d _ => ?_
  show ((97 + d - 97 : Nat) : Int) = d
  rw [Nat.add_sub_cancel_left]
end Mine
open PySem PySem.W PyProof.Rows PySem.Calls
namespace Mine
local macro_rules | `(tactic| walk_at "mine0") => `(tactic| fail)
local macro_rules | `(tactic| walk_at "mine1") => `(tactic| fail)
local macro_rules | `(tactic| walk_at "mine2") => `(tactic| fail)
local macro_rules | `(tactic| walk_at "mine3") => `(tactic| fail)
local macro_rules | `(tactic| walk_at "mine4") => `(tactic| fail)
local macro_rules | `(tactic| walk_at "mine5") => `(tactic| fail)
local macro_rules | `(tactic| walk_at "mine6") => `(tactic| fail)
local macro_rules | `(tactic| walk_at "mine7") => `(tactic| fail)
local macro_rules | `(tactic| walk_at "mine8") => `(tactic| fail)
local macro_rules | `(tactic| walk_at "mine9") => `(tactic| fail)
local macro_rules | `(tactic| walk_at "mine10") => `(tactic| fail)
local macro_rules | `(tactic| walk_at "mine11") => `(tactic| fail)
local macro_rules | `(tactic| walk_at "mine12") => `(tactic| fail)
local macro_rules | `(tactic| walk_at "mine13") => `(tactic| fail)
local macro_rules | `(tactic| walk_at "mine14") => `(tactic| fail)
set_option maxHeartbeats 8000000
section
variable {w : World} {mean : ExcName → Option Value} {mg mb : Str → Option Value} {s : Shared} {fa : Addr} {cd : Value} {h₀ : Heap} {a : Addr} {vals : List Value} {ns : List Int} {ob : Obj} {Q : Flow → Shared → Prop}
theorem law_0 
    (X : Facts w mean mg mb h₀) (hL : h₀.IsList a vals.toArray) (hI : IntsAre vals ns) (hlen : (ns.length : Int) ≤ 63)
    (F : Fr h₀ h₀.objs.size s.heap (fun y => if y = "script" then some (.ref a) else none)) (N : News h₀ h₀.objs.size s.heap [(h₀.objs.size + 1, ob)]) 
    (hQ : ∀ h' tk D vs NS, 7 ≤ NS.length → NS.length ≤ 100 → IntsAre vs NS → Fr h₀ h₀.objs.size h' (fun y => if y = "numbers" then some (.ref D) else if y = "script" then some (.ref a) else none) → News h₀ h₀.objs.size h' [(D, listOf vs.toArray 0), (h₀.objs.size + 1, ob)] → Q .next { s with heap := h', toks := tk }) :
    wpAny (model PySem.Challenge.rw_wa0029_01.row.prog w) (callerA.deeper (env1 h₀ fa cd)) (exec (stm 14 0) (env1 h₀ fa cd)) Q (fun _ _ => False) s := by
  have KX : (hd.heap_39 w.params).In h₀ := X.K
  revert KX
  k_fill
  intro KX
  have T := X.T
  have hst : stm 14 0 = stm 14 0 := rfl
  conv at hst => { rhs; whnf }
  rw [hst]
  clear hst
  k_steps
  (with_reducible rename Fr _ _ _ _ => F')
  (with_reducible rename News _ _ _ _ => N')
  (with_reducible rename IntsAre _ (_ ++ _) => hI')
  refine hQ _ _ _ _ _ ?_ ?_ hI' F' ?_
  · simp only [List.length_append, List.length_take, List.length_drop, List.length_cons, List.length_nil]
    omega
  · simp only [List.length_append, List.length_take, List.length_drop, List.length_cons, List.length_nil]
    omega
  · intro p hp
    rcases List.mem_cons.mp hp with rfl | hp
    · exact N' _ (.head _)
    · rw [List.mem_singleton.mp hp]
      exact N' _ (by simp)
end
end Mine
open PySem PySem.W PyProof.Rows PySem.Calls
namespace Mine
set_option maxHeartbeats 8000000
section
variable {w : World} {mean : ExcName → Option Value} {mg mb : Str → Option Value} {s : Shared} {fa : Addr} {cd : Value} {h₀ : Heap} {a D : Addr} {vs : List Value} {NS : List Int} {ob : Obj} {Q : Flow → Shared → Prop} {m : Str → Option Value}
noncomputable def AllIn (m : Str → Option Value) : List (Str × Value) → Prop
  | [] => True
  | p :: r => m p.1 = some p.2 ∧ AllIn m r
theorem AllIn.mem {m : Str → Option Value} : ∀ {l : List (Str × Value)}, AllIn m l → ∀ p ∈ l, m p.1 = some p.2
  | _ :: _, h, p, hp => by
    rcases List.mem_cons.mp hp with e | hp
    · rw [e]; exact h.1
    · exact h.2.mem p hp
theorem AllIn.of {m : Str → Option Value} : ∀ {l : List (Str × Value)}, (∀ p ∈ l, m p.1 = some p.2) → AllIn m l
  | [], _ => trivial
  | p :: r, h => ⟨h p (.head _), AllIn.of fun q hq => h q (.tail _ hq)⟩
theorem frAt {h : Heap} {L : Addr} {m : Str → Option Value} (F : Fr h₀ L h m) (l : List (Str × Value)) (hl : AllIn m l) : Fr h₀ L h (ifs l m) := canonL l hl.mem ▸ F
theorem frLook {h : Heap} {L : Addr} {m : Str → Option Value} (F : Fr h₀ L h m) (l : List (Str × Value)) (hl : AllIn m l) : ∃ m', AllIn m' l ∧ Fr h₀ L h m' := ⟨m, hl, F⟩
theorem parts_ok {p o W : Nat} (hp : p ∈ primes) (hW : 1 ≤ W) (ho1 : 1 ≤ o) (ho : o < p) : ∃ A B : List Nat, A = dg W ∧ B.length = p / 2 ∧ (∀ x ∈ B, x < 16) ∧ B = dgs p (p / 2) o ∧
    2 * ((B.map fun d : Nat => (d : Int)).sum) = 15 * (if isSq p o = true then ((p / 2 : Nat) : Int) - (cls p : Int) else ((p / 2 : Nat) : Int) + (cls p : Int)) ∧
    outs p o ((dg (bigN W p o)).length - p / 2 - 3) (dg (bigN W p o)) (dg (bigN W p o)).length = parted (A.map (97 + ·)) (B.map (97 + ·)) ((B.take 3).map (97 + ·)) := by
  have hp2 := primes_le hp
  have hc := chk_ok hp ho1 ho
  unfold chk at hc
  simp only [Bool.and_eq_true, beq_iff_eq, decide_eq_true_eq] at hc
  obtain ⟨⟨⟨h1, h2⟩, h3⟩, h4⟩ := hc
  refine ⟨dg W, dgs p (p / 2) o, rfl, h3, fun x hx => of_decide_eq_true (List.all_eq_true.mp h2 x hx), rfl, h4, ?_⟩
  have hd := (dg_bN (W := W) (p := p) (o := o) (by omega) hW ho (p / 2 + 3)).1
  have hd' : dg (bigN W p o) = dg W ++ figs p o (p / 2 + 3) := hd
  have hf : (figs p o (p / 2 + 3)).length = p / 2 + 3 := by simp [figs]
  rw [hd', List.length_append, hf, show (dg W).length + (p / 2 + 3) - p / 2 - 3 = (dg W).length by omega, outs_tail _ (Nat.le_refl _), pcs_tl, h1]
  rfl
theorem body_list : bodyAt 14 = [stm 14 0, stm 14 1, stm 14 2, stm 14 3, stm 14 4, stm 14 5, stm 14 6, stm 14 7, stm 14 8, stm 14 9, stm 14 10, stm 14 11, stm 14 12, stm 14 13, stm 14 14] := by rfl
theorem law_body {vals : List Value} {ns : List Int}
    (X : Facts w mean mg mb h₀) (hL : h₀.IsList a vals.toArray) (hI : IntsAre vals ns) (hlen : (ns.length : Int) ≤ 63)
    (F : Fr h₀ h₀.objs.size s.heap (fun y => if y = "script" then some (.ref a) else none)) (N : News h₀ h₀.objs.size s.heap [(h₀.objs.size + 1, ob)]) (X0 : ob.data = .cell none)
    (hQ : ∀ h' tk, (∀ b o, h₀.get? b = some o → h'.get? b = some o) → Q (.ret (.bool true)) { s with heap := h', toks := tk }) :
    wpAny (model PySem.Challenge.rw_wa0029_01.row.prog w) (callerA.deeper (env1 h₀ fa cd)) (execs (bodyAt 14) (env1 h₀ fa cd)) Q (fun _ _ => False) s := by
  rw [body_list]
  refine wpAny_execs_cons ?_
  refine law_0 (fa := fa) (cd := cd) X hL hI hlen F N ?_
  intro h1 k1 D vs NS hN hN2 hI1 F1 N1
  refine wpAny_execs_cons ?_
  refine law_1 (fa := fa) (cd := cd) X hI1 hN (frAt F1 [("numbers", .ref D)] ⟨rfl, trivial⟩) N1 X0 ?_
  intro h2 k2 p u ob2 hp F2 N2 X2
  have hp2 := primes_le hp
  refine wpAny_execs_cons ?_
  refine law_2 (fa := fa) (cd := cd) X hI1 hN hp2 F2 N2 X2 ?_
  intro h3 k3 o u3 ho1 ho F3 N3
  refine wpAny_execs_cons ?_
  refine law_3 (fa := fa) (cd := cd) X hI1 hN F3 N3 ?_
  intro h4 k4 W u4 hW1 hW F4 N4
  refine wpAny_execs_cons ?_
  refine law_4 (fa := fa) (cd := cd) X F4 N4 X2 ?_
  intro h5 k5 u5 F5 N5
  refine wpAny_execs_cons ?_
  refine law_5 (fa := fa) (cd := cd) X hp2 hW1 hW ho F5 N5 X2 ?_
  intro h6 k6 u6 F6 N6
  obtain ⟨m6, hm6, F6⟩ := frLook F6 [("letters", Value.str ⟨(ltrs W p o).toArray⟩ u6), ("half", .int ((p / 2 : Nat) : Int) u5), ("whole", .int W u4), ("over", .int o u3), ("numbers", .ref D)] ⟨rfl, rfl, rfl, rfl, rfl, trivial⟩
  refine wpAny_execs_cons ?_
  refine law_6 (fa := fa) (cd := cd) (m := m6) (o := .int o u3) X (frAt F6 [("over", .int o u3)] ⟨hm6.2.2.2.1, trivial⟩) N6 ?_
  intro h7 k7 F7 N7
  refine wpAny_execs_cons ?_
  refine law_7 (fa := fa) (cd := cd) X F7 N7 ?_
  intro h8 k8 u8 F8 N8
  obtain ⟨m8, hm8, F8⟩ := frLook F8 [("letters", Value.str ⟨(ltrs W p o).toArray⟩ u6), ("rest", Value.int o u3), ("text", .str ⟨([] : List Nat).toArray⟩ u8), ("half", .int ((p / 2 : Nat) : Int) u5), ("over", .int o u3), ("numbers", .ref D), ("whole", .int W u4)] ⟨hm6.1, rfl, rfl, hm6.2.1, rfl, hm6.2.2.2.2.1, hm6.2.2.1, trivial⟩
  refine wpAny_execs_cons ?_
  refine law_8 (fa := fa) (cd := cd) (m := m8) (p := p) (o := o) (W := W) (t2 := u3) (t3 := u8) (t4 := u3) (t5 := u6) (t6 := u5) (t7 := u3) (wv := .int W u4) X hI1 hN hN2 hp2 hW1 hW ho (frAt F8 [("letters", Value.str ⟨(ltrs W p o).toArray⟩ u6)] ⟨hm8.1, trivial⟩) (AllIn.mem hm8.2) N8 X2 ?_
  intro h9 k9 xs u9 m9 hT F9 N9 hm9
  have hm9 := AllIn.of hm9
  have hlen9 : (ltrs W p o).length = (dg (bigN W p o)).length := by unfold ltrs; rw [List.length_map]
  obtain ⟨A, B, hA, hB1, hB2, hB3, hB4, hparts⟩ := parts_ok hp hW1 ho1 ho
  rw [← hlen9] at hparts
  have hkept : (kept xs).map low = parted (A.map (97 + ·)) (B.map (97 + ·)) ((B.take 3).map (97 + ·)) := hT.out.trans hparts
  have hll : (ltrs W p o).length ≤ 1000 := by
    rw [hlen9]
    have := dg_len _ _ (bigN_lt hp2 hW ho)
    omega
  subst hA
  have hA16 : ∀ x ∈ dg W, x < 16 := (ap_dg _ W (Nat.lt_succ_self W)).2.2
  have hAl : (dg W).length ≤ 3 := dg_len 3 W (by omega)
  have hAl1 : 1 ≤ (dg W).length := dg_lo 0 W (by simpa using hW1)
  have hLet : ∀ {l : List Nat}, (∀ x ∈ l, x < 16) → Letters (l.map (97 + ·)) := by
    intro l hl c hc
    obtain ⟨d, hd, rfl⟩ := List.mem_map.mp hc
    have := hl d hd
    omega
  have hne : ∀ {l : List Nat}, Letters l → ∀ x ∈ l, x ≠ 39 := by
    intro l hl x hx
    have := hl x hx
    omega
  have hB3' : ∀ x ∈ B.take 3, x < 16 := fun x hx => hB2 x (List.mem_of_mem_take hx)
  have hpl : (parted ((dg W).map (97 + ·)) (B.map (97 + ·)) ((B.take 3).map (97 + ·))).length ≤ 1000 := by
    unfold parted
    simp only [List.length_append, List.length_cons, List.length_map, List.length_take]
    omega
  refine wpAny_execs_cons ?_
  refine law_9 (fa := fa) (cd := cd) (m := m9) X hT hll (hne (hLet hA16)) (hne (hLet hB2)) (hne (hLet hB3')) hkept hpl (frAt F9 [("text", .str ⟨xs.toArray⟩ u9)] ⟨hm9.1, trivial⟩) N9 ?_
  intro h10 k10 l u10 u11 u12 F10 N10
  obtain ⟨m10, hm10, F10⟩ := frLook F10 [("read", Value.ref l), ("half", .int ((p / 2 : Nat) : Int) u5), ("over", .int o u3), ("whole", .int W u4)] ⟨rfl, hm9.2.1, hm9.2.2.1, hm9.2.2.2.1, trivial⟩
  refine wpAny_execs_cons ?_
  refine law_10 (fa := fa) (cd := cd) (m := m10) X (frAt F10 [("read", .ref l)] ⟨hm10.1, trivial⟩) N10 ?_
  intro h11 k11 F11 N11
  refine wpAny_execs_cons ?_
  refine law_11 (fa := fa) (cd := cd) (m := m10) X (hLet hA16) (hLet hB2) (hLet hB3') (by rw [List.length_map]; omega) (by rw [List.length_map]; omega) (by rw [List.length_map, List.length_take]; omega) F11 N11 ?_
  intro h12 k12 T1 T2 T3 i1 i2 i3 n1 n2 n3 d1 d2 d3 s1 s2 s3 e1 e2 e3 F12 N12
  rw [back97] at e1 e2 e3
  obtain ⟨m12, hm12, F12⟩ := frLook F12 [("more", Value.ref T3), ("period", .ref T2), ("ahead", .ref T1), ("whole", .int W u4), ("half", .int ((p / 2 : Nat) : Int) u5), ("over", .int o u3)] ⟨rfl, rfl, rfl, hm10.2.2.2.1, hm10.2.1, hm10.2.2.1, trivial⟩
  have b16 : ∀ {l : List Nat}, (∀ x ∈ l, x < 16) → ∀ n ∈ (l.map fun d : Nat => (d : Int)), 0 ≤ n ∧ n < 16 := by
    intro l hl n hn
    obtain ⟨d, hd, rfl⟩ := List.mem_map.mp hn
    have := hl d hd
    omega
  refine wpAny_execs_cons ?_
  refine law_12 (fa := fa) (cd := cd) (m := m12) (p := p) (W := W) (v1 := i1.toList) (v2 := i2.toList) (v3 := i3.toList) X e1 e2 e3 (by rw [List.length_map]; omega) (by rw [List.length_map]; omega) (b16 hA16) (by rw [List.length_map]; omega) (by rw [List.length_map, List.length_take]; omega) ?_ (dg_fold _ W (Nat.lt_succ_self W)) (by rw [List.length_map, hB1]) (by rw [List.map_take]) (frAt F12 [("more", .ref T3), ("period", .ref T2), ("ahead", .ref T1), ("whole", .int W u4), ("half", .int ((p / 2 : Nat) : Int) u5)] ⟨hm12.1, hm12.2.1, hm12.2.2.1, hm12.2.2.2.1, hm12.2.2.2.2.1, trivial⟩) (by exact N12) ?_
  · have h1 := dg_head _ W (Nat.lt_succ_self W) hW1
    rw [getD_lt hAl1] at h1
    rw [List.getD_eq_getElem?_getD, List.getElem?_map, List.getElem?_eq_getElem hAl1]
    intro h2
    exact h1 (by simpa using h2)
  intro h13 k13 F13 N13
  obtain ⟨m13, hm13, F13⟩ := frLook F13 [("half", Value.int ((p / 2 : Nat) : Int) u5), ("over", .int o u3), ("period", .ref T2)] ⟨rfl, hm12.2.2.2.2.2.1, rfl, trivial⟩
  refine wpAny_execs_cons ?_
  refine law_13 (fa := fa) (cd := cd) (m := m13) (p := p) (o := o) X hp2 (frAt F13 [("half", .int ((p / 2 : Nat) : Int) u5), ("over", .int o u3)] ⟨hm13.1, hm13.2.1, trivial⟩) N13 X2 ?_
  intro h14 k14 F14 N14
  obtain ⟨m14, hm14, F14⟩ := frLook F14 [("square", Value.bool (isSq p o)), ("half", .int ((p / 2 : Nat) : Int) u5), ("period", .ref T2)] ⟨rfl, rfl, hm13.2.2.1, trivial⟩
  refine wpAny_execs_cons ?_
  refine law_14 (fa := fa) (cd := cd) (m := m14) (p := p) (v2 := i2.toList) X hp hp2 e2 (by rw [List.length_map]; omega) (b16 hB2) (frAt F14 [("square", .bool (isSq p o)), ("half", .int ((p / 2 : Nat) : Int) u5), ("period", .ref T2)] ⟨hm14.1, hm14.2.1, hm14.2.2.1, trivial⟩) (by exact N14) X2 hB4 ?_
  intro h15 k15 hk
  exact hQ _ _ hk
end
end Mine
open PySem PySem.W PyProof.Rows PySem.Calls
namespace Mine
local macro_rules | `(tactic| walk_at "mine0") => `(tactic| fail)
local macro_rules | `(tactic| walk_at "mine1") => `(tactic| fail)
local macro_rules | `(tactic| walk_at "mine2") => `(tactic| fail)
local macro_rules | `(tactic| walk_at "mine3") => `(tactic| fail)
local macro_rules | `(tactic| walk_at "mine4") => `(tactic| fail)
local macro_rules | `(tactic| walk_at "mine5") => `(tactic| fail)
local macro_rules | `(tactic| walk_at "mine6") => `(tactic| fail)
local macro_rules | `(tactic| walk_at "mine7") => `(tactic| fail)
local macro_rules | `(tactic| walk_at "mine8") => `(tactic| fail)
local macro_rules | `(tactic| walk_at "mine9") => `(tactic| fail)
local macro_rules | `(tactic| walk_at "mine10") => `(tactic| fail)
local macro_rules | `(tactic| walk_at "mine11") => `(tactic| fail)
local macro_rules | `(tactic| walk_at "mine12") => `(tactic| fail)
local macro_rules | `(tactic| walk_at "mine13") => `(tactic| fail)
local macro_rules | `(tactic| walk_at "mine14") => `(tactic| fail)
set_option maxHeartbeats 8000000
theorem final01 : PySem.Challenge.rw_wa0029_01.Holds := hd (by
  k_fill
  intro w s₀ s₁ mg mb G Y fa o pm cd doc dV kV ho hd hcd hD hmg hg args vals as hpre hlay hrd hwl hlo
  have SX := Y.2
  have KX := kIn_of Y.1
  k_behind G ho hd hcd hD hmg hpre hlay hrd hwl hlo cd
  show wpAny _ (callerA.deeper (envOfC "law" (scopeAt 14) _ _ _)) (execs (bodyAt 14) (envOfC "law" (scopeAt 14) _ _ _)) _ _ _
  (with_reducible rename Fr _ _ _ _ => F')
  (with_reducible rename News _ _ _ _ => N')
  (with_reducible rename CellsAre _ _ _ => C')
  (with_reducible rename IntsAre _ _ => hI')
  (with_reducible rename Heap.IsList _ _ _ => hL')
  (with_reducible rename Top _ _ _ _ _ _ => T')
  obtain ⟨ob, hob, hdat⟩ := CellsAre.one (n := "prime") C'
  refine wpAny_mono (law_body (ob := ob) ⟨KX, SX.1, SX.2, T'⟩ hL' hI' (by omega) (by with_unfolding_all exact F') (by rw [← hob]; exact N') hdat ?_) (fun _ _ h => h) (fun _ _ h => h.elim)
  intro h' tk hk
  refine ⟨.inl ⟨.bool true, .bool true, [], rfl, fun cls => ?goodR, .bool true, ?goodP, fun h => ?goodU⟩, hk, rfl, hg⟩
  case goodR => rfl
  case goodU => first | exact ⟨List.nodup_nil, fun a ha => (by cases ha)⟩ | (cases h)
  case goodP =>

    first | rfl | kernel_rfl)
end Mine
theorem PySem.Challenge.cw_wa0029_01_holds : PySem.Challenge.rw_wa0029_01.Holds :=
  Mine.final01
