import PyProof.Rows.All
import Wide.All
import OpenK.AllK
import Wide.FinOn
import PySem.Challenge.RW_wa0029_02
set_option Elab.async false
set_option linter.all false
set_option maxRecDepth 100000
open PySem PySem.W PyProof.Rows PySem.Calls
namespace Mine

section Goes
variable (p : Program) (w : World) (n₀ : Nat) (ann : Option Value) (c : Code) (fp : Pos)

noncomputable def Goes {α : Type} (n : Nat) (t : Sem α) (s : Shared) (q : Pos) (a : α) (s' : Shared) (q' : Pos) : Prop :=
  ∀ (K : α → Sem Fin) (H : Value → Sem Fin) (gd : Bool → Bool) (lv : List Value → List Value) (N : Nat) (r : Flow × Shared × Code × Pos),
    segRun treeTable p w n₀ ann 1 N s' ⟨K a, c, q', [topFrame fp]⟩ = some r → segRun treeTable p w n₀ ann 1 (N + n) s ⟨t.wrap K H gd lv, c, q, [topFrame fp]⟩ = some r

variable {p w n₀ ann c fp}
variable {α β : Type} {s s' s₁ : Shared} {q q' q₁ : Pos}

theorem bind_wrap' (m : Sem α) (f : α → Sem β) (K : β → Sem Fin) (H : Value → Sem Fin) (gd lv) : (m >>= f).wrap K H gd lv = m.wrap (fun a => (f a).wrap K H gd lv) H gd lv := by
  rw [Sem.bind_eq_wrap', Sem.wrap_wrap]; rfl

theorem goes_pure {a : α} : Goes p w n₀ ann c fp 0 (pure a) s q a s q := fun K H gd lv N r h => h
theorem goes_bind {n k : Nat} {m : Sem α} {f : α → Sem β} {a : α} {b : β} (hm : Goes p w n₀ ann c fp n m s q a s₁ q₁) (hf : Goes p w n₀ ann c fp k (f a) s₁ q₁ b s' q') : Goes p w n₀ ann c fp (k + n) (m >>= f) s q b s' q' :=
  fun K H gd lv N r h => by
    rw [bind_wrap', ← Nat.add_assoc]
    exact hm _ H gd lv (N + k) r (hf K H gd lv N r h)
theorem goes_keep {n : Nat} {vs : List Value} {m : Sem α} {a : α} (hm : Goes p w n₀ ann c fp n m s q a s' q') : Goes p w n₀ ann c fp n (m.keep vs) s q a s' q' :=
  fun K H gd lv N r h => by
    rw [Sem.keep_eq_wrap, Sem.wrap_wrap]
    exact hm _ _ _ _ N r h
theorem goes_holding {n : Nat} {vs : List Value} {m : Sem α} {a : α} (hm : Goes p w n₀ ann c fp n m s q a s' q') : Goes p w n₀ ann c fp n (holding vs m) s q a s' q' := by
  unfold holding
  split
  · exact hm
  · exact goes_keep hm
theorem goes_onRaise {n : Nat} {h : Value → Sem Unit} {m : Sem α} {a : α} (hm : Goes p w n₀ ann c fp n m s q a s' q') : Goes p w n₀ ann c fp n (m.onRaise h) s q a s' q' :=
  fun K H gd lv N r hr => by
    rw [Sem.onRaise_eq_wrap, Sem.wrap_wrap]
    exact hm _ _ _ _ N r hr
theorem goes_cast {n n' : Nat} {m : Sem α} {a : α} (hm : Goes p w n₀ ann c fp n m s q a s' q') (e : n = n') : Goes p w n₀ ann c fp n' m s q a s' q' := e ▸ hm

theorem goes_alloc {o : Obj} : Goes p w n₀ ann c fp 1 (alloc o) s q s.heap.objs.size { s with heap := s.heap.push o } q := fun K H gd lv N r h => h
theorem goes_fresh : Goes p w n₀ ann c fp 1 fresh s q s.toks { s with toks := s.toks + 1 } q := fun K H gd lv N r h => h
theorem goes_rule {tag : String} : Goes p w n₀ ann c fp 1 (rule tag) s q () s q := fun K H gd lv N r h => h
theorem goes_standAt : Goes p w n₀ ann c fp 1 (standAt q') s q () s q' := fun K H gd lv N r h => h
theorem goes_ask : Goes p w n₀ ann c fp 1 ask s q ⟨p, w.params⟩ s q := fun K H gd lv N r h => h
theorem goes_loadPart {a : Addr} {part : Option Value} {o : Obj} (ho : s.heap.get? a = some o) : Goes p w n₀ ann c fp 1 (loadPart a part) s q o s q := fun K H gd lv N r h => by
  show (match step (denote treeTable) p w s ⟨.load a part fun x => (Sem.pure x).wrap K H gd lv, c, q, [topFrame fp]⟩ with | .go s' t' => segRun treeTable p w n₀ ann 1 N s' t' | .halt _ _ => none) = some r
  simp only [step, ho]
  exact h
theorem goes_load {a : Addr} {o : Obj} (ho : s.heap.get? a = some o) : Goes p w n₀ ann c fp 1 (load a) s q o s q := goes_loadPart (part := none) ho
theorem goes_updatePart {a : Addr} {part : Option Value} {o : Obj} {f : Obj → Obj} (ho : s.heap.get? a = some o) (hn : Nat.ble n₀ a = true) : Goes p w n₀ ann c fp 1 (updatePart a part f) s q () { s with heap := s.heap.update a f } q := fun K H gd lv N r h => by
  have hk : stepOk n₀ ann ⟨.update a part f fun x => (Sem.pure x).wrap K H gd lv, c, q, [topFrame fp]⟩ = true := by
    show (true && (Nat.ble n₀ a || a == mainNs || a == cStatics || ann == some (.ref a))) = true
    rw [hn]; rfl
  show (match stepOk n₀ ann ⟨.update a part f fun x => (Sem.pure x).wrap K H gd lv, c, q, [topFrame fp]⟩ with
    | false => none
    | true => match step (denote treeTable) p w s ⟨.update a part f fun x => (Sem.pure x).wrap K H gd lv, c, q, [topFrame fp]⟩ with | .go s' t' => segRun treeTable p w n₀ ann 1 N s' t' | .halt _ _ => none) = some r
  rw [hk]
  simp only [step, ho, Option.isSome_some, if_true]
  exact h
end Goes
end Mine
open PySem PySem.W PyProof.Rows PySem.Calls
namespace Mine
local macro_rules | `(tactic| walk_at "mine0") => `(tactic| fail)
local macro_rules | `(tactic| walk_at "mine1") => `(tactic| fail)
local macro_rules | `(tactic| walk_at "mine2") => `(tactic| fail)
local macro_rules | `(tactic| walk_at "mine3") => `(tactic| fail)
local macro_rules | `(tactic| walk_at "mine4") => `(tactic| fail)
local macro_rules | `(tactic| walk_at "mine5") => `(tactic| fail)
local macro_rules | `(tactic| walk_at "mine6") => `(tactic| fail)
local macro_rules | `(tactic| walk_at "mine7") => `(tactic| fail)
local macro_rules | `(tactic| walk_at "mine8") => `(tactic| fail)
local macro_rules | `(tactic| walk_at "mine9") => `(tactic| fail)
local macro_rules | `(tactic| walk_at "mine10") => `(tactic| fail)
local macro_rules | `(tactic| walk_at "mine11") => `(tactic| fail)
local macro_rules | `(tactic| walk_at "mine12") => `(tactic| fail)
local macro_rules | `(tactic| walk_at "mine13") => `(tactic| fail)
local macro_rules | `(tactic| walk_at "mine14") => `(tactic| fail)
section Goes2
variable {p : Program} {w : World} {n₀ : Nat} {ann : Option Value} {c : Code} {fp : Pos} {s s' s₁ : Shared} {q q' q₁ : Pos}

theorem goes_dictEntries {a : Addr} {part : Option Value} {cl : Value} {dd : Option Addr} {es : Array DictEntry} {ep : Nat} {sl : Array (Option Value)} (ho : s.heap.get? a = some ⟨cl, dd, .dict es ep, sl⟩) :
    Goes p w n₀ ann c fp 1 (dictEntries a part) s q es s q := by
  unfold dictEntries
  exact goes_bind (goes_loadPart ho) goes_pure
theorem goes_dictEpoch {a : Addr} {part : Option Value} {cl : Value} {dd : Option Addr} {es : Array DictEntry} {ep : Nat} {sl : Array (Option Value)} (ho : s.heap.get? a = some ⟨cl, dd, .dict es ep, sl⟩) :
    Goes p w n₀ ann c fp 1 (dictEpoch a part) s q ep s q := by
  unfold dictEpoch
  exact goes_bind (goes_loadPart ho) goes_pure
theorem goes_updateDictKeys {a : Addr} {part : Option Value} {cl : Value} {dd : Option Addr} {es : Array DictEntry} {ep : Nat} {sl : Array (Option Value)} {e : DictEntry}
    (ho : s.heap.get? a = some ⟨cl, dd, .dict es ep, sl⟩) (hn : Nat.ble n₀ a = true) (hz : es.size < 1000) :
    Goes p w n₀ ann c fp 3 (updateDictKeys a (·.push e) part) s q () { s with heap := s.heap.update a fun _ => ⟨cl, dd, .dict (es.push e) (ep + 1), sl⟩ } q := by
  have hu : s.heap.update a (Obj.mapDictKeys (·.push e)) = s.heap.update a fun _ => ⟨cl, dd, .dict (es.push e) (ep + 1), sl⟩ := by
    generalize s.heap = H at ho
    obtain ⟨objs, life⟩ := H
    simp only [Heap.update, Heap.mk.injEq, and_true]
    have hg : objs[a]? = some ⟨cl, dd, .dict es ep, sl⟩ := by
      unfold Heap.get? at ho
      try dsimp only at ho
      split at ho
      · cases ho
      · exact ho
    apply Array.ext_getElem?
    intro i
    rw [Array.getElem?_modify, Array.getElem?_modify]
    by_cases hi : a = i
    · subst hi; rw [if_pos rfl, if_pos rfl, hg]; rfl
    · rw [if_neg hi, if_neg hi]
  have hnew : (s.heap.update a fun _ => ⟨cl, dd, .dict (es.push e) (ep + 1), sl⟩).get? a = some ⟨cl, dd, .dict (es.push e) (ep + 1), sl⟩ := Heap.get?_update_self _ ho rfl
  unfold updateDictKeys
  refine goes_bind (k := 2) (goes_loadPart ho) ?_
  dsimp only
  refine goes_bind (k := 1) (goes_updatePart ho hn) ?_
  rw [hu]
  unfold lookBehind
  refine goes_bind (k := 0) (s₁ := { s with heap := _ }) (goes_loadPart hnew) ?_
  have : Data.pastItsLine (.dict (es.push e) (ep + 1)) = none := pastItsLine_dict (by rw [Array.size_push]; have : sizeLine = 2 ^ 24 := rfl; omega)
  dsimp only
  rw [this]
  exact goes_pure

theorem places_none {es : Array DictEntry} {h : Int} (hf : ∀ e ∈ es, e.hash ≠ h) : placesWithHash es.size (fun i => es[i]?.map (·.hash)) h = [] := by
  unfold placesWithHash
  rw [List.filter_eq_nil_iff]
  intro i hi
  have hi' : i < es.size := by simpa using hi
  dsimp only
  rw [Array.getElem?_eq_getElem hi']
  simp only [Option.map_some, beq_iff_eq, Option.some.injEq]
  exact hf _ (Array.getElem_mem hi')
theorem goes_dictFind {d : Addr} {cl : Value} {dd : Option Addr} {es : Array DictEntry} {ep : Nat} {sl : Array (Option Value)} {k : Int} {t : Tok} {h : Int} (ho : s.heap.get? d = some ⟨cl, dd, .dict es ep, sl⟩) (hf : ∀ e ∈ es, e.hash ≠ h) :
    Goes p w n₀ ann c fp 1 (dictFind d (.int k t) h) s q none s q := by
  unfold dictFind
  refine goes_holding ?_
  refine goes_bind (k := 0) (goes_dictEntries ho) ?_
  dsimp only
  rw [places_none hf]
  exact goes_pure
theorem goes_dictSetHashed {d : Addr} {cl : Value} {dd : Option Addr} {es : Array DictEntry} {ep : Nat} {sl : Array (Option Value)} {k : Int} {t : Tok} {h : Int} {v : Value} (ho : s.heap.get? d = some ⟨cl, dd, .dict es ep, sl⟩) (hn : Nat.ble n₀ d = true) (hf : ∀ e ∈ es, e.hash ≠ h) (hz : es.size < 1000) :
    Goes p w n₀ ann c fp 5 (dictSetHashed d (.int k t) h v) s q () { s with heap := s.heap.update d fun _ => ⟨cl, dd, .dict (es.push ⟨h, .int k t, v⟩) (ep + 1), sl⟩ } q := by
  unfold dictSetHashed
  refine goes_holding ?_
  refine goes_bind (k := 4) (goes_dictFind ho hf) ?_
  dsimp only
  exact goes_bind (k := 3) goes_rule (goes_updateDictKeys ho hn hz)
theorem goes_dictPut {d : Addr} {cl : Value} {dd : Option Addr} {es : Array DictEntry} {ep : Nat} {sl : Array (Option Value)} {k : Int} {t : Tok} {h : Int} {v : Value} (ho : s.heap.get? d = some ⟨cl, dd, .dict es ep, sl⟩) (hn : Nat.ble n₀ d = true) (hf : ∀ e ∈ es, e.hash ≠ h) (hz : es.size < 1000) :
    Goes p w n₀ ann c fp 4 (dictPut d h (.int k t) v) s q () { s with heap := s.heap.update d fun _ => ⟨cl, dd, .dict (es.push ⟨h, .int k t, v⟩) (ep + 1), sl⟩ } q := by
  unfold dictPut
  refine goes_bind (k := 3) (goes_dictFind ho hf) ?_
  dsimp only
  exact goes_updateDictKeys ho hn hz
end Goes2
end Mine
open PySem PySem.W PyProof.Rows PySem.Calls
namespace Mine
section Goes3
noncomputable abbrev HashRun (p : Program) (n₀ : Nat) (ann : Option Value) (c : Code) (fp : Pos) (k : Int) (t : Tok) (s : Shared) (q : Pos) (K : Int → Sem Fin) (H : Value → Sem Fin) (gd : Bool → Bool) (lv : List Value → List Value) (N : Nat) (w : World) : Prop :=
  segRun treeTable p w n₀ ann 1 (N + 5) s ⟨(pyHash (.int k t)).wrap K H gd lv, c, q, [topFrame fp]⟩ = segRun treeTable p w n₀ ann 1 N { s with toks := s.toks + 1 } ⟨(pyHashByItsType.reduced (rawHash k)).wrap K H gd lv, c, q, [topFrame fp]⟩
theorem hashRun_t (p : Program) (n₀ : Nat) (ann : Option Value) (b : List Stmt) (e : Env) (fp : Pos) (k : Int) (t : Tok) (heap : Heap) (gens : Array GenState) (drawn : Drawn) (toks : Nat) (os : OsState) (q : Pos) (K : Int → Sem Fin) (H : Value → Sem Fin) (gd : Bool → Bool) (lv : List Value → List Value) (N : Nat) (w : World) :
    HashRun p n₀ ann (.body b e) fp k t ⟨heap, gens, drawn, toks, os⟩ q K H gd lv N (w.withFollow "special-get-raises" true) := by
  kernel_rfl
theorem hashRun_f (p : Program) (n₀ : Nat) (ann : Option Value) (b : List Stmt) (e : Env) (fp : Pos) (k : Int) (t : Tok) (heap : Heap) (gens : Array GenState) (drawn : Drawn) (toks : Nat) (os : OsState) (q : Pos) (K : Int → Sem Fin) (H : Value → Sem Fin) (gd : Bool → Bool) (lv : List Value → List Value) (N : Nat) (w : World) :
    HashRun p n₀ ann (.body b e) fp k t ⟨heap, gens, drawn, toks, os⟩ q K H gd lv N (w.withFollow "special-get-raises" false) := by
  kernel_rfl
end Goes3
end Mine
open PySem PySem.W PyProof.Rows PySem.Calls
namespace Mine
local macro_rules | `(tactic| walk_at "mine0") => `(tactic| fail)
local macro_rules | `(tactic| walk_at "mine1") => `(tactic| fail)
local macro_rules | `(tactic| walk_at "mine2") => `(tactic| fail)
local macro_rules | `(tactic| walk_at "mine3") => `(tactic| fail)
local macro_rules | `(tactic| walk_at "mine4") => `(tactic| fail)
local macro_rules | `(tactic| walk_at "mine5") => `(tactic| fail)
local macro_rules | `(tactic| walk_at "mine6") => `(tactic| fail)
local macro_rules | `(tactic| walk_at "mine7") => `(tactic| fail)
local macro_rules | `(tactic| walk_at "mine8") => `(tactic| fail)
local macro_rules | `(tactic| walk_at "mine9") => `(tactic| fail)
local macro_rules | `(tactic| walk_at "mine10") => `(tactic| fail)
local macro_rules | `(tactic| walk_at "mine11") => `(tactic| fail)
local macro_rules | `(tactic| walk_at "mine12") => `(tactic| fail)
local macro_rules | `(tactic| walk_at "mine13") => `(tactic| fail)
local macro_rules | `(tactic| walk_at "mine14") => `(tactic| fail)
section Goes4
variable {p : Program} {w : World} {n₀ : Nat} {ann : Option Value} {b : List Stmt} {e : Env} {fp : Pos} {s s' s₁ : Shared} {q q' q₁ : Pos}

theorem rawHash_small {k : Int} (h0 : 0 ≤ k) (h1 : k < 2 ^ 31) : rawHash k = k := by
  simp only [rawHash, beq_iff_eq]
  have e : ((k.natAbs % (2 ^ 61 - 1) : Nat) : Int) = k := by
    rw [Nat.mod_eq_of_lt (by omega)]; omega
  generalize k.natAbs % (2 ^ 61 - 1) = r at e
  split <;> split <;> omega
theorem reduced_small {k : Int} (h0 : 0 ≤ k) (h1 : k < 2 ^ 31) : pyHashByItsType.reduced k = pure k := by
  unfold pyHashByItsType.reduced
  rw [if_pos (by simp only [Bool.and_eq_true, decide_eq_true_eq]; omega), if_neg (by simp only [beq_iff_eq]; omega)]
theorem goes_pyHash {k : Int} {t : Tok} (h0 : 0 ≤ k) (h1 : k < 2 ^ 31) : Goes p w n₀ ann (.body b e) fp 5 (pyHash (.int k t)) s q k { s with toks := s.toks + 1 } q := fun K H gd lv N r h => by
  have := byRow2 "special-get-raises" (P := fun w => HashRun p n₀ ann (.body b e) fp k t s q K H gd lv N w) (fun w => hashRun_f ..) (fun w => hashRun_t ..) w
  refine Eq.trans this ?_
  rw [rawHash_small h0 h1, reduced_small h0 h1]
  exact h
theorem goes_dictSet {d : Addr} {cl : Value} {dd : Option Addr} {es : Array DictEntry} {ep : Nat} {sl : Array (Option Value)} {k : Int} {t : Tok} {v : Value} (h0 : 0 ≤ k) (h1 : k < 2 ^ 31)
    (ho : s.heap.get? d = some ⟨cl, dd, .dict es ep, sl⟩) (hn : Nat.ble n₀ d = true) (hf : ∀ e ∈ es, e.hash ≠ k) (hz : es.size < 1000) :
    Goes p w n₀ ann (.body b e) fp 10 (dictSet d (.int k t) v) s q () { s with heap := s.heap.update d fun _ => ⟨cl, dd, .dict (es.push ⟨k, .int k t, v⟩) (ep + 1), sl⟩, toks := s.toks + 1 } q := by
  unfold dictSet
  refine goes_holding ?_
  exact goes_bind (k := 5) (goes_pyHash h0 h1) (goes_dictSetHashed ho hn hf hz)

/-- a key and its value, as the display evaluates them -/
noncomputable def keyT (k : Int) : Sem Value := do return .int k (← fresh)
noncomputable def valT (x : Str) (pos : Pos) : Sem Value := do
  let x ← (do return .str x (← fresh) : Sem Value)
  standAt pos
  pure x
theorem goes_keyT {c : Code} {k : Int} : Goes p w n₀ ann c fp 1 (keyT k) s q (.int k s.toks) { s with toks := s.toks + 1 } q := goes_bind (k := 0) goes_fresh goes_pure
theorem goes_valT {c : Code} {x : Str} {pos : Pos} : Goes p w n₀ ann c fp 2 (valT x pos) s q (.str x s.toks) { s with toks := s.toks + 1 } pos :=
  goes_bind (k := 1) (goes_bind (k := 0) goes_fresh goes_pure) (goes_bind (k := 0) goes_standAt goes_pure)
end Goes4
end Mine
open PySem PySem.W PyProof.Rows PySem.Calls
namespace Mine
section Goes5
variable {p : Program} {w : World} {n₀ : Nat} {ann : Option Value} {b : List Stmt} {e : Env} {fp : Pos} {q q' q₁ : Pos}
variable {gens : Array GenState} {drawn : Drawn} {os : OsState} {life : Life}

noncomputable def hpOf (l : List Obj) (life : Life) : Heap := ⟨l.toArray, life⟩
noncomputable def D (es : List DictEntry) (ep : Nat) : Obj := ⟨.type "dict", none, .dict es.toArray ep, #[]⟩
noncomputable abbrev St (l : List Obj) (life : Life) (gens : Array GenState) (drawn : Drawn) (toks : Nat) (os : OsState) : Shared := ⟨hpOf l life, gens, drawn, toks, os⟩

theorem get_at {pre post : List Obj} {es : List DictEntry} {ep a : Nat} (ha : a = pre.length) : (hpOf (pre ++ D es ep :: post) life).get? a = some (D es ep) := by
  subst ha
  have : (hpOf (pre ++ D es ep :: post) life).objs[pre.length]? = some (D es ep) := by
    show (pre ++ D es ep :: post).toArray[pre.length]? = _
    simp
  unfold Heap.get?
  rw [this]
  rfl
theorem upd_at {pre post : List Obj} {x y : Obj} {a : Nat} (ha : a = pre.length) : (hpOf (pre ++ x :: post) life).update a (fun _ => y) = hpOf (pre ++ y :: post) life := by
  subst ha
  show Heap.mk _ _ = Heap.mk _ _
  congr 1
  apply Array.ext_getElem?
  intro i
  rw [Array.getElem?_modify]
  by_cases hi : pre.length = i
  · subst hi; simp
  · rw [if_neg hi]
    simp only [List.getElem?_toArray]
    rcases Nat.lt_or_ge i pre.length with h | h
    · rw [List.getElem?_append_left h, List.getElem?_append_left h]
    · rw [List.getElem?_append_right h, List.getElem?_append_right h]
      obtain ⟨j, hj⟩ : ∃ j, i - pre.length = j + 1 := ⟨i - pre.length - 1, by omega⟩
      rw [hj]; rfl
theorem push_at {l : List Obj} {o : Obj} : (hpOf l life).push o = hpOf (l ++ [o]) life := by
  show Heap.mk _ _ = Heap.mk _ _
  simp
theorem size_at {l : List Obj} : (hpOf l life).objs.size = l.length := by simp [hpOf]

noncomputable def Fresh (lo : Int) (es : List DictEntry) : Prop := ∀ e ∈ es, e.hash ≤ lo
noncomputable def rising : Int → List (Int × Str) → Bool
  | _, [] => true
  | lo, (k, _) :: r => decide (lo < k) && decide (k < 2 ^ 31) && rising k r
noncomputable def ents (step : Nat) : Nat → List (Int × Str) → List DictEntry
  | _, [] => []
  | t, (k, x) :: r => ⟨k, .int k t, .str x (t + 1)⟩ :: ents step (t + step) r
theorem ents_length (step : Nat) : ∀ (l : List (Int × Str)) (t : Nat), (ents step t l).length = l.length
  | [], _ => rfl
  | _ :: r, t => congrArg (· + 1) (ents_length step r _)

theorem goes_dictSetL {pre post : List Obj} {es : List DictEntry} {ep toks d : Nat} {k lo : Int} {t : Tok} {v : Value} (hd : d = pre.length) (hn : n₀ ≤ d) (h0 : 0 ≤ lo) (h1 : lo < k) (h2 : k < 2 ^ 31) (hf : Fresh lo es) (hz : es.length < 1000) :
    Goes p w n₀ ann (.body b e) fp 10 (dictSet d (.int k t) v) (St (pre ++ D es ep :: post) life gens drawn toks os) q () (St (pre ++ D (es ++ [⟨k, .int k t, v⟩]) (ep + 1) :: post) life gens drawn (toks + 1) os) q := by
  have h := goes_dictSet (p := p) (w := w) (n₀ := n₀) (ann := ann) (b := b) (e := e) (fp := fp) (q := q) (s := St (pre ++ D es ep :: post) life gens drawn toks os) (k := k) (t := t) (v := v) (by omega) h2 (get_at hd) (Nat.ble_eq_true_of_le hn)
    (fun e he => by have := hf e (by simpa using he); omega) (by simpa using hz)
  simp only [upd_at hd, List.push_toArray] at h
  exact h
theorem goes_dictPutL {pre post : List Obj} {es : List DictEntry} {ep toks d : Nat} {k lo : Int} {t : Tok} {v : Value} (hd : d = pre.length) (hn : n₀ ≤ d) (h1 : lo < k) (hf : Fresh lo es) (hz : es.length < 1000) :
    Goes p w n₀ ann (.body b e) fp 4 (dictPut d k (.int k t) v) (St (pre ++ D es ep :: post) life gens drawn toks os) q () (St (pre ++ D (es ++ [⟨k, .int k t, v⟩]) (ep + 1) :: post) life gens drawn toks os) q := by
  have h := goes_dictPut (p := p) (w := w) (n₀ := n₀) (ann := ann) (c := .body b e) (fp := fp) (q := q) (s := St (pre ++ D es ep :: post) life gens drawn toks os) (k := k) (t := t) (h := k) (v := v) (get_at hd) (Nat.ble_eq_true_of_le hn)
    (fun e he => by have := hf e (by simpa using he); omega) (by simpa using hz)
  simp only [upd_at hd, List.push_toArray] at h
  exact h
theorem Fresh.push {lo k : Int} {es : List DictEntry} {u v : Value} (hf : Fresh lo es) (h1 : lo < k) : Fresh k (es ++ [⟨k, u, v⟩]) := fun e he => by
  rcases List.mem_append.mp he with h | h
  · have := hf e h; omega
  · rw [List.mem_singleton.mp h]; exact Int.le_refl _

noncomputable def endP (q pos : Pos) : List (Int × Str) → Pos
  | [] => q
  | _ :: _ => pos
/-- the pairs of the display -/
noncomputable def prs (pos : Pos) (l : List (Int × Str)) : List (Sem Value × Sem Value) := l.map fun x => (keyT x.1, valT x.2 pos)
theorem goes_fill {pre post : List Obj} {d : Nat} {pos : Pos} (hd : d = pre.length) (hn : n₀ ≤ d) (l : List (Int × Str)) : ∀ (es : List DictEntry) (ep toks : Nat) (lo : Int) (q : Pos), 0 ≤ lo → rising lo l = true → Fresh lo es → es.length + l.length < 1000 →
    Goes p w n₀ ann (.body b e) fp (13 * l.length) (forIn (prs pos l) PUnit.unit fun (x : Sem Value × Sem Value) (_ : PUnit) => (do
        let kv ← x.1
        let vv ← holding [kv] x.2
        holding [kv, vv] (dictSet d kv vv)
        pure (ForInStep.yield PUnit.unit) : Sem (ForInStep PUnit)))
      (St (pre ++ D es ep :: post) life gens drawn toks os) q PUnit.unit (St (pre ++ D (es ++ ents 3 toks l) (ep + l.length) :: post) life gens drawn (toks + 3 * l.length) os) (endP q pos l) := by
  induction l with
  | nil =>
    intro es ep toks lo q _ _ _ _
    simp only [prs, List.map_nil, List.forIn_nil, ents, List.append_nil, List.length_nil, Nat.mul_zero, Nat.add_zero]
    exact goes_pure
  | cons y r ih =>
    obtain ⟨k, x⟩ := y
    intro es ep toks lo q h0 hr hf hz
    simp only [rising, Bool.and_eq_true, decide_eq_true_eq] at hr
    rw [List.length_cons] at hz
    have ih := ih (es ++ [⟨k, .int k toks, .str x (toks + 1)⟩]) (ep + 1) (toks + 3) k pos (by omega) hr.2 (hf.push hr.1.1) (by simp; omega)
    have e1 : endP pos pos r = pos := by cases r <;> rfl
    rw [e1] at ih
    simp only [prs, List.map_cons, List.forIn_cons]
    refine goes_cast (n := 13 * r.length + 13) (goes_bind (s₁ := St (pre ++ D (es ++ [⟨k, .int k toks, .str x (toks + 1)⟩]) (ep + 1) :: post) life gens drawn (toks + 3) os) (q₁ := pos) (a := ForInStep.yield PUnit.unit) ?_ ?_) (by rw [List.length_cons]; omega)
    · refine goes_bind (k := 12) goes_keyT ?_
      refine goes_bind (k := 10) (goes_holding goes_valT) ?_
      exact goes_bind (k := 0) (goes_holding (goes_dictSetL hd hn h0 hr.1.1 hr.1.2 hf (by omega))) goes_pure
    · simp only [List.length_cons, ents]
      have e2 : es ++ { hash := k, key := Value.int k toks, val := Value.str x (toks + 1) } :: ents 3 (toks + 3) r = (es ++ [⟨k, .int k toks, .str x (toks + 1)⟩]) ++ ents 3 (toks + 3) r := by simp
      rw [e2, show ep + (r.length + 1) = ep + 1 + r.length by omega, show toks + 3 * (r.length + 1) = toks + 3 + 3 * r.length by omega]
      exact ih
end Goes5
end Mine
open PySem PySem.W PyProof.Rows PySem.Calls
namespace Mine
local macro_rules | `(tactic| walk_at "mine0") => `(tactic| fail)
local macro_rules | `(tactic| walk_at "mine1") => `(tactic| fail)
local macro_rules | `(tactic| walk_at "mine2") => `(tactic| fail)
local macro_rules | `(tactic| walk_at "mine3") => `(tactic| fail)
local macro_rules | `(tactic| walk_at "mine4") => `(tactic| fail)
local macro_rules | `(tactic| walk_at "mine5") => `(tactic| fail)
local macro_rules | `(tactic| walk_at "mine6") => `(tactic| fail)
local macro_rules | `(tactic| walk_at "mine7") => `(tactic| fail)
local macro_rules | `(tactic| walk_at "mine8") => `(tactic| fail)
local macro_rules | `(tactic| walk_at "mine9") => `(tactic| fail)
local macro_rules | `(tactic| walk_at "mine10") => `(tactic| fail)
local macro_rules | `(tactic| walk_at "mine11") => `(tactic| fail)
local macro_rules | `(tactic| walk_at "mine12") => `(tactic| fail)
local macro_rules | `(tactic| walk_at "mine13") => `(tactic| fail)
local macro_rules | `(tactic| walk_at "mine14") => `(tactic| fail)
section Goes6
variable {p : Program} {w : World} {n₀ : Nat} {ann : Option Value} {b : List Stmt} {e : Env} {fp : Pos} {q q' q₁ : Pos}
variable {gens : Array GenState} {drawn : Drawn} {os : OsState} {life : Life}

noncomputable def vsOf : Nat → List (Int × Str) → List (Value × Value)
  | _, [] => []
  | t, (k, x) :: r => (.int k t, .str x (t + 1)) :: vsOf (t + 2) r
theorem goes_evalPairs {pos : Pos} {l₀ : List Obj} (l : List (Int × Str)) : ∀ (toks : Nat) (q : Pos),
    Goes p w n₀ ann (.body b e) fp (3 * l.length) (evalPairs (prs pos l)) (St l₀ life gens drawn toks os) q (vsOf toks l) (St l₀ life gens drawn (toks + 2 * l.length) os) (endP q pos l) := by
  induction l with
  | nil => intro toks q; exact goes_pure
  | cons y r ih =>
    obtain ⟨k, x⟩ := y
    intro toks q
    have ih := ih (toks + 2) pos
    have e1 : endP pos pos r = pos := by cases r <;> rfl
    rw [e1] at ih
    simp only [prs, List.map_cons, evalPairs, vsOf, List.length_cons, endP]
    rw [show toks + 2 * (r.length + 1) = toks + 2 + 2 * r.length by omega]
    refine goes_cast (n := (0 + 3 * r.length + 2) + 1) (goes_bind goes_keyT ?_) (by omega)
    refine goes_bind (goes_holding goes_valT) ?_
    exact goes_bind (goes_holding ih) goes_pure
theorem goes_setAll {pre post : List Obj} {d : Nat} (hd : d = pre.length) (hn : n₀ ≤ d) (l : List (Int × Str)) : ∀ (es : List DictEntry) (ep t toks : Nat) (lo : Int), 0 ≤ lo → rising lo l = true → Fresh lo es → es.length + l.length < 1000 →
    Goes p w n₀ ann (.body b e) fp (10 * l.length) (forIn (vsOf t l) PUnit.unit fun (x : Value × Value) (_ : PUnit) => (do
        dictSet d x.1 x.2
        pure (ForInStep.yield PUnit.unit) : Sem (ForInStep PUnit)))
      (St (pre ++ D es ep :: post) life gens drawn toks os) q PUnit.unit (St (pre ++ D (es ++ ents 2 t l) (ep + l.length) :: post) life gens drawn (toks + l.length) os) q := by
  induction l with
  | nil =>
    intro es ep t toks lo _ _ _ _
    simp only [vsOf, List.forIn_nil, ents, List.append_nil, List.length_nil, Nat.mul_zero, Nat.add_zero]
    exact goes_pure
  | cons y r ih =>
    obtain ⟨k, x⟩ := y
    intro es ep t toks lo h0 hr hf hz
    simp only [rising, Bool.and_eq_true, decide_eq_true_eq] at hr
    rw [List.length_cons] at hz
    have ih := ih (es ++ [⟨k, .int k t, .str x (t + 1)⟩]) (ep + 1) (t + 2) (toks + 1) k (by omega) hr.2 (hf.push hr.1.1) (by simp; omega)
    simp only [vsOf, List.forIn_cons]
    refine goes_cast (n := 10 * r.length + (0 + 10)) (goes_bind (goes_bind (goes_dictSetL hd hn h0 hr.1.1 hr.1.2 hf (by omega)) goes_pure) ?_) (by rw [List.length_cons]; omega)
    simp only [List.length_cons, ents]
    have e2 : es ++ { hash := k, key := Value.int k t, val := Value.str x (t + 1) } :: ents 2 (t + 2) r = (es ++ [⟨k, .int k t, .str x (t + 1)⟩]) ++ ents 2 (t + 2) r := by simp
    rw [e2, show ep + (r.length + 1) = ep + 1 + r.length by omega, show toks + (r.length + 1) = toks + 1 + r.length by omega]
    exact ih
theorem prs_length {pos : Pos} {l : List (Int × Str)} : (prs pos l).length = l.length := by simp [prs]
theorem goes_subLong {l₀ : List Obj} {pos : Pos} {l : List (Int × Str)} {toks : Nat} {lo : Int} (hl : 15 < l.length) (hl2 : l.length < 1000) (hn : n₀ ≤ l₀.length) (h0 : 0 ≤ lo) (hr : rising lo l = true) :
    Goes p w n₀ ann (.body b e) fp (2 + 13 * l.length) (subDict (prs pos l)) (St l₀ life gens drawn toks os) q l₀.length (St (l₀ ++ [D (ents 3 toks l) l.length]) life gens drawn (toks + 3 * l.length) os) pos := by
  have hne : endP q pos l = pos := by cases l with | nil => simp at hl | cons => rfl
  unfold subDict
  refine goes_cast (n := (0 + (13 * l.length + 1)) + 1) (goes_bind goes_alloc ?_) (by omega)
  rw [size_at, push_at]
  refine goes_bind (a := PUnit.unit) (goes_holding ?_) goes_pure
  rw [if_neg (by rw [prs_length]; omega)]
  have h := goes_fill (p := p) (w := w) (n₀ := n₀) (ann := ann) (b := b) (e := e) (fp := fp) (gens := gens) (drawn := drawn) (os := os) (life := life) (pre := l₀) (post := []) (pos := pos) rfl hn l [] 0 toks lo q h0 hr (fun _ h => nomatch h) (by simpa using hl2)
  rw [hne, List.nil_append, Nat.zero_add] at h
  exact goes_bind (k := 13 * l.length) goes_rule (goes_cast (goes_bind h goes_pure) (Nat.zero_add _))
theorem goes_subShort {l₀ : List Obj} {pos : Pos} {l : List (Int × Str)} {toks : Nat} {lo : Int} (hl0 : l ≠ []) (hl : l.length ≤ 15) (hn : n₀ ≤ l₀.length) (h0 : 0 ≤ lo) (hr : rising lo l = true) :
    Goes p w n₀ ann (.body b e) fp (1 + 13 * l.length) (subDict (prs pos l)) (St l₀ life gens drawn toks os) q l₀.length (St (l₀ ++ [D (ents 2 toks l) l.length]) life gens drawn (toks + 3 * l.length) os) pos := by
  have hne : endP q pos l = pos := by cases l with | nil => exact absurd rfl hl0 | cons => rfl
  unfold subDict
  refine goes_cast (n := (0 + (10 * l.length + 3 * l.length)) + 1) (goes_bind goes_alloc ?_) (by omega)
  rw [size_at, push_at]
  refine goes_bind (a := PUnit.unit) (goes_holding ?_) goes_pure
  rw [if_pos (by rw [prs_length]; omega)]
  have h1 := goes_evalPairs (p := p) (w := w) (n₀ := n₀) (ann := ann) (b := b) (e := e) (fp := fp) (gens := gens) (drawn := drawn) (os := os) (life := life) (pos := pos) (l₀ := l₀ ++ [D [] 0]) l toks q
  have h2 := goes_setAll (p := p) (w := w) (n₀ := n₀) (ann := ann) (b := b) (e := e) (fp := fp) (gens := gens) (drawn := drawn) (os := os) (life := life) (q := pos) (pre := l₀) (post := []) rfl hn l [] 0 toks (toks + 2 * l.length) lo h0 hr (fun _ h => nomatch h) (by simp; omega)
  rw [hne] at h1
  rw [List.nil_append, Nat.zero_add, show toks + 2 * l.length + l.length = toks + 3 * l.length by omega] at h2
  exact goes_bind (k := 10 * l.length) h1 (goes_holding (goes_cast (goes_bind h2 goes_pure) (Nat.zero_add _)))
end Goes6
end Mine
open PySem PySem.W PyProof.Rows PySem.Calls
namespace Mine
section Goes7
variable {p : Program} {w : World} {n₀ : Nat} {ann : Option Value} {b : List Stmt} {e : Env} {fp : Pos} {q q' q₁ : Pos}
variable {gens : Array GenState} {drawn : Drawn} {os : OsState} {life : Life}

noncomputable def rent : Int → List DictEntry → Prop
  | _, [] => True
  | lo, e :: r => (∃ t, e.key = .int e.hash t) ∧ lo < e.hash ∧ rent e.hash r
theorem rent_ents (step : Nat) : ∀ (l : List (Int × Str)) (lo : Int) (t : Nat), rising lo l = true → rent lo (ents step t l)
  | [], _, _, _ => trivial
  | (k, x) :: r, lo, t, h => by
    simp only [rising, Bool.and_eq_true, decide_eq_true_eq] at h
    exact ⟨⟨t, rfl⟩, h.1.1, rent_ents step r k _ h.2⟩
noncomputable def lastK (lo : Int) : List (Int × Str) → Int
  | [] => lo
  | (k, _) :: r => lastK k r
theorem fresh_mono {lo hi : Int} {es : List DictEntry} (h : Fresh lo es) (hl : lo ≤ hi) : Fresh hi es := fun e he => Int.le_trans (h e he) hl
theorem lastK_ge : ∀ (l : List (Int × Str)) (lo : Int), rising lo l = true → lo ≤ lastK lo l
  | [], _, _ => Int.le_refl _
  | (k, x) :: r, lo, h => by
    simp only [rising, Bool.and_eq_true, decide_eq_true_eq] at h
    have := lastK_ge r k h.2
    simp only [lastK]; omega
theorem fresh_ents (step : Nat) : ∀ (l : List (Int × Str)) (lo : Int) (t : Nat), rising lo l = true → Fresh (lastK lo l) (ents step t l)
  | [], _, _, _ => fun _ h => nomatch h
  | (k, x) :: r, lo, t, h => by
    simp only [rising, Bool.and_eq_true, decide_eq_true_eq] at h
    intro e he
    rcases List.mem_cons.mp he with rfl | he
    · exact lastK_ge r k h.2
    · exact fresh_ents step r k _ h.2 e he
theorem fresh_app {lo : Int} {es fs : List DictEntry} (h1 : Fresh lo es) (h2 : Fresh lo fs) : Fresh lo (es ++ fs) := fun e he => (List.mem_append.mp he).elim (h1 e) (h2 e)

theorem sub_dict : isSubtype (.type "dict") (.type "dict") = pure true := by kernel_rfl
theorem look_dict : typeLookup (.type "dict") "__iter__" = pure (some (.builtin "dict.__iter__")) := by kernel_rfl
theorem goes_typeDict {a : Addr} {es : Array DictEntry} {ep : Nat} {s : Shared} (ho : s.heap.get? a = some ⟨.type "dict", none, .dict es ep, #[]⟩) : Goes p w n₀ ann (.body b e) fp 1 (typeOf (.ref a)) s q (.type "dict") s q := by
  unfold typeOf
  exact goes_bind (k := 0) (goes_loadPart ho) goes_pure
theorem goes_isDict {a : Addr} {es : Array DictEntry} {ep : Nat} {s : Shared} (ho : s.heap.get? a = some ⟨.type "dict", none, .dict es ep, #[]⟩) : Goes p w n₀ ann (.body b e) fp 1 (isInstance (.ref a) (.type "dict")) s q true s q := by
  unfold isInstance
  refine goes_bind (k := 0) (goes_typeDict ho) ?_
  rw [sub_dict]; exact goes_pure
theorem goes_specialDict {a : Addr} {es : Array DictEntry} {ep : Nat} {s : Shared} (ho : s.heap.get? a = some ⟨.type "dict", none, .dict es ep, #[]⟩) : Goes p w n₀ ann (.body b e) fp 1 (specialOf (.ref a) "__iter__") s q (some (.builtin "dict.__iter__")) s q := by
  unfold specialOf
  refine goes_bind (k := 0) (goes_typeDict ho) ?_
  rw [look_dict]; exact goes_pure

theorem goes_merge {pre mid : List Obj} {E F : List DictEntry} {ep f toks d a : Nat} {lo : Int} (hd : d = pre.length) (ha : a = pre.length + 1 + mid.length) (hn : n₀ ≤ d) (hs : (a == sysModules) = false) (hE : E ≠ [])
    (hf : Fresh lo E) (hr : rent lo F) (hz : E.length + F.length < 1000) :
    Goes p w n₀ ann (.body b e) fp (5 + 6 * F.length) (mergeMapping d (.ref a) false) (St (pre ++ D E ep :: (mid ++ [D F f])) life gens drawn toks os) q () (St (pre ++ D (E ++ F) (ep + F.length) :: (mid ++ [D F f])) life gens drawn toks os) q := by
  have hsub : ∀ E' ep', (hpOf (pre ++ D E' ep' :: (mid ++ [D F f])) life).get? a = some (D F f) := fun E' ep' => by
    have : pre ++ D E' ep' :: (mid ++ [D F f]) = (pre ++ D E' ep' :: mid) ++ D F f :: [] := by simp
    rw [this]
    exact get_at (by simp; omega)
  have hmain : ∀ E' ep', (hpOf (pre ++ D E' ep' :: (mid ++ [D F f])) life).get? d = some (D E' ep') := fun E' ep' => get_at hd
  unfold mergeMapping
  refine goes_cast (n := (4 + 6 * F.length) + 1) (goes_bind (goes_isDict (hsub E ep)) ?_) (by omega)
  rw [if_pos rfl]
  refine goes_cast (n := (3 + 6 * F.length) + 1) (goes_bind (goes_specialDict (hsub E ep)) ?_) (by omega)
  refine goes_cast (n := (3 + 6 * F.length) + 0) (goes_bind goes_pure ?_) (by omega)
  rw [show ((some (Value.builtin "dict.__iter__") == some (Value.builtin "dict.__iter__")) = true) from by rw [beq_self_eq_true]]
  dsimp only
  rw [if_neg (by rw [hs]; exact Bool.false_ne_true)]
  refine goes_cast (n := (2 + 6 * F.length) + 1) (goes_bind (goes_dictEntries (hmain E ep)) ?_) (by omega)
  rw [if_neg (by simpa using hE)]
  refine goes_cast (n := (1 + 6 * F.length) + 1) (goes_bind (goes_dictEntries (hsub E ep)) ?_) (by omega)
  refine goes_cast (n := (6 * F.length) + 1) (goes_bind (goes_dictEpoch (hsub E ep)) ?_) (by omega)
  have loop : ∀ (rest done E : List DictEntry) (ep : Nat) (lo : Int), F = done ++ rest → Fresh lo E → rent lo rest → E.length + rest.length < 1000 →
      Goes p w n₀ ann (.body b e) fp (6 * rest.length) (forIn (List.range' done.length rest.length) PUnit.unit fun (i : Nat) (_ : PUnit) => (do
          let __do_lift ← dictEntries a
          match __do_lift[i]? with
            | some e => do
              holding [e.key, e.val]
                  (if false = true then do
                    let __do_lift ← dictFind d e.key e.hash
                    if __do_lift.isSome = true then do
                        rule "dict.merge.duplicate-key"
                        let __do_lift ← newExc (Value.type "KeyError") [e.key]
                        raiseNew __do_lift
                        dictPut d e.hash e.key e.val
                      else dictPut d e.hash e.key e.val
                  else dictPut d e.hash e.key e.val)
              let __do_lift ← dictEpoch a
              if (__do_lift != f) = true then do
                  unsupported "dict.changed-during-merge"
                  pure (ForInStep.yield PUnit.unit)
                else pure (ForInStep.yield PUnit.unit)
            | x => do
              unsupported "dict.changed-during-merge"
              pure (ForInStep.yield PUnit.unit) : Sem (ForInStep PUnit)))
        (St (pre ++ D E ep :: (mid ++ [D F f])) life gens drawn toks os) q PUnit.unit (St (pre ++ D (E ++ rest) (ep + rest.length) :: (mid ++ [D F f])) life gens drawn toks os) q := by
    intro rest
    induction rest with
    | nil =>
      intro done E ep lo _ _ _ _
      simp only [List.length_nil, List.range'_zero, List.forIn_nil, List.append_nil, Nat.mul_zero, Nat.add_zero]
      exact goes_pure
    | cons g r ih =>
      intro done E ep lo hF hf hr hz
      obtain ⟨⟨t, hk⟩, hlo, hr⟩ := hr
      rw [List.length_cons] at hz
      have ih := ih (done ++ [g]) (E ++ [g]) (ep + 1) g.hash (by rw [hF]; simp) (fun x hx => by
        rcases List.mem_append.mp hx with h | h
        · have := hf x h; omega
        · rw [List.mem_singleton.mp h]; exact Int.le_refl _) hr (by simp; omega)
      rw [List.length_cons, List.range'_succ, List.forIn_cons]
      have hget : F.toArray[done.length]? = some g := by rw [hF]; simp
      refine goes_cast (n := 6 * r.length + 6) (goes_bind (a := ForInStep.yield PUnit.unit) (s₁ := St (pre ++ D (E ++ [g]) (ep + 1) :: (mid ++ [D F f])) life gens drawn toks os) (q₁ := q) ?_ ?_) (by omega)
      · refine goes_bind (k := 5) (goes_dictEntries (hsub E ep)) ?_
        rw [hget]
        dsimp only
        rw [if_neg Bool.false_ne_true]
        have hput := goes_dictPutL (p := p) (w := w) (n₀ := n₀) (ann := ann) (b := b) (e := e) (fp := fp) (q := q) (gens := gens) (drawn := drawn) (os := os) (life := life) (pre := pre) (post := mid ++ [D F f]) (es := E) (ep := ep) (toks := toks) (d := d) (k := g.hash) (lo := lo) (t := t) (v := g.val) hd hn hlo hf (by omega)
        rw [← hk] at hput
        refine goes_bind (k := 1) (goes_holding hput) ?_
        refine goes_bind (k := 0) (goes_dictEpoch (hsub (E ++ [g]) (ep + 1))) ?_
        rw [if_neg (by simp)]
        exact goes_pure
      · simp only [List.length_append, List.length_cons, List.length_nil, Nat.zero_add, List.append_assoc, List.cons_append, List.nil_append] at ih ⊢
        rw [show ep + (r.length + 1) = ep + 1 + r.length by omega]
        exact ih
  have h := loop F [] E ep lo rfl hf hr hz
  rw [List.range_eq_range', show F.toArray.size = F.length by simp]
  exact goes_cast (goes_bind h goes_pure) (Nat.zero_add _)
end Goes7
end Mine
open PySem PySem.W PyProof.Rows PySem.Calls
namespace Mine
local macro_rules | `(tactic| walk_at "mine0") => `(tactic| fail)
local macro_rules | `(tactic| walk_at "mine1") => `(tactic| fail)
local macro_rules | `(tactic| walk_at "mine2") => `(tactic| fail)
local macro_rules | `(tactic| walk_at "mine3") => `(tactic| fail)
local macro_rules | `(tactic| walk_at "mine4") => `(tactic| fail)
local macro_rules | `(tactic| walk_at "mine5") => `(tactic| fail)
local macro_rules | `(tactic| walk_at "mine6") => `(tactic| fail)
local macro_rules | `(tactic| walk_at "mine7") => `(tactic| fail)
local macro_rules | `(tactic| walk_at "mine8") => `(tactic| fail)
local macro_rules | `(tactic| walk_at "mine9") => `(tactic| fail)
local macro_rules | `(tactic| walk_at "mine10") => `(tactic| fail)
local macro_rules | `(tactic| walk_at "mine11") => `(tactic| fail)
local macro_rules | `(tactic| walk_at "mine12") => `(tactic| fail)
local macro_rules | `(tactic| walk_at "mine13") => `(tactic| fail)
local macro_rules | `(tactic| walk_at "mine14") => `(tactic| fail)
section Goes8
variable {p : Program} {w : World} {n₀ : Nat} {ann : Option Value} {b : List Stmt} {e : Env} {fp : Pos} {q q' q₁ : Pos}
variable {gens : Array GenState} {drawn : Drawn} {os : OsState} {life : Life}

noncomputable abbrev Gath := Option Addr × List (Sem Value × Sem Value)
noncomputable def flushT (run : List (Sem Value × Sem Value)) (main : Option Addr) : Sem (Option Addr) :=
  if run.isEmpty = true then pure main
  else
    match main with
    | none => do
      let __do_lift ← subDict run
      pure (some __do_lift)
    | some d => do
      let sub ← holding [Value.ref d] (subDict run)
      (holding [Value.ref d, Value.ref sub] (mergeMapping d (Value.ref sub) false)).onRaise fun x => do
          let _ ← holding [Value.ref d, x] (runValue (Code.builtin "proto.let_go" { }))
          pure ()
      pure (some d)
noncomputable abbrev Body := (Option (Sem Value) × Sem Value) → Gath → Sem (ForInStep Gath)
noncomputable def Good (f : Body) : Prop := ∀ (k v : Sem Value) (main : Option Addr) (run : List (Sem Value × Sem Value)), f (some k, v) (main, run) =
  if ((run ++ [(k, v)]).length == 17) = true then (do let m ← flushT (run ++ [(k, v)]) main; pure (.yield (m, []))) else pure (.yield (main, run ++ [(k, v)]))
noncomputable def its (l : List (Sem Value × Sem Value)) : List (Option (Sem Value) × Sem Value) := l.map fun x => (some x.1, x.2)
theorem gath {f : Body} (hf : Good f) (main : Option Addr) (rest : List (Option (Sem Value) × Sem Value)) : ∀ (l run : List (Sem Value × Sem Value)), run.length + l.length < 17 →
    forIn (its l ++ rest) ((main, run) : Gath) f = forIn rest ((main, run ++ l) : Gath) f
  | [], run, _ => by simp [its]
  | (k, v) :: r, run, h => by
    have ih := gath hf main rest r (run ++ [(k, v)]) (by simp at h ⊢; omega)
    simp only [its, List.map_cons, List.cons_append, List.forIn_cons] at ih ⊢
    rw [hf k v main run, if_neg (by simp at h ⊢; omega), pure_bind]
    dsimp only
    rw [ih, List.append_assoc]; rfl
theorem gath17 {f : Body} (hf : Good f) (main : Option Addr) (rest : List (Option (Sem Value) × Sem Value)) (l : List (Sem Value × Sem Value)) (hl : l.length = 17) :
    forIn (its l ++ rest) ((main, []) : Gath) f = (flushT l main >>= fun m => forIn rest ((m, []) : Gath) f) := by
  have hne : l ≠ [] := by intro h; rw [h] at hl; cases hl
  have hsplit : l = l.dropLast ++ [l.getLast hne] := (List.dropLast_concat_getLast hne).symm
  have hlen : l.dropLast.length = 16 := by rw [List.length_dropLast, hl]
  generalize l.getLast hne = x at hsplit
  generalize l.dropLast = i at hsplit hlen
  subst hsplit
  obtain ⟨k, v⟩ := x
  have e1 : its (i ++ [(k, v)]) ++ rest = its i ++ ((some k, v) :: rest) := by simp [its]
  rw [e1, gath hf main _ i [] (by simp [hlen]), List.nil_append, List.forIn_cons, hf k v main i, if_pos (by simp [hlen])]
  simp only [bind_assoc, pure_bind]
theorem goes_flush0 {l₀ : List Obj} {pos : Pos} {l : List (Int × Str)} {toks : Nat} {lo : Int} (hl : l.length = 17) (hn : n₀ ≤ l₀.length) (h0 : 0 ≤ lo) (hr : rising lo l = true) :
    Goes p w n₀ ann (.body b e) fp 223 (flushT (prs pos l) none) (St l₀ life gens drawn toks os) q (some l₀.length) (St (l₀ ++ [D (ents 3 toks l) 17]) life gens drawn (toks + 51) os) pos := by
  unfold flushT
  rw [if_neg (by rw [List.isEmpty_iff]; intro h; have := congrArg List.length h; rw [prs_length, hl] at this; cases this)]
  dsimp only
  have h := goes_subLong (p := p) (w := w) (n₀ := n₀) (ann := ann) (b := b) (e := e) (fp := fp) (q := q) (gens := gens) (drawn := drawn) (os := os) (life := life) (l₀ := l₀) (pos := pos) (l := l) (toks := toks) (by omega) (by omega) hn h0 hr
  rw [hl] at h
  exact goes_cast (goes_bind h goes_pure) rfl
theorem goes_flush1 {pre mid : List Obj} {E : List DictEntry} {ep : Nat} {pos : Pos} {l : List (Int × Str)} {toks : Nat} {lo : Int} (hl : l.length = 17) (hn : n₀ ≤ pre.length) (hs : 2 ≤ pre.length) (h0 : 0 ≤ lo) (hr : rising lo l = true) (hE : E ≠ []) (hf : Fresh lo E) (hz : E.length + 17 < 1000) :
    Goes p w n₀ ann (.body b e) fp 330 (flushT (prs pos l) (some pre.length)) (St (pre ++ D E ep :: mid) life gens drawn toks os) q (some pre.length)
      (St (pre ++ D (E ++ ents 3 toks l) (ep + 17) :: (mid ++ [D (ents 3 toks l) 17])) life gens drawn (toks + 51) os) pos := by
  unfold flushT
  rw [if_neg (by rw [List.isEmpty_iff]; intro h; have := congrArg List.length h; rw [prs_length, hl] at this; cases this)]
  dsimp only
  have h := goes_subLong (p := p) (w := w) (n₀ := n₀) (ann := ann) (b := b) (e := e) (fp := fp) (q := q) (gens := gens) (drawn := drawn) (os := os) (life := life) (l₀ := pre ++ D E ep :: mid) (pos := pos) (l := l) (toks := toks) (by omega) (by omega) (by simp; omega) h0 hr
  rw [hl] at h
  have e1 : (pre ++ D E ep :: mid).length = pre.length + 1 + mid.length := by simp; omega
  have e2 : (pre ++ D E ep :: mid) ++ [D (ents 3 toks l) 17] = pre ++ D E ep :: (mid ++ [D (ents 3 toks l) 17]) := by simp
  rw [e1, e2] at h
  refine goes_bind (k := 107) (n := 223) (goes_holding h) ?_
  have hm := goes_merge (p := p) (w := w) (n₀ := n₀) (ann := ann) (b := b) (e := e) (fp := fp) (q := pos) (gens := gens) (drawn := drawn) (os := os) (life := life) (pre := pre) (mid := mid) (E := E) (F := ents 3 toks l) (ep := ep) (f := 17) (toks := toks + 51) rfl rfl hn
    (by have : sysModules = 1 := rfl; rw [beq_eq_false_iff_ne, this]; omega) hE hf (rent_ents 3 l lo toks hr) (by rw [ents_length, hl]; omega)
  rw [ents_length, hl] at hm
  exact goes_bind (k := 0) (n := 107) (goes_onRaise (goes_holding hm)) goes_pure
theorem goes_flushT {pre mid : List Obj} {E : List DictEntry} {ep : Nat} {pos : Pos} {l : List (Int × Str)} {toks : Nat} {lo : Int} (hl0 : l ≠ []) (hl : l.length ≤ 15) (hn : n₀ ≤ pre.length) (hs : 2 ≤ pre.length) (h0 : 0 ≤ lo) (hr : rising lo l = true) (hE : E ≠ []) (hf : Fresh lo E) (hz : E.length + l.length < 1000) :
    Goes p w n₀ ann (.body b e) fp (6 + 19 * l.length) (flushT (prs pos l) (some pre.length)) (St (pre ++ D E ep :: mid) life gens drawn toks os) q (some pre.length)
      (St (pre ++ D (E ++ ents 2 toks l) (ep + l.length) :: (mid ++ [D (ents 2 toks l) l.length])) life gens drawn (toks + 3 * l.length) os) pos := by
  unfold flushT
  rw [if_neg (by rw [List.isEmpty_iff]; intro h; have := congrArg List.length h; rw [prs_length] at this; exact hl0 (List.eq_nil_of_length_eq_zero this))]
  dsimp only
  have h := goes_subShort (p := p) (w := w) (n₀ := n₀) (ann := ann) (b := b) (e := e) (fp := fp) (q := q) (gens := gens) (drawn := drawn) (os := os) (life := life) (l₀ := pre ++ D E ep :: mid) (pos := pos) (l := l) (toks := toks) hl0 hl (by simp; omega) h0 hr
  have e1 : (pre ++ D E ep :: mid).length = pre.length + 1 + mid.length := by simp; omega
  have e2 : (pre ++ D E ep :: mid) ++ [D (ents 2 toks l) l.length] = pre ++ D E ep :: (mid ++ [D (ents 2 toks l) l.length]) := by simp
  rw [e1, e2] at h
  refine goes_cast (n := (5 + 6 * l.length) + (1 + 13 * l.length)) (goes_bind (goes_holding h) ?_) (by omega)
  have hm := goes_merge (p := p) (w := w) (n₀ := n₀) (ann := ann) (b := b) (e := e) (fp := fp) (q := pos) (gens := gens) (drawn := drawn) (os := os) (life := life) (pre := pre) (mid := mid) (E := E) (F := ents 2 toks l) (ep := ep) (f := l.length) (toks := toks + 3 * l.length) rfl rfl hn
    (by have : sysModules = 1 := rfl; rw [beq_eq_false_iff_ne, this]; omega) hE hf (rent_ents 2 l lo toks hr) (by rw [ents_length]; omega)
  rw [ents_length] at hm
  exact goes_cast (goes_bind (goes_onRaise (goes_holding hm)) goes_pure) (Nat.zero_add _)
end Goes8
end Mine
open PySem PySem.W PyProof.Rows PySem.Calls
namespace Mine
section Goes9
variable {p : Program} {w : World} {n₀ : Nat} {ann : Option Value} {b : List Stmt} {e : Env} {fp : Pos} {q q' q₁ : Pos}
variable {gens : Array GenState} {drawn : Drawn} {os : OsState} {life : Life}

noncomputable def midOf : Nat → List (List (Int × Str)) → List Obj
  | _, [] => []
  | t, l :: r => D (ents 3 t l) 17 :: midOf (t + 51) r
noncomputable def entsOf : Nat → List (List (Int × Str)) → List DictEntry
  | _, [] => []
  | t, l :: r => ents 3 t l ++ entsOf (t + 51) r
noncomputable def risingC : Int → List (List (Int × Str)) → Bool
  | _, [] => true
  | lo, l :: r => l.length == 17 && rising lo l && risingC (lastK lo l) r
noncomputable def lastC : Int → List (List (Int × Str)) → Int
  | lo, [] => lo
  | lo, l :: r => lastC (lastK lo l) r
theorem entsOf_length : ∀ (cs : List (List (Int × Str))) (t : Nat) (lo : Int), risingC lo cs = true → (entsOf t cs).length = 17 * cs.length
  | [], _, _, _ => rfl
  | l :: r, t, lo, h => by
    simp only [risingC, Bool.and_eq_true, beq_iff_eq] at h
    rw [entsOf, List.length_append, ents_length, h.1.1, entsOf_length r _ _ h.2, List.length_cons]; omega
theorem midOf_length : ∀ (cs : List (List (Int × Str))) (t : Nat), (midOf t cs).length = cs.length
  | [], _ => rfl
  | _ :: r, t => congrArg (· + 1) (midOf_length r _)
noncomputable def endC (q pos : Pos) : List (List (Int × Str)) → Pos
  | [] => q
  | _ :: _ => pos
theorem goes_chunks {f : Body} (hf : Good f) {pre : List Obj} {pos : Pos} (hn : n₀ ≤ pre.length) (hs : 2 ≤ pre.length) (tl : List (Int × Str)) (htl : tl.length < 17) (cs : List (List (Int × Str))) : ∀ (mid : List Obj) (E : List DictEntry) (ep toks : Nat) (lo : Int) (q : Pos),
    0 ≤ lo → risingC lo cs = true → E ≠ [] → Fresh lo E → E.length + 17 * cs.length < 1000 →
    Goes p w n₀ ann (.body b e) fp (330 * cs.length) (forIn ((cs.map fun l => its (prs pos l)).flatten ++ its (prs pos tl)) ((some pre.length, []) : Gath) f) (St (pre ++ D E ep :: mid) life gens drawn toks os) q (some pre.length, prs pos tl)
      (St (pre ++ D (E ++ entsOf toks cs) (ep + 17 * cs.length) :: (mid ++ midOf toks cs)) life gens drawn (toks + 51 * cs.length) os) (endC q pos cs) := by
  induction cs with
  | nil =>
    intro mid E ep toks lo q _ _ _ _ _
    have h := gath hf (some pre.length) [] (prs pos tl) [] (by rw [prs_length]; simpa using htl)
    rw [List.append_nil, List.nil_append] at h
    simp only [List.map_nil, List.flatten_nil, List.nil_append, h, List.forIn_nil, entsOf, midOf, List.append_nil, List.length_nil, Nat.mul_zero, Nat.add_zero]
    exact goes_pure
  | cons l r ih =>
    intro mid E ep toks lo q h0 hr hE hfr hz
    simp only [risingC, Bool.and_eq_true, beq_iff_eq] at hr
    obtain ⟨⟨hl, hr1⟩, hr2⟩ := hr
    rw [List.length_cons] at hz
    have hge := lastK_ge l lo hr1
    have ih := ih (mid ++ [D (ents 3 toks l) 17]) (E ++ ents 3 toks l) (ep + 17) (toks + 51) (lastK lo l) pos (by omega) hr2 (by simp [hE]) (fresh_app (fresh_mono hfr hge) (fresh_ents 3 l lo toks hr1)) (by rw [List.length_append, ents_length, hl]; omega)
    have e1 : endC pos pos r = pos := by cases r <;> rfl
    rw [e1] at ih
    have hfl := goes_flush1 (p := p) (w := w) (n₀ := n₀) (ann := ann) (b := b) (e := e) (fp := fp) (q := q) (gens := gens) (drawn := drawn) (os := os) (life := life) (pre := pre) (mid := mid) (E := E) (ep := ep) (pos := pos) (l := l) (toks := toks) hl hn hs h0 hr1 hE hfr (by omega)
    rw [List.map_cons, List.flatten_cons, List.append_assoc, gath17 hf _ _ _ (by rw [prs_length, hl])]
    refine goes_cast (n := 330 * r.length + 330) (goes_bind hfl ?_) (by rw [List.length_cons]; omega)
    simp only [entsOf, midOf, List.length_cons]
    rw [show ep + 17 * (r.length + 1) = ep + 17 + 17 * r.length by omega, show toks + 51 * (r.length + 1) = toks + 51 + 51 * r.length by omega]
    simpa only [List.append_assoc, List.cons_append, List.nil_append, endC] using ih
theorem prs_append {pos : Pos} {l r : List (Int × Str)} : prs pos (l ++ r) = prs pos l ++ prs pos r := by simp [prs]
theorem its_append {l r : List (Sem Value × Sem Value)} : its (l ++ r) = its l ++ its r := by simp [its]
theorem its_flatten {pos : Pos} : ∀ cs : List (List (Int × Str)), its (prs pos cs.flatten) = (cs.map fun l => its (prs pos l)).flatten
  | [] => rfl
  | l :: r => by rw [List.flatten_cons, prs_append, its_append, its_flatten r, List.map_cons, List.flatten_cons]
theorem fresh_entsOf : ∀ (cs : List (List (Int × Str))) (lo : Int) (t : Nat), risingC lo cs = true → Fresh (lastC lo cs) (entsOf t cs) ∧ lo ≤ lastC lo cs
  | [], lo, _, _ => ⟨(fun _ h => nomatch h), Int.le_refl _⟩
  | l :: r, lo, t, h => by
    simp only [risingC, Bool.and_eq_true, beq_iff_eq] at h
    have ih := fresh_entsOf r (lastK lo l) (t + 51) h.2
    exact ⟨fresh_app (fresh_mono (fresh_ents 3 l lo t h.1.2) ih.2) ih.1, Int.le_trans (lastK_ge l lo h.1.2) ih.2⟩
theorem goes_display {pre : List Obj} {pos : Pos} {c₀ tl : List (Int × Str)} {cs : List (List (Int × Str))} {toks : Nat} (hn : n₀ ≤ pre.length) (hs : 2 ≤ pre.length) (h1 : risingC 0 (c₀ :: cs) = true) (h2 : rising (lastC 0 (c₀ :: cs)) tl = true) (ht0 : tl ≠ []) (ht : tl.length ≤ 15) (hz : cs.length < 50) :
    Goes p w n₀ ann (.body b e) fp (223 + 330 * cs.length + (6 + 19 * tl.length)) (dictDisplay (its (prs pos (c₀ ++ (cs.flatten ++ tl))))) (St pre life gens drawn toks os) q (.ref pre.length)
      (St (pre ++ D (ents 3 toks c₀ ++ entsOf (toks + 51) cs ++ ents 2 (toks + 51 + 51 * cs.length) tl) (17 + 17 * cs.length + tl.length) :: (midOf (toks + 51) cs ++ [D (ents 2 (toks + 51 + 51 * cs.length) tl) tl.length])) life gens drawn (toks + 51 + 51 * cs.length + 3 * tl.length) os) pos := by
  have hr := h1
  simp only [risingC, Bool.and_eq_true, beq_iff_eq] at hr
  obtain ⟨⟨hl, hr1⟩, hr2⟩ := hr
  have hall : its (prs pos (c₀ ++ (cs.flatten ++ tl))) = its (prs pos c₀) ++ ((cs.map fun l => its (prs pos l)).flatten ++ its (prs pos tl)) := by
    rw [prs_append, prs_append, its_append, its_append, its_flatten]
  unfold dictDisplay
  dsimp only
  rw [hall]
  have hge := lastK_ge c₀ 0 hr1
  have hfc := fresh_entsOf cs (lastK 0 c₀) (toks + 51) hr2
  have hE : ents 3 toks c₀ ≠ [] := by intro h; have := congrArg List.length h; rw [ents_length, hl] at this; cases this
  refine goes_cast (n := (0 + (6 + 19 * tl.length)) + (330 * cs.length + 223)) (goes_bind (a := ((some pre.length, prs pos tl) : Gath)) (q₁ := endC pos pos cs)
    (s₁ := St (pre ++ D (ents 3 toks c₀ ++ entsOf (toks + 51) cs) (17 + 17 * cs.length) :: midOf (toks + 51) cs) life gens drawn (toks + 51 + 51 * cs.length) os) ?_ ?_) (by omega)
  · rw [gath17 ?hgood none _ (prs pos c₀) (by rw [prs_length, hl])]
    case hgood => intro k v main run; rfl
    have hfl := goes_flush0 (p := p) (w := w) (n₀ := n₀) (ann := ann) (b := b) (e := e) (fp := fp) (q := q) (gens := gens) (drawn := drawn) (os := os) (life := life) (l₀ := pre) (pos := pos) (l := c₀) (toks := toks) hl hn (Int.le_refl 0) hr1
    refine goes_bind hfl ?_
    have hc : ∀ f : Body, Good f → _ := fun f hf => goes_chunks (p := p) (w := w) (n₀ := n₀) (ann := ann) (b := b) (e := e) (fp := fp) (gens := gens) (drawn := drawn) (os := os) (life := life) (pos := pos) (pre := pre) (f := f) hf hn hs tl (by omega) cs [] (ents 3 toks c₀) 17 (toks + 51) (lastK 0 c₀) pos hge hr2 hE (fresh_ents 3 c₀ 0 toks hr1) (by rw [ents_length, hl]; omega)
    simp only [List.nil_append] at hc
    refine hc _ ?_
    intro k v main run; rfl
  · have e1 : endC pos pos cs = pos := by cases cs <;> rfl
    rw [e1]
    have hft := goes_flushT (p := p) (w := w) (n₀ := n₀) (ann := ann) (b := b) (e := e) (fp := fp) (q := pos) (gens := gens) (drawn := drawn) (os := os) (life := life) (pre := pre) (mid := midOf (toks + 51) cs) (E := ents 3 toks c₀ ++ entsOf (toks + 51) cs) (ep := 17 + 17 * cs.length) (pos := pos) (l := tl) (toks := toks + 51 + 51 * cs.length) (lo := lastC 0 (c₀ :: cs)) ht0 ht hn hs
      (by show (0 : Int) ≤ lastC (lastK 0 c₀) cs; have := hfc.2; omega) h2 (by simp [hE]) (fresh_app (fresh_mono (fresh_ents 3 c₀ 0 toks hr1) hfc.2) hfc.1) (by rw [List.length_append, ents_length, hl, entsOf_length cs _ _ hr2]; omega)
    exact goes_bind hft goes_pure
end Goes9
end Mine
open PySem PySem.W PyProof.Rows PySem.Calls
namespace Mine
local macro_rules | `(tactic| walk_at "mine0") => `(tactic| fail)
local macro_rules | `(tactic| walk_at "mine1") => `(tactic| fail)
local macro_rules | `(tactic| walk_at "mine2") => `(tactic| fail)
local macro_rules | `(tactic| walk_at "mine3") => `(tactic| fail)
local macro_rules | `(tactic| walk_at "mine4") => `(tactic| fail)
local macro_rules | `(tactic| walk_at "mine5") => `(tactic| fail)
local macro_rules | `(tactic| walk_at "mine6") => `(tactic| fail)
local macro_rules | `(tactic| walk_at "mine7") => `(tactic| fail)
local macro_rules | `(tactic| walk_at "mine8") => `(tactic| fail)
local macro_rules | `(tactic| walk_at "mine9") => `(tactic| fail)
local macro_rules | `(tactic| walk_at "mine10") => `(tactic| fail)
local macro_rules | `(tactic| walk_at "mine11") => `(tactic| fail)
local macro_rules | `(tactic| walk_at "mine12") => `(tactic| fail)
local macro_rules | `(tactic| walk_at "mine13") => `(tactic| fail)
local macro_rules | `(tactic| walk_at "mine14") => `(tactic| fail)
theorem assign_dict (x : Str) (pos' : Pos) (keys : List (Option Expr)) (values : List Expr) (dpos spos : Pos) (e : Env) : exec (.Assign [.Name x pos'] (.Dict keys values dpos) spos) e = (do
    standAt spos
    let v ← (do standAt dpos; dictDisplay ((evalEachOpt keys e).zip ((evalEach values e).map fun v => do let x ← v; standAt dpos; pure x)))
    (do standAt pos'; bindName e x v; pure .next)) := by rw [exec_Assign_Name e x pos' (.Dict keys values dpos) spos rfl, arm_eval_Dict]
noncomputable def tailW (env : Env) (x : Str) (p1 : Pos) (v : Value) : Sem Fin :=
  ((do standAt p1; bindName env x v; pure .next : Sem Flow)).wrap (fun f => match f with | .next => (execs [] env).wrap doneF deadEnd id id | f => doneF f) deadEnd id id
theorem seg_assign {p : Program} {w : World} {n₀ : Nat} {ann : Option Value} {b : List Stmt} {fp q : Pos} {s s' : Shared} {env e' : Env} {st : Stmt} {x : Str} {p1 dp sp : Pos} {ks : List (Option Expr)} {vs : List Expr} {l : List (Int × Str)} {n N : Nat} {v : Value} {r : Flow × Shared × Code × Pos}
    (hst : st = .Assign [.Name x p1] (.Dict ks vs dp) sp)
    (hi : (evalEachOpt ks env).zip ((evalEach vs env).map fun v => do let x ← v; standAt dp; pure x) = its (prs dp l))
    (hd : Goes p w n₀ ann (.body b e') fp n (dictDisplay (its (prs dp l))) s dp v s' dp)
    (ht : segRun treeTable p w n₀ ann 1 N s' ⟨tailW env x p1 v, .body b e', dp, [topFrame fp]⟩ = some r) :
    segRun treeTable p w n₀ ann 1 (N + (n + 1) + 1) s (piecesOf [st] env (.body b e') q [topFrame fp]) = some r := by
  show segRun treeTable p w n₀ ann 1 (N + (n + 1) + 1) s ⟨(execs [st] env).wrap doneF deadEnd id id, _, _, _⟩ = _
  rw [execs_cons_wrap, hst, assign_dict, hi, bind_wrap']
  refine goes_standAt _ _ _ _ _ _ ?_
  rw [bind_wrap']
  exact goes_bind (n := 1) (k := n) goes_standAt hd _ _ _ _ N _ ht
end Mine
namespace Mine
local macro_rules | `(tactic| walk_at "mine0") => `(tactic| fail)
local macro_rules | `(tactic| walk_at "mine1") => `(tactic| fail)
local macro_rules | `(tactic| walk_at "mine2") => `(tactic| fail)
local macro_rules | `(tactic| walk_at "mine3") => `(tactic| fail)
local macro_rules | `(tactic| walk_at "mine4") => `(tactic| fail)
local macro_rules | `(tactic| walk_at "mine5") => `(tactic| fail)
local macro_rules | `(tactic| walk_at "mine6") => `(tactic| fail)
local macro_rules | `(tactic| walk_at "mine7") => `(tactic| fail)
local macro_rules | `(tactic| walk_at "mine8") => `(tactic| fail)
local macro_rules | `(tactic| walk_at "mine9") => `(tactic| fail)
local macro_rules | `(tactic| walk_at "mine10") => `(tactic| fail)
local macro_rules | `(tactic| walk_at "mine11") => `(tactic| fail)
local macro_rules | `(tactic| walk_at "mine12") => `(tactic| fail)
local macro_rules | `(tactic| walk_at "mine13") => `(tactic| fail)
local macro_rules | `(tactic| walk_at "mine14") => `(tactic| fail)
theorem goes_display' {p : Program} {w : World} {n₀ : Nat} {ann : Option Value} {b : List Stmt} {e : Env} {fp q : Pos} {gens : Array GenState} {drawn : Drawn} {os : OsState} {life : Life} {pre : List Obj} {pos : Pos} {c₀ tl all : List (Int × Str)} {cs : List (List (Int × Str))} {toks a m k : Nat}
    (ha : pre.length = a) (hm : cs.length = m) (hk : tl.length = k) (hall : all = c₀ ++ (cs.flatten ++ tl)) (hn : Nat.ble n₀ a = true) (hs : Nat.ble 2 a = true) (h1 : risingC 0 (c₀ :: cs) = true) (h2 : rising (lastC 0 (c₀ :: cs)) tl = true) (ht0 : Nat.ble 1 k = true) (ht : Nat.ble k 15 = true) (hz : Nat.ble (m + 1) 50 = true) :
    Goes p w n₀ ann (.body b e) fp (223 + 330 * m + (6 + 19 * k)) (dictDisplay (its (prs pos all))) (St pre life gens drawn toks os) q (.ref a)
      (St (pre ++ D (ents 3 toks c₀ ++ entsOf (toks + 51) cs ++ ents 2 (toks + 51 + 51 * m) tl) (17 + 17 * m + k) :: (midOf (toks + 51) cs ++ [D (ents 2 (toks + 51 + 51 * m) tl) k])) life gens drawn (toks + 51 + 51 * m + 3 * k) os) pos := by
  subst ha hm hk hall
  exact goes_display (Nat.le_of_ble_eq_true hn) (Nat.le_of_ble_eq_true hs) h1 h2 (by intro h; rw [h] at ht0; cases ht0) (Nat.le_of_ble_eq_true ht) (Nat.le_of_ble_eq_true hz)
end Mine
open PySem PySem.W PyProof.Rows PySem.Calls
namespace Mine
noncomputable section
noncomputable abbrev pw : Program := PySem.Challenge.pw_wa0029_02
noncomputable def stAt (i : Nat) : Stmt := match pw.main.body[i]? with | some s => s | none => .Pass default
noncomputable def bodyAt (i : Nat) : List Stmt := match stAt i with | .FunctionDef _ _ b _ _ _ _ _ _ _ => b | _ => []
noncomputable def argsAt (i : Nat) : Arguments := match stAt i with | .FunctionDef _ a _ _ _ _ _ _ _ _ => a | _ => { posonlyargs := [], args := [], vararg := none, kwonlyargs := [], kw_defaults := [], kwarg := none, defaults := [] }
noncomputable def scopeAt (i : Nat) : Scope := match stAt i with | .FunctionDef _ _ _ _ _ _ sc _ _ _ => sc | _ => { kind := .module, names := [], isGenerator := false, isCoroutine := false, more := [] }
noncomputable def bd : List Stmt := behindTheImports pw
noncomputable def env : Env := { scope := pw.main.scope, locals := mainNs, globals := mainNs, cells := [], code := .ref 13, frame := some 14 }
noncomputable def cE : Code := .body bd env
noncomputable def B : List Frame := [topFrame ⟨0, 0, 0, 0⟩]
noncomputable def dispAt : List (Option Expr) × List Expr × Pos := match stAt 8 with | .Assign _ (.Dict ks vs p) _ => (ks, vs, p) | _ => ([], [], default)
noncomputable def tgtAt : Str × Pos × Pos := match stAt 8 with | .Assign [.Name x p] _ q => (x, p, q) | _ => (.empty, default, default)
noncomputable def tbl : List (Int × Str) := (dispAt.1.zip dispAt.2.1).filterMap fun
  | (some (.Constant (.int i) _ _), .Constant (.str s) _ _) => some (i, s)
  | _ => none
noncomputable def chunk (i : Nat) : List (Int × Str) := (tbl.drop (17 * i)).take 17
noncomputable def chunks : List (List (Int × Str)) := (List.range 37).map fun i => chunk (i + 1)
noncomputable def tblEnd : List (Int × Str) := tbl.drop 646

noncomputable def o11_a (P : Params) : Obj := ⟨(.type "tuple"), none, (.seq [].toArray 0), [].toArray⟩
noncomputable def o12_a (P : Params) : Obj := ⟨.none, none, (.fields [].toArray), [].toArray⟩
noncomputable def o13_a (P : Params) : Obj := ⟨(.type "code"), none, (.fields [(.str (.ofString "<module>") 182), (.str (.ofString "<module>") 183), (.str (.ofString "/claim/cut.py") 184), (.int 1 0), (.int 0 0), (.int 0 0), (.int 0 0), (.int 0 0), (.ref 11), (.bool false), (.int 181 0), (.ref 12), .none, .none, .none, .none, (.int 185 0), (.int 1 0), (.str (.ofString "/claim/cut.py") 186)].toArray), [].toArray⟩
noncomputable def o14_a (P : Params) : Obj := ⟨(.type "frame"), none, .plain, [(some (.ref 13)), (some (.ref 3)), (some (.ref 3)), none, (some (.str (.ofString "__main__") 164)), none, (some (.ref 0))].toArray⟩
noncomputable def la (P : Params) : List Obj := [boot_o_0 P, boot_o_1 P, boot_o_2 P, boot_o_3 P, boot_o_4 P, boot_o_5 P, boot_o_6 P, boot_o_7 P, boot_o_8 P, boot_o_9 P, boot_o_10 P, o11_a P, o12_a P, o13_a P, o14_a P]
noncomputable def hpa (P : Params) : Heap := hpOf (la P) {}
noncomputable def o3_1 (P : Params) : Obj := ⟨(.type "dict"), none, (.dict [⟨PyData.keyHash P (.ofString "__name__"), (.str (.ofString "__name__") 165), (.str (.ofString "cpy313.imaplib") 187)⟩, ⟨PyData.keyHash P (.ofString "__doc__"), (.str (.ofString "__doc__") 166), .none⟩, ⟨PyData.keyHash P (.ofString "__package__"), (.str (.ofString "__package__") 167), .none⟩, ⟨PyData.keyHash P (.ofString "__loader__"), (.str (.ofString "__loader__") 168), (.builtin "__main__.__loader__#opaque")⟩, ⟨PyData.keyHash P (.ofString "__spec__"), (.str (.ofString "__spec__") 169), .none⟩, ⟨PyData.keyHash P (.ofString "__annotations__"), (.str (.ofString "__annotations__") 170), (.ref 6)⟩, ⟨PyData.keyHash P (.ofString "__builtins__"), (.str (.ofString "__builtins__") 171), (.ref 4)⟩, ⟨PyData.keyHash P (.ofString "__file__"), (.str (.ofString "__file__") 173), (.str (.ofString "/claim/cut.py") 172)⟩, ⟨PyData.keyHash P (.ofString "__cached__"), (.str (.ofString "__cached__") 174), .none⟩].toArray 9), [].toArray⟩
noncomputable def l1 (P : Params) : List Obj := [boot_o_0 P, boot_o_1 P, boot_o_2 P, o3_1 P, boot_o_4 P, boot_o_5 P, boot_o_6 P, boot_o_7 P, boot_o_8 P, boot_o_9 P, boot_o_10 P, o11_a P, o12_a P, o13_a P, o14_a P]
noncomputable def hp1 (P : Params) : Heap := hpOf (l1 P) {}
noncomputable def o3_2 (P : Params) : Obj := ⟨(.type "dict"), none, (.dict [⟨PyData.keyHash P (.ofString "__name__"), (.str (.ofString "__name__") 165), (.str (.ofString "cpy313.imaplib") 187)⟩, ⟨PyData.keyHash P (.ofString "__doc__"), (.str (.ofString "__doc__") 166), .none⟩, ⟨PyData.keyHash P (.ofString "__package__"), (.str (.ofString "__package__") 167), .none⟩, ⟨PyData.keyHash P (.ofString "__loader__"), (.str (.ofString "__loader__") 168), (.builtin "__main__.__loader__#opaque")⟩, ⟨PyData.keyHash P (.ofString "__spec__"), (.str (.ofString "__spec__") 169), .none⟩, ⟨PyData.keyHash P (.ofString "__annotations__"), (.str (.ofString "__annotations__") 170), (.ref 6)⟩, ⟨PyData.keyHash P (.ofString "__builtins__"), (.str (.ofString "__builtins__") 171), (.ref 4)⟩, ⟨PyData.keyHash P (.ofString "__file__"), (.str (.ofString "__file__") 173), (.str (.ofString "/claim/cut.py") 172)⟩, ⟨PyData.keyHash P (.ofString "__cached__"), (.str (.ofString "__cached__") 174), .none⟩, ⟨PyData.keyHash P (.ofString "Int2AP"), (.str (.ofString "Int2AP") 198), (.ref 21)⟩].toArray 10), [].toArray⟩
noncomputable def o12_2 (P : Params) : Obj := ⟨.none, none, (.fields [(.int 2 0), (.int 0 0), (.ref 20)].toArray), [].toArray⟩
noncomputable def o15_2 (P : Params) : Obj := ⟨(.type "tuple"), none, (.seq [].toArray 0), [].toArray⟩
noncomputable def o16_2 (P : Params) : Obj := ⟨.none, none, (.fields [].toArray), [].toArray⟩
noncomputable def o17_2 (P : Params) : Obj := ⟨(.type "tuple"), none, (.seq [(.str (.ofString "num") 192), (.str (.ofString "val") 193), (.str (.ofString "AP") 194), (.str (.ofString "mod") 195)].toArray 0), [].toArray⟩
noncomputable def o18_2 (P : Params) : Obj := ⟨(.type "tuple"), none, (.seq [].toArray 0), [].toArray⟩
noncomputable def o19_2 (P : Params) : Obj := ⟨.none, none, (.func { name := (.ofString "Int2AP"), qualname := (.ofString "Int2AP"), params := (argsAt 1), body := .stmts (bodyAt 1), scope := (scopeAt 1), globals := 0, closure := [], defaults := .none, kwdefaults := .none, doc := .none, pyModule := .none, annotations := none, code := .none, closureTuple := .none, builtins := 0 }), [].toArray⟩
noncomputable def o20_2 (P : Params) : Obj := ⟨(.type "code"), none, (.fields [(.str (.ofString "Int2AP") 189), (.str (.ofString "Int2AP") 190), (.str (.ofString "/claim/cut.py") 191), (.int 2 0), (.int 1 0), (.int 0 0), (.int 0 0), (.int 3 0), (.ref 15), (.bool true), (.int 181 0), (.ref 16), .none, (.ref 17), (.ref 18), (.ref 19), (.int 196 0), (.int 2 0), (.str (.ofString "/claim/cut.py") 197)].toArray), [].toArray⟩
noncomputable def o21_2 (P : Params) : Obj := ⟨(.type "function"), none, (.func { name := (.ofString "Int2AP"), qualname := (.ofString "Int2AP"), params := (argsAt 1), body := .stmts (bodyAt 1), scope := (scopeAt 1), globals := 3, closure := [], defaults := .none, kwdefaults := .none, doc := .none, pyModule := (.str (.ofString "cpy313.imaplib") 187), annotations := none, code := (.ref 20), closureTuple := .none, builtins := 0 }), [].toArray⟩
noncomputable def l2 (P : Params) : List Obj := [boot_o_0 P, boot_o_1 P, boot_o_2 P, o3_2 P, boot_o_4 P, boot_o_5 P, boot_o_6 P, boot_o_7 P, boot_o_8 P, boot_o_9 P, boot_o_10 P, o11_a P, o12_2 P, o13_a P, o14_a P, o15_2 P, o16_2 P, o17_2 P, o18_2 P, o19_2 P, o20_2 P, o21_2 P]
noncomputable def hp2 (P : Params) : Heap := hpOf (l2 P) {}
noncomputable def o3_3 (P : Params) : Obj := ⟨(.type "dict"), none, (.dict [⟨PyData.keyHash P (.ofString "__name__"), (.str (.ofString "__name__") 165), (.str (.ofString "cpy313.email.utils") 199)⟩, ⟨PyData.keyHash P (.ofString "__doc__"), (.str (.ofString "__doc__") 166), .none⟩, ⟨PyData.keyHash P (.ofString "__package__"), (.str (.ofString "__package__") 167), .none⟩, ⟨PyData.keyHash P (.ofString "__loader__"), (.str (.ofString "__loader__") 168), (.builtin "__main__.__loader__#opaque")⟩, ⟨PyData.keyHash P (.ofString "__spec__"), (.str (.ofString "__spec__") 169), .none⟩, ⟨PyData.keyHash P (.ofString "__annotations__"), (.str (.ofString "__annotations__") 170), (.ref 6)⟩, ⟨PyData.keyHash P (.ofString "__builtins__"), (.str (.ofString "__builtins__") 171), (.ref 4)⟩, ⟨PyData.keyHash P (.ofString "__file__"), (.str (.ofString "__file__") 173), (.str (.ofString "/claim/cut.py") 172)⟩, ⟨PyData.keyHash P (.ofString "__cached__"), (.str (.ofString "__cached__") 174), .none⟩, ⟨PyData.keyHash P (.ofString "Int2AP"), (.str (.ofString "Int2AP") 198), (.ref 21)⟩].toArray 10), [].toArray⟩
noncomputable def l3 (P : Params) : List Obj := [boot_o_0 P, boot_o_1 P, boot_o_2 P, o3_3 P, boot_o_4 P, boot_o_5 P, boot_o_6 P, boot_o_7 P, boot_o_8 P, boot_o_9 P, boot_o_10 P, o11_a P, o12_2 P, o13_a P, o14_a P, o15_2 P, o16_2 P, o17_2 P, o18_2 P, o19_2 P, o20_2 P, o21_2 P]
noncomputable def hp3 (P : Params) : Heap := hpOf (l3 P) {}
noncomputable def o3_4 (P : Params) : Obj := ⟨(.type "dict"), none, (.dict [⟨PyData.keyHash P (.ofString "__name__"), (.str (.ofString "__name__") 165), (.str (.ofString "cpy313.email.utils") 199)⟩, ⟨PyData.keyHash P (.ofString "__doc__"), (.str (.ofString "__doc__") 166), .none⟩, ⟨PyData.keyHash P (.ofString "__package__"), (.str (.ofString "__package__") 167), .none⟩, ⟨PyData.keyHash P (.ofString "__loader__"), (.str (.ofString "__loader__") 168), (.builtin "__main__.__loader__#opaque")⟩, ⟨PyData.keyHash P (.ofString "__spec__"), (.str (.ofString "__spec__") 169), .none⟩, ⟨PyData.keyHash P (.ofString "__annotations__"), (.str (.ofString "__annotations__") 170), (.ref 6)⟩, ⟨PyData.keyHash P (.ofString "__builtins__"), (.str (.ofString "__builtins__") 171), (.ref 4)⟩, ⟨PyData.keyHash P (.ofString "__file__"), (.str (.ofString "__file__") 173), (.str (.ofString "/claim/cut.py") 172)⟩, ⟨PyData.keyHash P (.ofString "__cached__"), (.str (.ofString "__cached__") 174), .none⟩, ⟨PyData.keyHash P (.ofString "Int2AP"), (.str (.ofString "Int2AP") 198), (.ref 21)⟩, ⟨PyData.keyHash P (.ofString "TICK"), (.str (.ofString "TICK") 202), (.str (.ofString "'") 201)⟩].toArray 11), [].toArray⟩
noncomputable def l4 (P : Params) : List Obj := [boot_o_0 P, boot_o_1 P, boot_o_2 P, o3_4 P, boot_o_4 P, boot_o_5 P, boot_o_6 P, boot_o_7 P, boot_o_8 P, boot_o_9 P, boot_o_10 P, o11_a P, o12_2 P, o13_a P, o14_a P, o15_2 P, o16_2 P, o17_2 P, o18_2 P, o19_2 P, o20_2 P, o21_2 P]
noncomputable def hp4 (P : Params) : Heap := hpOf (l4 P) {}
noncomputable def o3_5 (P : Params) : Obj := ⟨(.type "dict"), none, (.dict [⟨PyData.keyHash P (.ofString "__name__"), (.str (.ofString "__name__") 165), (.str (.ofString "cpy313.email.utils") 199)⟩, ⟨PyData.keyHash P (.ofString "__doc__"), (.str (.ofString "__doc__") 166), .none⟩, ⟨PyData.keyHash P (.ofString "__package__"), (.str (.ofString "__package__") 167), .none⟩, ⟨PyData.keyHash P (.ofString "__loader__"), (.str (.ofString "__loader__") 168), (.builtin "__main__.__loader__#opaque")⟩, ⟨PyData.keyHash P (.ofString "__spec__"), (.str (.ofString "__spec__") 169), .none⟩, ⟨PyData.keyHash P (.ofString "__annotations__"), (.str (.ofString "__annotations__") 170), (.ref 6)⟩, ⟨PyData.keyHash P (.ofString "__builtins__"), (.str (.ofString "__builtins__") 171), (.ref 4)⟩, ⟨PyData.keyHash P (.ofString "__file__"), (.str (.ofString "__file__") 173), (.str (.ofString "/claim/cut.py") 172)⟩, ⟨PyData.keyHash P (.ofString "__cached__"), (.str (.ofString "__cached__") 174), .none⟩, ⟨PyData.keyHash P (.ofString "Int2AP"), (.str (.ofString "Int2AP") 198), (.ref 21)⟩, ⟨PyData.keyHash P (.ofString "TICK"), (.str (.ofString "TICK") 202), (.str (.ofString "'") 201)⟩, ⟨PyData.keyHash P (.ofString "decode_rfc2231"), (.str (.ofString "decode_rfc2231") 210), (.ref 28)⟩].toArray 12), [].toArray⟩
noncomputable def o12_5 (P : Params) : Obj := ⟨.none, none, (.fields [(.int 2 0), (.int 0 0), (.ref 20), (.int 12 0), (.int 0 0), (.ref 27)].toArray), [].toArray⟩
noncomputable def o22_5 (P : Params) : Obj := ⟨(.type "tuple"), none, (.seq [].toArray 0), [].toArray⟩
noncomputable def o23_5 (P : Params) : Obj := ⟨.none, none, (.fields [].toArray), [].toArray⟩
noncomputable def o24_5 (P : Params) : Obj := ⟨(.type "tuple"), none, (.seq [(.str (.ofString "s") 206), (.str (.ofString "parts") 207)].toArray 0), [].toArray⟩
noncomputable def o25_5 (P : Params) : Obj := ⟨(.type "tuple"), none, (.seq [].toArray 0), [].toArray⟩
noncomputable def o26_5 (P : Params) : Obj := ⟨.none, none, (.func { name := (.ofString "decode_rfc2231"), qualname := (.ofString "decode_rfc2231"), params := (argsAt 4), body := .stmts (bodyAt 4), scope := (scopeAt 4), globals := 0, closure := [], defaults := .none, kwdefaults := .none, doc := .none, pyModule := .none, annotations := none, code := .none, closureTuple := .none, builtins := 0 }), [].toArray⟩
noncomputable def o27_5 (P : Params) : Obj := ⟨(.type "code"), none, (.fields [(.str (.ofString "decode_rfc2231") 203), (.str (.ofString "decode_rfc2231") 204), (.str (.ofString "/claim/cut.py") 205), (.int 12 0), (.int 1 0), (.int 0 0), (.int 0 0), (.int 3 0), (.ref 22), (.bool true), (.int 181 0), (.ref 23), .none, (.ref 24), (.ref 25), (.ref 26), (.int 208 0), (.int 12 0), (.str (.ofString "/claim/cut.py") 209)].toArray), [].toArray⟩
noncomputable def o28_5 (P : Params) : Obj := ⟨(.type "function"), none, (.func { name := (.ofString "decode_rfc2231"), qualname := (.ofString "decode_rfc2231"), params := (argsAt 4), body := .stmts (bodyAt 4), scope := (scopeAt 4), globals := 3, closure := [], defaults := .none, kwdefaults := .none, doc := .none, pyModule := (.str (.ofString "cpy313.email.utils") 199), annotations := none, code := (.ref 27), closureTuple := .none, builtins := 0 }), [].toArray⟩
noncomputable def l5 (P : Params) : List Obj := [boot_o_0 P, boot_o_1 P, boot_o_2 P, o3_5 P, boot_o_4 P, boot_o_5 P, boot_o_6 P, boot_o_7 P, boot_o_8 P, boot_o_9 P, boot_o_10 P, o11_a P, o12_5 P, o13_a P, o14_a P, o15_2 P, o16_2 P, o17_2 P, o18_2 P, o19_2 P, o20_2 P, o21_2 P, o22_5 P, o23_5 P, o24_5 P, o25_5 P, o26_5 P, o27_5 P, o28_5 P]
noncomputable def hp5 (P : Params) : Heap := hpOf (l5 P) {}
noncomputable def o3_6 (P : Params) : Obj := ⟨(.type "dict"), none, (.dict [⟨PyData.keyHash P (.ofString "__name__"), (.str (.ofString "__name__") 165), (.str (.ofString "cpy313.stringprep") 211)⟩, ⟨PyData.keyHash P (.ofString "__doc__"), (.str (.ofString "__doc__") 166), .none⟩, ⟨PyData.keyHash P (.ofString "__package__"), (.str (.ofString "__package__") 167), .none⟩, ⟨PyData.keyHash P (.ofString "__loader__"), (.str (.ofString "__loader__") 168), (.builtin "__main__.__loader__#opaque")⟩, ⟨PyData.keyHash P (.ofString "__spec__"), (.str (.ofString "__spec__") 169), .none⟩, ⟨PyData.keyHash P (.ofString "__annotations__"), (.str (.ofString "__annotations__") 170), (.ref 6)⟩, ⟨PyData.keyHash P (.ofString "__builtins__"), (.str (.ofString "__builtins__") 171), (.ref 4)⟩, ⟨PyData.keyHash P (.ofString "__file__"), (.str (.ofString "__file__") 173), (.str (.ofString "/claim/cut.py") 172)⟩, ⟨PyData.keyHash P (.ofString "__cached__"), (.str (.ofString "__cached__") 174), .none⟩, ⟨PyData.keyHash P (.ofString "Int2AP"), (.str (.ofString "Int2AP") 198), (.ref 21)⟩, ⟨PyData.keyHash P (.ofString "TICK"), (.str (.ofString "TICK") 202), (.str (.ofString "'") 201)⟩, ⟨PyData.keyHash P (.ofString "decode_rfc2231"), (.str (.ofString "decode_rfc2231") 210), (.ref 28)⟩].toArray 12), [].toArray⟩
noncomputable def l6 (P : Params) : List Obj := [boot_o_0 P, boot_o_1 P, boot_o_2 P, o3_6 P, boot_o_4 P, boot_o_5 P, boot_o_6 P, boot_o_7 P, boot_o_8 P, boot_o_9 P, boot_o_10 P, o11_a P, o12_5 P, o13_a P, o14_a P, o15_2 P, o16_2 P, o17_2 P, o18_2 P, o19_2 P, o20_2 P, o21_2 P, o22_5 P, o23_5 P, o24_5 P, o25_5 P, o26_5 P, o27_5 P, o28_5 P]
noncomputable def hp6 (P : Params) : Heap := hpOf (l6 P) {}
noncomputable def o3_7 (P : Params) : Obj := ⟨(.type "dict"), none, (.dict [⟨PyData.keyHash P (.ofString "__name__"), (.str (.ofString "__name__") 165), (.str (.ofString "cpy313.stringprep") 211)⟩, ⟨PyData.keyHash P (.ofString "__doc__"), (.str (.ofString "__doc__") 166), .none⟩, ⟨PyData.keyHash P (.ofString "__package__"), (.str (.ofString "__package__") 167), .none⟩, ⟨PyData.keyHash P (.ofString "__loader__"), (.str (.ofString "__loader__") 168), (.builtin "__main__.__loader__#opaque")⟩, ⟨PyData.keyHash P (.ofString "__spec__"), (.str (.ofString "__spec__") 169), .none⟩, ⟨PyData.keyHash P (.ofString "__annotations__"), (.str (.ofString "__annotations__") 170), (.ref 6)⟩, ⟨PyData.keyHash P (.ofString "__builtins__"), (.str (.ofString "__builtins__") 171), (.ref 4)⟩, ⟨PyData.keyHash P (.ofString "__file__"), (.str (.ofString "__file__") 173), (.str (.ofString "/claim/cut.py") 172)⟩, ⟨PyData.keyHash P (.ofString "__cached__"), (.str (.ofString "__cached__") 174), .none⟩, ⟨PyData.keyHash P (.ofString "Int2AP"), (.str (.ofString "Int2AP") 198), (.ref 21)⟩, ⟨PyData.keyHash P (.ofString "TICK"), (.str (.ofString "TICK") 202), (.str (.ofString "'") 201)⟩, ⟨PyData.keyHash P (.ofString "decode_rfc2231"), (.str (.ofString "decode_rfc2231") 210), (.ref 28)⟩, ⟨PyData.keyHash P (.ofString "b1_set"), (.str (.ofString "b1_set") 272), (.ref 36)⟩].toArray 13), [].toArray⟩
noncomputable def o29_7 (P : Params) : Obj := ⟨(.type "list"), none, (.seq [(.int 173 213), (.int 847 214), (.int 6150 215), (.int 6155 216), (.int 6156 217), (.int 6157 218), (.int 8203 219), (.int 8204 220), (.int 8205 221), (.int 8288 222), (.int 65279 223)].toArray 0), [].toArray⟩
noncomputable def o30_7 (P : Params) : Obj := ⟨(.type "range"), none, (.fields [(.int 65024 224), (.int 65040 225), (.int 1 226)].toArray), [].toArray⟩
noncomputable def o31_7 (P : Params) : Obj := ⟨(.type "list"), none, (.seq [(.int 65024 229), (.int 65025 230), (.int 65026 231), (.int 65027 232), (.int 65028 233), (.int 65029 234), (.int 65030 235), (.int 65031 236), (.int 65032 237), (.int 65033 238), (.int 65034 239), (.int 65035 240), (.int 65036 241), (.int 65037 242), (.int 65038 243), (.int 65039 244)].toArray 18), [].toArray⟩
noncomputable def o32_7 (P : Params) : Obj := ⟨(.type "range_iterator"), none, (.fields [(.int 65040 0), (.int 0 0), (.int 1 0)].toArray), [].toArray⟩
noncomputable def o33_7 (P : Params) : Obj := ⟨(.type "tuple"), none, (.seq [].toArray 0), [].toArray⟩
noncomputable def o34_7 (P : Params) : Obj := ⟨(.type "StopIteration"), none, (.fields [(.ref 33), .none, .none, .none, (.bool false), .none].toArray), [].toArray⟩
noncomputable def o35_7 (P : Params) : Obj := ⟨(.type "list"), none, (.seq [(.int 173 213), (.int 847 214), (.int 6150 215), (.int 6155 216), (.int 6156 217), (.int 6157 218), (.int 8203 219), (.int 8204 220), (.int 8205 221), (.int 8288 222), (.int 65279 223), (.int 65024 229), (.int 65025 230), (.int 65026 231), (.int 65027 232), (.int 65028 233), (.int 65029 234), (.int 65030 235), (.int 65031 236), (.int 65032 237), (.int 65033 238), (.int 65034 239), (.int 65035 240), (.int 65036 241), (.int 65037 242), (.int 65038 243), (.int 65039 244)].toArray 0), [].toArray⟩
noncomputable def o36_7 (P : Params) : Obj := ⟨(.type "set"), none, (.set [(65024, (.int 65024 229)), (65025, (.int 65025 230)), (65026, (.int 65026 231)), (65027, (.int 65027 232)), (65028, (.int 65028 233)), (65029, (.int 65029 234)), (6150, (.int 6150 215)), (65030, (.int 65030 235)), (65031, (.int 65031 236)), (65032, (.int 65032 237)), (65033, (.int 65033 238)), (6155, (.int 6155 216)), (6156, (.int 6156 217)), (6157, (.int 6157 218)), (8203, (.int 8203 219)), (8204, (.int 8204 220)), (8205, (.int 8205 221)), (65034, (.int 65034 239)), (65035, (.int 65035 240)), (65036, (.int 65036 241)), (65037, (.int 65037 242)), (65038, (.int 65038 243)), (65039, (.int 65039 244)), (173, (.int 173 213)), (847, (.int 847 214)), (8288, (.int 8288 222)), (65279, (.int 65279 223))].toArray 29 ⟨127, [0, 1, 2, 3, 4, 5, 6, 7, 8, 9, 10, 11, 12, 13, 14, 15, 16, 17, 18, 19, 20, 21, 22, 45, 79, 96, 127].toArray, [].toArray, 0, !P.followText "set-order", 2, true⟩), [].toArray⟩
noncomputable def o37_7 (P : Params) : Obj := ⟨(.type "list_iterator"), none, (.fields [.none, (.int 27 0)].toArray), [].toArray⟩
noncomputable def o38_7 (P : Params) : Obj := ⟨(.type "tuple"), none, (.seq [].toArray 0), [].toArray⟩
noncomputable def o39_7 (P : Params) : Obj := ⟨(.type "StopIteration"), none, (.fields [(.ref 38), .none, .none, .none, (.bool false), .none].toArray), [].toArray⟩
noncomputable def l7 (P : Params) : List Obj := [boot_o_0 P, boot_o_1 P, boot_o_2 P, o3_7 P, boot_o_4 P, boot_o_5 P, boot_o_6 P, boot_o_7 P, boot_o_8 P, boot_o_9 P, boot_o_10 P, o11_a P, o12_5 P, o13_a P, o14_a P, o15_2 P, o16_2 P, o17_2 P, o18_2 P, o19_2 P, o20_2 P, o21_2 P, o22_5 P, o23_5 P, o24_5 P, o25_5 P, o26_5 P, o27_5 P, o28_5 P, o29_7 P, o30_7 P, o31_7 P, o32_7 P, o33_7 P, o34_7 P, o35_7 P, o36_7 P, o37_7 P, o38_7 P, o39_7 P]
noncomputable def hp7 (P : Params) : Heap := hpOf (l7 P) {}
noncomputable def o3_8 (P : Params) : Obj := ⟨(.type "dict"), none, (.dict [⟨PyData.keyHash P (.ofString "__name__"), (.str (.ofString "__name__") 165), (.str (.ofString "cpy313.stringprep") 211)⟩, ⟨PyData.keyHash P (.ofString "__doc__"), (.str (.ofString "__doc__") 166), .none⟩, ⟨PyData.keyHash P (.ofString "__package__"), (.str (.ofString "__package__") 167), .none⟩, ⟨PyData.keyHash P (.ofString "__loader__"), (.str (.ofString "__loader__") 168), (.builtin "__main__.__loader__#opaque")⟩, ⟨PyData.keyHash P (.ofString "__spec__"), (.str (.ofString "__spec__") 169), .none⟩, ⟨PyData.keyHash P (.ofString "__annotations__"), (.str (.ofString "__annotations__") 170), (.ref 6)⟩, ⟨PyData.keyHash P (.ofString "__builtins__"), (.str (.ofString "__builtins__") 171), (.ref 4)⟩, ⟨PyData.keyHash P (.ofString "__file__"), (.str (.ofString "__file__") 173), (.str (.ofString "/claim/cut.py") 172)⟩, ⟨PyData.keyHash P (.ofString "__cached__"), (.str (.ofString "__cached__") 174), .none⟩, ⟨PyData.keyHash P (.ofString "Int2AP"), (.str (.ofString "Int2AP") 198), (.ref 21)⟩, ⟨PyData.keyHash P (.ofString "TICK"), (.str (.ofString "TICK") 202), (.str (.ofString "'") 201)⟩, ⟨PyData.keyHash P (.ofString "decode_rfc2231"), (.str (.ofString "decode_rfc2231") 210), (.ref 28)⟩, ⟨PyData.keyHash P (.ofString "b1_set"), (.str (.ofString "b1_set") 272), (.ref 36)⟩, ⟨PyData.keyHash P (.ofString "in_table_b1"), (.str (.ofString "in_table_b1") 279), (.ref 46)⟩].toArray 14), [].toArray⟩
noncomputable def o12_8 (P : Params) : Obj := ⟨.none, none, (.fields [(.int 2 0), (.int 0 0), (.ref 20), (.int 12 0), (.int 0 0), (.ref 27), (.int 19 0), (.int 0 0), (.ref 45)].toArray), [].toArray⟩
noncomputable def o40_8 (P : Params) : Obj := ⟨(.type "tuple"), none, (.seq [].toArray 0), [].toArray⟩
noncomputable def o41_8 (P : Params) : Obj := ⟨.none, none, (.fields [].toArray), [].toArray⟩
noncomputable def o42_8 (P : Params) : Obj := ⟨(.type "tuple"), none, (.seq [(.str (.ofString "code") 276)].toArray 0), [].toArray⟩
noncomputable def o43_8 (P : Params) : Obj := ⟨(.type "tuple"), none, (.seq [].toArray 0), [].toArray⟩
noncomputable def o44_8 (P : Params) : Obj := ⟨.none, none, (.func { name := (.ofString "in_table_b1"), qualname := (.ofString "in_table_b1"), params := (argsAt 7), body := .stmts (bodyAt 7), scope := (scopeAt 7), globals := 0, closure := [], defaults := .none, kwdefaults := .none, doc := .none, pyModule := .none, annotations := none, code := .none, closureTuple := .none, builtins := 0 }), [].toArray⟩
noncomputable def o45_8 (P : Params) : Obj := ⟨(.type "code"), none, (.fields [(.str (.ofString "in_table_b1") 273), (.str (.ofString "in_table_b1") 274), (.str (.ofString "/claim/cut.py") 275), (.int 19 0), (.int 1 0), (.int 0 0), (.int 0 0), (.int 3 0), (.ref 40), (.bool true), (.int 181 0), (.ref 41), .none, (.ref 42), (.ref 43), (.ref 44), (.int 277 0), (.int 19 0), (.str (.ofString "/claim/cut.py") 278)].toArray), [].toArray⟩
noncomputable def o46_8 (P : Params) : Obj := ⟨(.type "function"), none, (.func { name := (.ofString "in_table_b1"), qualname := (.ofString "in_table_b1"), params := (argsAt 7), body := .stmts (bodyAt 7), scope := (scopeAt 7), globals := 3, closure := [], defaults := .none, kwdefaults := .none, doc := .none, pyModule := (.str (.ofString "cpy313.stringprep") 211), annotations := none, code := (.ref 45), closureTuple := .none, builtins := 0 }), [].toArray⟩
noncomputable def l8 (P : Params) : List Obj := [boot_o_0 P, boot_o_1 P, boot_o_2 P, o3_8 P, boot_o_4 P, boot_o_5 P, boot_o_6 P, boot_o_7 P, boot_o_8 P, boot_o_9 P, boot_o_10 P, o11_a P, o12_8 P, o13_a P, o14_a P, o15_2 P, o16_2 P, o17_2 P, o18_2 P, o19_2 P, o20_2 P, o21_2 P, o22_5 P, o23_5 P, o24_5 P, o25_5 P, o26_5 P, o27_5 P, o28_5 P, o29_7 P, o30_7 P, o31_7 P, o32_7 P, o33_7 P, o34_7 P, o35_7 P, o36_7 P, o37_7 P, o38_7 P, o39_7 P, o40_8 P, o41_8 P, o42_8 P, o43_8 P, o44_8 P, o45_8 P, o46_8 P]
noncomputable def hp8 (P : Params) : Heap := hpOf (l8 P) {}
noncomputable def o3_9 (P : Params) : Obj := ⟨(.type "dict"), none, (.dict [⟨PyData.keyHash P (.ofString "__name__"), (.str (.ofString "__name__") 165), (.str (.ofString "cpy313.stringprep") 211)⟩, ⟨PyData.keyHash P (.ofString "__doc__"), (.str (.ofString "__doc__") 166), .none⟩, ⟨PyData.keyHash P (.ofString "__package__"), (.str (.ofString "__package__") 167), .none⟩, ⟨PyData.keyHash P (.ofString "__loader__"), (.str (.ofString "__loader__") 168), (.builtin "__main__.__loader__#opaque")⟩, ⟨PyData.keyHash P (.ofString "__spec__"), (.str (.ofString "__spec__") 169), .none⟩, ⟨PyData.keyHash P (.ofString "__annotations__"), (.str (.ofString "__annotations__") 170), (.ref 6)⟩, ⟨PyData.keyHash P (.ofString "__builtins__"), (.str (.ofString "__builtins__") 171), (.ref 4)⟩, ⟨PyData.keyHash P (.ofString "__file__"), (.str (.ofString "__file__") 173), (.str (.ofString "/claim/cut.py") 172)⟩, ⟨PyData.keyHash P (.ofString "__cached__"), (.str (.ofString "__cached__") 174), .none⟩, ⟨PyData.keyHash P (.ofString "Int2AP"), (.str (.ofString "Int2AP") 198), (.ref 21)⟩, ⟨PyData.keyHash P (.ofString "TICK"), (.str (.ofString "TICK") 202), (.str (.ofString "'") 201)⟩, ⟨PyData.keyHash P (.ofString "decode_rfc2231"), (.str (.ofString "decode_rfc2231") 210), (.ref 28)⟩, ⟨PyData.keyHash P (.ofString "b1_set"), (.str (.ofString "b1_set") 272), (.ref 36)⟩, ⟨PyData.keyHash P (.ofString "in_table_b1"), (.str (.ofString "in_table_b1") 279), (.ref 46)⟩, ⟨PyData.keyHash P (.ofString "b3_exceptions"), (.str (.ofString "b3_exceptions") 2230), (.ref 47)⟩].toArray 15), [].toArray⟩
noncomputable def o47_9 (P : Params) : Obj := D (ents 3 280 (chunk 0) ++ entsOf 331 chunks ++ ents 2 2218 tblEnd) 650
noncomputable def o48_9 (P : Params) : Obj := D (ents 3 331 (chunk 1)) 17
noncomputable def o49_9 (P : Params) : Obj := D (ents 3 382 (chunk 2)) 17
noncomputable def o50_9 (P : Params) : Obj := D (ents 3 433 (chunk 3)) 17
noncomputable def o51_9 (P : Params) : Obj := D (ents 3 484 (chunk 4)) 17
noncomputable def o52_9 (P : Params) : Obj := D (ents 3 535 (chunk 5)) 17
noncomputable def o53_9 (P : Params) : Obj := D (ents 3 586 (chunk 6)) 17
noncomputable def o54_9 (P : Params) : Obj := D (ents 3 637 (chunk 7)) 17
noncomputable def o55_9 (P : Params) : Obj := D (ents 3 688 (chunk 8)) 17
noncomputable def o56_9 (P : Params) : Obj := D (ents 3 739 (chunk 9)) 17
noncomputable def o57_9 (P : Params) : Obj := D (ents 3 790 (chunk 10)) 17
noncomputable def o58_9 (P : Params) : Obj := D (ents 3 841 (chunk 11)) 17
noncomputable def o59_9 (P : Params) : Obj := D (ents 3 892 (chunk 12)) 17
noncomputable def o60_9 (P : Params) : Obj := D (ents 3 943 (chunk 13)) 17
noncomputable def o61_9 (P : Params) : Obj := D (ents 3 994 (chunk 14)) 17
noncomputable def o62_9 (P : Params) : Obj := D (ents 3 1045 (chunk 15)) 17
noncomputable def o63_9 (P : Params) : Obj := D (ents 3 1096 (chunk 16)) 17
noncomputable def o64_9 (P : Params) : Obj := D (ents 3 1147 (chunk 17)) 17
noncomputable def o65_9 (P : Params) : Obj := D (ents 3 1198 (chunk 18)) 17
noncomputable def o66_9 (P : Params) : Obj := D (ents 3 1249 (chunk 19)) 17
noncomputable def o67_9 (P : Params) : Obj := D (ents 3 1300 (chunk 20)) 17
noncomputable def o68_9 (P : Params) : Obj := D (ents 3 1351 (chunk 21)) 17
noncomputable def o69_9 (P : Params) : Obj := D (ents 3 1402 (chunk 22)) 17
noncomputable def o70_9 (P : Params) : Obj := D (ents 3 1453 (chunk 23)) 17
noncomputable def o71_9 (P : Params) : Obj := D (ents 3 1504 (chunk 24)) 17
noncomputable def o72_9 (P : Params) : Obj := D (ents 3 1555 (chunk 25)) 17
noncomputable def o73_9 (P : Params) : Obj := D (ents 3 1606 (chunk 26)) 17
noncomputable def o74_9 (P : Params) : Obj := D (ents 3 1657 (chunk 27)) 17
noncomputable def o75_9 (P : Params) : Obj := D (ents 3 1708 (chunk 28)) 17
noncomputable def o76_9 (P : Params) : Obj := D (ents 3 1759 (chunk 29)) 17
noncomputable def o77_9 (P : Params) : Obj := D (ents 3 1810 (chunk 30)) 17
noncomputable def o78_9 (P : Params) : Obj := D (ents 3 1861 (chunk 31)) 17
noncomputable def o79_9 (P : Params) : Obj := D (ents 3 1912 (chunk 32)) 17
noncomputable def o80_9 (P : Params) : Obj := D (ents 3 1963 (chunk 33)) 17
noncomputable def o81_9 (P : Params) : Obj := D (ents 3 2014 (chunk 34)) 17
noncomputable def o82_9 (P : Params) : Obj := D (ents 3 2065 (chunk 35)) 17
noncomputable def o83_9 (P : Params) : Obj := D (ents 3 2116 (chunk 36)) 17
noncomputable def o84_9 (P : Params) : Obj := D (ents 3 2167 (chunk 37)) 17
noncomputable def o85_9 (P : Params) : Obj := D (ents 2 2218 tblEnd) 4
noncomputable def l9 (P : Params) : List Obj := [boot_o_0 P, boot_o_1 P, boot_o_2 P, o3_9 P, boot_o_4 P, boot_o_5 P, boot_o_6 P, boot_o_7 P, boot_o_8 P, boot_o_9 P, boot_o_10 P, o11_a P, o12_8 P, o13_a P, o14_a P, o15_2 P, o16_2 P, o17_2 P, o18_2 P, o19_2 P, o20_2 P, o21_2 P, o22_5 P, o23_5 P, o24_5 P, o25_5 P, o26_5 P, o27_5 P, o28_5 P, o29_7 P, o30_7 P, o31_7 P, o32_7 P, o33_7 P, o34_7 P, o35_7 P, o36_7 P, o37_7 P, o38_7 P, o39_7 P, o40_8 P, o41_8 P, o42_8 P, o43_8 P, o44_8 P, o45_8 P, o46_8 P, o47_9 P, o48_9 P, o49_9 P, o50_9 P, o51_9 P, o52_9 P, o53_9 P, o54_9 P, o55_9 P, o56_9 P, o57_9 P, o58_9 P, o59_9 P, o60_9 P, o61_9 P, o62_9 P, o63_9 P, o64_9 P, o65_9 P, o66_9 P, o67_9 P, o68_9 P, o69_9 P, o70_9 P, o71_9 P, o72_9 P, o73_9 P, o74_9 P, o75_9 P, o76_9 P, o77_9 P, o78_9 P, o79_9 P, o80_9 P, o81_9 P, o82_9 P, o83_9 P, o84_9 P, o85_9 P]
noncomputable def hp9 (P : Params) : Heap := hpOf (l9 P) {}
noncomputable def o3_10 (P : Params) : Obj := ⟨(.type "dict"), none, (.dict [⟨PyData.keyHash P (.ofString "__name__"), (.str (.ofString "__name__") 165), (.str (.ofString "cpy313.stringprep") 211)⟩, ⟨PyData.keyHash P (.ofString "__doc__"), (.str (.ofString "__doc__") 166), .none⟩, ⟨PyData.keyHash P (.ofString "__package__"), (.str (.ofString "__package__") 167), .none⟩, ⟨PyData.keyHash P (.ofString "__loader__"), (.str (.ofString "__loader__") 168), (.builtin "__main__.__loader__#opaque")⟩, ⟨PyData.keyHash P (.ofString "__spec__"), (.str (.ofString "__spec__") 169), .none⟩, ⟨PyData.keyHash P (.ofString "__annotations__"), (.str (.ofString "__annotations__") 170), (.ref 6)⟩, ⟨PyData.keyHash P (.ofString "__builtins__"), (.str (.ofString "__builtins__") 171), (.ref 4)⟩, ⟨PyData.keyHash P (.ofString "__file__"), (.str (.ofString "__file__") 173), (.str (.ofString "/claim/cut.py") 172)⟩, ⟨PyData.keyHash P (.ofString "__cached__"), (.str (.ofString "__cached__") 174), .none⟩, ⟨PyData.keyHash P (.ofString "Int2AP"), (.str (.ofString "Int2AP") 198), (.ref 21)⟩, ⟨PyData.keyHash P (.ofString "TICK"), (.str (.ofString "TICK") 202), (.str (.ofString "'") 201)⟩, ⟨PyData.keyHash P (.ofString "decode_rfc2231"), (.str (.ofString "decode_rfc2231") 210), (.ref 28)⟩, ⟨PyData.keyHash P (.ofString "b1_set"), (.str (.ofString "b1_set") 272), (.ref 36)⟩, ⟨PyData.keyHash P (.ofString "in_table_b1"), (.str (.ofString "in_table_b1") 279), (.ref 46)⟩, ⟨PyData.keyHash P (.ofString "b3_exceptions"), (.str (.ofString "b3_exceptions") 2230), (.ref 47)⟩, ⟨PyData.keyHash P (.ofString "map_table_b3"), (.str (.ofString "map_table_b3") 2238), (.ref 92)⟩].toArray 16), [].toArray⟩
noncomputable def o12_10 (P : Params) : Obj := ⟨.none, none, (.fields [(.int 2 0), (.int 0 0), (.ref 20), (.int 12 0), (.int 0 0), (.ref 27), (.int 19 0), (.int 0 0), (.ref 45), (.int 22 0), (.int 0 0), (.ref 91)].toArray), [].toArray⟩
noncomputable def o86_10 (P : Params) : Obj := ⟨(.type "tuple"), none, (.seq [].toArray 0), [].toArray⟩
noncomputable def o87_10 (P : Params) : Obj := ⟨.none, none, (.fields [].toArray), [].toArray⟩
noncomputable def o88_10 (P : Params) : Obj := ⟨(.type "tuple"), none, (.seq [(.str (.ofString "code") 2234), (.str (.ofString "r") 2235)].toArray 0), [].toArray⟩
noncomputable def o89_10 (P : Params) : Obj := ⟨(.type "tuple"), none, (.seq [].toArray 0), [].toArray⟩
noncomputable def o90_10 (P : Params) : Obj := ⟨.none, none, (.func { name := (.ofString "map_table_b3"), qualname := (.ofString "map_table_b3"), params := (argsAt 9), body := .stmts (bodyAt 9), scope := (scopeAt 9), globals := 0, closure := [], defaults := .none, kwdefaults := .none, doc := .none, pyModule := .none, annotations := none, code := .none, closureTuple := .none, builtins := 0 }), [].toArray⟩
noncomputable def o91_10 (P : Params) : Obj := ⟨(.type "code"), none, (.fields [(.str (.ofString "map_table_b3") 2231), (.str (.ofString "map_table_b3") 2232), (.str (.ofString "/claim/cut.py") 2233), (.int 22 0), (.int 1 0), (.int 0 0), (.int 0 0), (.int 3 0), (.ref 86), (.bool true), (.int 181 0), (.ref 87), .none, (.ref 88), (.ref 89), (.ref 90), (.int 2236 0), (.int 22 0), (.str (.ofString "/claim/cut.py") 2237)].toArray), [].toArray⟩
noncomputable def o92_10 (P : Params) : Obj := ⟨(.type "function"), none, (.func { name := (.ofString "map_table_b3"), qualname := (.ofString "map_table_b3"), params := (argsAt 9), body := .stmts (bodyAt 9), scope := (scopeAt 9), globals := 3, closure := [], defaults := .none, kwdefaults := .none, doc := .none, pyModule := (.str (.ofString "cpy313.stringprep") 211), annotations := none, code := (.ref 91), closureTuple := .none, builtins := 0 }), [].toArray⟩
noncomputable def l10 (P : Params) : List Obj := [boot_o_0 P, boot_o_1 P, boot_o_2 P, o3_10 P, boot_o_4 P, boot_o_5 P, boot_o_6 P, boot_o_7 P, boot_o_8 P, boot_o_9 P, boot_o_10 P, o11_a P, o12_10 P, o13_a P, o14_a P, o15_2 P, o16_2 P, o17_2 P, o18_2 P, o19_2 P, o20_2 P, o21_2 P, o22_5 P, o23_5 P, o24_5 P, o25_5 P, o26_5 P, o27_5 P, o28_5 P, o29_7 P, o30_7 P, o31_7 P, o32_7 P, o33_7 P, o34_7 P, o35_7 P, o36_7 P, o37_7 P, o38_7 P, o39_7 P, o40_8 P, o41_8 P, o42_8 P, o43_8 P, o44_8 P, o45_8 P, o46_8 P, o47_9 P, o48_9 P, o49_9 P, o50_9 P, o51_9 P, o52_9 P, o53_9 P, o54_9 P, o55_9 P, o56_9 P, o57_9 P, o58_9 P, o59_9 P, o60_9 P, o61_9 P, o62_9 P, o63_9 P, o64_9 P, o65_9 P, o66_9 P, o67_9 P, o68_9 P, o69_9 P, o70_9 P, o71_9 P, o72_9 P, o73_9 P, o74_9 P, o75_9 P, o76_9 P, o77_9 P, o78_9 P, o79_9 P, o80_9 P, o81_9 P, o82_9 P, o83_9 P, o84_9 P, o85_9 P, o86_10 P, o87_10 P, o88_10 P, o89_10 P, o90_10 P, o91_10 P, o92_10 P]
noncomputable def hp10 (P : Params) : Heap := hpOf (l10 P) {}
noncomputable def o3_11 (P : Params) : Obj := ⟨(.type "dict"), none, (.dict [⟨PyData.keyHash P (.ofString "__name__"), (.str (.ofString "__name__") 165), (.str (.ofString "law_wa0029_02") 2239)⟩, ⟨PyData.keyHash P (.ofString "__doc__"), (.str (.ofString "__doc__") 166), .none⟩, ⟨PyData.keyHash P (.ofString "__package__"), (.str (.ofString "__package__") 167), .none⟩, ⟨PyData.keyHash P (.ofString "__loader__"), (.str (.ofString "__loader__") 168), (.builtin "__main__.__loader__#opaque")⟩, ⟨PyData.keyHash P (.ofString "__spec__"), (.str (.ofString "__spec__") 169), .none⟩, ⟨PyData.keyHash P (.ofString "__annotations__"), (.str (.ofString "__annotations__") 170), (.ref 6)⟩, ⟨PyData.keyHash P (.ofString "__builtins__"), (.str (.ofString "__builtins__") 171), (.ref 4)⟩, ⟨PyData.keyHash P (.ofString "__file__"), (.str (.ofString "__file__") 173), (.str (.ofString "/claim/cut.py") 172)⟩, ⟨PyData.keyHash P (.ofString "__cached__"), (.str (.ofString "__cached__") 174), .none⟩, ⟨PyData.keyHash P (.ofString "Int2AP"), (.str (.ofString "Int2AP") 198), (.ref 21)⟩, ⟨PyData.keyHash P (.ofString "TICK"), (.str (.ofString "TICK") 202), (.str (.ofString "'") 201)⟩, ⟨PyData.keyHash P (.ofString "decode_rfc2231"), (.str (.ofString "decode_rfc2231") 210), (.ref 28)⟩, ⟨PyData.keyHash P (.ofString "b1_set"), (.str (.ofString "b1_set") 272), (.ref 36)⟩, ⟨PyData.keyHash P (.ofString "in_table_b1"), (.str (.ofString "in_table_b1") 279), (.ref 46)⟩, ⟨PyData.keyHash P (.ofString "b3_exceptions"), (.str (.ofString "b3_exceptions") 2230), (.ref 47)⟩, ⟨PyData.keyHash P (.ofString "map_table_b3"), (.str (.ofString "map_table_b3") 2238), (.ref 92)⟩].toArray 16), [].toArray⟩
noncomputable def l11 (P : Params) : List Obj := [boot_o_0 P, boot_o_1 P, boot_o_2 P, o3_11 P, boot_o_4 P, boot_o_5 P, boot_o_6 P, boot_o_7 P, boot_o_8 P, boot_o_9 P, boot_o_10 P, o11_a P, o12_10 P, o13_a P, o14_a P, o15_2 P, o16_2 P, o17_2 P, o18_2 P, o19_2 P, o20_2 P, o21_2 P, o22_5 P, o23_5 P, o24_5 P, o25_5 P, o26_5 P, o27_5 P, o28_5 P, o29_7 P, o30_7 P, o31_7 P, o32_7 P, o33_7 P, o34_7 P, o35_7 P, o36_7 P, o37_7 P, o38_7 P, o39_7 P, o40_8 P, o41_8 P, o42_8 P, o43_8 P, o44_8 P, o45_8 P, o46_8 P, o47_9 P, o48_9 P, o49_9 P, o50_9 P, o51_9 P, o52_9 P, o53_9 P, o54_9 P, o55_9 P, o56_9 P, o57_9 P, o58_9 P, o59_9 P, o60_9 P, o61_9 P, o62_9 P, o63_9 P, o64_9 P, o65_9 P, o66_9 P, o67_9 P, o68_9 P, o69_9 P, o70_9 P, o71_9 P, o72_9 P, o73_9 P, o74_9 P, o75_9 P, o76_9 P, o77_9 P, o78_9 P, o79_9 P, o80_9 P, o81_9 P, o82_9 P, o83_9 P, o84_9 P, o85_9 P, o86_10 P, o87_10 P, o88_10 P, o89_10 P, o90_10 P, o91_10 P, o92_10 P]
noncomputable def hp11 (P : Params) : Heap := hpOf (l11 P) {}
noncomputable def o3_12 (P : Params) : Obj := ⟨(.type "dict"), none, (.dict [⟨PyData.keyHash P (.ofString "__name__"), (.str (.ofString "__name__") 165), (.str (.ofString "law_wa0029_02") 2239)⟩, ⟨PyData.keyHash P (.ofString "__doc__"), (.str (.ofString "__doc__") 166), .none⟩, ⟨PyData.keyHash P (.ofString "__package__"), (.str (.ofString "__package__") 167), .none⟩, ⟨PyData.keyHash P (.ofString "__loader__"), (.str (.ofString "__loader__") 168), (.builtin "__main__.__loader__#opaque")⟩, ⟨PyData.keyHash P (.ofString "__spec__"), (.str (.ofString "__spec__") 169), .none⟩, ⟨PyData.keyHash P (.ofString "__annotations__"), (.str (.ofString "__annotations__") 170), (.ref 6)⟩, ⟨PyData.keyHash P (.ofString "__builtins__"), (.str (.ofString "__builtins__") 171), (.ref 4)⟩, ⟨PyData.keyHash P (.ofString "__file__"), (.str (.ofString "__file__") 173), (.str (.ofString "/claim/cut.py") 172)⟩, ⟨PyData.keyHash P (.ofString "__cached__"), (.str (.ofString "__cached__") 174), .none⟩, ⟨PyData.keyHash P (.ofString "Int2AP"), (.str (.ofString "Int2AP") 198), (.ref 21)⟩, ⟨PyData.keyHash P (.ofString "TICK"), (.str (.ofString "TICK") 202), (.str (.ofString "'") 201)⟩, ⟨PyData.keyHash P (.ofString "decode_rfc2231"), (.str (.ofString "decode_rfc2231") 210), (.ref 28)⟩, ⟨PyData.keyHash P (.ofString "b1_set"), (.str (.ofString "b1_set") 272), (.ref 36)⟩, ⟨PyData.keyHash P (.ofString "in_table_b1"), (.str (.ofString "in_table_b1") 279), (.ref 46)⟩, ⟨PyData.keyHash P (.ofString "b3_exceptions"), (.str (.ofString "b3_exceptions") 2230), (.ref 47)⟩, ⟨PyData.keyHash P (.ofString "map_table_b3"), (.str (.ofString "map_table_b3") 2238), (.ref 92)⟩, ⟨PyData.keyHash P (.ofString "_law_shared"), (.str (.ofString "_law_shared") 2248), (.ref 99)⟩].toArray 17), [].toArray⟩
noncomputable def o12_12 (P : Params) : Obj := ⟨.none, none, (.fields [(.int 2 0), (.int 0 0), (.ref 20), (.int 12 0), (.int 0 0), (.ref 27), (.int 19 0), (.int 0 0), (.ref 45), (.int 22 0), (.int 0 0), (.ref 91), (.int 28 0), (.int 0 0), (.ref 98)].toArray), [].toArray⟩
noncomputable def o93_12 (P : Params) : Obj := ⟨(.type "tuple"), none, (.seq [].toArray 0), [].toArray⟩
noncomputable def o94_12 (P : Params) : Obj := ⟨.none, none, (.fields [].toArray), [].toArray⟩
noncomputable def o95_12 (P : Params) : Obj := ⟨(.type "tuple"), none, (.seq [(.str (.ofString "a") 2244), (.str (.ofString "b") 2245)].toArray 0), [].toArray⟩
noncomputable def o96_12 (P : Params) : Obj := ⟨(.type "tuple"), none, (.seq [].toArray 0), [].toArray⟩
noncomputable def o97_12 (P : Params) : Obj := ⟨.none, none, (.func { name := (.ofString "_law_shared"), qualname := (.ofString "_law_shared"), params := (argsAt 11), body := .stmts (bodyAt 11), scope := (scopeAt 11), globals := 0, closure := [], defaults := .none, kwdefaults := .none, doc := .none, pyModule := .none, annotations := none, code := .none, closureTuple := .none, builtins := 0 }), [].toArray⟩
noncomputable def o98_12 (P : Params) : Obj := ⟨(.type "code"), none, (.fields [(.str (.ofString "_law_shared") 2241), (.str (.ofString "_law_shared") 2242), (.str (.ofString "/claim/cut.py") 2243), (.int 28 0), (.int 2 0), (.int 0 0), (.int 0 0), (.int 3 0), (.ref 93), (.bool true), (.int 181 0), (.ref 94), .none, (.ref 95), (.ref 96), (.ref 97), (.int 2246 0), (.int 28 0), (.str (.ofString "/claim/cut.py") 2247)].toArray), [].toArray⟩
noncomputable def o99_12 (P : Params) : Obj := ⟨(.type "function"), none, (.func { name := (.ofString "_law_shared"), qualname := (.ofString "_law_shared"), params := (argsAt 11), body := .stmts (bodyAt 11), scope := (scopeAt 11), globals := 3, closure := [], defaults := .none, kwdefaults := .none, doc := .none, pyModule := (.str (.ofString "law_wa0029_02") 2239), annotations := none, code := (.ref 98), closureTuple := .none, builtins := 0 }), [].toArray⟩
noncomputable def l12 (P : Params) : List Obj := [boot_o_0 P, boot_o_1 P, boot_o_2 P, o3_12 P, boot_o_4 P, boot_o_5 P, boot_o_6 P, boot_o_7 P, boot_o_8 P, boot_o_9 P, boot_o_10 P, o11_a P, o12_12 P, o13_a P, o14_a P, o15_2 P, o16_2 P, o17_2 P, o18_2 P, o19_2 P, o20_2 P, o21_2 P, o22_5 P, o23_5 P, o24_5 P, o25_5 P, o26_5 P, o27_5 P, o28_5 P, o29_7 P, o30_7 P, o31_7 P, o32_7 P, o33_7 P, o34_7 P, o35_7 P, o36_7 P, o37_7 P, o38_7 P, o39_7 P, o40_8 P, o41_8 P, o42_8 P, o43_8 P, o44_8 P, o45_8 P, o46_8 P, o47_9 P, o48_9 P, o49_9 P, o50_9 P, o51_9 P, o52_9 P, o53_9 P, o54_9 P, o55_9 P, o56_9 P, o57_9 P, o58_9 P, o59_9 P, o60_9 P, o61_9 P, o62_9 P, o63_9 P, o64_9 P, o65_9 P, o66_9 P, o67_9 P, o68_9 P, o69_9 P, o70_9 P, o71_9 P, o72_9 P, o73_9 P, o74_9 P, o75_9 P, o76_9 P, o77_9 P, o78_9 P, o79_9 P, o80_9 P, o81_9 P, o82_9 P, o83_9 P, o84_9 P, o85_9 P, o86_10 P, o87_10 P, o88_10 P, o89_10 P, o90_10 P, o91_10 P, o92_10 P, o93_12 P, o94_12 P, o95_12 P, o96_12 P, o97_12 P, o98_12 P, o99_12 P]
noncomputable def hp12 (P : Params) : Heap := hpOf (l12 P) {}
noncomputable def o3_13 (P : Params) : Obj := ⟨(.type "dict"), none, (.dict [⟨PyData.keyHash P (.ofString "__name__"), (.str (.ofString "__name__") 165), (.str (.ofString "law_wa0029_02") 2239)⟩, ⟨PyData.keyHash P (.ofString "__doc__"), (.str (.ofString "__doc__") 166), .none⟩, ⟨PyData.keyHash P (.ofString "__package__"), (.str (.ofString "__package__") 167), .none⟩, ⟨PyData.keyHash P (.ofString "__loader__"), (.str (.ofString "__loader__") 168), (.builtin "__main__.__loader__#opaque")⟩, ⟨PyData.keyHash P (.ofString "__spec__"), (.str (.ofString "__spec__") 169), .none⟩, ⟨PyData.keyHash P (.ofString "__annotations__"), (.str (.ofString "__annotations__") 170), (.ref 6)⟩, ⟨PyData.keyHash P (.ofString "__builtins__"), (.str (.ofString "__builtins__") 171), (.ref 4)⟩, ⟨PyData.keyHash P (.ofString "__file__"), (.str (.ofString "__file__") 173), (.str (.ofString "/claim/cut.py") 172)⟩, ⟨PyData.keyHash P (.ofString "__cached__"), (.str (.ofString "__cached__") 174), .none⟩, ⟨PyData.keyHash P (.ofString "Int2AP"), (.str (.ofString "Int2AP") 198), (.ref 21)⟩, ⟨PyData.keyHash P (.ofString "TICK"), (.str (.ofString "TICK") 202), (.str (.ofString "'") 201)⟩, ⟨PyData.keyHash P (.ofString "decode_rfc2231"), (.str (.ofString "decode_rfc2231") 210), (.ref 28)⟩, ⟨PyData.keyHash P (.ofString "b1_set"), (.str (.ofString "b1_set") 272), (.ref 36)⟩, ⟨PyData.keyHash P (.ofString "in_table_b1"), (.str (.ofString "in_table_b1") 279), (.ref 46)⟩, ⟨PyData.keyHash P (.ofString "b3_exceptions"), (.str (.ofString "b3_exceptions") 2230), (.ref 47)⟩, ⟨PyData.keyHash P (.ofString "map_table_b3"), (.str (.ofString "map_table_b3") 2238), (.ref 92)⟩, ⟨PyData.keyHash P (.ofString "_law_shared"), (.str (.ofString "_law_shared") 2248), (.ref 99)⟩, ⟨PyData.keyHash P (.ofString "_law_spelled"), (.str (.ofString "_law_spelled") 2261), (.ref 106)⟩].toArray 18), [].toArray⟩
noncomputable def o12_13 (P : Params) : Obj := ⟨.none, none, (.fields [(.int 2 0), (.int 0 0), (.ref 20), (.int 12 0), (.int 0 0), (.ref 27), (.int 19 0), (.int 0 0), (.ref 45), (.int 22 0), (.int 0 0), (.ref 91), (.int 28 0), (.int 0 0), (.ref 98), (.int 32 0), (.int 0 0), (.ref 105)].toArray), [].toArray⟩
noncomputable def o100_13 (P : Params) : Obj := ⟨(.type "tuple"), none, (.seq [].toArray 0), [].toArray⟩
noncomputable def o101_13 (P : Params) : Obj := ⟨.none, none, (.fields [].toArray), [].toArray⟩
noncomputable def o102_13 (P : Params) : Obj := ⟨(.type "tuple"), none, (.seq [(.str (.ofString "letters") 2252), (.str (.ofString "third") 2253), (.str (.ofString "numbers") 2254), (.str (.ofString "text") 2255), (.str (.ofString "k") 2256), (.str (.ofString "letter") 2257), (.str (.ofString "number") 2258)].toArray 0), [].toArray⟩
noncomputable def o103_13 (P : Params) : Obj := ⟨(.type "tuple"), none, (.seq [].toArray 0), [].toArray⟩
noncomputable def o104_13 (P : Params) : Obj := ⟨.none, none, (.func { name := (.ofString "_law_spelled"), qualname := (.ofString "_law_spelled"), params := (argsAt 12), body := .stmts (bodyAt 12), scope := (scopeAt 12), globals := 0, closure := [], defaults := .none, kwdefaults := .none, doc := .none, pyModule := .none, annotations := none, code := .none, closureTuple := .none, builtins := 0 }), [].toArray⟩
noncomputable def o105_13 (P : Params) : Obj := ⟨(.type "code"), none, (.fields [(.str (.ofString "_law_spelled") 2249), (.str (.ofString "_law_spelled") 2250), (.str (.ofString "/claim/cut.py") 2251), (.int 32 0), (.int 3 0), (.int 0 0), (.int 0 0), (.int 3 0), (.ref 100), (.bool true), (.int 181 0), (.ref 101), .none, (.ref 102), (.ref 103), (.ref 104), (.int 2259 0), (.int 32 0), (.str (.ofString "/claim/cut.py") 2260)].toArray), [].toArray⟩
noncomputable def o106_13 (P : Params) : Obj := ⟨(.type "function"), none, (.func { name := (.ofString "_law_spelled"), qualname := (.ofString "_law_spelled"), params := (argsAt 12), body := .stmts (bodyAt 12), scope := (scopeAt 12), globals := 3, closure := [], defaults := .none, kwdefaults := .none, doc := .none, pyModule := (.str (.ofString "law_wa0029_02") 2239), annotations := none, code := (.ref 105), closureTuple := .none, builtins := 0 }), [].toArray⟩
noncomputable def l13 (P : Params) : List Obj := [boot_o_0 P, boot_o_1 P, boot_o_2 P, o3_13 P, boot_o_4 P, boot_o_5 P, boot_o_6 P, boot_o_7 P, boot_o_8 P, boot_o_9 P, boot_o_10 P, o11_a P, o12_13 P, o13_a P, o14_a P, o15_2 P, o16_2 P, o17_2 P, o18_2 P, o19_2 P, o20_2 P, o21_2 P, o22_5 P, o23_5 P, o24_5 P, o25_5 P, o26_5 P, o27_5 P, o28_5 P, o29_7 P, o30_7 P, o31_7 P, o32_7 P, o33_7 P, o34_7 P, o35_7 P, o36_7 P, o37_7 P, o38_7 P, o39_7 P, o40_8 P, o41_8 P, o42_8 P, o43_8 P, o44_8 P, o45_8 P, o46_8 P, o47_9 P, o48_9 P, o49_9 P, o50_9 P, o51_9 P, o52_9 P, o53_9 P, o54_9 P, o55_9 P, o56_9 P, o57_9 P, o58_9 P, o59_9 P, o60_9 P, o61_9 P, o62_9 P, o63_9 P, o64_9 P, o65_9 P, o66_9 P, o67_9 P, o68_9 P, o69_9 P, o70_9 P, o71_9 P, o72_9 P, o73_9 P, o74_9 P, o75_9 P, o76_9 P, o77_9 P, o78_9 P, o79_9 P, o80_9 P, o81_9 P, o82_9 P, o83_9 P, o84_9 P, o85_9 P, o86_10 P, o87_10 P, o88_10 P, o89_10 P, o90_10 P, o91_10 P, o92_10 P, o93_12 P, o94_12 P, o95_12 P, o96_12 P, o97_12 P, o98_12 P, o99_12 P, o100_13 P, o101_13 P, o102_13 P, o103_13 P, o104_13 P, o105_13 P, o106_13 P]
noncomputable def hp13 (P : Params) : Heap := hpOf (l13 P) {}
noncomputable def o3_14 (P : Params) : Obj := ⟨(.type "dict"), none, (.dict [⟨PyData.keyHash P (.ofString "__name__"), (.str (.ofString "__name__") 165), (.str (.ofString "law_wa0029_02") 2239)⟩, ⟨PyData.keyHash P (.ofString "__doc__"), (.str (.ofString "__doc__") 166), .none⟩, ⟨PyData.keyHash P (.ofString "__package__"), (.str (.ofString "__package__") 167), .none⟩, ⟨PyData.keyHash P (.ofString "__loader__"), (.str (.ofString "__loader__") 168), (.builtin "__main__.__loader__#opaque")⟩, ⟨PyData.keyHash P (.ofString "__spec__"), (.str (.ofString "__spec__") 169), .none⟩, ⟨PyData.keyHash P (.ofString "__annotations__"), (.str (.ofString "__annotations__") 170), (.ref 6)⟩, ⟨PyData.keyHash P (.ofString "__builtins__"), (.str (.ofString "__builtins__") 171), (.ref 4)⟩, ⟨PyData.keyHash P (.ofString "__file__"), (.str (.ofString "__file__") 173), (.str (.ofString "/claim/cut.py") 172)⟩, ⟨PyData.keyHash P (.ofString "__cached__"), (.str (.ofString "__cached__") 174), .none⟩, ⟨PyData.keyHash P (.ofString "Int2AP"), (.str (.ofString "Int2AP") 198), (.ref 21)⟩, ⟨PyData.keyHash P (.ofString "TICK"), (.str (.ofString "TICK") 202), (.str (.ofString "'") 201)⟩, ⟨PyData.keyHash P (.ofString "decode_rfc2231"), (.str (.ofString "decode_rfc2231") 210), (.ref 28)⟩, ⟨PyData.keyHash P (.ofString "b1_set"), (.str (.ofString "b1_set") 272), (.ref 36)⟩, ⟨PyData.keyHash P (.ofString "in_table_b1"), (.str (.ofString "in_table_b1") 279), (.ref 46)⟩, ⟨PyData.keyHash P (.ofString "b3_exceptions"), (.str (.ofString "b3_exceptions") 2230), (.ref 47)⟩, ⟨PyData.keyHash P (.ofString "map_table_b3"), (.str (.ofString "map_table_b3") 2238), (.ref 92)⟩, ⟨PyData.keyHash P (.ofString "_law_shared"), (.str (.ofString "_law_shared") 2248), (.ref 99)⟩, ⟨PyData.keyHash P (.ofString "_law_spelled"), (.str (.ofString "_law_spelled") 2261), (.ref 106)⟩, ⟨PyData.keyHash P (.ofString "_law_value"), (.str (.ofString "_law_value") 2267), (.ref 111)⟩].toArray 19), [].toArray⟩
noncomputable def o12_14 (P : Params) : Obj := ⟨.none, none, (.fields [(.int 2 0), (.int 0 0), (.ref 20), (.int 12 0), (.int 0 0), (.ref 27), (.int 19 0), (.int 0 0), (.ref 45), (.int 22 0), (.int 0 0), (.ref 91), (.int 28 0), (.int 0 0), (.ref 98), (.int 32 0), (.int 0 0), (.ref 105), (.int 42 0), (.int 0 0), (.ref 110)].toArray), [].toArray⟩
noncomputable def o107_14 (P : Params) : Obj := ⟨(.type "tuple"), none, (.seq [].toArray 0), [].toArray⟩
noncomputable def o108_14 (P : Params) : Obj := ⟨.none, none, (.fields [].toArray), [].toArray⟩
noncomputable def o109_14 (P : Params) : Obj := ⟨.none, none, (.func { name := (.ofString "_law_value"), qualname := (.ofString "_law_value"), params := (argsAt 13), body := .stmts (bodyAt 13), scope := (scopeAt 13), globals := 0, closure := [], defaults := .none, kwdefaults := .none, doc := .none, pyModule := .none, annotations := none, code := .none, closureTuple := .none, builtins := 0 }), [].toArray⟩
noncomputable def o110_14 (P : Params) : Obj := ⟨(.type "code"), none, (.fields [(.str (.ofString "_law_value") 2262), (.str (.ofString "_law_value") 2263), (.str (.ofString "/claim/cut.py") 2264), (.int 42 0), (.int 1 0), (.int 0 0), (.int 0 0), (.int 3 0), (.ref 107), (.bool true), (.int 181 0), (.ref 108), .none, .none, .none, (.ref 109), (.int 2265 0), (.int 42 0), (.str (.ofString "/claim/cut.py") 2266)].toArray), [].toArray⟩
noncomputable def o111_14 (P : Params) : Obj := ⟨(.type "function"), none, (.func { name := (.ofString "_law_value"), qualname := (.ofString "_law_value"), params := (argsAt 13), body := .stmts (bodyAt 13), scope := (scopeAt 13), globals := 3, closure := [], defaults := .none, kwdefaults := .none, doc := .none, pyModule := (.str (.ofString "law_wa0029_02") 2239), annotations := none, code := (.ref 110), closureTuple := .none, builtins := 0 }), [].toArray⟩
noncomputable def l14 (P : Params) : List Obj := [boot_o_0 P, boot_o_1 P, boot_o_2 P, o3_14 P, boot_o_4 P, boot_o_5 P, boot_o_6 P, boot_o_7 P, boot_o_8 P, boot_o_9 P, boot_o_10 P, o11_a P, o12_14 P, o13_a P, o14_a P, o15_2 P, o16_2 P, o17_2 P, o18_2 P, o19_2 P, o20_2 P, o21_2 P, o22_5 P, o23_5 P, o24_5 P, o25_5 P, o26_5 P, o27_5 P, o28_5 P, o29_7 P, o30_7 P, o31_7 P, o32_7 P, o33_7 P, o34_7 P, o35_7 P, o36_7 P, o37_7 P, o38_7 P, o39_7 P, o40_8 P, o41_8 P, o42_8 P, o43_8 P, o44_8 P, o45_8 P, o46_8 P, o47_9 P, o48_9 P, o49_9 P, o50_9 P, o51_9 P, o52_9 P, o53_9 P, o54_9 P, o55_9 P, o56_9 P, o57_9 P, o58_9 P, o59_9 P, o60_9 P, o61_9 P, o62_9 P, o63_9 P, o64_9 P, o65_9 P, o66_9 P, o67_9 P, o68_9 P, o69_9 P, o70_9 P, o71_9 P, o72_9 P, o73_9 P, o74_9 P, o75_9 P, o76_9 P, o77_9 P, o78_9 P, o79_9 P, o80_9 P, o81_9 P, o82_9 P, o83_9 P, o84_9 P, o85_9 P, o86_10 P, o87_10 P, o88_10 P, o89_10 P, o90_10 P, o91_10 P, o92_10 P, o93_12 P, o94_12 P, o95_12 P, o96_12 P, o97_12 P, o98_12 P, o99_12 P, o100_13 P, o101_13 P, o102_13 P, o103_13 P, o104_13 P, o105_13 P, o106_13 P, o107_14 P, o108_14 P, o109_14 P, o110_14 P, o111_14 P]
noncomputable def hp14 (P : Params) : Heap := hpOf (l14 P) {}
noncomputable def o3_15 (P : Params) : Obj := ⟨(.type "dict"), none, (.dict [⟨PyData.keyHash P (.ofString "__name__"), (.str (.ofString "__name__") 165), (.str (.ofString "law_wa0029_02") 2239)⟩, ⟨PyData.keyHash P (.ofString "__doc__"), (.str (.ofString "__doc__") 166), .none⟩, ⟨PyData.keyHash P (.ofString "__package__"), (.str (.ofString "__package__") 167), .none⟩, ⟨PyData.keyHash P (.ofString "__loader__"), (.str (.ofString "__loader__") 168), (.builtin "__main__.__loader__#opaque")⟩, ⟨PyData.keyHash P (.ofString "__spec__"), (.str (.ofString "__spec__") 169), .none⟩, ⟨PyData.keyHash P (.ofString "__annotations__"), (.str (.ofString "__annotations__") 170), (.ref 6)⟩, ⟨PyData.keyHash P (.ofString "__builtins__"), (.str (.ofString "__builtins__") 171), (.ref 4)⟩, ⟨PyData.keyHash P (.ofString "__file__"), (.str (.ofString "__file__") 173), (.str (.ofString "/claim/cut.py") 172)⟩, ⟨PyData.keyHash P (.ofString "__cached__"), (.str (.ofString "__cached__") 174), .none⟩, ⟨PyData.keyHash P (.ofString "Int2AP"), (.str (.ofString "Int2AP") 198), (.ref 21)⟩, ⟨PyData.keyHash P (.ofString "TICK"), (.str (.ofString "TICK") 202), (.str (.ofString "'") 201)⟩, ⟨PyData.keyHash P (.ofString "decode_rfc2231"), (.str (.ofString "decode_rfc2231") 210), (.ref 28)⟩, ⟨PyData.keyHash P (.ofString "b1_set"), (.str (.ofString "b1_set") 272), (.ref 36)⟩, ⟨PyData.keyHash P (.ofString "in_table_b1"), (.str (.ofString "in_table_b1") 279), (.ref 46)⟩, ⟨PyData.keyHash P (.ofString "b3_exceptions"), (.str (.ofString "b3_exceptions") 2230), (.ref 47)⟩, ⟨PyData.keyHash P (.ofString "map_table_b3"), (.str (.ofString "map_table_b3") 2238), (.ref 92)⟩, ⟨PyData.keyHash P (.ofString "_law_shared"), (.str (.ofString "_law_shared") 2248), (.ref 99)⟩, ⟨PyData.keyHash P (.ofString "_law_spelled"), (.str (.ofString "_law_spelled") 2261), (.ref 106)⟩, ⟨PyData.keyHash P (.ofString "_law_value"), (.str (.ofString "_law_value") 2267), (.ref 111)⟩, ⟨PyData.keyHash P (.ofString "law"), (.str (.ofString "law") 2273), (.ref 116)⟩].toArray 20), [].toArray⟩
noncomputable def o12_15 (P : Params) : Obj := ⟨.none, none, (.fields [(.int 2 0), (.int 0 0), (.ref 20), (.int 12 0), (.int 0 0), (.ref 27), (.int 19 0), (.int 0 0), (.ref 45), (.int 22 0), (.int 0 0), (.ref 91), (.int 28 0), (.int 0 0), (.ref 98), (.int 32 0), (.int 0 0), (.ref 105), (.int 42 0), (.int 0 0), (.ref 110), (.int 44 0), (.int 0 0), (.ref 115)].toArray), [].toArray⟩
noncomputable def o112_15 (P : Params) : Obj := ⟨(.type "tuple"), none, (.seq [].toArray 0), [].toArray⟩
noncomputable def o113_15 (P : Params) : Obj := ⟨.none, none, (.fields [].toArray), [].toArray⟩
noncomputable def o114_15 (P : Params) : Obj := ⟨.none, none, (.func { name := (.ofString "law"), qualname := (.ofString "law"), params := (argsAt 14), body := .stmts (bodyAt 14), scope := (scopeAt 14), globals := 0, closure := [], defaults := .none, kwdefaults := .none, doc := .none, pyModule := .none, annotations := none, code := .none, closureTuple := .none, builtins := 0 }), [].toArray⟩
noncomputable def o115_15 (P : Params) : Obj := ⟨(.type "code"), none, (.fields [(.str (.ofString "law") 2268), (.str (.ofString "law") 2269), (.str (.ofString "/claim/cut.py") 2270), (.int 44 0), (.int 1 0), (.int 0 0), (.int 0 0), (.int 3 0), (.ref 112), (.bool true), (.int 181 0), (.ref 113), .none, .none, .none, (.ref 114), (.int 2271 0), (.int 44 0), (.str (.ofString "/claim/cut.py") 2272)].toArray), [].toArray⟩
noncomputable def o116_15 (P : Params) : Obj := ⟨(.type "function"), none, (.func { name := (.ofString "law"), qualname := (.ofString "law"), params := (argsAt 14), body := .stmts (bodyAt 14), scope := (scopeAt 14), globals := 3, closure := [], defaults := .none, kwdefaults := .none, doc := .none, pyModule := (.str (.ofString "law_wa0029_02") 2239), annotations := none, code := (.ref 115), closureTuple := .none, builtins := 0 }), [].toArray⟩
noncomputable def l15 (P : Params) : List Obj := [boot_o_0 P, boot_o_1 P, boot_o_2 P, o3_15 P, boot_o_4 P, boot_o_5 P, boot_o_6 P, boot_o_7 P, boot_o_8 P, boot_o_9 P, boot_o_10 P, o11_a P, o12_15 P, o13_a P, o14_a P, o15_2 P, o16_2 P, o17_2 P, o18_2 P, o19_2 P, o20_2 P, o21_2 P, o22_5 P, o23_5 P, o24_5 P, o25_5 P, o26_5 P, o27_5 P, o28_5 P, o29_7 P, o30_7 P, o31_7 P, o32_7 P, o33_7 P, o34_7 P, o35_7 P, o36_7 P, o37_7 P, o38_7 P, o39_7 P, o40_8 P, o41_8 P, o42_8 P, o43_8 P, o44_8 P, o45_8 P, o46_8 P, o47_9 P, o48_9 P, o49_9 P, o50_9 P, o51_9 P, o52_9 P, o53_9 P, o54_9 P, o55_9 P, o56_9 P, o57_9 P, o58_9 P, o59_9 P, o60_9 P, o61_9 P, o62_9 P, o63_9 P, o64_9 P, o65_9 P, o66_9 P, o67_9 P, o68_9 P, o69_9 P, o70_9 P, o71_9 P, o72_9 P, o73_9 P, o74_9 P, o75_9 P, o76_9 P, o77_9 P, o78_9 P, o79_9 P, o80_9 P, o81_9 P, o82_9 P, o83_9 P, o84_9 P, o85_9 P, o86_10 P, o87_10 P, o88_10 P, o89_10 P, o90_10 P, o91_10 P, o92_10 P, o93_12 P, o94_12 P, o95_12 P, o96_12 P, o97_12 P, o98_12 P, o99_12 P, o100_13 P, o101_13 P, o102_13 P, o103_13 P, o104_13 P, o105_13 P, o106_13 P, o107_14 P, o108_14 P, o109_14 P, o110_14 P, o111_14 P, o112_15 P, o113_15 P, o114_15 P, o115_15 P, o116_15 P]
noncomputable def hp15 (P : Params) : Heap := hpOf (l15 P) {}
noncomputable def S (h : Params → Heap) (k : Nat) (w : World) (os : OsState) : Shared := ⟨h w.params, Array.mk [], boot_drawn, k, os⟩
noncomputable abbrev Piece (i n : Nat) (h h' : Params → Heap) (k k' : Nat) (q q' : Pos) (w : World) : Prop :=
  ∀ os, segRun treeTable pw w 11 (some (.ref 6)) 1 (n + 1) (S h k w os) (piecesOf [stAt i] env cE q B) = some (.next, S h' k' w os, cE, q')
theorem pPre (w : World) (os : OsState) : topGo treeTable pw w 11 (some (.ref 6)) 12 (S boot_heap boot_toks w os) (topStub pw) = some (S hpa 187 w os, ⟨denote treeTable cE, cE, ⟨0, 0, 0, 0⟩, B⟩) := by kernel_rfl
theorem pBlock (w : World) (os : OsState) : segRun treeTable pw w 11 (some (.ref 6)) 1 1 (S hpa 187 w os) (blockOf bd env cE ⟨0, 0, 0, 0⟩ B) = some (.next, S hpa 187 w os, cE, ⟨0, 0, 0, 0⟩) := by kernel_rfl

theorem p1 (w : World) : Piece 0 9 hpa hp1 187 189 ⟨0, 0, 0, 0⟩ ⟨1, 0, 1, 8⟩ w := by intro os; kernel_rfl
theorem p2 (w : World) : Piece 1 32 hp1 hp2 189 199 ⟨1, 0, 1, 8⟩ ⟨2, 0, 9, 14⟩ w := by intro os; kernel_rfl
theorem p3 (w : World) : Piece 2 9 hp2 hp3 199 201 ⟨2, 0, 9, 14⟩ ⟨10, 0, 10, 8⟩ w := by intro os; kernel_rfl
theorem p4 (w : World) : Piece 3 9 hp3 hp4 201 203 ⟨10, 0, 10, 8⟩ ⟨11, 0, 11, 4⟩ w := by intro os; kernel_rfl
theorem p5 (w : World) : Piece 4 30 hp4 hp5 203 211 ⟨11, 0, 11, 4⟩ ⟨12, 0, 16, 16⟩ w := by intro os; kernel_rfl
theorem p6 (w : World) : Piece 5 9 hp5 hp6 211 213 ⟨12, 0, 16, 16⟩ ⟨17, 0, 17, 8⟩ w := by intro os; kernel_rfl
noncomputable abbrev P7 (w : World) : Prop := Piece 6 998 hp6 hp7 213 273 ⟨17, 0, 17, 8⟩ ⟨18, 0, 18, 6⟩ w
theorem p7ff (w : World) : P7 ((w.withFollow "special-get-raises" false).withFollow "set-order" false) := by
  intro os
  unfold piecesOf
  rw [PySem.W.Fast.te14374325043358763698, PySem.W.Fast.te14364793385576792824, PySem.W.Fast.te12563942051412417395]
  kernel_rfl
theorem p7ft (w : World) : P7 ((w.withFollow "special-get-raises" false).withFollow "set-order" true) := by
  intro os
  unfold piecesOf
  rw [PySem.W.Fast.te14374325043358763698, PySem.W.Fast.te14364793385576792824, PySem.W.Fast.te12563942051412417395]
  kernel_rfl
theorem p7tf (w : World) : P7 ((w.withFollow "special-get-raises" true).withFollow "set-order" false) := by
  intro os
  unfold piecesOf
  rw [PySem.W.Fast.te14374325043358763698, PySem.W.Fast.te14364793385576792824, PySem.W.Fast.te12563942051412417395]
  kernel_rfl
theorem p7tt (w : World) : P7 ((w.withFollow "special-get-raises" true).withFollow "set-order" true) := by
  intro os
  unfold piecesOf
  rw [PySem.W.Fast.te14374325043358763698, PySem.W.Fast.te14364793385576792824, PySem.W.Fast.te12563942051412417395]
  kernel_rfl
theorem p7 (w : World) : P7 w := by
  refine byRow2 "set-order" (P := P7) (fun w => ?_) (fun w => ?_) w
  · exact byRow2 "special-get-raises" (P := fun w => P7 (w.withFollow "set-order" false)) p7ff p7tf w
  · exact byRow2 "special-get-raises" (P := fun w => P7 (w.withFollow "set-order" true)) p7ft p7tt w
theorem p8 (w : World) : Piece 7 29 hp7 hp8 273 280 ⟨18, 0, 18, 6⟩ ⟨19, 0, 20, 30⟩ w := by intro os; kernel_rfl
theorem st8 : stAt 8 = .Assign [.Name tgtAt.1 tgtAt.2.1] (.Dict dispAt.1 dispAt.2.1 dispAt.2.2) tgtAt.2.2 := by kernel_rfl
theorem items8 : (evalEachOpt dispAt.1 env).zip ((evalEach dispAt.2.1 env).map fun v => do let x ← v; standAt dispAt.2.2; pure x) = its (prs dispAt.2.2 tbl) := by kernel_rfl
theorem tbl_parts : tbl = chunk 0 ++ (chunks.flatten ++ tblEnd) := by kernel_rfl
theorem tbl_rise : risingC 0 (chunk 0 :: chunks) = true := by kernel_rfl
theorem tbl_rise2 : rising (lastC 0 (chunk 0 :: chunks)) tblEnd = true := by kernel_rfl
theorem e37 : chunks.length = 37 := by kernel_rfl
theorem e4 : tblEnd.length = 4 := by kernel_rfl
theorem l8_len (P : Params) : (l8 P).length = 47 := by kernel_rfl
theorem p9tail (w : World) (os : OsState) : segRun treeTable pw w 11 (some (.ref 6)) 1 8
    (St (l8 w.params ++ o47_9 w.params :: (midOf 331 chunks ++ [o85_9 w.params])) {} (Array.mk []) boot_drawn 2230 os)
    ⟨tailW env tgtAt.1 tgtAt.2.1 (.ref 47), cE, dispAt.2.2, B⟩ = some (.next, S hp9 2231 w os, cE, ⟨21, 0, 21, 13⟩) := by kernel_rfl
theorem hd9 (w : World) (os : OsState) : Goes pw w 11 (some (.ref 6)) (.body bd env) ⟨0, 0, 0, 0⟩ 12515 (dictDisplay (its (prs dispAt.2.2 tbl))) (St (l8 w.params) {} (Array.mk []) boot_drawn 280 os) dispAt.2.2 (.ref 47)
    (St (l8 w.params ++ o47_9 w.params :: (midOf 331 chunks ++ [o85_9 w.params])) {} (Array.mk []) boot_drawn 2230 os) dispAt.2.2 :=
  goes_display' (a := 47) (m := 37) (k := 4) (c₀ := chunk 0) (tl := tblEnd) (cs := chunks) (toks := 280) (l8_len w.params) e37 e4 tbl_parts rfl rfl tbl_rise tbl_rise2 rfl rfl rfl
theorem p9 (w : World) : Piece 8 12524 hp8 hp9 280 2231 ⟨19, 0, 20, 30⟩ ⟨21, 0, 21, 13⟩ w := fun os => seg_assign (q := ⟨19, 0, 20, 30⟩) (N := 8) (n := 12515) st8 items8 (hd9 w os) (p9tail w os)
theorem p10 (w : World) : Piece 9 30 hp9 hp10 2231 2239 ⟨21, 0, 21, 13⟩ ⟨22, 0, 26, 23⟩ w := by intro os; kernel_rfl
theorem p11 (w : World) : Piece 10 9 hp10 hp11 2239 2241 ⟨22, 0, 26, 23⟩ ⟨27, 0, 27, 8⟩ w := by intro os; kernel_rfl
theorem p12 (w : World) : Piece 11 30 hp11 hp12 2241 2249 ⟨27, 0, 27, 8⟩ ⟨28, 0, 31, 12⟩ w := by intro os; kernel_rfl
theorem p13 (w : World) : Piece 12 35 hp12 hp13 2249 2262 ⟨28, 0, 31, 12⟩ ⟨32, 0, 41, 15⟩ w := by intro os; kernel_rfl
theorem p14 (w : World) : Piece 13 26 hp13 hp14 2262 2268 ⟨32, 0, 41, 15⟩ ⟨42, 0, 43, 81⟩ w := by intro os; kernel_rfl
theorem p15 (w : World) : Piece 14 26 hp14 hp15 2268 2274 ⟨42, 0, 43, 81⟩ ⟨44, 0, 67, 94⟩ w := by intro os; kernel_rfl
theorem pFin (w : World) (os : OsState) : topRun treeTable pw w 11 (some (.ref 6)) 2 (S hp15 2274 w os) ⟨doneF .next, cE, ⟨44, 0, 67, 94⟩, B⟩ = some (S hp15 2274 w os) := by kernel_rfl
theorem topRan (w : World) (os : OsState) : topRun treeTable pw w 11 (some (.ref 6)) 13835 (S boot_heap boot_toks w os) (topStub pw) = some (S hp15 2274 w os) := by
  refine go_top (n := 12) (N := 13823) (pPre w os) ?_
  refine piece_block (n := 1) (N := 13822) (pBlock w os) ?_
  show topRun treeTable pw w 11 (some (.ref 6)) 13822 _ (restOf ([stAt 0] ++ ([stAt 1] ++ ([stAt 2] ++ ([stAt 3] ++ ([stAt 4] ++ ([stAt 5] ++ ([stAt 6] ++ ([stAt 7] ++ ([stAt 8] ++ ([stAt 9] ++ ([stAt 10] ++ ([stAt 11] ++ ([stAt 12] ++ ([stAt 13] ++ ([stAt 14] ++ []))))))))))))))) env cE _ _) = _
  refine piece_app (n := 10) (N := 13812) (p1 w os) ?_
  refine piece_app (n := 33) (N := 13779) (p2 w os) ?_
  refine piece_app (n := 10) (N := 13769) (p3 w os) ?_
  refine piece_app (n := 10) (N := 13759) (p4 w os) ?_
  refine piece_app (n := 31) (N := 13728) (p5 w os) ?_
  refine piece_app (n := 10) (N := 13718) (p6 w os) ?_
  refine piece_app (n := 999) (N := 12719) (p7 w os) ?_
  refine piece_app (n := 30) (N := 12689) (p8 w os) ?_
  refine piece_app (n := 12525) (N := 164) (p9 w os) ?_
  refine piece_app (n := 31) (N := 133) (p10 w os) ?_
  refine piece_app (n := 10) (N := 123) (p11 w os) ?_
  refine piece_app (n := 31) (N := 92) (p12 w os) ?_
  refine piece_app (n := 36) (N := 56) (p13 w os) ?_
  refine piece_app (n := 27) (N := 29) (p14 w os) ?_
  refine piece_app (n := 27) (N := 2) (p15 w os) ?_
  exact piece_nil (pFin w os)
end
end Mine
open PySem PySem.W PyProof.Rows PySem.Calls
namespace Mine
local macro_rules | `(tactic| walk_at "mine0") => `(tactic| fail)
local macro_rules | `(tactic| walk_at "mine1") => `(tactic| fail)
local macro_rules | `(tactic| walk_at "mine2") => `(tactic| fail)
local macro_rules | `(tactic| walk_at "mine3") => `(tactic| fail)
local macro_rules | `(tactic| walk_at "mine4") => `(tactic| fail)
local macro_rules | `(tactic| walk_at "mine5") => `(tactic| fail)
local macro_rules | `(tactic| walk_at "mine6") => `(tactic| fail)
local macro_rules | `(tactic| walk_at "mine7") => `(tactic| fail)
local macro_rules | `(tactic| walk_at "mine8") => `(tactic| fail)
local macro_rules | `(tactic| walk_at "mine9") => `(tactic| fail)
local macro_rules | `(tactic| walk_at "mine10") => `(tactic| fail)
local macro_rules | `(tactic| walk_at "mine11") => `(tactic| fail)
local macro_rules | `(tactic| walk_at "mine12") => `(tactic| fail)
local macro_rules | `(tactic| walk_at "mine13") => `(tactic| fail)
local macro_rules | `(tactic| walk_at "mine14") => `(tactic| fail)
noncomputable section
noncomputable def view : Program := { pw with main := { pw.main with body := [stAt 1, stAt 3, stAt 4, stAt 7, stAt 9, stAt 11, stAt 12, stAt 13, stAt 14] } }
noncomputable abbrev loose : List Str := [Str.ofString "b1_set", Str.ofString "b3_exceptions"]
noncomputable def hookB (H : Hook) : Hook := ⟨H.α × Option Obj × Option Obj, fun s => (H.obs s, s.heap.get? 36, s.heap.get? 47), fun w => (H.val w, some (o36_7 w.params), some (o47_9 w.params)),
  fun w h => H.says w h ∧ h.get? 36 = some (o36_7 w.params) ∧ h.get? 47 = some (o47_9 w.params),
  fun w s e => ⟨H.of w s (congrArg Prod.fst e), congrArg (fun x => x.2.1) e, congrArg (fun x => x.2.2) e⟩, fun w h h' x k => ⟨H.keeps w h h' x.1 k, k _ _ x.2.1, k _ _ x.2.2⟩⟩
theorem openP : ∀ w : World, (fencedOpening treeTable pw w 30000).map (fun s => (s.heap, s.gens, s.drawn, s.toks)) = some (boot_heap w.params, Array.mk [], boot_drawn, boot_toks) := boot_open (by rfl) (by rfl) (fun s => by rfl)
theorem sizeP : ∀ w : World, ((boot_heap w.params).isNs mainGlobals && (Array.mk [] : Array GenState).size == 0, (boot_heap w.params).objs.size, (boot_heap w.params).nsMap mainGlobals "__annotations__") = (true, 11, some (.ref 6)) := fun w => by kernel_rfl
theorem look1 (w : World) (os : OsState) : (staticsOk (importedModules pw.main.body) (boot_heap w.params) (hp15 w.params) && namesBound pw (hp15 w.params) && gensDone ⟨hp15 w.params, Array.mk [], boot_drawn, 2274, os⟩ && laidKept (boot_heap w.params) (hp15 w.params)) = true := by kernel_rfl
theorem look2 (w : World) (os : OsState) : openSeen view loose (importedModules pw.main.body) (fun s => xlAt view [] s && recOk (RowW.records PySem.Challenge.rw_wa0029_02.row.toRowW) s) true ⟨hp15 w.params, Array.mk [], boot_drawn, 2274, os⟩ = openGood view loose := by kernel_rfl
end
end Mine
namespace Mine
local macro_rules | `(tactic| walk_at "mine0") => `(tactic| fail)
local macro_rules | `(tactic| walk_at "mine1") => `(tactic| fail)
local macro_rules | `(tactic| walk_at "mine2") => `(tactic| fail)
local macro_rules | `(tactic| walk_at "mine3") => `(tactic| fail)
local macro_rules | `(tactic| walk_at "mine4") => `(tactic| fail)
local macro_rules | `(tactic| walk_at "mine5") => `(tactic| fail)
local macro_rules | `(tactic| walk_at "mine6") => `(tactic| fail)
local macro_rules | `(tactic| walk_at "mine7") => `(tactic| fail)
local macro_rules | `(tactic| walk_at "mine8") => `(tactic| fail)
local macro_rules | `(tactic| walk_at "mine9") => `(tactic| fail)
local macro_rules | `(tactic| walk_at "mine10") => `(tactic| fail)
local macro_rules | `(tactic| walk_at "mine11") => `(tactic| fail)
local macro_rules | `(tactic| walk_at "mine12") => `(tactic| fail)
local macro_rules | `(tactic| walk_at "mine13") => `(tactic| fail)
local macro_rules | `(tactic| walk_at "mine14") => `(tactic| fail)
noncomputable section
noncomputable abbrev XtP : Shared → Bool := fun s => xlAt view [] s && recOk (RowW.records PySem.Challenge.rw_wa0029_02.row.toRowW) s
theorem leftP {K : Params → Frag} {as : List Addr} {e : ∀ P, as = (K P).map (·.1)} (h : ∀ w : World, as.map (hp15 w.params).get? = (K w.params).map fun p => some p.2) :
    LeftO PySem.Challenge.rw_wa0029_02.row.prog view loose XtP (Hook.obs (hookB (kHook K as e))) (Hook.val (hookB (kHook K as e))) 30000 :=
  LeftO.of_pieces (H₀ := boot_heap) (H₁ := hp15) (gs₀ := Array.mk []) (gs₁ := Array.mk []) (d₀ := boot_drawn) (d₁ := boot_drawn) (k₀ := boot_toks) (k₁ := 2274) (m₀ := 11) (ann := some (.ref 6)) openP sizeP topRan (by rfl)
    fun w => funext fun os => Prod.ext (look1 w os) (Prod.ext (look2 w os) (Prod.ext (h w) (Prod.ext (show (hp15 w.params).get? 36 = some (o36_7 w.params) by kernel_rfl) (show (hp15 w.params).get? 47 = some (o47_9 w.params) by kernel_rfl))))
end
end Mine
open PySem PySem.W PyProof.Rows PySem.Calls
namespace Mine
local macro_rules | `(tactic| o_head $H) => `(tactic| (
  refine PySem.W.holds_open (q := view) (loose := loose) (Xt := XtP) (XP := XL view []) (Yf := Hook.obs (hookB $H)) (Ya := Hook.val (hookB $H)) (YP := Hook.says (hookB $H)) (N := 30000) ?hl (Hook.of (hookB $H)) (Hook.keeps (hookB $H)) (fun s e => xl_of s (Bool.and_eq_true_iff.mp e).1) XL.keeps (by rfl) (by rfl) (by rfl) (fun s e => recFacts_of (Bool.and_eq_true_iff.mp e).2) (by rfl) (by assumption) (by decide +kernel) ⟨rfl, rfl, rfl, rfl, rfl, by decide +kernel⟩ ?hw ?hc
  (case hl => exact leftP (fun w => by kernel_rfl))))
set_option maxHeartbeats 8000000
open_top hd for PySem.Challenge.rw_wa0029_02
end Mine
open PySem PySem.W PyProof.Rows PySem.Calls
namespace Mine
local macro_rules | `(tactic| walk_at "mine0") => `(tactic| fail)
local macro_rules | `(tactic| walk_at "mine1") => `(tactic| fail)
local macro_rules | `(tactic| walk_at "mine2") => `(tactic| fail)
local macro_rules | `(tactic| walk_at "mine3") => `(tactic| fail)
local macro_rules | `(tactic| walk_at "mine4") => `(tactic| fail)
local macro_rules | `(tactic| walk_at "mine5") => `(tactic| fail)
local macro_rules | `(tactic| walk_at "mine6") => `(tactic| fail)
local macro_rules | `(tactic| walk_at "mine7") => `(tactic| fail)
local macro_rules | `(tactic| walk_at "mine8") => `(tactic| fail)
local macro_rules | `(tactic| walk_at "mine9") => `(tactic| fail)
local macro_rules | `(tactic| walk_at "mine10") => `(tactic| fail)
local macro_rules | `(tactic| walk_at "mine11") => `(tactic| fail)
local macro_rules | `(tactic| walk_at "mine12") => `(tactic| fail)
local macro_rules | `(tactic| walk_at "mine13") => `(tactic| fail)
local macro_rules | `(tactic| walk_at "mine14") => `(tactic| fail)
set_option maxHeartbeats 2000000

structure Facts (w : World) (mean : ExcName → Option Value) (mg mb : Str → Option Value) (h : Heap) : Prop where
  K : (hd.heap_39 w.params).In h
  S : h.get? 36 = some (o36_7 w.params)
  B : h.get? 47 = some (o47_9 w.params)
  T : Top view (looseW view loose) mean mg mb h
theorem Facts.keeps {w : World} {mean : ExcName → Option Value} {mg mb : Str → Option Value} {h h' : Heap} (F : Facts w mean mg mb h) (k : ∀ b o, h.get? b = some o → h'.get? b = some o) : Facts w mean mg mb h' :=
  ⟨F.K.keeps k, k _ _ F.S, k _ _ F.B, F.T.keeps k⟩

noncomputable def b1L : List Int := [65024, 65025, 65026, 65027, 65028, 65029, 6150, 65030, 65031, 65032, 65033, 6155, 6156, 6157, 8203, 8204, 8205, 65034, 65035, 65036, 65037, 65038, 65039, 173, 847, 8288, 65279]
noncomputable def b1 (k : Int) : Bool := b1L.contains k
theorem setOf {prog : Program} {w : World} {h : Heap} (S : h.get? 36 = some (o36_7 w.params)) : h.SetOf (intKind prog w) 36 b1 27 := by
  refine ⟨_, _, _, _, S, ⟨rfl, rfl, rfl⟩, rfl, ?_, ?_, by decide, by rfl, rfl⟩
  · intro e he
    have hall : ∀ x : List (Int × Value), (x.all fun e => match e.2 with | .int k _ => e.1 == hashInt k | _ => false) = true → ∀ e ∈ x, (∃ k, (intKind prog w).is k e.2 = true ∧ e.1 = (intKind prog w).hash k) ∧ e.2.scannable = true := by
      intro x hx e he
      have h := List.all_eq_true.mp hx e he
      obtain ⟨a, v⟩ := e
      cases v <;> first | cases h | skip
      rename_i k t
      exact ⟨⟨k, intKind_is _ _ _ _, beq_iff_eq.mp h⟩, rfl⟩
    exact hall _ (by decide +kernel) e he
  · intro k
    have hb : ∀ (x : List (Int × Value)) (l : List Int), (x.map fun e => match e.2 with | .int k _ => k | _ => 0) = l → (x.all fun e => match e.2 with | .int _ _ => true | _ => false) = true → (l.contains k = true ↔ ∃ e ∈ x, (intKind prog w).is k e.2 = true) := by
      intro x l hl ha
      subst hl
      rw [List.contains_iff_mem, List.mem_map]
      constructor
      · rintro ⟨e, he, hk⟩
        refine ⟨e, he, ?_⟩
        have h := List.all_eq_true.mp ha e he
        obtain ⟨a, v⟩ := e
        cases v <;> first | cases h | skip
        dsimp only at hk ⊢
        rw [hk]; exact intKind_is _ _ _ _
      · rintro ⟨e, he, hk⟩
        refine ⟨e, he, ?_⟩
        have h := List.all_eq_true.mp ha e he
        obtain ⟨a, v⟩ := e
        cases v <;> first | cases h | skip
        have : (_ == k) = true := hk
        simpa using this
    exact hb _ b1L (by rfl) (by rfl)

local macro_rules | `(tactic| walk_at "compareOp In") => `(tactic| ((with_reducible show wpAny _ _ (compareOp CmpOp.In (Value.int _ _) (Value.ref 36)) _ _ _); refine wpAny_inSet_of (intKind_is _ _ _ _) rfl (setOf (Fr.keep (by assumption) _ _ (Facts.S (by assumption)))) ?_))
local macro_rules | `(tactic| walk_at "Keeps") => `(tactic| exact ⟨_, _, rfl, Fr.keep (by assumption)⟩)
theorem b1_spec {w : World} {mean : ExcName → Option Value} {mg mb : Str → Option Value} {A : Around} {E : Value → Shared → Prop} {s : Shared} (X : Facts w mean mg mb s.heap) (hroom : A.depth + 5 < recursionLimit) (c : Nat) (t : Tok) :
    wpAny (model PySem.Challenge.rw_wa0029_02.row.prog w) A (call (.ref 46) [.str ⟨#[c]⟩ t]) (fun v s' => v = .bool (b1 c) ∧ Keeps s s') E s := by
  have KX : (hd.heap_39 w.params).In s.heap := X.K
  revert KX
  k_fill
  intro KX
  have T := X.T
  refine wpAny_call ?_
  refine call_plain_ret (binds := [(Str.ofString "code", .str ⟨#[c]⟩ t)]) (by omega) (KX 46 _ (by k_is)) (by rfl) T.nolimit (codeRec_of KX (by k_is)) (by rfl) (locs (by rfl)) (fun h₁ F => ?_)
  k_steps
end Mine
open PySem PySem.W PyProof.Rows PySem.Calls
namespace Mine
set_option maxHeartbeats 2000000

noncomputable def es47 : List DictEntry := ents 3 280 (chunk 0) ++ entsOf 331 chunks ++ ents 2 2218 tblEnd
noncomputable def b3f (k : Int) : Option Value := findBy Value.isInt es47.toArray k
theorem at47 {w : World} {mean : ExcName → Option Value} {mg mb : Str → Option Value} {h : Heap} (X : Facts w mean mg mb h) : h.get? 47 = some (D es47 650) := X.B
theorem keys47 : (es47.all fun e => match e.key with | .int k _ => e.hash == hashInt k | _ => false) = true := by decide +kernel
theorem mapOf {prog : Program} {w : World} {h : Heap} (S : h.get? 47 = some (D es47 650)) : h.MapOf (intKind prog w) 47 b3f := by
  refine ⟨_, es47.toArray, 650, S, ⟨rfl, rfl, rfl⟩, rfl, ?_, fun k => rfl⟩
  intro e he
  have h := List.all_eq_true.mp keys47 e (by simpa using he)
  obtain ⟨a, v, u⟩ := e
  cases v <;> first | cases h | skip
  rename_i k t
  exact ⟨k, intKind_is _ _ _ _, beq_iff_eq.mp h⟩
theorem mapOf_dict {s : Shared} (S : s.heap.get? 47 = some (D es47 650)) : s.TypeIs (.ref 47) "dict" := ⟨_, S, rfl⟩
theorem get47 {w : World} {prog : Program} {A : Around} {E : Value → Shared → Prop} {s : Shared} {k : Int} {t : Tok} {r : Option Value} {Q : Value → Shared → Prop} (S : s.heap.get? 47 = some (D es47 650)) (hb : b3f k = r) (h : Q (r.getD .none) { s with toks := s.toks + 1 }) :
    wpAny (model prog w) A (call (.builtin "dict.get") [.ref 47, .int k t]) Q E s :=
  call_meetsIn PySem.F.slot_dict_get (mapOf_dict S) PySem.F.entry_dict_get (PySem.F.args_dict_get_2 _ _) (meets_dict_get (knd := intKind prog w) 47 (intKind_is _ _ _ _) rfl) ⟨b3f, mapOf S, by rw [hb]; exact h⟩
/-- the signs that a law lets by, and what the table and the small letters make of them -/
noncomputable def signOk (c : Nat) : Bool := c == 39 || (65 ≤ c && c ≤ 80) || (97 ≤ c && c ≤ 112) || (119912 ≤ c && c ≤ 119927) || (120224 ≤ c && c ≤ 120239) || (120276 ≤ c && c ≤ 120291) || (120432 ≤ c && c ≤ 120447)
noncomputable def low (c : Nat) : Nat := if c < 97 then (if c < 65 then c else c + 32) else if c < 119912 then c else if c < 120224 then c - 119912 + 97 else if c < 120276 then c - 120224 + 97 else if c < 120432 then c - 120276 + 97 else c - 120432 + 97
theorem find_rise : ∀ (l : List (Int × Str)) (lo : Int) (i : Nat) (k : Int) (x : Str), rising lo l = true → l[i]? = some (k, x) → l.find? (fun p => p.1 == k) = some (k, x) ∧ lo < k
  | [], _, _, _, _, _, h => by cases h
  | (k', x') :: r, lo, i, k, x, hr, h => by
    simp only [rising, Bool.and_eq_true, decide_eq_true_eq] at hr
    cases i with
    | zero => cases h; exact ⟨by simp, hr.1.1⟩
    | succ i =>
      have ih := find_rise r k' i k x hr.2 h
      refine ⟨?_, by omega⟩
      rw [List.find?_cons_of_neg (by simp only [beq_iff_eq]; omega)]
      exact ih.1
theorem find_low : ∀ (l : List (Int × Str)) (lo k : Int), rising lo l = true → k ≤ lo → l.find? (fun p => p.1 == k) = none
  | [], _, _, _, _ => rfl
  | (k', x') :: r, lo, k, hr, h => by
    simp only [rising, Bool.and_eq_true, decide_eq_true_eq] at hr
    rw [List.find?_cons_of_neg (by simp only [beq_iff_eq]; omega)]
    exact find_low r k' k hr.2 (by omega)
inductive Like : List DictEntry → List (Int × Str) → Prop
  | nil : Like [] []
  | cons {h : Int} {k : Int} {x : Str} {t u : Tok} {es : List DictEntry} {l : List (Int × Str)} (r : Like es l) : Like (⟨h, .int k t, .str x u⟩ :: es) ((k, x) :: l)
theorem Like.ents (step : Nat) : ∀ (l : List (Int × Str)) (t : Nat), Like (Mine.ents step t l) l
  | [], _ => .nil
  | _ :: r, _ => .cons (Like.ents step r _)
theorem Like.app {es es' : List DictEntry} {l l' : List (Int × Str)} (a : Like es l) (b : Like es' l') : Like (es ++ es') (l ++ l') := by
  induction a with
  | nil => exact b
  | cons _ ih => exact .cons ih
theorem Like.entsOf : ∀ (cs : List (List (Int × Str))) (t : Nat), Like (Mine.entsOf t cs) cs.flatten
  | [], _ => .nil
  | l :: r, t => by rw [List.flatten_cons]; exact (Like.ents 3 l t).app (Like.entsOf r _)
theorem Like.find {es : List DictEntry} {l : List (Int × Str)} (a : Like es l) (k : Int) : match l.find? (fun p => p.1 == k) with
    | none => es.find? (fun e => Value.isInt k e.key) = none
    | some p => ∃ e u, es.find? (fun e => Value.isInt k e.key) = some e ∧ e.val = .str p.2 u := by
  induction a with
  | nil => rfl
  | @cons h k' x t u es l r ih =>
    by_cases hk : k' = k
    · subst hk
      rw [List.find?_cons_of_pos (by simp)]
      exact ⟨_, u, List.find?_cons_of_pos (by simp [Value.isInt]), rfl⟩
    · rw [List.find?_cons_of_neg (by simpa using hk), List.find?_cons_of_neg (by simpa [Value.isInt] using hk)]
      exact ih
theorem like47 : Like es47 tbl := by
  have h : tbl = chunk 0 ++ chunks.flatten ++ tblEnd := by rw [List.append_assoc]; exact tbl_parts
  rw [h]
  exact ((Like.ents 3 _ _).app (Like.entsOf _ _)).app (Like.ents 2 _ _)
theorem rise172 : rising 172 tbl = true := by decide +kernel
theorem b3_none {k : Int} (h : k ≤ 172) : b3f k = none := by
  have := like47.find k
  rw [find_low tbl 172 k rise172 h] at this
  unfold b3f findBy
  rw [List.find?_toArray]
  exact congrArg (Option.map (·.val)) this
theorem b3_some {k : Int} {i : Nat} {x : Str} (h : tbl[i]? = some (k, x)) : ∃ u, b3f k = some (.str x u) := by
  have := like47.find k
  rw [(find_rise tbl 172 i k x rise172 h).1] at this
  obtain ⟨e, u, h1, h2⟩ := this
  refine ⟨u, ?_⟩
  unfold b3f findBy
  rw [List.find?_toArray]
  exact (congrArg (Option.map (·.val)) h1).trans (congrArg some h2)
noncomputable def b3Says (c : Nat) : Prop := (b3f c = none ∧ Txt.lower ⟨#[c]⟩ = ⟨#[low c]⟩) ∨ ∃ u, b3f c = some (.str ⟨#[low c]⟩ u)
theorem lows : (([39] ++ (List.range 16).map (65 + ·) ++ (List.range 16).map (97 + ·)).all fun c => Txt.lower (Str.mk #[c]) == Str.mk #[low c]) = true := by decide +kernel
theorem greats : ((List.range 16).all fun j => tbl[254 + j]? == some (((119912 + j : Nat) : Int), Str.mk #[97 + j]) && tbl[390 + j]? == some (((120224 + j : Nat) : Int), Str.mk #[97 + j]) && tbl[416 + j]? == some (((120276 + j : Nat) : Int), Str.mk #[97 + j]) && tbl[494 + j]? == some (((120432 + j : Nat) : Int), Str.mk #[97 + j])) = true := by decide +kernel
theorem says {c : Nat} (h : signOk c = true) : b3Says c := by
  simp only [signOk, Bool.or_eq_true, Bool.and_eq_true, beq_iff_eq, decide_eq_true_eq] at h
  by_cases hc : c < 113
  · refine .inl ⟨b3_none (by omega), beq_iff_eq.mp (List.all_eq_true.mp lows c ?_)⟩
    simp only [List.mem_append, List.mem_map, List.mem_range, List.mem_singleton]
    rcases h with ((((((h | h) | h) | h) | h) | h) | h)
    · exact .inl (.inl h)
    · exact .inl (.inr ⟨c - 65, by omega, by omega⟩)
    · exact .inr ⟨c - 97, by omega, by omega⟩
    all_goals omega
  · right
    have hg : ∀ j, j < 16 → _ := fun j hj => List.all_eq_true.mp greats j (by simpa using hj)
    simp only [Bool.and_eq_true, beq_iff_eq] at hg
    have fin : ∀ {i j b : Nat}, tbl[i]? = some (((b + j : Nat) : Int), Str.mk #[97 + j]) → low (b + j) = 97 + j → ∃ u, b3f ((b + j : Nat) : Int) = some (.str ⟨#[low (b + j)]⟩ u) := by
      intro i j b h1 h2
      obtain ⟨u, hu⟩ := b3_some h1
      exact ⟨u, by rw [h2]; exact hu⟩
    rcases h with ((((((h | h) | h) | h) | h) | h) | h)
    · omega
    · omega
    · omega
    · obtain ⟨j, hj, rfl⟩ : ∃ j, j < 16 ∧ c = 119912 + j := ⟨c - 119912, by omega, by omega⟩
      exact fin (hg j hj).1.1.1 (by unfold low; (repeat' split) <;> omega)
    · obtain ⟨j, hj, rfl⟩ : ∃ j, j < 16 ∧ c = 120224 + j := ⟨c - 120224, by omega, by omega⟩
      exact fin (hg j hj).1.1.2 (by unfold low; (repeat' split) <;> omega)
    · obtain ⟨j, hj, rfl⟩ : ∃ j, j < 16 ∧ c = 120276 + j := ⟨c - 120276, by omega, by omega⟩
      exact fin (hg j hj).1.2 (by unfold low; (repeat' split) <;> omega)
    · obtain ⟨j, hj, rfl⟩ : ∃ j, j < 16 ∧ c = 120432 + j := ⟨c - 120432, by omega, by omega⟩
      exact fin (hg j hj).2 (by unfold low; (repeat' split) <;> omega)
section
local macro_rules | `(tactic| walk_at "Keeps") => `(tactic| exact ⟨_, _, rfl, Fr.keep (by assumption)⟩)
local macro_rules | `(tactic| walk_at "getMethod ref") => `(tactic| ((with_reducible show wpAny _ _ (getMethod (Value.ref 47) _ _) _ _ _); refine getMethod_builtin (mapOf_dict (Fr.keep (by assumption) _ _ (at47 (by assumption)))) PySem.F.plainAttrs_dict PySem.F.slot_dict_get PySem.F.type_dict_get (fun a e => ⟨_, (by injection e with e; subst e; exact Fr.keep (by assumption) _ _ (at47 (by assumption))), rfl⟩) ?_))
local macro_rules | `(tactic| walk_at "call builtin:dict.get") => `(tactic| ((with_reducible show wpAny _ _ (call (Value.builtin "dict.get") [Value.ref 47, Value.int _ _]) _ _ _); refine get47 (Fr.keep (by assumption) _ _ (at47 (by assumption))) (by assumption) ?_; (try dsimp only [Option.getD])))
theorem lower1 {prog : Program} {w : World} {A : Around} {E : Value → Shared → Prop} {s : Shared} {c : Nat} {y : Str} {t : Tok} {Q : Value → Shared → Prop} (hl : Txt.lower ⟨#[c]⟩ = y) (h : Q (.str y s.toks) { s with toks := s.toks + 1 }) :
    wpAny (model prog w) A (call (.builtin "str.lower") [.str ⟨#[c]⟩ t]) Q E s := SCL.lower (by show 1 ≤ 5592405; omega) fun _ => by rw [hl]; exact h
local macro_rules | `(tactic| walk_at "call builtin:str.lower") => `(tactic| (refine lower1 (by assumption) ?_))
theorem b3_spec {w : World} {mean : ExcName → Option Value} {mg mb : Str → Option Value} {A : Around} {E : Value → Shared → Prop} {s : Shared} (X : Facts w mean mg mb s.heap) (hroom : A.depth + 5 < recursionLimit) (c : Nat) (hc : b3Says c) (t : Tok) :
    wpAny (model PySem.Challenge.rw_wa0029_02.row.prog w) A (call (.ref 92) [.str ⟨#[c]⟩ t]) (fun v s' => (∃ u, v = .str ⟨#[low c]⟩ u) ∧ Keeps s s') E s := by
  have KX : (hd.heap_39 w.params).In s.heap := X.K
  revert KX
  k_fill
  intro KX
  have T := X.T
  refine wpAny_call ?_
  refine call_plain_ret (binds := [(Str.ofString "code", .str ⟨#[c]⟩ t)]) (by omega) (KX 92 _ (by k_is)) (by rfl) T.nolimit (codeRec_of KX (by k_is)) (by rfl) (locs (by rfl)) (fun h₁ F => ?_)
  rcases hc with ⟨hb, hl⟩ | ⟨u, hb⟩
  · k_steps
  · k_steps
end
end Mine
open PySem PySem.W PyProof.Rows PySem.Calls
namespace Mine
local macro_rules | `(tactic| walk_at "mine0") => `(tactic| fail)
local macro_rules | `(tactic| walk_at "mine1") => `(tactic| fail)
local macro_rules | `(tactic| walk_at "mine2") => `(tactic| fail)
local macro_rules | `(tactic| walk_at "mine3") => `(tactic| fail)
local macro_rules | `(tactic| walk_at "mine4") => `(tactic| fail)
local macro_rules | `(tactic| walk_at "mine5") => `(tactic| fail)
local macro_rules | `(tactic| walk_at "mine6") => `(tactic| fail)
local macro_rules | `(tactic| walk_at "mine7") => `(tactic| fail)
local macro_rules | `(tactic| walk_at "mine8") => `(tactic| fail)
local macro_rules | `(tactic| walk_at "mine9") => `(tactic| fail)
local macro_rules | `(tactic| walk_at "mine10") => `(tactic| fail)
local macro_rules | `(tactic| walk_at "mine11") => `(tactic| fail)
local macro_rules | `(tactic| walk_at "mine12") => `(tactic| fail)
local macro_rules | `(tactic| walk_at "mine13") => `(tactic| fail)
local macro_rules | `(tactic| walk_at "mine14") => `(tactic| fail)
set_option maxHeartbeats 2000000
noncomputable def stm (i j : Nat) : Stmt := match (bodyAt i)[j]? with | some s => s | none => .Pass default
noncomputable def apD : Nat → List UInt8
  | 0 => []
  | n + 1 => apD ((n + 1) / 16) ++ [UInt8.ofNat (65 + (n + 1) % 16)]
decreasing_by exact Nat.div_lt_self (Nat.succ_pos _) (by decide)
theorem apD_pos {n : Nat} (h : 0 < n) : apD n = apD (n / 16) ++ [UInt8.ofNat (65 + n % 16)] := by
  cases n with
  | zero => cases h
  | succ n => rw [apD]
noncomputable abbrev AP : Array UInt8 := #[65, 66, 67, 68, 69, 70, 71, 72, 73, 74, 75, 76, 77, 78, 79, 80]
theorem cutAP (n : Nat) : KBy.picked AP (some ((n : Int).fmod 16)) (some ((n : Int).fmod 16 + 1)) = #[UInt8.ofNat (65 + n % 16)] ∧ KBy.whole AP (some ((n : Int).fmod 16)) (some ((n : Int).fmod 16 + 1)) = false ∧ (KBy.picked AP (some ((n : Int).fmod 16)) (some ((n : Int).fmod 16 + 1))).size ≤ 16777216 := by
  have h : ∀ j : Fin 16, KBy.picked AP (some ((j.val : Nat) : Int)) (some ((j.val : Nat) + 1 : Int)) = #[UInt8.ofNat (65 + j.val)] ∧ KBy.whole AP (some ((j.val : Nat) : Int)) (some ((j.val : Nat) + 1 : Int)) = false := by decide +kernel
  have e : (n : Int).fmod 16 = ((n % 16 : Nat) : Int) := by rw [Int.fmod_eq_emod_of_nonneg _ (by decide)]; rfl
  have := h ⟨n % 16, Nat.mod_lt _ (by decide)⟩
  rw [e]
  refine ⟨this.1, this.2, ?_⟩
  rw [this.1]
  show 1 ≤ 16777216
  omega
section
local macro_rules | `(tactic| walk_at "Keeps") => `(tactic| exact ⟨_, _, rfl, Fr.keep (by assumption)⟩)
local macro_rules | `(tactic| walk_at "subscriptTail") => `(tactic| (k_here; (with_reducible show wpAny _ _ (subscriptTail _ (Expr.Slice _ _ none _) (Value.bytes _ _) (Value.ref _)) _ _ _); (with_reducible rename Fr _ _ _ _ => F'); (with_reducible rename News _ _ _ _ => N'); (refine KBy.slice_N (s := ⟨_, _, _, _, _⟩) F' N' (by constructor) (by constructor) (cutAP _).2.1 (cutAP _).2.2 ?_); (rw [(cutAP _).1]); intro _ _ _ _ _))
local macro_rules | `(tactic| walk_at "binaryOp Add bytes bytes") => `(tactic| (k_here; (refine KBy.add_bytes (by assumption) ?_); intro _ _))
theorem canon3 {m : Str → Option Value} {a b c : Str} {u v z : Value} (h1 : m a = some u) (h2 : m b = some v) (h3 : m c = some z) : m = fun y => if y = a then some u else if y = b then some v else if y = c then some z else m y := by
  funext y
  by_cases e1 : y = a
  · subst e1; simp [h1]
  · by_cases e2 : y = b
    · subst e2; simp [e1, h2]
    · by_cases e3 : y = c
      · subst e3; simp [e1, e2, h3]
      · simp [e1, e2, e3]
theorem ap_loop {w : World} {mean : ExcName → Option Value} {mg mb : Str → Option Value} {A : Around} {s : Shared} {h₀ : Heap} {L : Addr} {m : Str → Option Value} {k : Int} {x : Nat} {b : Array UInt8} {tx tb ta : Tok} {Q : Flow → Shared → Prop} {E : Value → Shared → Prop}
    (X : Facts w mean mg mb h₀) (hh : A.handled = none) (F : Fr h₀ L s.heap m) (h1 : m "num" = some (.int k tx)) (hk : k = x) (h2 : m "val" = some (.bytes b tb)) (h3 : m "AP" = some (.bytes AP ta)) (hsz : (apD x).length + b.size ≤ 1000)
    (hQ : ∀ (h' : Heap) (tk : Nat) (u : Tok) (m' : Str → Option Value), Fr h₀ L h' (fun y => if y = "val" then some (.bytes (apD x ++ b.toList).toArray u) else m' y) → Q .next { s with heap := h', toks := tk })
    (hE : PassesOwn (model PySem.Challenge.rw_wa0029_02.row.prog w) A (envOf "Int2AP" (scopeAt 1) L 21 (.ref 20)) E) :
    wpAny (model PySem.Challenge.rw_wa0029_02.row.prog w) A (exec (stm 1 3) (envOf "Int2AP" (scopeAt 1) L 21 (.ref 20))) Q E s := by
  subst hk
  obtain ⟨ah, ad, af, ag, au⟩ := A
  subst hh
  have KX : (hd.heap_39 w.params).In h₀ := X.K
  revert KX
  k_fill
  intro KX
  have T := X.T
  refine While_inv (fun n m news => ∃ (y : Nat) (c : Array UInt8) (u v z : Tok), n = y ∧ m "num" = some (.int y u) ∧ m "val" = some (.bytes c v) ∧ m "AP" = some (.bytes AP z) ∧ apD x ++ b.toList = apD y ++ c.toList) F News.nil ⟨x, b, tx, tb, ta, rfl, h1, h2, h3, rfl⟩ ?_ hE
  rintro n m₁ news₁ h₁ tk₁ F₁ N₁ ⟨y, c, u, v, z, rfl, g1, g2, g3, g4⟩
  rw [canon3 g1 g2 g3] at F₁
  by_cases hy : n = 0
  · have hy' : ((n : Int) != 0) = false := by subst hy; rfl
    k_steps
    subst hy
    have F₂ := F₁
    rw [← canon3 g1 g2 g3] at F₂
    refine hQ h₁ tk₁ v m₁ ?_
    have e : apD x ++ b.toList = c.toList := by rw [g4]; simp [apD]
    rw [e]
    have e2 : (fun y => if y = Str.ofString "val" then some (Value.bytes c.toList.toArray v) else m₁ y) = m₁ := by
      funext y
      by_cases hy : y = Str.ofString "val"
      · subst hy; simp [g2]
      · simp [hy]
    rw [e2]
    exact F₂
  · have hy' : ((n : Int) != 0) = true := by simpa using hy
    have hz : (#[UInt8.ofNat (65 + n % 16)] : Array UInt8).size + c.size ≤ 16777216 := by
      have h := congrArg List.length g4
      have : 0 < (apD n).length := by rw [apD_pos (by omega)]; simp
      simp only [List.length_append, Array.length_toList] at h
      show 1 + c.size ≤ _
      omega
    have e2 : ((n : Int).fdiv 16) = ((n / 16 : Nat) : Int) := by rw [Int.fdiv_eq_ediv_of_nonneg _ (by decide)]; rfl
    have e3 : apD x ++ b.toList = apD (n / 16) ++ (#[UInt8.ofNat (65 + n % 16)] ++ c).toList := by
      rw [g4, apD_pos (by omega)]
      simp
    k_steps
    refine WhileStep.intro (n' := n / 16) (by assumption) (by assumption) (by omega) ?_
    exact ⟨n / 16, #[UInt8.ofNat (65 + n % 16)] ++ c, _, _, _, rfl, congrArg (fun k => some (Value.int k _)) e2, rfl, rfl, e3⟩
theorem absNat (n : Nat) : (if (n : Int) < 0 then -(n : Int) else (n : Int)) = n := if_neg (by omega)
local macro_rules | `(tactic| walk_at "exec While") => `(tactic| (refine ap_loop (by assumption) (by rfl) (by with_reducible assumption) (by rfl) (absNat _) (by rfl) (by rfl) (by assumption) ?_ (by passes_own); intro _ _ _ _ _))
theorem ap_spec {w : World} {mean : ExcName → Option Value} {mg mb : Str → Option Value} {A : Around} {E : Value → Shared → Prop} {s : Shared} (X : Facts w mean mg mb s.heap) (hh : A.handled = none) (hroom : A.depth + 5 < recursionLimit) (n : Nat) (hn : (apD n).length + 0 ≤ 1000) (t : Tok) :
    wpAny (model PySem.Challenge.rw_wa0029_02.row.prog w) A (call (.ref 21) [.int n t]) (fun v s' => (∃ u, v = .bytes (apD n).toArray u) ∧ Keeps s s') E s := by
  obtain ⟨ah, ad, af, ag, au⟩ := A
  subst hh
  have KX : (hd.heap_39 w.params).In s.heap := X.K
  revert KX
  k_fill
  intro KX
  have T := X.T
  refine wpAny_call ?_
  refine call_plain_ret (binds := [(Str.ofString "num", .int n t)]) (by omega) (KX 21 _ (by k_is)) (by rfl) T.nolimit (codeRec_of KX (by k_is)) (by rfl) (locs (by rfl)) (fun h₁ F => ?_)
  k_steps
  exact congrArg (fun l => Value.bytes (List.toArray l) _) (List.append_nil (apD n))
end
end Mine
open PySem PySem.W PyProof.Rows PySem.Calls
namespace Mine
noncomputable def plc : List Nat → Nat → List Nat
  | [], _ => []
  | c :: r, i => if c = 39 then i :: plc r (i + 1) else plc r (i + 1)
theorem subAt_one (pre r : List Nat) (c : Nat) : PySem.Builtin.Str.subAt ⟨(pre ++ c :: r).toArray⟩ ⟨#[39]⟩ pre.length = decide (c = 39) := by
  unfold PySem.Builtin.Str.subAt
  have h : (pre ++ c :: r).toArray.extract pre.length (pre.length + 1) = #[c] := by simp
  show ((pre ++ c :: r).toArray.extract pre.length (pre.length + 1) == #[39]) = _
  rw [h]
  by_cases hc : c = 39
  · subst hc; rfl
  · rw [decide_eq_false hc]
    simpa using hc
theorem occ_go (hi limit : Nat) : ∀ (l pre : List Nat) (found : Array Nat) (free : Nat), hi = pre.length + l.length → free ≤ pre.length →
    (forIn (List.range' pre.length (l.length + 1)) (found, free) (PySem.StrLaws.occBody ⟨(pre ++ l).toArray⟩ ⟨#[39]⟩ hi limit)).run.fst.toList = found.toList ++ (plc l pre.length).take (limit - found.size)
  | [], pre, found, free, hh, hf => by
    rw [show ([] : List Nat).length + 1 = 0 + 1 from rfl, List.range'_succ, List.range'_zero, List.forIn_cons]
    unfold PySem.StrLaws.occBody
    rw [if_neg (fun h => by have h2 : pre.length + 1 ≤ hi := h.1.2; simp at hh; omega)]
    show found.toList = _
    simp [plc]
  | c :: l, pre, found, free, hh, hf => by
    rw [show (c :: l).length + 1 = (l.length + 1) + 1 from rfl, List.range'_succ, List.forIn_cons]
    have e : pre ++ c :: l = (pre ++ [c]) ++ l := by simp
    have e1 : pre.length + 1 = (pre ++ [c]).length := by simp
    have hz : hi = (pre ++ [c]).length + l.length := by simp only [List.length_cons, List.length_append, List.length_nil] at hh ⊢; omega
    have step : ∀ st : Array Nat × Nat, st.2 ≤ (pre ++ [c]).length → (forIn (List.range' (pre.length + 1) (l.length + 1)) st (PySem.StrLaws.occBody ⟨(pre ++ c :: l).toArray⟩ ⟨#[39]⟩ hi limit)).run.fst.toList = st.1.toList ++ (plc l (pre.length + 1)).take (limit - st.1.size) := by
      intro st hst
      have := occ_go hi limit l (pre ++ [c]) st.1 st.2 hz hst
      rw [← e, ← e1] at this
      exact this
    unfold PySem.StrLaws.occBody
    by_cases hc : c = 39
    · by_cases hl : found.size < limit
      · rw [if_pos ⟨⟨⟨hl, hf⟩, by show pre.length + 1 ≤ hi; simp only [List.length_append, List.length_cons, List.length_nil] at hz; omega⟩, by rw [subAt_one]; exact decide_eq_true hc⟩]
        refine (step (found.push pre.length, pre.length + 1) (by simp)).trans ?_
        simp only [plc, if_pos hc, Array.toList_push, Array.size_push]
        rw [show limit - found.size = (limit - (found.size + 1)) + 1 by omega, List.take_succ_cons]
        simp
      · rw [if_neg (fun h => hl h.1.1.1)]
        refine (step (found, free) (by simp; omega)).trans ?_
        rw [show limit - found.size = 0 by omega]
        simp
    · rw [if_neg (fun h => hc (by have h2 := h.2; rw [subAt_one] at h2; exact of_decide_eq_true h2))]
      refine (step (found, free) (by simp; omega)).trans ?_
      simp only [plc, if_neg hc]
theorem occ_plc (l : List Nat) (limit : Nat) : PySem.Builtin.Str.occurrences ⟨l.toArray⟩ ⟨#[39]⟩ 0 (Str.length ⟨l.toArray⟩) limit = (plc l 0).take limit := by
  rw [PySem.StrLaws.occ_eq]
  have := occ_go l.length limit l [] #[] 0 (by simp) (Nat.le_refl _)
  exact this.trans (by simp)
theorem plc_none : ∀ (l : List Nat) (i : Nat), (∀ c ∈ l, c ≠ 39) → plc l i = []
  | [], _, _ => rfl
  | c :: r, i, h => by
    rw [plc, if_neg (h c (.head _))]
    exact plc_none r (i + 1) fun x hx => h x (.tail _ hx)
theorem plc_app : ∀ (a b : List Nat) (i : Nat), plc (a ++ b) i = plc a i ++ plc b (i + a.length)
  | [], b, i => rfl
  | c :: r, b, i => by
    have := plc_app r b (i + 1)
    rw [List.cons_append, plc, plc, this]
    have e : i + 1 + r.length = i + (c :: r).length := by simp; omega
    rw [e]
    by_cases hc : c = 39 <;> simp [hc]
noncomputable def parted (a b c : List Nat) : List Nat := a ++ 39 :: (b ++ 39 :: c)
theorem kind39 (x : Str) : ¬ (PySem.Builtin.Str.strKind x < PySem.Builtin.Str.strKind ⟨#[39]⟩) := by
  have : PySem.Builtin.Str.strKind ⟨#[39]⟩ = 1 := by decide +kernel
  rw [this]
  unfold PySem.Builtin.Str.strKind
  split
  · omega
  · split <;> omega
theorem split_parted (a b c : List Nat) (ha : ∀ x ∈ a, x ≠ 39) (hb : ∀ x ∈ b, x ≠ 39) (hc : ∀ x ∈ c, x ≠ 39) :
    Txt.splitMax ⟨(parted a b c).toArray⟩ ⟨#[39]⟩ 2 = [⟨a.toArray⟩, ⟨b.toArray⟩, ⟨c.toArray⟩] := by
  have hp : plc (parted a b c) 0 = [a.length, a.length + 1 + b.length] := by
    unfold parted
    rw [plc_app, plc_none a _ ha, plc, if_pos rfl, plc_app, plc_none b _ hb, plc, if_pos rfl, plc_none c _ hc]
    simp
  unfold Txt.splitMax
  rw [if_neg (by
    rw [Bool.or_eq_true, decide_eq_true_eq, decide_eq_true_eq]
    rintro (h | h)
    · have h2 : (parted a b c).length < 1 := h
      simp [parted] at h2
    · exact kind39 _ h), show PySem.limitOf (Str.mk (parted a b c).toArray) 2 = 2 from rfl, occ_plc, hp]
  rw [if_neg (by simp)]
  show ([(0, a.length), (a.length + 1, a.length + 1 + b.length), (a.length + 1 + b.length + 1, (parted a b c).length)].map fun (p : Nat × Nat) => PySem.Builtin.Str.strSub ⟨(parted a b c).toArray⟩ p.1 p.2) = _
  simp only [List.map_cons, List.map_nil, PySem.Builtin.Str.strSub]
  have e1 : (parted a b c).toArray.extract 0 a.length = a.toArray := by simp [parted]
  have e2 : (parted a b c).toArray.extract (a.length + 1) (a.length + 1 + b.length) = b.toArray := by
    simp only [parted, List.extract_toArray, List.extract_eq_take_drop]
    congr 1
    rw [← List.drop_drop, List.drop_left, show a.length + 1 + b.length - (a.length + 1) = b.length by omega]
    simp
  have e3 : (parted a b c).toArray.extract (a.length + 1 + b.length + 1) (parted a b c).length = c.toArray := by
    have hl : (parted a b c).length = a.length + 1 + b.length + 1 + c.length := by simp [parted]; omega
    rw [hl]
    simp only [parted, List.extract_toArray, List.extract_eq_take_drop]
    congr 1
    rw [show a.length + 1 + b.length + 1 = a.length + (1 + (b.length + 1)) by omega, ← List.drop_drop, List.drop_left, ← List.drop_drop]
    rw [show List.drop 1 (39 :: (b ++ 39 :: c)) = b ++ 39 :: c from rfl, ← List.drop_drop, List.drop_left]
    simp
  rw [e1, e2, e3]
end Mine
open PySem PySem.W PyProof.Rows PySem.Calls
namespace Mine
local macro_rules | `(tactic| walk_at "mine0") => `(tactic| fail)
local macro_rules | `(tactic| walk_at "mine1") => `(tactic| fail)
local macro_rules | `(tactic| walk_at "mine2") => `(tactic| fail)
local macro_rules | `(tactic| walk_at "mine3") => `(tactic| fail)
local macro_rules | `(tactic| walk_at "mine4") => `(tactic| fail)
local macro_rules | `(tactic| walk_at "mine5") => `(tactic| fail)
local macro_rules | `(tactic| walk_at "mine6") => `(tactic| fail)
local macro_rules | `(tactic| walk_at "mine7") => `(tactic| fail)
local macro_rules | `(tactic| walk_at "mine8") => `(tactic| fail)
local macro_rules | `(tactic| walk_at "mine9") => `(tactic| fail)
local macro_rules | `(tactic| walk_at "mine10") => `(tactic| fail)
local macro_rules | `(tactic| walk_at "mine11") => `(tactic| fail)
local macro_rules | `(tactic| walk_at "mine12") => `(tactic| fail)
local macro_rules | `(tactic| walk_at "mine13") => `(tactic| fail)
local macro_rules | `(tactic| walk_at "mine14") => `(tactic| fail)
set_option maxHeartbeats 2000000
theorem values3 {l : List (Str × Tok)} {x y z : Str} (e : l.map (·.1) = [x, y, z]) : ∃ u₁ u₂ u₃, l = [(x, u₁), (y, u₂), (z, u₃)] := by
  obtain ⟨u₁, l1, rfl, e1⟩ := KSpl.cons_of e
  obtain ⟨u₂, l2, rfl, e2⟩ := KSpl.cons_of e1
  obtain ⟨u₃, l3, rfl, e3⟩ := KSpl.cons_of e2
  obtain rfl := KSpl.nil_of e3
  exact ⟨u₁, u₂, u₃, rfl⟩
theorem split3 {prog : Program} {w : World} {A : Around} {E : Value → Shared → Prop} {s : Shared} {h₀ : Heap} {L : Addr} {m : Str → Option Value} {a b c : List Nat} {t u v : Tok} {Q : Value → Shared → Prop} (hF : Fr h₀ L s.heap m)
    (ha : ∀ x ∈ a, x ≠ 39) (hb : ∀ x ∈ b, x ≠ 39) (hc : ∀ x ∈ c, x ≠ 39) (hsz : (parted a b c).length ≤ 1000)
    (h : ∀ D u₁ u₂ u₃ h' tk, Fr h₀ L h' m → News h₀ L h' [(D, { cls := .type "list", data := .seq ([.str ⟨a.toArray⟩ u₁, .str ⟨b.toArray⟩ u₂, .str ⟨c.toArray⟩ u₃] : List Value).toArray })] → Q (.ref D) { s with heap := h', toks := tk }) :
    wpAny (model prog w) A (call (.builtin "str.split") [.str ⟨(parted a b c).toArray⟩ t, .str (Str.ofString "'") u, .int 2 v]) Q E s := by
  refine splitN2A (y := Str.ofString "'") hF News.nil (by rfl) (by decide) ?_ (by show (parted a b c).length + 2 ≤ 16777216; omega)
  intro l h' tk e hs hz hl F N
  have e2 : Str.ofString "'" = ⟨#[39]⟩ := by rfl
  rw [e2, split_parted a b c ha hb hc] at e
  obtain ⟨u₁, u₂, u₃, rfl⟩ := values3 e
  exact h _ u₁ u₂ u₃ h' tk F N
section
local macro_rules | `(tactic| walk_at "Keeps") => `(tactic| exact ⟨_, _, rfl, Fr.keep (by assumption)⟩)
local macro_rules | `(tactic| walk_at "call builtin:str.split") => `(tactic| (k_here; refine split3 (by with_reducible assumption) (by assumption) (by assumption) (by assumption) (by assumption) ?_; intro _ _ _ _ _ _ _ _))
local macro_rules | `(tactic| walk_at "Exists") => `(tactic| exact ⟨_, _, _, _, rfl, News.get (by assumption) (.head _), News.fresh (by assumption) (.head _)⟩)
theorem dec_spec {w : World} {mean : ExcName → Option Value} {mg mb : Str → Option Value} {A : Around} {E : Value → Shared → Prop} {s : Shared} (X : Facts w mean mg mb s.heap) (hh : A.handled = none) (hroom : A.depth + 5 < recursionLimit) (a b c : List Nat) (ha : ∀ x ∈ a, x ≠ 39) (hb : ∀ x ∈ b, x ≠ 39) (hc : ∀ x ∈ c, x ≠ 39) (hsz : (parted a b c).length ≤ 1000) (t : Tok) :
    wpAny (model PySem.Challenge.rw_wa0029_02.row.prog w) A (call (.ref 28) [.str ⟨(parted a b c).toArray⟩ t]) (fun v s' => (∃ l u₁ u₂ u₃, v = .ref l ∧ s'.heap.get? l = some { cls := .type "list", data := .seq #[.str ⟨a.toArray⟩ u₁, .str ⟨b.toArray⟩ u₂, .str ⟨c.toArray⟩ u₃] } ∧ s.heap.get? l = none) ∧ Keeps s s') E s := by
  obtain ⟨ah, ad, af, ag, au⟩ := A
  subst hh
  have KX : (hd.heap_39 w.params).In s.heap := X.K
  revert KX
  k_fill
  intro KX
  have T := X.T
  refine wpAny_call ?_
  refine call_plain_ret (binds := [(Str.ofString "s", .str ⟨(parted a b c).toArray⟩ t)]) (by omega) (KX 28 _ (by k_is)) (by rfl) T.nolimit (codeRec_of KX (by k_is)) (by rfl) (locs (by rfl)) (fun h₁ F => ?_)
  k_steps
end
end Mine
open PySem PySem.W PyProof.Rows PySem.Calls
namespace Mine
open PySem.Builtin
noncomputable def utfOut (l : List UInt8) (k : Nat) : Array Nat := ((l.take k).map UInt8.toNat).toArray
theorem utf_go {S : Type} (l : List UInt8) (f : Nat → Nat × Array Nat × S → Sem (ForInStep (Nat × Array Nat × S))) (hf : ∀ x k st, k < l.length → f x (k, utfOut l k, st) = pure (.yield (k + 1, utfOut l (k + 1), st))) :
    ∀ (n i k : Nat) (st : S), k + n = l.length → forIn (List.range' i n) (k, utfOut l k, st) f = pure (l.length, utfOut l l.length, st)
  | 0, i, k, st, h => by
    have : k = l.length := by omega
    subst this
    rw [List.range'_zero, List.forIn_nil]
  | n + 1, i, k, st, h => by
    rw [List.range'_succ, List.forIn_cons, hf i k st (by omega), pure_bind]
    exact utf_go l f hf n (i + 1) (k + 1) st (by omega)
theorem utf_at (l : List UInt8) (hl : ∀ x ∈ l, x < 128) (k : Nat) (hk : k < l.length) : _codecs.utf8Decoder.find true l.toArray k = .text [l[k].toNat] (k + 1) := by
  have h1 : l.toArray.getD k 0 = l[k] := by simp [hk]
  have h2 : l[k].toNat < 128 := by
    have := hl _ (List.getElem_mem hk)
    exact this
  show (match Bytes.utf8At l.toArray k with
    | (.char c, nx) => _codecs.Found.char c nx
    | (.bad _ stop reason, _) => _) = _
  have h3 : Bytes.utf8At l.toArray k = (.char l[k].toNat, k + 1) := by
    unfold Bytes.utf8At
    simp only [h1]
    rw [if_pos h2]
  rw [h3]
  rfl
theorem utf_run (id : String) (l : List UInt8) (hl : ∀ x ∈ l, x < 128) (hz : l.length ≤ 1000) : _codecs.runDecoder id _codecs.utf8Decoder none true l.toArray 0 [] = pure ((l.map UInt8.toNat).toArray, l.length) := by
  unfold _codecs.runDecoder
  simp
  have e0 : (#[] : Array Nat) = utfOut l 0 := rfl
  rw [e0, utf_go l]
  · simp [utfOut]
  · intro x k st hk
    have hs : (utfOut l k).size = k := by simp [utfOut]; omega
    have h1 : ¬ sizeLine < k := by rw [sizeLine_eq]; omega
    dsimp only
    rw [hs, if_neg h1, if_neg (by omega), utf_at l hl k hk]
    dsimp only
    have : utfOut l k ++ #[l[k].toNat] = utfOut l (k + 1) := by
      unfold utfOut
      rw [List.take_succ_eq_append_getElem hk, List.map_append, List.append_toArray]
      rfl
    rw [← this]
  · omega
end Mine
open PySem PySem.W PyProof.Rows PySem.Calls
namespace Mine
local macro_rules | `(tactic| walk_at "mine0") => `(tactic| fail)
local macro_rules | `(tactic| walk_at "mine1") => `(tactic| fail)
local macro_rules | `(tactic| walk_at "mine2") => `(tactic| fail)
local macro_rules | `(tactic| walk_at "mine3") => `(tactic| fail)
local macro_rules | `(tactic| walk_at "mine4") => `(tactic| fail)
local macro_rules | `(tactic| walk_at "mine5") => `(tactic| fail)
local macro_rules | `(tactic| walk_at "mine6") => `(tactic| fail)
local macro_rules | `(tactic| walk_at "mine7") => `(tactic| fail)
local macro_rules | `(tactic| walk_at "mine8") => `(tactic| fail)
local macro_rules | `(tactic| walk_at "mine9") => `(tactic| fail)
local macro_rules | `(tactic| walk_at "mine10") => `(tactic| fail)
local macro_rules | `(tactic| walk_at "mine11") => `(tactic| fail)
local macro_rules | `(tactic| walk_at "mine12") => `(tactic| fail)
local macro_rules | `(tactic| walk_at "mine13") => `(tactic| fail)
local macro_rules | `(tactic| walk_at "mine14") => `(tactic| fail)
set_option maxHeartbeats 2000000
section
local macro_rules | `(tactic| walk_at "Keeps") => `(tactic| exact ⟨_, _, rfl, Fr.keep (by assumption)⟩)
theorem canon2 {m : Str → Option Value} {a b : Str} {u v : Value} (h1 : m a = some u) (h2 : m b = some v) : m = fun y => if y = a then some u else if y = b then some v else m y := by
  funext y
  by_cases e1 : y = a
  · subst e1; simp [h1]
  · by_cases e2 : y = b
    · subst e2; simp [e1, h2]
    · simp [e1, e2]
theorem gcd_loop {w : World} {mean : ExcName → Option Value} {mg mb : Str → Option Value} {A : Around} {s : Shared} {h₀ : Heap} {L : Addr} {m : Str → Option Value} {x y : Nat} {tx ty : Tok} {Q : Flow → Shared → Prop} {E : Value → Shared → Prop}
    (X : Facts w mean mg mb h₀) (hh : A.handled = none) (F : Fr h₀ L s.heap m) (h1 : m "a" = some (.int x tx)) (h2 : m "b" = some (.int y ty))
    (hQ : ∀ (h' : Heap) (tk : Nat) (u : Tok) (m' : Str → Option Value), Fr h₀ L h' (fun z => if z = "a" then some (.int (Nat.gcd y x : Nat) u) else m' z) → Q .next { s with heap := h', toks := tk })
    (hE : PassesOwn (model PySem.Challenge.rw_wa0029_02.row.prog w) A (envOf "_law_shared" (scopeAt 11) L 99 (.ref 98)) E) :
    wpAny (model PySem.Challenge.rw_wa0029_02.row.prog w) A (exec (stm 11 0) (envOf "_law_shared" (scopeAt 11) L 99 (.ref 98))) Q E s := by
  obtain ⟨ah, ad, af, ag, au⟩ := A
  subst hh
  have KX : (hd.heap_39 w.params).In h₀ := X.K
  revert KX
  k_fill
  intro KX
  have T := X.T
  refine While_inv (fun n m news => ∃ (a b : Nat) (u v : Tok), n = b ∧ m "a" = some (.int a u) ∧ m "b" = some (.int b v) ∧ Nat.gcd b a = Nat.gcd y x) F News.nil ⟨x, y, tx, ty, rfl, h1, h2, rfl⟩ ?_ hE
  rintro n m₁ news₁ h₁ tk₁ F₁ N₁ ⟨a, b, u, v, rfl, g1, g2, g3⟩
  rw [canon2 g1 g2] at F₁
  by_cases hy : n = 0
  · have hy' : ((n : Int) != 0) = false := by subst hy; rfl
    k_steps
    subst hy
    have F₂ := F₁
    rw [← canon2 g1 g2] at F₂
    refine hQ h₁ _ u m₁ ?_
    have e : Nat.gcd y x = a := by rw [← g3, Nat.gcd_zero_left]
    rw [e]
    have e2 : (fun z => if z = Str.ofString "a" then some (Value.int (a : Int) u) else m₁ z) = m₁ := by
      funext z
      by_cases hz : z = Str.ofString "a"
      · subst hz; simp [g1]
      · simp [hz]
    rw [e2]
    exact F₂
  · have hy' : ((n : Int) != 0) = true := by simpa using hy
    have e2 : (a : Int).fmod (n : Int) = ((a % n : Nat) : Int) := by rw [Int.fmod_eq_emod_of_nonneg _ (by omega)]; rfl
    k_steps
    (with_reducible rename Fr _ _ _ _ => F')
    (with_reducible rename News _ _ _ _ => N')
    refine WhileStep.intro (n' := a % n) F' News.nil (Nat.mod_lt _ (by omega)) ?_
    exact ⟨n, a % n, _, _, rfl, rfl, congrArg (fun k => some (Value.int k _)) e2, by rw [← Nat.gcd_rec, g3]⟩
local macro_rules | `(tactic| walk_at "exec While") => `(tactic| (refine gcd_loop (by assumption) (by rfl) (by with_reducible assumption) (by rfl) (by rfl) ?_ (by passes_own); intro _ _ _ _ _))
theorem gcd_spec {w : World} {mean : ExcName → Option Value} {mg mb : Str → Option Value} {A : Around} {E : Value → Shared → Prop} {s : Shared} (X : Facts w mean mg mb s.heap) (hh : A.handled = none) (hroom : A.depth + 5 < recursionLimit) (x y : Nat) (t u : Tok) :
    wpAny (model PySem.Challenge.rw_wa0029_02.row.prog w) A (call (.ref 99) [.int x t, .int y u]) (fun v s' => (∃ u, v = .int (Nat.gcd y x : Nat) u) ∧ Keeps s s') E s := by
  obtain ⟨ah, ad, af, ag, au⟩ := A
  subst hh
  have KX : (hd.heap_39 w.params).In s.heap := X.K
  revert KX
  k_fill
  intro KX
  have T := X.T
  refine wpAny_call ?_
  refine call_plain_ret (binds := [(Str.ofString "a", .int x t), (Str.ofString "b", .int y u)]) (by omega) (KX 99 _ (by k_is)) (by rfl) T.nolimit (codeRec_of KX (by k_is)) (by rfl) (locs (by rfl)) (fun h₁ F => ?_)
  have N : News s.heap s.heap.objs.size h₁ [] := News.nil
  k_steps
end
end Mine
open PySem PySem.W PyProof.Rows PySem.Calls
namespace Mine
set_option maxHeartbeats 2000000
noncomputable def kept (xs : List Nat) : List Nat := xs.filter (fun c : Nat => !b1 c)
noncomputable def ifs : List (Str × Value) → (Str → Option Value) → Str → Option Value
  | [], m => m
  | p :: r, m => fun y => if y = p.1 then some p.2 else ifs r m y
theorem canonL {m : Str → Option Value} : ∀ (l : List (Str × Value)), (∀ p ∈ l, m p.1 = some p.2) → m = ifs l m
  | [], _ => rfl
  | p :: r, h => by
    funext y
    show m y = if y = p.1 then some p.2 else ifs r m y
    rw [← canonL r fun q hq => h q (.tail _ hq)]
    by_cases e : y = p.1
    · subst e; rw [if_pos rfl]; exact h p (.head _)
    · rw [if_neg e]
noncomputable def AllIn (m : Str → Option Value) : List (Str × Value) → Prop
  | [] => True
  | p :: r => m p.1 = some p.2 ∧ AllIn m r
theorem AllIn.mem {m : Str → Option Value} : ∀ {l : List (Str × Value)}, AllIn m l → ∀ p ∈ l, m p.1 = some p.2
  | _ :: _, h, p, hp => by
    rcases List.mem_cons.mp hp with e | hp
    · rw [e]; exact h.1
    · exact h.2.mem p hp
theorem AllIn.of {m : Str → Option Value} : ∀ {l : List (Str × Value)}, (∀ p ∈ l, m p.1 = some p.2) → AllIn m l
  | [], _ => trivial
  | p :: r, h => ⟨h p (.head _), AllIn.of fun q hq => h q (.tail _ hq)⟩
theorem frAt {h₀ : Heap} {h : Heap} {L : Addr} {m : Str → Option Value} (F : Fr h₀ L h m) (l : List (Str × Value)) (hl : AllIn m l) : Fr h₀ L h (ifs l m) := canonL l hl.mem ▸ F
theorem frLook {h₀ : Heap} {h : Heap} {L : Addr} {m : Str → Option Value} (F : Fr h₀ L h m) (l : List (Str × Value)) (hl : AllIn m l) : ∃ m', AllIn m' l ∧ Fr h₀ L h m' := ⟨m, hl, F⟩
theorem getD_lt {l : List Nat} {i : Nat} (h : i < l.length) : l.getD i 0 = l[i] := by
  rw [List.getD_eq_getElem?_getD, List.getElem?_eq_getElem h]
  rfl
theorem iaddT {prog : Program} {w : World} {A : Around} {E : Value → Shared → Prop} {s : Shared} {xs ds : List Nat} {t u : Tok} {Q : Value → Shared → Prop} (hl : xs.length ≤ 10000) (hd : ds.length ≤ 2) (h : ∀ t' k, Q (.str ⟨(xs ++ ds).toArray⟩ t') { s with toks := k }) : wpAny (model prog w) A (inplaceOp .Add (.str ⟨xs.toArray⟩ t) (.str ⟨ds.toArray⟩ u)) Q E s := by
  refine PyProof.Rows.iadd_str (x := ⟨xs.toArray⟩) (y := ⟨ds.toArray⟩) (fun t' tk => ?_) ?_
  · have e : (Str.mk xs.toArray ++ Str.mk ds.toArray : Str) = ⟨(xs ++ ds).toArray⟩ := by
      show (Str.mk (xs.toArray ++ ds.toArray)) = _
      rw [List.append_toArray]
    rw [e]
    exact h t' tk
  · show xs.toArray.size + ds.toArray.size ≤ sizeLine
    rw [sizeLine_eq]
    simp only [List.size_toArray]
    omega
theorem iaddQ {prog : Program} {w : World} {A : Around} {E : Value → Shared → Prop} {s : Shared} {xs : List Nat} {t u : Tok} {Q : Value → Shared → Prop} (hl : xs.length ≤ 10000) (h : ∀ t' k, Q (.str ⟨(xs ++ [39]).toArray⟩ t') { s with toks := k }) : wpAny (model prog w) A (inplaceOp .Add (.str ⟨xs.toArray⟩ t) (.str (Str.ofString "'") u)) Q E s :=
  iaddT (ds := [39]) hl (by decide) h
theorem iadd1 {prog : Program} {w : World} {A : Around} {E : Value → Shared → Prop} {s : Shared} {xs : List Nat} {d : Nat} {t u : Tok} {Q : Value → Shared → Prop} (hl : xs.length ≤ 10000) (h : ∀ t' k, Q (.str ⟨(xs ++ [d]).toArray⟩ t') { s with toks := k }) : wpAny (model prog w) A (inplaceOp .Add (.str ⟨xs.toArray⟩ t) (.str ⟨#[d]⟩ u)) Q E s :=
  iaddT (ds := [d]) hl (by simp) h
noncomputable def SignFor (q d : Nat) : Prop := b1 d = false ∧ signOk d = true ∧ low d = 97 + q
/-- what a text spelled out of ds looks like, as the table and the small letters leave it -/
noncomputable def outs (third : Nat) (ds : List Nat) : Nat → List Nat
  | 0 => []
  | j + 1 => outs third ds j ++ ((if j = third ∨ j = 2 * third then [39] else []) ++ [97 + ds.getD j 0])
structure Txt2 (third : Nat) (ds : List Nat) (i : Nat) (xs : List Nat) : Prop where
  size : xs.length ≤ 3 * i
  ok : ∀ c ∈ kept xs, signOk c = true
  out : (kept xs).map low = outs third ds i
theorem Txt2.step {third : Nat} {ds : List Nat} {i q d : Nat} {xs mute : List Nat} (T : Txt2 third ds i xs) (hd : SignFor q d) (hm : mute.length ≤ 1 ∧ kept mute = []) (hq : ds.getD i 0 = q) :
    Txt2 third ds (i + 1) (xs ++ ((if i = third ∨ i = 2 * third then [39] else []) ++ (mute ++ [d]))) := by
  obtain ⟨h1, h2, h3⟩ := hd
  have k39 : kept [39] = [39] := by decide
  have kd : kept [d] = [d] := by unfold kept; rw [List.filter_cons_of_pos (by rw [h1]; rfl)]; rfl
  have kapp : ∀ a b, kept (a ++ b) = kept a ++ kept b := fun a b => List.filter_append ..
  have hk : kept (xs ++ ((if i = third ∨ i = 2 * third then [39] else []) ++ (mute ++ [d]))) = kept xs ++ ((if i = third ∨ i = 2 * third then [39] else []) ++ [d]) := by
    rw [kapp, kapp, kapp, hm.2, kd, List.nil_append]
    split
    · rw [k39]
    · rfl
  refine ⟨?_, ?_, ?_⟩
  · have := T.size
    rw [List.length_append, List.length_append, List.length_append, List.length_singleton]
    have : (if i = third ∨ i = 2 * third then [39] else ([] : List Nat)).length ≤ 1 := by split <;> simp
    omega
  · rw [hk]
    intro x hx
    rcases List.mem_append.mp hx with hx | hx
    · exact T.ok x hx
    rcases List.mem_append.mp hx with hx | hx
    · split at hx
      · rw [List.mem_singleton.mp hx]; decide
      · cases hx
    · rw [List.mem_singleton.mp hx]; exact h2
  · rw [hk, List.map_append, T.out, outs, List.map_append, hq]
    congr 2
    · split <;> rfl
    · simp [h3]
end Mine
open PySem PySem.W PyProof.Rows PySem.Calls
namespace Mine
local macro_rules | `(tactic| walk_at "mine0") => `(tactic| fail)
local macro_rules | `(tactic| walk_at "mine1") => `(tactic| fail)
local macro_rules | `(tactic| walk_at "mine2") => `(tactic| fail)
local macro_rules | `(tactic| walk_at "mine3") => `(tactic| fail)
local macro_rules | `(tactic| walk_at "mine4") => `(tactic| fail)
local macro_rules | `(tactic| walk_at "mine5") => `(tactic| fail)
local macro_rules | `(tactic| walk_at "mine6") => `(tactic| fail)
local macro_rules | `(tactic| walk_at "mine7") => `(tactic| fail)
local macro_rules | `(tactic| walk_at "mine8") => `(tactic| fail)
local macro_rules | `(tactic| walk_at "mine9") => `(tactic| fail)
local macro_rules | `(tactic| walk_at "mine10") => `(tactic| fail)
local macro_rules | `(tactic| walk_at "mine11") => `(tactic| fail)
local macro_rules | `(tactic| walk_at "mine12") => `(tactic| fail)
local macro_rules | `(tactic| walk_at "mine13") => `(tactic| fail)
local macro_rules | `(tactic| walk_at "mine14") => `(tactic| fail)
set_option maxHeartbeats 8000000
noncomputable abbrev envS (L : Addr) : Env := envOf "_law_spelled" (scopeAt 12) L 106 (.ref 105)
noncomputable def spBody : List Stmt := match stm 12 1 with | .For _ _ b _ _ => b | _ => []
noncomputable def spIter : Expr := match stm 12 1 with | .For _ e _ _ _ => e | _ => default
section
variable {w : World} {mean : ExcName → Option Value} {mg mb : Str → Option Value} {s : Shared} {h₀ : Heap} {L D : Addr} {vs : List Value} {NS : List Int} {Q : Flow → Shared → Prop} {m : Str → Option Value} {own : List (Addr × Obj)} {A : Around} {E : Value → Shared → Prop}
theorem pickAlpha (x : Int) (q : Nat) (hq : q < 16) : ∃ d : Nat, SignFor q d ∧ ([65, 97, 119912, 120224, 120276, 120432] : List Int).getD (x.fmod 6).toNat 0 + ((65 + q : Nat) : Int) - 65 = (d : Int) ∧ d ≤ 1114111 := by
  have h : ∀ (j : Fin 6) (q : Fin 16), (b1 (([65, 97, 119912, 120224, 120276, 120432].getD j.val 0 + q.val : Nat) : Int) = false ∧ signOk ([65, 97, 119912, 120224, 120276, 120432].getD j.val 0 + q.val) = true ∧ low ([65, 97, 119912, 120224, 120276, 120432].getD j.val 0 + q.val) = 97 + q.val) ∧ ([65, 97, 119912, 120224, 120276, 120432] : List Int).getD j.val 0 = (([65, 97, 119912, 120224, 120276, 120432].getD j.val 0 : Nat) : Int) ∧ [65, 97, 119912, 120224, 120276, 120432].getD j.val 0 ≤ 200000 := by decide +kernel
  have h1 : 0 ≤ x.fmod 6 := Int.fmod_nonneg_of_pos _ (by decide)
  have h2 : x.fmod 6 < 6 := Int.fmod_lt_of_pos _ (by decide)
  obtain ⟨h3, h4, h5⟩ := h ⟨(x.fmod 6).toNat, by omega⟩ ⟨q, hq⟩
  dsimp only at h3 h4 h5
  exact ⟨_, h3, by rw [h4]; omega, by omega⟩
theorem chr_alpha {prog : Program} {x : Int} {q : Nat} {t : Tok} {Q : Value → Shared → Prop} (hq : q < 16) (h : ∀ d, SignFor q d → Q (.str ⟨[d].toArray⟩ s.toks) { s with toks := s.toks + 1 }) :
    wpAny (model prog w) A (call (.builtin "chr") [.int (([65, 97, 119912, 120224, 120276, 120432] : List Int).getD (x.fmod 6).toNat 0 + ((65 + q : Nat) : Int) - 65) t]) Q E s := by
  obtain ⟨d, h1, h2, h3⟩ := pickAlpha x q hq
  rw [h2]
  exact chr_of_range (by omega) (by omega) (h d h1)
theorem chr_mute {prog : Program} {x : Int} {t : Tok} {Q : Value → Shared → Prop} (h : ∀ d : Nat, b1 d = true → Q (.str ⟨[d].toArray⟩ s.toks) { s with toks := s.toks + 1 }) :
    wpAny (model prog w) A (call (.builtin "chr") [.int (65024 + x.fmod 16) t]) Q E s := by
  have h0 : ∀ j : Fin 16, b1 ((65024 + j.val : Nat) : Int) = true := by decide +kernel
  have h1 : 0 ≤ x.fmod 16 := Int.fmod_nonneg_of_pos _ (by decide)
  have h2 : x.fmod 16 < 16 := Int.fmod_lt_of_pos _ (by decide)
  have e : 65024 + x.fmod 16 = ((65024 + (x.fmod 16).toNat : Nat) : Int) := by omega
  rw [e]
  exact chr_of_range (by omega) (by omega) (h _ (h0 ⟨(x.fmod 16).toNat, by omega⟩))
local macro_rules | `(tactic| walk_at "call builtin:chr") => `(tactic| (k_here; first | (refine chr_alpha (by assumption) ?_; intro _ _) | (refine chr_mute ?_; intro _ _)))
local macro_rules | `(tactic| walk_at "inplaceOp Add str str") => `(tactic| (k_here; first | (refine iaddQ (by first | omega | (simp only [List.length_append, List.length_cons, List.length_nil]; omega)) ?_; intro _ _) | (refine iadd1 (by first | omega | (simp only [List.length_append, List.length_cons, List.length_nil]; omega)) ?_; intro _ _)))
theorem tick_any {i third : Nat} : ([(third : Int), 2 * (third : Int)].any fun x => x == (i : Int)) = true ↔ (i = third ∨ i = 2 * third) := by
  simp only [List.any_cons, List.any_nil, Bool.or_false, Bool.or_eq_true, beq_iff_eq]
  omega
theorem mute1 {c : Nat} (h : b1 c = true) : [c].length ≤ 1 ∧ kept [c] = [] := by
  refine ⟨by simp, ?_⟩
  unfold kept
  rw [List.filter_cons_of_neg (by rw [h]; simp)]
  rfl
theorem sp_turn {i q third : Nat} {xs : List Nat} {t1 t2 t3 t4 : Tok}
    (X : Facts w mean mg mb h₀) (hh : A.handled = none) (hI : IntsAre vs NS) (hN : 6 ≤ NS.length) (hN2 : NS.length ≤ 100) (hq : q < 16) (hL : h₀.IsList D vs.toArray)
    (F : Fr h₀ L s.heap (fun y => if y = "letter" then some (.str ⟨#[65 + q]⟩ t1) else if y = "k" then some (.int i t2) else if y = "text" then some (.str ⟨xs.toArray⟩ t4) else if y = "third" then some (.int third t3) else if y = "numbers" then some (.ref D) else m y))
    (N : News h₀ L s.heap own) (hx : xs.length ≤ 3000)
    (hQ : ∀ h' tk d mute u m', SignFor q d → (mute.length ≤ 1 ∧ kept mute = []) → Fr h₀ L h' m' → News h₀ L h' own → m' "text" = some (.str ⟨(xs ++ ((if i = third ∨ i = 2 * third then [39] else []) ++ (mute ++ [d]))).toArray⟩ u) →
      m' "third" = some (.int third t3) → m' "numbers" = some (.ref D) → Q .next { s with heap := h', toks := tk }) :
    wpAny (model PySem.Challenge.rw_wa0029_02.row.prog w) A (execs spBody (envS L)) Q E s := by
  obtain ⟨ah, ad, af, ag, au⟩ := A
  subst hh
  have KX : (hd.heap_39 w.params).In h₀ := X.K
  revert KX
  k_fill
  intro KX
  have T := X.T
  have hst : spBody = spBody := rfl
  conv at hst => { rhs; whnf }
  rw [hst]
  clear hst
  k_steps
  all_goals (with_reducible rename Fr _ _ _ _ => F')
  all_goals (with_reducible rename News _ _ _ _ => N')
  all_goals (with_reducible rename SignFor _ _ => hd')
  · (rename ((List.any _ _) = true) => e1; rw [tick_any] at e1)
    (rename (b1 _ = true) => e2)
    have h1 : ∀ c d, xs ++ [39] ++ [c] ++ [d] = xs ++ ((if i = third ∨ i = 2 * third then [39] else []) ++ ([c] ++ [d])) := fun c d => by rw [if_pos e1]; simp only [List.append_assoc]
    exact hQ _ _ _ _ _ _ hd' (mute1 e2) F' (fun q hq => N' q (.tail _ (.tail _ hq))) (congrArg (fun l => some (Value.str ⟨List.toArray l⟩ _)) (h1 _ _)) rfl rfl
  · (rename ((List.any _ _) = true) => e1; rw [tick_any] at e1)
    have h1 : ∀ d, xs ++ [39] ++ [d] = xs ++ ((if i = third ∨ i = 2 * third then [39] else []) ++ ([] ++ [d])) := fun d => by rw [if_pos e1]; simp only [List.append_assoc, List.nil_append]
    exact hQ _ _ _ [] _ _ hd' ⟨by simp, rfl⟩ F' (fun q hq => N' q (.tail _ (.tail _ hq))) (congrArg (fun l => some (Value.str ⟨List.toArray l⟩ _)) (h1 _)) rfl rfl
  · (rename ((List.any _ _) = false) => e1; rw [← Bool.not_eq_true, tick_any] at e1)
    (rename (b1 _ = true) => e2)
    have h1 : ∀ c d, xs ++ [c] ++ [d] = xs ++ ((if i = third ∨ i = 2 * third then [39] else []) ++ ([c] ++ [d])) := fun c d => by rw [if_neg e1]; simp only [List.append_assoc, List.nil_append]
    exact hQ _ _ _ _ _ _ hd' (mute1 e2) F' (fun q hq => N' q (.tail _ (.tail _ hq))) (congrArg (fun l => some (Value.str ⟨List.toArray l⟩ _)) (h1 _ _)) rfl rfl
  · (rename ((List.any _ _) = false) => e1; rw [← Bool.not_eq_true, tick_any] at e1)
    have h1 : ∀ d, xs ++ [d] = xs ++ ((if i = third ∨ i = 2 * third then [39] else []) ++ ([] ++ [d])) := fun d => by rw [if_neg e1]; simp only [List.append_assoc, List.nil_append]
    exact hQ _ _ _ [] _ _ hd' ⟨by simp, rfl⟩ F' (fun q hq => N' q (.tail _ (.tail _ hq))) (congrArg (fun l => some (Value.str ⟨List.toArray l⟩ _)) (h1 _)) rfl rfl
end
end Mine
open PySem PySem.W PyProof.Rows PySem.Calls
namespace Mine
set_option maxHeartbeats 8000000
section
variable {w : World} {mean : ExcName → Option Value} {mg mb : Str → Option Value} {s : Shared} {h₀ : Heap} {L D : Addr} {vs : List Value} {NS : List Int} {m : Str → Option Value} {own : List (Addr × Obj)} {A : Around} {E : Value → Shared → Prop}
section
local macro_rules | `(tactic| walk_at "call type:enumerate") => `(tactic| (k_here; refine call_enum_str (by rfl) (by with_reducible assumption) (by with_reducible assumption) (by assumption)))
theorem sp_iter {x : Str} {t : Tok} {Q : Value → Shared → Prop} (X : Facts w mean mg mb h₀) (hh : A.handled = none)
    (F : Fr h₀ L s.heap (fun y => if y = "letters" then some (.str x t) else m y)) (N : News h₀ L s.heap own)
    (hQ : ∀ h' e, Fr h₀ L h' (fun y => if y = "letters" then some (.str x t) else m y) → News h₀ L h' own → PairSrcL PySem.Challenge.rw_wa0029_02.row.prog w A E h₀ L ItemKind.str (signs x) (.ref e) { s with heap := h' } (fun y => if y = "letters" then some (.str x t) else m y) own → Q (.ref e) { s with heap := h' }) :
    wpAny (model PySem.Challenge.rw_wa0029_02.row.prog w) A (eval spIter (envS L)) Q E s := by
  obtain ⟨ah, ad, af, ag, au⟩ := A
  subst hh
  have KX : (hd.heap_39 w.params).In h₀ := X.K
  revert KX
  k_fill
  intro KX
  have T := X.T
  have hst : spIter = spIter := rfl
  conv at hst => { rhs; whnf }
  rw [hst]
  clear hst
  k_steps
  all_goals exact hQ _ _ (by assumption) (by assumption) (by assumption)
end
theorem sp_loop {ds : List Nat} {third : Nat} {t3 t5 t6 : Tok} {Q : Flow → Shared → Prop}
    (X : Facts w mean mg mb h₀) (hh : A.handled = none) (hI : IntsAre vs NS) (hN : 6 ≤ NS.length) (hN2 : NS.length ≤ 100) (hL : h₀.IsList D vs.toArray) (hds : ∀ x ∈ ds, x < 16) (hlen : ds.length ≤ 500)
    (F : Fr h₀ L s.heap m) (h1 : m "text" = some (.str ⟨([] : List Nat).toArray⟩ t3)) (h2 : m "letters" = some (.str ⟨(ds.map (65 + ·)).toArray⟩ t5)) (h3 : m "third" = some (.int third t6)) (h4 : m "numbers" = some (.ref D))
    (N : News h₀ L s.heap own)
    (hQ : ∀ h' tk xs u (m' : Str → Option Value), Txt2 third ds ds.length xs → Fr h₀ L h' (fun y => if y = "text" then some (.str ⟨xs.toArray⟩ u) else m' y) → News h₀ L h' own → Q .next { s with heap := h', toks := tk })
    (hE : PassesOwn (model PySem.Challenge.rw_wa0029_02.row.prog w) A (envS L) E) :
    wpAny (model PySem.Challenge.rw_wa0029_02.row.prog w) A (exec (stm 12 1) (envS L)) Q E s := by
  have F := frAt F [("letters", _)] ⟨h2, trivial⟩
  refine For_pair3F F hh (by rfl) (by rfl) (by rfl) ?_ (by intro x; rfl) hE
  refine sp_iter X hh F N ?_
  intro h' e F' N' S
  refine (S.at _ rfl) _ _ _ _ (fun i m₁ news₁ => news₁ = own ∧ ∃ xs t, Txt2 third ds i xs ∧ m₁ "text" = some (.str ⟨xs.toArray⟩ t) ∧ m₁ "third" = some (.int third t6) ∧ m₁ "numbers" = some (.ref D)) ?_ ?_ ?_
  · exact ⟨rfl, [], t3, ⟨Nat.le_refl _, fun c hc => (by cases hc), rfl⟩, h1, h3, h4⟩
  · rintro i a t v m₁ news₁ s₁ own₁ ⟨h5, tk5, rfl⟩ ha ⟨t1, rfl⟩ ⟨rfl, xs, t4, hT, g1, g2, g3⟩ hsame hap F₁ N₁
    have hi : i < ds.length := by
      have := (List.getElem?_eq_some_iff.mp ha).1
      rw [signs_def, List.length_map] at this
      simpa using this
    obtain ⟨q, hq1, hq2, rfl⟩ : ∃ q, ds.getD i 0 = q ∧ q < 16 ∧ a = ⟨#[65 + q]⟩ := by
      refine ⟨_, rfl, ?_, ?_⟩
      · rw [getD_lt hi]
        exact hds _ (List.getElem_mem hi)
      · have : (signs ⟨(ds.map (65 + ·)).toArray⟩)[i]? = some ⟨#[65 + ds.getD i 0]⟩ := by
          rw [signs_def]
          show ((ds.map (65 + ·)).map fun n => (⟨#[n]⟩ : Str))[i]? = _
          rw [List.map_map, List.getElem?_map, List.getElem?_eq_getElem hi, getD_lt hi]
          rfl
        rw [this] at ha
        exact (Option.some.inj ha).symm
    rw [canonL (m := m₁) [("text", _), ("third", _), ("numbers", _)] (AllIn.mem ⟨g1, g2, g3, trivial⟩)] at F₁
    refine wpAny_mono (sp_turn (i := i) (q := q) (third := third) (xs := xs) (t1 := t1) (t2 := t) (t3 := t6) (t4 := t4) (m := m₁) (D := D) (own := own₁ ++ news₁) X hh hI hN hN2 hq2 hL F₁ N₁ (by have := hT.size; omega) ?_) (fun _ _ h => h) (fun _ _ h => h)
    intro h' tk d mute u m' hd hm F' N' k1 k2 k3
    exact LoopStep3.of2 (LoopStep2.intro F' N' rfl ⟨rfl, _, u, hT.step hd hm hq1, k1, k2, k3⟩)
  · intro h2 tk m' news' F₂ N₂ _ hJ
    obtain ⟨rfl, xs, t, hT, g1, _⟩ := hJ
    have e : (signs ⟨(ds.map (65 + ·)).toArray⟩).length = ds.length := by rw [signs_def, List.length_map]; simp
    rw [e] at hT
    exact hQ h2 tk xs t m' hT (frAt F₂ [("text", _)] ⟨g1, trivial⟩) N₂
local macro_rules | `(tactic| walk_at "Keeps") => `(tactic| exact ⟨_, _, rfl, Fr.keep (by assumption)⟩)
noncomputable def TxtV (third : Nat) (ds : List Nat) (v : Value) : Prop := ∃ xs u, v = .str ⟨xs.toArray⟩ u ∧ Txt2 third ds ds.length xs
local macro_rules | `(tactic| walk_at "TxtV") => `(tactic| exact ⟨_, _, rfl, by assumption⟩)
local macro_rules | `(tactic| walk_at "exec For Tuple Call") => `(tactic| (k_here; k_dflt (refine sp_loop (by assumption) (by rfl) (by assumption) (by assumption) (by assumption) (by assumption) (by assumption) (by assumption) (by with_reducible assumption) (by rfl) (by rfl) (by rfl) (by rfl) (by with_reducible assumption) ?_ (by passes_own)); intro _ _ _ _ _ _ _ _))
theorem sp_spec {ds : List Nat} {third : Nat} (X : Facts w mean mg mb s.heap) (hh : A.handled = none) (hroom : A.depth + 5 < recursionLimit) (hI : IntsAre vs NS) (hN : 6 ≤ NS.length) (hN2 : NS.length ≤ 100) (hL : s.heap.IsList D vs.toArray) (hds : ∀ x ∈ ds, x < 16) (hlen : ds.length ≤ 500) (t u : Tok) :
    wpAny (model PySem.Challenge.rw_wa0029_02.row.prog w) A (call (.ref 106) [.str ⟨(ds.map (65 + ·)).toArray⟩ t, .int third u, .ref D]) (fun v s' => TxtV third ds v ∧ Keeps s s') E s := by
  obtain ⟨ah, ad, af, ag, au⟩ := A
  subst hh
  have KX : (hd.heap_39 w.params).In s.heap := X.K
  revert KX
  k_fill
  intro KX
  have T := X.T
  refine wpAny_call ?_
  refine call_plain_ret (binds := [(Str.ofString "letters", .str ⟨(ds.map (65 + ·)).toArray⟩ t), (Str.ofString "third", .int third u), (Str.ofString "numbers", .ref D)]) (by omega) (KX 106 _ (by k_is)) (by rfl) T.nolimit (codeRec_of KX (by k_is)) (by rfl) (locs (by rfl)) (fun h₁ F => ?_)
  have N : News s.heap s.heap.objs.size h₁ [] := News.nil
  k_steps
end
end Mine
open PySem PySem.W PyProof.Rows PySem.Calls
namespace Mine
local macro_rules | `(tactic| walk_at "mine0") => `(tactic| fail)
local macro_rules | `(tactic| walk_at "mine1") => `(tactic| fail)
local macro_rules | `(tactic| walk_at "mine2") => `(tactic| fail)
local macro_rules | `(tactic| walk_at "mine3") => `(tactic| fail)
local macro_rules | `(tactic| walk_at "mine4") => `(tactic| fail)
local macro_rules | `(tactic| walk_at "mine5") => `(tactic| fail)
local macro_rules | `(tactic| walk_at "mine6") => `(tactic| fail)
local macro_rules | `(tactic| walk_at "mine7") => `(tactic| fail)
local macro_rules | `(tactic| walk_at "mine8") => `(tactic| fail)
local macro_rules | `(tactic| walk_at "mine9") => `(tactic| fail)
local macro_rules | `(tactic| walk_at "mine10") => `(tactic| fail)
local macro_rules | `(tactic| walk_at "mine11") => `(tactic| fail)
local macro_rules | `(tactic| walk_at "mine12") => `(tactic| fail)
local macro_rules | `(tactic| walk_at "mine13") => `(tactic| fail)
local macro_rules | `(tactic| walk_at "mine14") => `(tactic| fail)
set_option maxHeartbeats 2000000
section
variable {prog : Program} {w : World} {A : Around} {E : Value → Shared → Prop} {s : Shared} {env : Env}
/-- a comprehension whose target is a pair, over anything that walks in pairs; its elements leave the heap as it is but for new objects -/
theorem pairs_block {elt iter : PySem.Expr} {a b : Str} {pa pb tp : Pos} {kk : Nat} {scope : Scope} {cl : List (Str × Addr)} {pos : Pos} {s₂ : Shared} {I : Addr} {fp wr : List Addr} {n : Nat} {Pt : Nat → Array Value → Prop} {St : Nat → Heap → Prop} {Mid : Nat → Addr → Heap → Prop} {P2 : Nat → Value → Value → Prop} (G : Nat → Value → Prop) {RR : Value → Addr → Result → Shared → Prop}
    (hh : A.handled = none) (W : WalksT prog w A I fp wr n Pt St Mid) (h2 : ∀ i vals, Pt i vals → ∃ v0 v1, vals = #[v0, v1] ∧ P2 i v0 v1) (hsz : n ≤ sizeLine)
    (hcell : ∀ y ∈ scope.names, y.2 ≠ .cell) (hkind : scope.kind = .function) (hxa : scope.names.lookup a = some .local) (hxb : scope.names.lookup b = some .local) (hab : ¬ a = b)
    (hst : St 0 s₂.heap) (hfp : ∀ c ∈ fp, c < s₂.heap.objs.size)
    (hel : ∀ C i v0 v1 s₃ m₃ E', s₂.heap.objs.size ≤ C → i < n → P2 i v0 v1 → s₃.heap.Ns C m₃ → m₃ a = some v0 → m₃ b = some v1 → (∀ c o, c ∉ wr → s₂.heap.get? c = some o → s₃.heap.get? c = some o) →
      wpAny (model prog w) A (eval elt (compEnvC scope cl C env)) (fun y s₄ => G i y ∧ Keeps s₃ s₄) E' s₃)
    (hRR : ∀ D C h' tk m' ys, s₂.heap.get? D = none → s₂.heap.get? C = none → D ≠ C → h'.Ns C m' → h'.get? D = some { cls := .type "list", data := .seq ys n } → ys.size = n → (∀ (i : Nat) (y : Value), ys[i]? = some y → G i y) →
      (∀ c o, c ∉ wr → s₂.heap.get? c = some o → h'.get? c = some o) → RR (.ref D) C (.ok .next) { s₂ with heap := h', toks := tk }) :
    wpAny (model prog w) A (newList []) (fun acc s₃ => wpAny (model prog w) A (newFunctionEnv scope env.globals cl [] env.qual none .none (some env)) (fun cenv s₄ =>
      codeAny (model prog w) A (.compStart (.ListComp elt [⟨.Tuple [.Name a pa, .Name b pb] kk tp, iter, [], 0⟩] scope pos) 0 (.ref I) acc { cenv with scope := relabel scope env }) (RR acc cenv.locals) s₄) E s₃) E s₂ := by
  refine wpAny_newObj_type (wpAny_newFunctionEnv hcell (by intro y hy; simp at hy) (fun h₁ hns₁ hsb₁ => ?_) hkind)
  dsimp only at hns₁ hsb₁ ⊢
  generalize hH2 : s₂.heap.push { cls := .type "list", dict := none, data := .seq ([] : List Value).toArray } = H2 at hns₁ hsb₁ ⊢
  have hC : H2.objs.size = s₂.heap.objs.size + 1 := by rw [← hH2, Heap.size_push]
  have hDC : s₂.heap.objs.size ≠ H2.objs.size := by rw [hC]; exact Nat.ne_of_lt (Nat.lt_succ_self _)
  have hCle : s₂.heap.objs.size ≤ H2.objs.size := by rw [hC]; exact Nat.le_succ _
  have below : ∀ c, c < s₂.heap.objs.size → c ≠ H2.objs.size ∧ c ≠ s₂.heap.objs.size := fun c hb => ⟨by rw [hC]; exact Nat.ne_of_lt (Nat.lt_succ_of_lt hb), Nat.ne_of_lt hb⟩
  have hDf : s₂.heap.objs.size ∉ fp := fun hm => Nat.lt_irrefl _ (hfp _ hm)
  have hCf : H2.objs.size ∉ fp := fun hm => by have := hfp _ hm; rw [hC] at this; exact Nat.lt_irrefl _ (Nat.lt_of_succ_lt this)
  have hDw : s₂.heap.objs.size ∉ wr := fun hm => hDf (W.sub _ hm)
  have hCw : H2.objs.size ∉ wr := fun hm => hCf (W.sub _ hm)
  have old : ∀ c o, s₂.heap.get? c = some o → h₁.get? c = some o := fun c o e => hsb₁.extBut c o (below c (Heap.lt_size e)).1 (Heap.get?_push_of_some _ (hH2 ▸ Heap.get?_push_of_some _ e))
  have hacc : h₁.get? s₂.heap.objs.size = some { cls := .type "list", data := .seq #[] 0 } := hsb₁.extBut _ _ hDC (Heap.get?_push_of_some _ (hH2 ▸ Heap.get?_push_size _ rfl))
  have hst₁ : St 0 h₁ := W.frame _ _ _ hst fun c _ o e => old c o e
  have fresh : ∀ c, s₂.heap.objs.size ≤ c → s₂.heap.get? c = none := fun c ha => by
    cases e : s₂.heap.get? c with
    | none => rfl
    | some o' => exact absurd (Heap.lt_size e) (Nat.not_lt.mpr ha)
  have loop : ∀ s₃ : Shared, s₃ = { s₂ with heap := h₁, toks := s₂.toks + ([] : List (Str × Value)).length } →
      codeAny (model prog w) A (.compLoop (.ListComp elt [⟨.Tuple [.Name a pa, .Name b pb] kk tp, iter, [], 0⟩] scope pos) 0 (.ref I) (.ref s₂.heap.objs.size) (compEnvC scope cl H2.objs.size env))
        (RR (.ref s₂.heap.objs.size) H2.objs.size) s₃ := by
    rintro s₃ rfl
    refine kcp_loop
      (fun k s' => ∃ h' tk i ys m', s' = { s₂ with heap := h', toks := tk } ∧ i ≤ n ∧ k = n + 1 - i ∧ ys.size = i ∧ St i h' ∧ h'.Ns H2.objs.size m' ∧
        h'.get? s₂.heap.objs.size = some { cls := .type "list", data := .seq ys i } ∧ (∀ (j : Nat) (y : Value), ys[j]? = some y → G j y) ∧ (∀ c o, c ∉ wr → s₂.heap.get? c = some o → h'.get? c = some o)) ?_ (n + 1)
      ⟨h₁, _, 0, #[], _, rfl, Nat.zero_le _, rfl, rfl, hst₁, hns₁, hacc, fun j y e => by simp at e, fun c o _ e => old c o e⟩
    rintro k s' ⟨h', tk, i, ys, m', rfl, hi, rfl, hyl, hst', hn', hD', hG', hk'⟩
    by_cases hlt : i < n
    · refine W.item i _ _ _ hlt hst' fun T vals h₂ tk₂ hPt _ hT hMid hk₂ => ?_
      obtain ⟨v0, v1, rfl, hP2⟩ := h2 i vals hPt
      refine W.go _ kk tp i T _ _ _ hMid fun h₃ hst₃ hk₃ => ?_
      have hT₃ : h₃.IsTuple T #[v0, v1] := hT.at fun o e => hk₃ T o (W.apart i T h₂ hMid) e
      have up₃ : ∀ c o, c ∉ wr → h'.get? c = some o → h₃.get? c = some o := fun c o hc e => hk₃ c o hc (hk₂ c o hc e)
      refine kcp_assign (env := compEnvC scope cl H2.objs.size env) hh hT₃ (lookup_relabel_local hxa) (lookup_relabel_local hxb) (by simp [compEnvC, relabel, hkind]) (hn'.at' fun o e => up₃ _ o hCw e) fun h₄ tk₄ hn₄ hs₄ => ?_
      have up : ∀ c o, c ∉ wr → c ≠ H2.objs.size → h'.get? c = some o → h₄.get? c = some o := fun c o h1 h2 e => hs₄ c o h2 (up₃ c o h1 e)
      have hst₄ : St (i + 1) h₄ := W.frame _ _ _ hst₃ fun c hc o e => hs₄ c o (fun q => hCf ((show c = H2.objs.size from q) ▸ hc)) e
      refine wpAny_mono (hel H2.objs.size i v0 v1 { s₂ with heap := h₄, toks := tk₄ } _ _ hCle hlt hP2 hn₄ (by simp [hab]) (by simp) fun c o hc e => up c o hc (below c (Heap.lt_size e)).1 (hk' c o hc e)) (fun y s₅ h₅ => ?_) fun _ _ e => e
      obtain ⟨hGy, h₅, tk₅, rfl, hk₅⟩ := h₅
      have hD₅ : h₅.get? s₂.heap.objs.size = some { cls := .type "list", data := .seq ys i } := hk₅ _ _ (up _ _ hDw hDC hD')
      refine append_at (hsz := by rw [hyl]; exact Nat.le_trans hi hsz) hD₅ fun h₆ hs₆ hD₆ => ?_
      refine ⟨n + 1 - (i + 1), by omega, h₆, tk₅, i + 1, ys.push y, _, rfl, hlt, rfl, by rw [Array.size_push, hyl], ?_, ((hn₄.at' fun o e => hk₅ _ o e).sameBut hs₆ (Ne.symm hDC)), hD₆, ?_, ?_⟩
      · exact W.frame _ _ _ hst₄ fun c hc o e => hs₆.extBut c o (fun q => hDf (q ▸ hc)) (hk₅ c o e)
      · intro j z hj
        rw [Array.getElem?_push] at hj
        split at hj
        · next q => cases hj; rw [q, hyl]; exact hGy
        · exact hG' j z hj
      · exact fun c o hc e => hs₆.extBut c o (below c (Heap.lt_size e)).2 (hk₅ c o (up c o hc (below c (Heap.lt_size e)).1 (hk' c o hc e)))
    · have hin : i = n := by omega
      subst hin
      refine W.done _ _ _ hst' fun h₂ tk₂ hk₂ => ?_
      exact hRR _ _ h₂ tk₂ _ ys (fresh _ (Nat.le_refl _)) (fresh _ hCle) hDC (hn'.at' fun o e => hk₂ _ o hCw e) (hk₂ _ _ hDw hD') hyl hG' fun c o hc e => hk₂ c o hc (hk' c o hc e)
  exact codeAny_compStart_list (loop _ rfl) (W.self 0 _ _ _ hst₁ (loop _ rfl))
theorem wpAny_ListComp_pairs {elt iter : PySem.Expr} {a b : Str} {pa pb tp : Pos} {kk : Nat} {scope : Scope} {cl : List (Str × Addr)} {pos : Pos} {Q : Value → Shared → Prop} (G : Nat → Value → Prop)
    (hh : A.handled = none) (hclos : closureFor scope env = pure cl) (hcell : ∀ y ∈ scope.names, y.2 ≠ .cell) (hkind : scope.kind = .function)
    (hnames : ∀ y ∈ scope.names, y.2 = .local → scope.names.lookup y.1 = some .local) (hxa : scope.names.lookup a = some .local) (hxb : scope.names.lookup b = some .local) (hab : ¬ a = b)
    (h : wpAny (model prog w) A (eval iter env) (fun xv s₁ => wpAny (model prog w) A (pyIter xv) (fun it s₂ => ∃ (I : Addr) (fp wr : List Addr) (n : Nat) (Pt : Nat → Array Value → Prop) (St : Nat → Heap → Prop) (Mid : Nat → Addr → Heap → Prop) (P2 : Nat → Value → Value → Prop), it = .ref I ∧ WalksT prog w A I fp wr n Pt St Mid ∧ (∀ i vals, Pt i vals → ∃ v0 v1, vals = #[v0, v1] ∧ P2 i v0 v1) ∧ n ≤ sizeLine ∧ St 0 s₂.heap ∧ (∀ c ∈ fp, c < s₂.heap.objs.size) ∧
      (∀ C i v0 v1 s₃ m₃ E', s₂.heap.objs.size ≤ C → i < n → P2 i v0 v1 → s₃.heap.Ns C m₃ → m₃ a = some v0 → m₃ b = some v1 → (∀ c o, c ∉ wr → s₂.heap.get? c = some o → s₃.heap.get? c = some o) →
        wpAny (model prog w) A (eval elt (compEnvC scope cl C env)) (fun y s₄ => G i y ∧ Keeps s₃ s₄) E' s₃) ∧
      (∀ D h' tk ys, s₂.heap.get? D = none → h'.get? D = some { cls := .type "list", data := .seq ys n } → ys.size = n → (∀ (i : Nat) (y : Value), ys[i]? = some y → G i y) →
        (∀ c o, c ∉ wr → s₂.heap.get? c = some o → h'.get? c = some o) → Q (.ref D) { s₂ with heap := h', toks := tk })) E s₁) E s)
    (hs : ∀ x, foldedSetIterable iter env x = pure x := by intro _; rfl) :
    wpAny (model prog w) A (eval (.ListComp elt [⟨.Tuple [.Name a pa, .Name b pb] kk tp, iter, [], 0⟩] scope pos) env) Q E s := by
  rw [eval_ListComp]
  refine wpAny_comprehension_free (use := none) rfl hs hclos hkind hnames (wpAny_mono h (fun xv s₁ h₁ => wpAny_mono h₁ (fun it s₂ h₂ => ?_) fun _ _ e => e) fun _ _ e => e)
  obtain ⟨I, fp, wr, n, Pt, St, Mid, P2, rfl, W, h2, hsz, hst, hfp, hel, hQ⟩ := h₂
  refine pairs_block (RR := fun acc C => compPost (model prog w) A E none Q acc C) G hh W h2 hsz hcell hkind hxa hxb hab hst hfp hel ?_
  intro D C h' tk m' ys hD hC hDC hn hl hlen hP hk
  exact ⟨m', hn, fun h'' hs'' => hQ D h'' tk ys hD (hs''.extBut _ _ hDC hl) hlen hP fun c o hcf e => hs''.extBut c o (by rintro rfl; rw [hC] at e; cases e) (hk c o hcf e)⟩
end
end Mine
open PySem PySem.W PyProof.Rows PySem.Calls
namespace Mine
set_option maxHeartbeats 2000000
noncomputable abbrev envV (L : Addr) : Env := envOf "_law_value" (scopeAt 13) L 111 (.ref 110)
noncomputable def comp13 : PySem.Expr := match stm 13 0 with | .Return (some (.Call _ [c] _ _)) _ => c | _ => default
noncomputable def elt13 : PySem.Expr := match comp13 with | .ListComp e _ _ _ => e | _ => default
noncomputable def iter13 : PySem.Expr := match comp13 with | .ListComp _ [⟨_, e, _, _⟩] _ _ => e | _ => default
noncomputable def scope13 : Scope := match comp13 with | .ListComp _ _ sc _ => sc | _ => scopeAt 13
/-- what enumerate over a text walks -/
noncomputable def EnumTxt (prog : Program) (w : World) (A : Around) (h₀ : Heap) (L : Addr) (own : List (Addr × Obj)) (x : Str) (e : Addr) (h : Heap) : Prop :=
  ∃ (fp wr : List Addr) (Pt : Nat → Array Value → Prop) (St : Nat → Heap → Prop) (Mid : Nat → Addr → Heap → Prop), WalksT prog w A e fp wr x.cps.size Pt St Mid ∧
    (∀ i vals, Pt i vals → ∃ v0 v1, vals = #[v0, v1] ∧ (∃ t, v0 = .int i t) ∧ ∃ c u, x.cps[i]? = some c ∧ v1 = Value.str ⟨#[c]⟩ u) ∧ St 0 h ∧ (∀ c ∈ fp, c < h.objs.size) ∧ (∀ c ∈ wr, h₀.get? c = none ∧ c ≠ L ∧ ∀ q ∈ own, c ≠ q.1)
section
variable {w : World} {mean : ExcName → Option Value} {mg mb : Str → Option Value} {s : Shared} {h₀ : Heap} {L C D : Addr} {vs : List Value} {NS : List Int} {m : Str → Option Value} {own : List (Addr × Obj)} {A : Around} {E : Value → Shared → Prop}
theorem enum_call {prog : Program} {x : Str} {t : Tok} {Q : Value → Shared → Prop} (hh : A.handled = none) (F : Fr h₀ L s.heap m) (N : News h₀ L s.heap own)
    (h : ∀ h' e, Fr h₀ L h' m → News h₀ L h' own → EnumTxt prog w A h₀ L own x e h' → Q (.ref e) { s with heap := h' }) :
    wpAny (model prog w) A (call (.type "enumerate") [.str x t]) Q E s := by
  have hLs : L < s.heap.objs.size := F.ns.lt
  have hab : h₀.objs.size ≤ L := F.above
  refine call_enumerate_str fun h' he hit hsz hk => ?_
  have F' : Fr h₀ L h' m := ⟨F.ns.keeps hk, fun b o e => hk b o (F.keep b o e), F.above⟩
  have N' : News h₀ L h' own := fun p hp => ⟨hk _ _ (N p hp).1, (N p hp).2⟩
  refine h h' _ F' N' ?_
  have side1 : s.heap.objs.size + 1 ∉ [s.heap.objs.size] := fun hm => Nat.succ_ne_self _ (List.mem_singleton.mp hm)
  have hfp : ∀ c ∈ [s.heap.objs.size + 1, s.heap.objs.size], c < h'.objs.size := fun c hc => by
    rw [hsz]
    rcases List.mem_cons.mp hc with rfl | hc
    · exact Nat.lt_succ_self _
    · rw [List.mem_singleton.mp hc]; exact Nat.lt_succ_of_lt (Nat.lt_succ_self _)
  have hwr : ∀ c ∈ [s.heap.objs.size + 1, s.heap.objs.size], h₀.get? c = none ∧ c ≠ L ∧ ∀ q ∈ own, c ≠ q.1 := fun c hc => by
    have hge : s.heap.objs.size ≤ c := by
      rcases List.mem_cons.mp hc with rfl | hc
      · exact Nat.le_succ _
      · rw [List.mem_singleton.mp hc]; exact Nat.le_refl _
    refine ⟨Heap.get?_none_of_le (Nat.le_trans hab (Nat.le_trans (Nat.le_of_lt hLs) hge)), Nat.ne_of_gt (Nat.lt_of_lt_of_le hLs hge), fun q hq e => ?_⟩
    have hq1 : q.1 < s.heap.objs.size := Heap.lt_size (N q hq).1
    exact Nat.ne_of_gt (Nat.lt_of_lt_of_le hq1 hge) e
  have h2 : ∀ (i : Nat) (vals : Array Value), (∃ (t : Tok) (v : Value), (∃ (c : Nat) (u : Tok), x.cps[i]? = some c ∧ v = Value.str ⟨#[c]⟩ u) ∧ vals = #[.int i t, v]) → ∃ v0 v1, vals = #[v0, v1] ∧ (∃ t, v0 = Value.int i t) ∧ ∃ c u, x.cps[i]? = some c ∧ v1 = Value.str ⟨#[c]⟩ u := by
    rintro i vals ⟨t, v, hv, rfl⟩
    exact ⟨_, _, rfl, ⟨t, rfl⟩, hv⟩
  cases ha : x.cps.all (· < 128)
  · have hit' : h'.IsStrIter s.heap.objs.size "str_iterator" x t 0 := by simpa [strIterType, ha] using hit
    exact ⟨_, _, _, _, _, WalksT.enumerateD (Draws.strWide (A := A.in1) hh s.heap.objs.size x t) _ (Nat.succ_ne_self _) side1 (by simp), h2, ⟨⟨_, by simpa using he⟩, hit'⟩, hfp, hwr⟩
  · have hit' : h'.IsStrIter s.heap.objs.size "str_ascii_iterator" x t 0 := by simpa [strIterType, ha] using hit
    exact ⟨_, _, _, _, _, WalksT.enumerateD (Draws.strAscii (A := A.in1) hh s.heap.objs.size x t) _ (Nat.succ_ne_self _) side1 (by simp), h2, ⟨⟨_, by simpa using he⟩, hit'⟩, hfp, hwr⟩
theorem rev_text (xs : List Nat) (u : Tok) : Txt.sliceBy ⟨xs.toArray⟩ none none (-1, u) = ⟨xs.reverse.toArray⟩ := by
  have h := step_rev_list ⟨xs.toArray⟩ u
  generalize Txt.sliceBy ⟨xs.toArray⟩ none none (-1, u) = y at h
  obtain ⟨⟨l⟩⟩ := y
  congr 2
  refine (show l = _ from h).trans ?_
  refine List.ext_getElem ?_ ?_
  · simp [Str.length]
  · intro i h1 h2
    have hi : i < xs.length := by simpa using h2
    rw [List.getElem_map, List.getElem_reverse, List.getElem_range]
    show xs.toArray.getD (xs.toArray.size - 1 - i) 0 = _
    simp only [List.size_toArray]
    rw [Array.getD_eq_getD_getElem?]
    simp
    rw [List.getElem?_eq_getElem (by omega)]
    rfl
section
local macro_rules | `(tactic| walk_at "call type:enumerate") => `(tactic| (k_here; k_dflt (refine enum_call (by rfl) (by with_reducible assumption) (by with_reducible assumption) ?_); intro _ _ _ _ _))
theorem iter_13 {xs : List Nat} {t : Tok} {Q : Value → Shared → Prop} (X : Facts w mean mg mb h₀) (hh : A.handled = none) (hz : xs.length ≤ 3000)
    (F : Fr h₀ L s.heap (fun y => if y = "part" then some (.str ⟨xs.toArray⟩ t) else m y)) (N : News h₀ L s.heap own)
    (hQ : ∀ h' e tk, Fr h₀ L h' (fun y => if y = "part" then some (.str ⟨xs.toArray⟩ t) else m y) → News h₀ L h' own → EnumTxt PySem.Challenge.rw_wa0029_02.row.prog w A h₀ L own ⟨xs.reverse.toArray⟩ e h' → Q (.ref e) { s with heap := h', toks := tk }) :
    wpAny (model PySem.Challenge.rw_wa0029_02.row.prog w) A (eval iter13 (envV L)) Q E s := by
  obtain ⟨ah, ad, af, ag, au⟩ := A
  subst hh
  have KX : (hd.heap_39 w.params).In h₀ := X.K
  revert KX
  k_fill
  intro KX
  have T := X.T
  have hst : iter13 = iter13 := rfl
  conv at hst => { rhs; whnf }
  rw [hst]
  clear hst
  k_steps
  rename EnumTxt _ _ _ _ _ _ _ _ _ => e'
  rw [rev_text] at e'
  exact hQ _ _ _ (by assumption) (by assumption) e'
end
section
local macro_rules | `(tactic| walk_at "binaryOp Pow int int") => `(tactic| (k_here; (with_reducible refine pow_int_small (by omega) (by omega) (by decide) ?_)))
local macro_rules | `(tactic| walk_at "Keeps") => `(tactic| exact ⟨_, _, rfl, by assumption⟩)
noncomputable def IsPow (d i : Nat) (v : Value) : Prop := ∃ u, v = .int ((d * 16 ^ i : Nat) : Int) u
theorem elt_13 {d i : Nat} {t u : Tok} (X : Facts w mean mg mb h₀) (hh : A.handled = none) (hd16 : d < 16) (hi : i < 200)
    (F : Fr h₀ C s.heap (fun y => if y = "k" then some (.int i t) else if y = "sign" then some (.str ⟨#[97 + d]⟩ u) else m y)) :
    wpAny (model PySem.Challenge.rw_wa0029_02.row.prog w) A (eval elt13 (compEnvC scope13 [] C (envV L))) (fun v s' => IsPow d i v ∧ Keeps s s') E s := by
  obtain ⟨ah, ad, af, ag, au⟩ := A
  subst hh
  have KX : (hd.heap_39 w.params).In h₀ := X.K
  revert KX
  k_fill
  intro KX
  have T := X.T
  have hst : elt13 = elt13 := rfl
  conv at hst => { rhs; whnf }
  rw [hst]
  clear hst
  k_steps
  all_goals first | exact L | exact ("x" : Str) | exact Value.none | exact [] | skip
  refine ⟨_, congrArg (fun k => Value.int k _) ?_⟩
  rw [show ((97 + d : Nat) : Int) - 97 = (d : Int) by omega, Int.toNat_natCast]
  simp
end
noncomputable def valsOf (xs : List Nat) : List Int := (List.range xs.length).map fun i => (((xs.reverse.getD i 0 - 97) * 16 ^ i : Nat) : Int)
noncomputable def Letters (xs : List Nat) : Prop := ∀ c ∈ xs, 97 ≤ c ∧ c < 113
theorem ints_of {f : Nat → Int} : ∀ (l : List Value) (k : Nat), (∀ (i : Nat) (y : Value), l[i]? = some y → ∃ u, y = .int (f (k + i)) u) → IntsAre l ((List.range' k l.length).map f)
  | [], _, _ => .nil
  | v :: r, k, h => by
    obtain ⟨u, rfl⟩ := h 0 v rfl
    exact .cons _ u (ints_of r (k + 1) fun i y hy => by
      have := h (i + 1) y hy
      rwa [show k + (i + 1) = k + 1 + i by omega] at this)
theorem comp_13 {xs : List Nat} {t : Tok} {Q : Value → Shared → Prop} (X : Facts w mean mg mb h₀) (hh : A.handled = none) (hx : Letters xs) (hz : xs.length ≤ 200)
    (F : Fr h₀ L s.heap m) (hm : m "part" = some (.str ⟨xs.toArray⟩ t)) (N : News h₀ L s.heap own)
    (hQ : ∀ h' tk D ys, IntsAre ys (valsOf xs) → Fr h₀ L h' m → News h₀ L h' ((D, { cls := .type "list", data := .seq (List.toArray ys) xs.length }) :: own) → Q (.ref D) { s with heap := h', toks := tk }) :
    wpAny (model PySem.Challenge.rw_wa0029_02.row.prog w) A (eval comp13 (envV L)) Q E s := by
  refine wpAny_ListComp_pairs (a := "k") (b := "sign") (scope := scope13) (cl := []) (fun i y => ∃ u, y = .int (((xs.reverse.getD i 0 - 97) * 16 ^ i : Nat) : Int) u) hh (by rfl) (by decide) (by rfl) (by decide) (by rfl) (by rfl) (by decide) ?_
  refine iter_13 X hh (by omega) (frAt F [("part", _)] ⟨hm, trivial⟩) N ?_
  rintro h1 e tk F1 N1
  have F1 : Fr h₀ L h1 m := by
    have e1 := canonL [("part", _)] (AllIn.mem ⟨hm, trivial⟩)
    rw [e1]; exact F1
  rintro ⟨fp, wr, Pt, St, Mid, W, h2, hst, hfp, hwr⟩
  refine W.self 0 _ _ _ hst ⟨e, fp, wr, _, Pt, St, Mid, _, rfl, W, h2, ?_, hst, hfp, ?_, ?_⟩
  · rw [sizeLine_eq]; simp only [List.size_toArray, List.length_reverse]; omega
  · rintro C2 i v0 v1 s₃ m₃ E' hC hi ⟨⟨t1, rfl⟩, c, u, hc, rfl⟩ hn ha hb hk
    have up : ∀ b o, h₀.get? b = some o → s₃.heap.get? b = some o := fun b o e => hk b o (fun hb => by have := (hwr b hb).1; rw [e] at this; cases this) (F1.keep b o e)
    have F3 : Fr h₀ C2 s₃.heap m₃ := ⟨hn, up, Nat.le_trans F1.above (Nat.le_trans (Nat.le_of_lt F1.ns.lt) hC)⟩
    rw [canonL (m := m₃) [("k", _), ("sign", _)] (AllIn.mem ⟨ha, hb, trivial⟩)] at F3
    have hil : i < xs.length := by simpa using hi
    have hc1 : xs.reverse[i]? = some c := by simpa using hc
    have hcm : c ∈ xs := List.mem_reverse.mp (List.mem_of_getElem? hc1)
    have hcx := hx c hcm
    have hg : xs.reverse.getD i 0 = c := by rw [List.getD_eq_getElem?_getD, hc1]; rfl
    obtain ⟨d, rfl⟩ : ∃ d, c = 97 + d := ⟨c - 97, by omega⟩
    rw [hg, Nat.add_sub_cancel_left]
    exact elt_13 X hh (by omega) (by omega) F3
  · intro D h' tk' ys hD hlD hlen hP hk
    have hsz : ys.size = xs.length := by rw [hlen]; simp
    have hn : (Str.mk xs.reverse.toArray).cps.size = xs.length := by simp
    rw [hn] at hlD
    have up : ∀ b o, h₀.get? b = some o → h'.get? b = some o := fun b o e => hk b o (fun hb => by have := (hwr b hb).1; rw [e] at this; cases this) (F1.keep b o e)
    refine hQ h' tk' D ys.toList ?_ ⟨F1.ns.at' fun o e => hk _ o (fun hb => (hwr _ hb).2.1 rfl) e, up, F1.above⟩ ?_
    · have := ints_of (f := fun i => (((xs.reverse.getD i 0 - 97) * 16 ^ i : Nat) : Int)) ys.toList 0 (fun i y hy => by rw [Nat.zero_add]; exact hP i y (by simpa using hy))
      rw [Array.length_toList, hsz, ← List.range_eq_range'] at this
      exact this
    · intro q hq
      rcases List.mem_cons.mp hq with rfl | hq
      · refine ⟨hlD, fun e => ?_, ?_⟩
        · have e : D = L := e
          have := F1.ns.lt
          rw [e] at hD
          obtain ⟨_, _, _, ho, _⟩ := F1.ns
          rw [ho] at hD; cases hD
        · cases e : h₀.get? D with
          | none => rfl
          | some o => rw [F1.keep _ _ e] at hD; cases hD
      · exact ⟨hk _ _ (fun hb => (hwr _ hb).2.2 q hq rfl) (N1 q hq).1, (N1 q hq).2⟩
section
local macro_rules | `(tactic| walk_at "mineA") => `(tactic| fail)
local macro_rules | `(tactic| walk_at "eval ListComp") => `(tactic| (k_here; k_dflt (refine comp_13 (by assumption) (by rfl) (by assumption) (by assumption) (by with_reducible assumption) (by rfl) (by with_reducible assumption) ?_); intro _ _ _ _ _ _ _))
local macro_rules | `(tactic| walk_at "Keeps") => `(tactic| exact ⟨_, _, rfl, Fr.keep (by assumption)⟩)
theorem val_spec {xs : List Nat} (X : Facts w mean mg mb s.heap) (hh : A.handled = none) (hroom : A.depth + 5 < recursionLimit) (hx : Letters xs) (hz : xs.length ≤ 200) (t : Tok) :
    wpAny (model PySem.Challenge.rw_wa0029_02.row.prog w) A (call (.ref 111) [.str ⟨xs.toArray⟩ t]) (fun v s' => (∃ u, v = .int (valsOf xs).sum u) ∧ Keeps s s') E s := by
  obtain ⟨ah, ad, af, ag, au⟩ := A
  subst hh
  have KX : (hd.heap_39 w.params).In s.heap := X.K
  revert KX
  k_fill
  intro KX
  have T := X.T
  refine wpAny_call ?_
  refine call_plain_ret (binds := [(Str.ofString "part", .str ⟨xs.toArray⟩ t)]) (by omega) (KX 111 _ (by k_is)) (by rfl) T.nolimit (codeRec_of KX (by k_is)) (by rfl) (locs (by rfl)) (fun h₁ F => ?_)
  have N : News s.heap s.heap.objs.size h₁ [] := News.nil
  k_steps
end
end
end Mine
open PySem PySem.W PyProof.Rows PySem.Calls
namespace Mine
local macro_rules | `(tactic| walk_at "mine0") => `(tactic| fail)
local macro_rules | `(tactic| walk_at "mine1") => `(tactic| fail)
local macro_rules | `(tactic| walk_at "mine2") => `(tactic| fail)
local macro_rules | `(tactic| walk_at "mine3") => `(tactic| fail)
local macro_rules | `(tactic| walk_at "mine4") => `(tactic| fail)
local macro_rules | `(tactic| walk_at "mine5") => `(tactic| fail)
local macro_rules | `(tactic| walk_at "mine6") => `(tactic| fail)
local macro_rules | `(tactic| walk_at "mine7") => `(tactic| fail)
local macro_rules | `(tactic| walk_at "mine8") => `(tactic| fail)
local macro_rules | `(tactic| walk_at "mine9") => `(tactic| fail)
local macro_rules | `(tactic| walk_at "mine10") => `(tactic| fail)
local macro_rules | `(tactic| walk_at "mine11") => `(tactic| fail)
local macro_rules | `(tactic| walk_at "mine12") => `(tactic| fail)
local macro_rules | `(tactic| walk_at "mine13") => `(tactic| fail)
local macro_rules | `(tactic| walk_at "mine14") => `(tactic| fail)
set_option maxHeartbeats 8000000
noncomputable abbrev env1 (h₀ : Heap) (fa : Addr) (cd : Value) : Env := envOfC "law" (scopeAt 14) h₀.objs.size fa cd
theorem room1 (e : Env) : (callerA.deeper e).depth + 5 < recursionLimit := by
  show 1 + claimMargin + 1 + 5 < recursionLimit
  decide
section
variable {w : World} {mean : ExcName → Option Value} {mg mb : Str → Option Value} {s : Shared} {fa : Addr} {cd : Value} {h₀ : Heap} {a D : Addr} {vs : List Value} {NS : List Int} {ou oo oi : Obj} {Q : Flow → Shared → Prop} {m : Str → Option Value}
theorem law_1 
    (X : Facts w mean mg mb h₀) (hI : IntsAre vs NS) (hN : 6 ≤ NS.length)
    (F : Fr h₀ h₀.objs.size s.heap (fun y => if y = "numbers" then some (.ref D) else m y)) (N : News h₀ h₀.objs.size s.heap [(D, listOf vs.toArray 0), (h₀.objs.size + 1, ou), (h₀.objs.size + 2, oo), (h₀.objs.size + 3, oi)]) (X0 : ou.data = .cell none)
    (hQ : ∀ h' tk (n : Nat) u ou', n % 2 = 1 → 3 ≤ n ∧ n ≤ 99 → Fr h₀ h₀.objs.size h' (fun y => if y = "numbers" then some (.ref D) else m y) → News h₀ h₀.objs.size h' [(D, listOf vs.toArray 0), (h₀.objs.size + 1, ou'), (h₀.objs.size + 2, oo), (h₀.objs.size + 3, oi)] → ou'.data = .cell (some (.int n u)) → Q .next { s with heap := h', toks := tk }) :
    wpAny (model PySem.Challenge.rw_wa0029_02.row.prog w) (callerA.deeper (env1 h₀ fa cd)) (exec (stm 14 1) (env1 h₀ fa cd)) Q (fun _ _ => False) s := by
  have KX : (hd.heap_39 w.params).In h₀ := X.K
  revert KX
  k_fill
  intro KX
  have T := X.T
  have hst : stm 14 1 = stm 14 1 := rfl
  conv at hst => { rhs; whnf }
  rw [hst]
  clear hst
  k_steps
  (with_reducible rename Fr _ _ _ _ => F')
  (with_reducible rename News _ _ _ _ => N')
  (rename _ = Data.cell (some _) => d')
  have h1 : 0 ≤ (NS.getD (Int.toNat 0) 0).fmod 49 := Int.fmod_nonneg_of_pos _ (by omega)
  have h2 : (NS.getD (Int.toNat 0) 0).fmod 49 < 49 := Int.fmod_lt_of_pos _ (by omega)
  obtain ⟨j, e⟩ : ∃ j : Nat, (NS.getD (Int.toNat 0) 0).fmod 49 = (j : Int) := ⟨((NS.getD (Int.toNat 0) 0).fmod 49).toNat, by omega⟩
  rw [e, show (2 * (j : Int) + 3) = ((2 * j + 3 : Nat) : Int) by omega] at d'
  exact hQ _ _ (2 * j + 3) _ _ (by omega) (by omega) F' N' d'
theorem law_2 {n : Nat} {u : Tok}
    (X : Facts w mean mg mb h₀) (hI : IntsAre vs NS) (hN : 6 ≤ NS.length) (hn : 3 ≤ n ∧ n ≤ 99)
    (F : Fr h₀ h₀.objs.size s.heap (fun y => if y = "numbers" then some (.ref D) else m y)) (N : News h₀ h₀.objs.size s.heap [(D, listOf vs.toArray 0), (h₀.objs.size + 1, ou), (h₀.objs.size + 2, oo), (h₀.objs.size + 3, oi)]) (X0 : ou.data = .cell (some (.int n u))) (Y0 : oo.data = .cell none)
    (hQ : ∀ h' tk (o : Nat) u oo', 1 ≤ o → o < n → Fr h₀ h₀.objs.size h' (fun y => if y = "numbers" then some (.ref D) else m y) → News h₀ h₀.objs.size h' [(D, listOf vs.toArray 0), (h₀.objs.size + 1, ou), (h₀.objs.size + 2, oo'), (h₀.objs.size + 3, oi)] → oo'.data = .cell (some (.int o u)) → Q .next { s with heap := h', toks := tk }) :
    wpAny (model PySem.Challenge.rw_wa0029_02.row.prog w) (callerA.deeper (env1 h₀ fa cd)) (exec (stm 14 2) (env1 h₀ fa cd)) Q (fun _ _ => False) s := by
  have KX : (hd.heap_39 w.params).In h₀ := X.K
  revert KX
  k_fill
  intro KX
  have T := X.T
  have hst : stm 14 2 = stm 14 2 := rfl
  conv at hst => { rhs; whnf }
  rw [hst]
  clear hst
  k_steps
  (with_reducible rename Fr _ _ _ _ => F')
  (with_reducible rename News _ _ _ _ => N')
  clear X0
  (rename _ = Data.cell (some _) => d')
  have h1 : 0 ≤ (NS.getD (Int.toNat 1) 0).fmod ((n : Int) - 1) := Int.fmod_nonneg_of_pos _ (by omega)
  have h2 : (NS.getD (Int.toNat 1) 0).fmod ((n : Int) - 1) < (n : Int) - 1 := Int.fmod_lt_of_pos _ (by omega)
  obtain ⟨o, e⟩ : ∃ o : Nat, (NS.getD (Int.toNat 1) 0).fmod ((n : Int) - 1) + 1 = (o : Int) := ⟨((NS.getD (Int.toNat 1) 0).fmod ((n : Int) - 1) + 1).toNat, by omega⟩
  rw [e] at d'
  exact hQ _ _ o _ _ (by omega) (by omega) F' N' d'
theorem gcd_call {A : Around} {E : Value → Shared → Prop} {L : Addr} {Q : Value → Shared → Prop} {own : List (Addr × Obj)} {x y : Nat} {t u : Tok} (X : Facts w mean mg mb h₀) (F : Fr h₀ L s.heap m) (N : News h₀ L s.heap own) (hh : A.handled = none) (hroom : A.depth + 5 < recursionLimit)
    (hQ : ∀ h' tk u, Fr h₀ L h' m → News h₀ L h' own → Q (.int (Nat.gcd y x : Nat) u) { s with heap := h', toks := tk }) :
    wpAny (model PySem.Challenge.rw_wa0029_02.row.prog w) A (call (.ref 99) [.int x t, .int y u]) Q E s := by
  refine wpAny_mono (gcd_spec (X.keeps F.keep) hh hroom x y t u) ?_ (fun _ _ h => h)
  rintro v s' ⟨⟨u, rfl⟩, h', tk, rfl, hk⟩
  exact hQ h' tk u (F.keeps hk) fun q hq => ⟨hk _ _ (N q hq).1, (N q hq).2⟩
local macro_rules | `(tactic| walk_at "call ref") => `(tactic| (k_here; k_dflt (refine gcd_call (by assumption) (by with_reducible assumption) (by with_reducible assumption) (by rfl) (room1 _) ?_); intro _ _ _ _ _))
theorem law_3 {n o : Nat} {u v : Tok}
    (X : Facts w mean mg mb h₀) (hn : 3 ≤ n ∧ n ≤ 99) (ho : 1 ≤ o) (hon : o < n)
    (F : Fr h₀ h₀.objs.size s.heap m) (hm : m "numbers" = some (.ref D)) (N : News h₀ h₀.objs.size s.heap [(D, listOf vs.toArray 0), (h₀.objs.size + 1, ou), (h₀.objs.size + 2, oo), (h₀.objs.size + 3, oi)]) (X0 : ou.data = .cell (some (.int n u))) (Y0 : oo.data = .cell (some (.int o v)))
    (hQ : ∀ h' tk (o : Nat) v oo' (m' : Str → Option Value), 1 ≤ o → o < n → Nat.gcd o n = 1 → Fr h₀ h₀.objs.size h' m' → m' "numbers" = some (.ref D) → News h₀ h₀.objs.size h' [(D, listOf vs.toArray 0), (h₀.objs.size + 1, ou), (h₀.objs.size + 2, oo'), (h₀.objs.size + 3, oi)] → oo'.data = .cell (some (.int o v)) → Q .next { s with heap := h', toks := tk }) :
    wpAny (model PySem.Challenge.rw_wa0029_02.row.prog w) (callerA.deeper (env1 h₀ fa cd)) (exec (stm 14 3) (env1 h₀ fa cd)) Q (fun _ _ => False) s := by
  have KX : (hd.heap_39 w.params).In h₀ := X.K
  revert KX
  k_fill
  intro KX
  have T := X.T
  refine While_inv (fun k m news => ∃ (o : Nat) (v : Tok) (oo' : Obj), k = o ∧ m "numbers" = some (.ref D) ∧ news = [(D, listOf vs.toArray 0), (h₀.objs.size + 1, ou), (h₀.objs.size + 2, oo'), (h₀.objs.size + 3, oi)] ∧ oo'.data = .cell (some (.int o v)) ∧ 1 ≤ o ∧ o < n) F N ⟨o, v, oo, rfl, hm, rfl, Y0, ho, hon⟩ ?_ PassesOwn.never
  rintro k m₁ news₁ h₁ tk₁ F₁ N₁ ⟨o, v, oo', rfl, g1, rfl, Y1, g2, g3⟩
  clear Y0
  by_cases hy : Nat.gcd k n = 1
  · have hy' : ((Nat.gcd k n : Int) != 1) = false := by rw [hy]; rfl
    k_steps
    (with_reducible rename Fr _ _ _ _ => F')
    (with_reducible rename News _ _ _ _ => N')
    exact hQ _ _ k v oo' m₁ g2 g3 hy F' g1 N' Y1
  · have hy' : ((Nat.gcd k n : Int) != 1) = true := by
      rw [bne_iff_ne]
      intro e
      exact hy (by omega)
    k_steps
    (with_reducible rename Fr _ _ _ _ => F')
    (with_reducible rename News _ _ _ _ => N')
    clear Y1 X0
    (rename _ = Data.cell (some _) => d')
    have hk1 : k ≠ 1 := fun e => hy (by rw [e]; exact Nat.gcd_one_left n)
    rw [show (k : Int) - 1 = ((k - 1 : Nat) : Int) by omega] at d'
    exact WhileStep.intro (n' := k - 1) F' N' (by omega) ⟨k - 1, _, _, rfl, g1, rfl, d', by omega, by omega⟩
theorem law_4 {own : List (Addr × Obj)} (X : Facts w mean mg mb h₀) (F : Fr h₀ h₀.objs.size s.heap m) (N : News h₀ h₀.objs.size s.heap own)
    (hQ : ∀ h' tk u, Fr h₀ h₀.objs.size h' (fun y => if y = "long" then some (.int 1 u) else m y) → News h₀ h₀.objs.size h' own → Q .next { s with heap := h', toks := tk }) :
    wpAny (model PySem.Challenge.rw_wa0029_02.row.prog w) (callerA.deeper (env1 h₀ fa cd)) (exec (stm 14 4) (env1 h₀ fa cd)) Q (fun _ _ => False) s := by
  have KX : (hd.heap_39 w.params).In h₀ := X.K
  revert KX
  k_fill
  intro KX
  have T := X.T
  have hst : stm 14 4 = stm 14 4 := rfl
  conv at hst => { rhs; whnf }
  rw [hst]
  clear hst
  k_steps
  exact hQ _ _ _ (by assumption) (by assumption)
theorem law_5 {n : Nat} {u : Tok} (X : Facts w mean mg mb h₀) (hn : 3 ≤ n ∧ n ≤ 99) (F : Fr h₀ h₀.objs.size s.heap m) (N : News h₀ h₀.objs.size s.heap [(D, listOf vs.toArray 0), (h₀.objs.size + 1, ou), (h₀.objs.size + 2, oo), (h₀.objs.size + 3, oi)]) (X0 : ou.data = .cell (some (.int n u)))
    (hQ : ∀ h' tk u, Fr h₀ h₀.objs.size h' (fun y => if y = "rest" then some (.int ((16 % n : Nat) : Int) u) else m y) → News h₀ h₀.objs.size h' [(D, listOf vs.toArray 0), (h₀.objs.size + 1, ou), (h₀.objs.size + 2, oo), (h₀.objs.size + 3, oi)] → Q .next { s with heap := h', toks := tk }) :
    wpAny (model PySem.Challenge.rw_wa0029_02.row.prog w) (callerA.deeper (env1 h₀ fa cd)) (exec (stm 14 5) (env1 h₀ fa cd)) Q (fun _ _ => False) s := by
  have KX : (hd.heap_39 w.params).In h₀ := X.K
  revert KX
  k_fill
  intro KX
  have T := X.T
  have hst : stm 14 5 = stm 14 5 := rfl
  conv at hst => { rhs; whnf }
  rw [hst]
  clear hst
  k_steps
  (with_reducible rename Fr _ _ _ _ => F')
  (with_reducible rename News _ _ _ _ => N')
  rw [show (16 : Int).fmod (n : Int) = ((16 % n : Nat) : Int) by rw [Int.fmod_eq_emod_of_nonneg _ (by omega)]; rfl] at F'
  exact hQ _ _ _ F' N'
/-- how long the row of figures is: the least power of 16 that leaves one -/
structure Long (n l : Nat) : Prop where
  pos : 1 ≤ l
  one : 16 ^ l % n = 1
  least : ∀ j, 1 ≤ j → j < l → 16 ^ j % n ≠ 1
theorem law_6 {n l : Nat} {u v1 v2 : Tok} (X : Facts w mean mg mb h₀) (hn : 3 ≤ n ∧ n ≤ 99) (hl : Long n l) (hl2 : l ≤ 1000) (F : Fr h₀ h₀.objs.size s.heap m) (hm1 : m "long" = some (.int 1 v1)) (hm2 : m "rest" = some (.int ((16 % n : Nat) : Int) v2)) (hm3 : m "numbers" = some (.ref D))
    (N : News h₀ h₀.objs.size s.heap [(D, listOf vs.toArray 0), (h₀.objs.size + 1, ou), (h₀.objs.size + 2, oo), (h₀.objs.size + 3, oi)]) (X0 : ou.data = .cell (some (.int n u)))
    (hQ : ∀ h' tk u (m' : Str → Option Value), m' "long" = some (.int l u) → m' "numbers" = some (.ref D) → Fr h₀ h₀.objs.size h' m' → News h₀ h₀.objs.size h' [(D, listOf vs.toArray 0), (h₀.objs.size + 1, ou), (h₀.objs.size + 2, oo), (h₀.objs.size + 3, oi)] → Q .next { s with heap := h', toks := tk }) :
    wpAny (model PySem.Challenge.rw_wa0029_02.row.prog w) (callerA.deeper (env1 h₀ fa cd)) (exec (stm 14 6) (env1 h₀ fa cd)) Q (fun _ _ => False) s := by
  have KX : (hd.heap_39 w.params).In h₀ := X.K
  revert KX
  k_fill
  intro KX
  have T := X.T
  have hp := hl.pos
  refine While_inv (fun k m news => ∃ (i : Nat) (v1 v2 : Tok), k = l - i ∧ 1 ≤ i ∧ i ≤ l ∧ m "long" = some (.int i v1) ∧ m "rest" = some (.int ((16 ^ i % n : Nat) : Int) v2) ∧ m "numbers" = some (.ref D) ∧ news = [(D, listOf vs.toArray 0), (h₀.objs.size + 1, ou), (h₀.objs.size + 2, oo), (h₀.objs.size + 3, oi)]) F N ⟨1, v1, v2, rfl, Nat.le_refl _, hl.pos, hm1, hm2, hm3, rfl⟩ ?_ PassesOwn.never
  rintro k m₁ news₁ h₁ tk₁ F₁ N₁ ⟨i, v1, v2, rfl, g1, g2, g3, g4, g5, rfl⟩
  have F₁ := frAt F₁ [("long", _), ("rest", _), ("numbers", _)] ⟨g3, g4, g5, trivial⟩
  generalize hr : 16 ^ i % n = r at *
  have hrn : r < n := by rw [← hr]; exact Nat.mod_lt _ (by omega)
  by_cases hy : r = 1
  · have hy' : ((r : Int) != 1) = false := by subst hy; rfl
    k_steps
    (with_reducible rename Fr _ _ _ _ => F')
    (with_reducible rename News _ _ _ _ => N')
    have e : i = l := by
      rcases Nat.lt_or_ge i l with h | h
      · exact absurd (hr.trans hy) (hl.least i g1 h)
      · omega
    subst e
    exact hQ _ _ v1 _ rfl rfl F' N'
  · have hy' : ((r : Int) != 1) = true := by
      rw [bne_iff_ne]
      intro e
      exact hy (by omega)
    k_steps
    (with_reducible rename Fr _ _ _ _ => F')
    (with_reducible rename News _ _ _ _ => N')
    have hil : i < l := by
      rcases Nat.lt_or_ge i l with h | h
      · exact h
      · have : i = l := by omega
        subst this
        exact absurd (hr.symm.trans hl.one) hy
    have e1 : (16 * (r : Int)).fmod (n : Int) = ((16 ^ (i + 1) % n : Nat) : Int) := by
      rw [Int.fmod_eq_emod_of_nonneg _ (by omega), Nat.pow_succ, Nat.mul_comm, ← Nat.mul_mod_mod, hr]
      rfl
    exact WhileStep.intro (n' := l - (i + 1)) F' N' (by omega) ⟨i + 1, _, _, rfl, by omega, by omega, rfl, congrArg (fun k => some (Value.int k _)) e1, rfl, rfl⟩
noncomputable def thirdOf (l : Nat) : Nat := if l % 3 = 0 then l / 3 else l
theorem law_7 {l : Nat} {v1 : Tok} {own : List (Addr × Obj)} (X : Facts w mean mg mb h₀) (F : Fr h₀ h₀.objs.size s.heap (fun y => if y = "long" then some (.int l v1) else m y))
    (N : News h₀ h₀.objs.size s.heap own)
    (hQ : ∀ h' tk u, Fr h₀ h₀.objs.size h' (fun y => if y = "third" then some (.int (thirdOf l) u) else if y = "long" then some (.int l v1) else m y) → News h₀ h₀.objs.size h' own → Q .next { s with heap := h', toks := tk }) :
    wpAny (model PySem.Challenge.rw_wa0029_02.row.prog w) (callerA.deeper (env1 h₀ fa cd)) (exec (stm 14 7) (env1 h₀ fa cd)) Q (fun _ _ => False) s := by
  have KX : (hd.heap_39 w.params).In h₀ := X.K
  revert KX
  k_fill
  intro KX
  have T := X.T
  have hst : stm 14 7 = stm 14 7 := rfl
  conv at hst => { rhs; whnf }
  rw [hst]
  clear hst
  k_steps
  all_goals (with_reducible rename Fr _ _ _ _ => F')
  all_goals (with_reducible rename News _ _ _ _ => N')
  · (rename Int.fmod _ _ = 0 => e1)
    rw [Int.fmod_eq_emod_of_nonneg _ (by decide)] at e1
    rw [show (l : Int).fdiv 3 = ((thirdOf l : Nat) : Int) by rw [Int.fdiv_eq_ediv_of_nonneg _ (by decide)]; unfold thirdOf; rw [if_pos (by omega)]; rfl] at F'
    exact hQ _ _ _ F' N'
  · (rename Int.fmod _ _ ≠ 0 => e1)
    rw [Int.fmod_eq_emod_of_nonneg _ (by decide)] at e1
    have e2 : thirdOf l = l := by unfold thirdOf; rw [if_neg (by omega)]
    rw [e2] at hQ
    exact hQ _ _ _ F' N'
end
end Mine
open PySem PySem.W PyProof.Rows PySem.Calls
namespace Mine
set_option maxHeartbeats 8000000
theorem apD_len : ∀ (k n : Nat), n < 16 ^ k → (apD n).length ≤ k
  | 0, n, h => by
    have : n = 0 := by simpa using h
    subst this; simp [apD]
  | k + 1, n, h => by
    by_cases h0 : n = 0
    · subst h0; simp [apD]
    · rw [apD_pos (by omega), List.length_append]
      have := apD_len k (n / 16) (by rw [Nat.pow_succ] at h; omega)
      simp only [List.length_cons, List.length_nil]
      omega
noncomputable def dg : Nat → List Nat
  | 0 => []
  | n + 1 => dg ((n + 1) / 16) ++ [(n + 1) % 16]
decreasing_by exact Nat.div_lt_self (Nat.succ_pos _) (by decide)
theorem dg_pos {n : Nat} (h : 0 < n) : dg n = dg (n / 16) ++ [n % 16] := by
  cases n with
  | zero => cases h
  | succ n => rw [dg]
theorem ap_dg : ∀ (k n : Nat), n < k → (apD n).map UInt8.toNat = (dg n).map (65 + ·) ∧ (∀ x ∈ apD n, x < 128) ∧ (∀ x ∈ dg n, x < 16)
  | 0, n, h => by omega
  | k + 1, n, h => by
    by_cases h0 : n = 0
    · subst h0; simp [apD, dg]
    · have ih := ap_dg k (n / 16) (by omega)
      rw [apD_pos (by omega), dg_pos (by omega)]
      have e : (UInt8.ofNat (65 + n % 16)).toNat = 65 + n % 16 := by
        show (65 + n % 16) % 256 = _
        omega
      refine ⟨?_, ?_, ?_⟩
      · rw [List.map_append, List.map_append, ih.1]
        simp only [List.map_cons, List.map_nil, e]
      · intro x hx
        rcases List.mem_append.mp hx with hx | hx
        · exact ih.2.1 x hx
        · rw [List.mem_singleton.mp hx]
          show (UInt8.ofNat (65 + n % 16)).toNat < 128
          rw [e]; omega
      · intro x hx
        rcases List.mem_append.mp hx with hx | hx
        · exact ih.2.2 x hx
        · rw [List.mem_singleton.mp hx]
          omega
theorem apD_ne {n : Nat} (h : 0 < n) : ∃ c cs, apD n = c :: cs := by
  rw [apD_pos h]
  cases apD (n / 16) with
  | nil => exact ⟨_, _, rfl⟩
  | cons c cs => exact ⟨_, _, rfl⟩
theorem decode_ap {prog : Program} {w : World} {A : Around} {E : Value → Shared → Prop} {s : Shared} {n : Nat} {t : Tok} {Q : Value → Shared → Prop} (hn : 0 < n) (hl : (apD n).length + 0 ≤ 1000) (h : ∀ t' k, Q (.str ⟨((dg n).map (65 + ·)).toArray⟩ t') { s with toks := k }) :
    wpAny (model prog w) A (call (.builtin "bytes.decode") [.bytes (apD n).toArray t]) Q E s := by
  obtain ⟨e1, e2, _⟩ := ap_dg _ n (Nat.lt_succ_self n)
  obtain ⟨c, cs, e⟩ := apD_ne hn
  rw [e] at e1 e2 hl ⊢
  refine KBd.decode (x := ⟨((dg n).map (65 + ·)).toArray⟩) (n := (c :: cs).length) (fun id => ?_) ?_ h
  · rw [utf_run id (c :: cs) e2 (by omega), e1]
  · rw [← e1]
    show ((c :: cs).map UInt8.toNat).toArray.size ≤ _
    simp only [List.size_toArray, List.length_map]
    omega
/-- the first m figures to the base 16 -/
noncomputable def pd : Nat → Nat → List Nat
  | 0, _ => []
  | m + 1, q => pd m (q / 16) ++ [q % 16]
theorem pd_len : ∀ (m q : Nat), (pd m q).length = m
  | 0, _ => rfl
  | m + 1, q => by rw [pd, List.length_append, pd_len m]; rfl
theorem pd_lt : ∀ (m q : Nat), ∀ x ∈ pd m q, x < 16
  | 0, _, x, h => by cases h
  | m + 1, q, x, h => by
    rw [pd] at h
    rcases List.mem_append.mp h with h | h
    · exact pd_lt m _ x h
    · rw [List.mem_singleton.mp h]; omega
theorem dg_pd : ∀ (m q : Nat), q < 16 ^ m → dg (16 ^ m + q) = 1 :: pd m q
  | 0, q, h => by
    have : q = 0 := by simpa using h
    subst this
    rw [dg_pos (by simp)]
    simp [dg, pd]
  | m + 1, q, h => by
    have h0 : 0 < 16 ^ m := Nat.pow_pos (by decide)
    rw [Nat.pow_succ] at h ⊢
    rw [dg_pos (by omega), show (16 ^ m * 16 + q) / 16 = 16 ^ m + q / 16 by omega, dg_pd m (q / 16) (by omega), pd, show (16 ^ m * 16 + q) % 16 = q % 16 by omega]
    rfl
noncomputable def bigQ (n o t : Nat) : Nat := o * 16 ^ (3 * t) / n
theorem bigQ_lt {n o t : Nat} (hon : o < n) : bigQ n o t < 16 ^ (3 * t) := by
  unfold bigQ
  rw [Nat.div_lt_iff_lt_mul (by omega), Nat.mul_comm]
  exact Nat.mul_lt_mul_of_pos_left hon (Nat.pow_pos (by decide))
theorem tail_text (xs : List Nat) (hz : 1 ≤ xs.length) : Txt.slice ⟨xs.toArray⟩ (some 1) none = ⟨(xs.drop 1).toArray⟩ := by
  have h := slice_from_eq (x := ⟨xs.toArray⟩) (i := 1) (b := (xs.length : Int)) (by decide) (by show (1 : Int) ≤ ((xs.toArray.size : Nat) : Int); simp only [List.size_toArray]; omega) (by show (xs.length : Int) = ((xs.toArray.size : Nat) : Int); simp)
  refine h.trans ?_
  congr 2
  show ((xs.toArray.toList.drop (1 : Int).toNat).take ((xs.length : Int) - 1).toNat) = xs.drop 1
  rw [show (1 : Int).toNat = 1 by rfl]
  refine List.take_of_length_le ?_
  rw [List.length_drop]
  simp
end Mine
open PySem PySem.W PyProof.Rows PySem.Calls
namespace Mine
local macro_rules | `(tactic| walk_at "mine0") => `(tactic| fail)
local macro_rules | `(tactic| walk_at "mine1") => `(tactic| fail)
local macro_rules | `(tactic| walk_at "mine2") => `(tactic| fail)
local macro_rules | `(tactic| walk_at "mine3") => `(tactic| fail)
local macro_rules | `(tactic| walk_at "mine4") => `(tactic| fail)
local macro_rules | `(tactic| walk_at "mine5") => `(tactic| fail)
local macro_rules | `(tactic| walk_at "mine6") => `(tactic| fail)
local macro_rules | `(tactic| walk_at "mine7") => `(tactic| fail)
local macro_rules | `(tactic| walk_at "mine8") => `(tactic| fail)
local macro_rules | `(tactic| walk_at "mine9") => `(tactic| fail)
local macro_rules | `(tactic| walk_at "mine10") => `(tactic| fail)
local macro_rules | `(tactic| walk_at "mine11") => `(tactic| fail)
local macro_rules | `(tactic| walk_at "mine12") => `(tactic| fail)
local macro_rules | `(tactic| walk_at "mine13") => `(tactic| fail)
local macro_rules | `(tactic| walk_at "mine14") => `(tactic| fail)
set_option maxHeartbeats 8000000
section
variable {w : World} {mean : ExcName → Option Value} {mg mb : Str → Option Value} {s : Shared} {fa : Addr} {cd : Value} {h₀ : Heap} {a D : Addr} {vs : List Value} {NS : List Int} {ou oo oi : Obj} {Q : Flow → Shared → Prop} {m : Str → Option Value}
noncomputable def bigM (n o t : Nat) : Nat := 16 ^ (3 * t) + bigQ n o t
theorem bigM_int {n o t : Nat} : (16 : Int) ^ (3 * (t : Int)).toNat + ((o : Int) * 16 ^ (3 * (t : Int)).toNat).fdiv (n : Int) = ((bigM n o t : Nat) : Int) := by
  rw [Int.fdiv_eq_ediv_of_nonneg _ (by omega), show (3 * (t : Int)).toNat = 3 * t by omega]
  unfold bigM bigQ
  simp
theorem bigM_len {n o t : Nat} (hon : o < n) : (apD (bigM n o t)).length ≤ 3 * t + 1 := by
  refine apD_len _ _ ?_
  have := bigQ_lt (t := t) hon
  unfold bigM
  rw [Nat.pow_succ]
  omega
theorem bigM_pos {n o t : Nat} : 0 < bigM n o t := by
  unfold bigM
  have : 0 < 16 ^ (3 * t) := Nat.pow_pos (by decide)
  omega
theorem ap_call {A : Around} {E : Value → Shared → Prop} {L : Addr} {Q : Value → Shared → Prop} {own : List (Addr × Obj)} {k : Int} {n : Nat} (X : Facts w mean mg mb h₀) (F : Fr h₀ L s.heap m) (N : News h₀ L s.heap own) (hk : k = n) (hh : A.handled = none) (hroom : A.depth + 5 < recursionLimit) (hn : (apD n).length + 0 ≤ 1000) (t : Tok)
    (hQ : ∀ h' tk u, Fr h₀ L h' m → News h₀ L h' own → Q (.bytes (apD n).toArray u) { s with heap := h', toks := tk }) :
    wpAny (model PySem.Challenge.rw_wa0029_02.row.prog w) A (call (.ref 21) [.int k t]) Q E s := by
  subst hk
  refine wpAny_mono (ap_spec (X.keeps F.keep) hh hroom n hn t) ?_ (fun _ _ h => h)
  rintro v s' ⟨⟨u, rfl⟩, h', tk, rfl, hk⟩
  exact hQ h' tk u (F.keeps hk) fun q hq => ⟨hk _ _ (N q hq).1, (N q hq).2⟩
local macro_rules | `(tactic| walk_at "binaryOp Pow int int") => `(tactic| (k_here; (with_reducible refine pow_int_small (by omega) (by omega) (by decide) ?_)))
local macro_rules | `(tactic| walk_at "call ref") => `(tactic| (k_here; refine ap_call (by assumption) (by with_reducible assumption) (by with_reducible assumption) bigM_int (by rfl) (room1 _) (by assumption) _ ?_; intro _ _ _ _ _))
local macro_rules | `(tactic| walk_at "call builtin:bytes.decode") => `(tactic| (k_here; refine decode_ap (by assumption) (by assumption) ?_; intro _ _))
theorem tail_sub {prog : Program} {A : Around} {E : Value → Shared → Prop} {L : Addr} {own : List (Addr × Obj)} {value slice : PySem.Expr} {n o t : Nat} {u ui : Tok} {Q : Value → Shared → Prop} (hF : Fr h₀ L s.heap m) (hN : News h₀ L s.heap own) (hon : o < n) (ht : 1 ≤ t ∧ t ≤ 100) (h : ∀ h' t' c, Fr h₀ L h' m → News h₀ L h' own → Q (.str ⟨((pd (3 * t) (bigQ n o t)).map (65 + ·)).toArray⟩ t') { s with heap := h', toks := c })
    (hs : subscripted slice false (.str ⟨((dg (bigM n o t)).map (65 + ·)).toArray⟩ u) (.ref s.heap.objs.size) = operate [.ref s.heap.objs.size, .str ⟨((dg (bigM n o t)).map (65 + ·)).toArray⟩ u] (getItem (.str ⟨((dg (bigM n o t)).map (65 + ·)).toArray⟩ u) (.ref s.heap.objs.size)) := by with_unfolding_all rfl)
    (htg : ∀ r, letTemporaryGo value (.str ⟨((dg (bigM n o t)).map (65 + ·)).toArray⟩ u) r = pure () := by intro _; with_unfolding_all rfl) :
    wpAny (model prog w) A (subscriptTail value slice (.str ⟨((dg (bigM n o t)).map (65 + ·)).toArray⟩ u) (.ref s.heap.objs.size)) Q E { s with heap := s.heap.push { cls := .type "slice", data := .fields #[.int 1 ui, .none, .none] } } := by
  have e : dg (bigM n o t) = 1 :: pd (3 * t) (bigQ n o t) := dg_pd _ _ (bigQ_lt hon)
  have hlen : (dg (bigM n o t)).length = 3 * t + 1 := by rw [e, List.length_cons, pd_len]
  refine slice_strN_sn hF hN (fun h' t' c a b => ?_) hs htg (by rw [sizeLine_eq]; show ((dg (bigM n o t)).map (65 + ·)).toArray.size ≤ _; simp only [List.size_toArray, List.length_map]; omega)
  rw [tail_text _ (by rw [List.length_map]; omega), ← List.map_drop, e, List.drop_one, List.tail_cons]
  exact h h' t' c a b
local macro_rules | `(tactic| walk_at "subscriptTail") => `(tactic| (k_here; (with_reducible show wpAny _ _ (subscriptTail _ (PySem.Expr.Slice (some _) none none _) (Value.str _ _) (Value.ref _)) _ _ _); (with_reducible rename Fr _ _ _ _ => F'); (with_reducible rename News _ _ _ _ => N'); (refine tail_sub (s := ⟨_, _, _, _, _⟩) F' N' (by assumption) (by assumption) ?_); intro _ _ _ _ _))
theorem law_8 {n o t : Nat} {u v1 v2 : Tok}
    (X : Facts w mean mg mb h₀) (hn : 3 ≤ n ∧ n ≤ 99) (hon : o < n) (ht : 1 ≤ t ∧ t ≤ 100)
    (F : Fr h₀ h₀.objs.size s.heap (fun y => if y = "third" then some (.int t v1) else m y)) (N : News h₀ h₀.objs.size s.heap [(D, listOf vs.toArray 0), (h₀.objs.size + 1, ou), (h₀.objs.size + 2, oo), (h₀.objs.size + 3, oi)]) (X0 : ou.data = .cell (some (.int n u))) (Y0 : oo.data = .cell (some (.int o v2)))
    (hQ : ∀ h' tk u', Fr h₀ h₀.objs.size h' (fun y => if y = "letters" then some (.str ⟨((pd (3 * t) (bigQ n o t)).map (65 + ·)).toArray⟩ u') else if y = "third" then some (.int t v1) else m y) → News h₀ h₀.objs.size h' [(D, listOf vs.toArray 0), (h₀.objs.size + 1, ou), (h₀.objs.size + 2, oo), (h₀.objs.size + 3, oi)] → Q .next { s with heap := h', toks := tk }) :
    wpAny (model PySem.Challenge.rw_wa0029_02.row.prog w) (callerA.deeper (env1 h₀ fa cd)) (exec (stm 14 8) (env1 h₀ fa cd)) Q (fun _ _ => False) s := by
  have KX : (hd.heap_39 w.params).In h₀ := X.K
  revert KX
  k_fill
  intro KX
  have T := X.T
  have hl : (apD (bigM n o t)).length + 0 ≤ 1000 := by
    have := bigM_len (t := t) hon
    omega
  have hpos : 0 < bigM n o t := bigM_pos
  have hst : stm 14 8 = stm 14 8 := rfl
  conv at hst => { rhs; whnf }
  rw [hst]
  clear hst
  k_steps
  (with_reducible rename Fr _ _ _ _ => F')
  (with_reducible rename News _ _ _ _ => N')
  exact hQ _ _ _ F' N'
end
end Mine
open PySem PySem.W PyProof.Rows PySem.Calls
namespace Mine
set_option maxHeartbeats 8000000
section
variable {w : World} {mean : ExcName → Option Value} {mg mb : Str → Option Value} {s : Shared} {fa : Addr} {cd : Value} {h₀ : Heap} {a D : Addr} {vs : List Value} {NS : List Int} {ou oo oi : Obj} {Q : Flow → Shared → Prop} {m : Str → Option Value} {own : List (Addr × Obj)}
theorem sp_call {A : Around} {E : Value → Shared → Prop} {L : Addr} {Q : Value → Shared → Prop} {ds : List Nat} {third : Nat} (X : Facts w mean mg mb h₀) (F : Fr h₀ L s.heap m) (N : News h₀ L s.heap ((D, listOf vs.toArray 0) :: own)) (hI : IntsAre vs NS) (hN : 6 ≤ NS.length) (hN2 : NS.length ≤ 100) (hds : ∀ x ∈ ds, x < 16) (hlen : ds.length ≤ 500) (hh : A.handled = none) (hroom : A.depth + 5 < recursionLimit) (t u : Tok)
    (hQ : ∀ h' tk xs u, Txt2 third ds ds.length xs → Fr h₀ L h' m → News h₀ L h' ((D, listOf vs.toArray 0) :: own) → Q (.str ⟨List.toArray xs⟩ u) { s with heap := h', toks := tk }) :
    wpAny (model PySem.Challenge.rw_wa0029_02.row.prog w) A (call (.ref 106) [.str ⟨(ds.map (65 + ·)).toArray⟩ t, .int third u, .ref D]) Q E s := by
  refine wpAny_mono (sp_spec (X.keeps F.keep) hh hroom hI hN hN2 ⟨_, N.get (.head _), rfl, _, rfl⟩ hds hlen t u) ?_ (fun _ _ h => h)
  rintro v s' ⟨⟨xs, u, rfl, hT⟩, h', tk, rfl, hk⟩
  exact hQ h' tk xs u hT (F.keeps hk) fun q hq => ⟨hk _ _ (N q hq).1, (N q hq).2⟩
local macro_rules | `(tactic| walk_at "call ref") => `(tactic| (k_here; k_dflt (refine sp_call (by assumption) (by with_reducible assumption) (by with_reducible assumption) (by assumption) (by assumption) (by assumption) (by assumption) (by assumption) (by rfl) (room1 _) _ _ ?_); intro _ _ _ _ _ _ _))
theorem law_9 {ds : List Nat} {third : Nat} {v1 v2 : Tok} (X : Facts w mean mg mb h₀) (hI : IntsAre vs NS) (hN : 6 ≤ NS.length) (hN2 : NS.length ≤ 100) (hds : ∀ x ∈ ds, x < 16) (hlen : ds.length ≤ 500)
    (F : Fr h₀ h₀.objs.size s.heap (fun y => if y = "letters" then some (.str ⟨(ds.map (65 + ·)).toArray⟩ v1) else if y = "third" then some (.int third v2) else if y = "numbers" then some (.ref D) else m y)) (N : News h₀ h₀.objs.size s.heap ((D, listOf vs.toArray 0) :: own))
    (hQ : ∀ h' tk xs u, Txt2 third ds ds.length xs → Fr h₀ h₀.objs.size h' (fun y => if y = "text" then some (.str ⟨List.toArray xs⟩ u) else if y = "letters" then some (.str ⟨(ds.map (65 + ·)).toArray⟩ v1) else if y = "third" then some (.int third v2) else if y = "numbers" then some (.ref D) else m y) → News h₀ h₀.objs.size h' ((D, listOf vs.toArray 0) :: own) → Q .next { s with heap := h', toks := tk }) :
    wpAny (model PySem.Challenge.rw_wa0029_02.row.prog w) (callerA.deeper (env1 h₀ fa cd)) (exec (stm 14 9) (env1 h₀ fa cd)) Q (fun _ _ => False) s := by
  have KX : (hd.heap_39 w.params).In h₀ := X.K
  revert KX
  k_fill
  intro KX
  have T := X.T
  have hst : stm 14 9 = stm 14 9 := rfl
  conv at hst => { rhs; whnf }
  rw [hst]
  clear hst
  k_steps
  (with_reducible rename Fr _ _ _ _ => F')
  (with_reducible rename News _ _ _ _ => N')
  exact hQ _ _ _ _ (by assumption) F' N'
end
end Mine
open PySem PySem.W PyProof.Rows PySem.Calls
namespace Mine
local macro_rules | `(tactic| walk_at "mine0") => `(tactic| fail)
local macro_rules | `(tactic| walk_at "mine1") => `(tactic| fail)
local macro_rules | `(tactic| walk_at "mine2") => `(tactic| fail)
local macro_rules | `(tactic| walk_at "mine3") => `(tactic| fail)
local macro_rules | `(tactic| walk_at "mine4") => `(tactic| fail)
local macro_rules | `(tactic| walk_at "mine5") => `(tactic| fail)
local macro_rules | `(tactic| walk_at "mine6") => `(tactic| fail)
local macro_rules | `(tactic| walk_at "mine7") => `(tactic| fail)
local macro_rules | `(tactic| walk_at "mine8") => `(tactic| fail)
local macro_rules | `(tactic| walk_at "mine9") => `(tactic| fail)
local macro_rules | `(tactic| walk_at "mine10") => `(tactic| fail)
local macro_rules | `(tactic| walk_at "mine11") => `(tactic| fail)
local macro_rules | `(tactic| walk_at "mine12") => `(tactic| fail)
local macro_rules | `(tactic| walk_at "mine13") => `(tactic| fail)
local macro_rules | `(tactic| walk_at "mine14") => `(tactic| fail)
set_option maxHeartbeats 8000000
noncomputable def asgVal : Stmt → Expr | .Assign _ v _ => v | _ => default
noncomputable def comp9 : Expr := match asgVal (stm 14 10) with | .Call _ [.Call _ [c] _ _] _ _ => c | _ => default
noncomputable def elt9 : Expr := match comp9 with | .ListComp e _ _ _ => e | _ => default
noncomputable def if9 : Expr := match comp9 with | .ListComp _ [⟨_, _, [c], _⟩] _ _ => c | _ => default
noncomputable def scope9 : Scope := match comp9 with | .ListComp _ _ sc _ => sc | _ => scopeAt 14
section
variable {w : World} {mean : ExcName → Option Value} {mg mb : Str → Option Value} {s : Shared} {fa : Addr} {cd : Value} {h₀ : Heap} {a D C : Addr} {vs : List Value} {NS : List Int} {ob : Obj} {m : Str → Option Value} {own : List (Addr × Obj)}
theorem b1_call {w : World} {mean : ExcName → Option Value} {mg mb : Str → Option Value} {A : Around} {E : Value → Shared → Prop} {s : Shared} {h₀ : Heap} {L : Addr} {Q : Value → Shared → Prop} {c : Nat} (X : Facts w mean mg mb h₀) (F : Fr h₀ L s.heap m) (hroom : A.depth + 5 < recursionLimit) (t : Tok)
    (hQ : ∀ h' tk, Fr h₀ L h' m → (∀ b o, s.heap.get? b = some o → h'.get? b = some o) → Q (.bool (b1 c)) { s with heap := h', toks := tk }) :
    wpAny (model PySem.Challenge.rw_wa0029_02.row.prog w) A (call (.ref 46) [.str ⟨#[c]⟩ t]) Q E s := by
  refine wpAny_mono (b1_spec (X.keeps F.keep) hroom c t) ?_ (fun _ _ h => h)
  rintro v s' ⟨rfl, h', tk, rfl, hk⟩
  exact hQ h' tk (F.keeps hk) hk
local macro_rules | `(tactic| walk_at "Keeps") => `(tactic| exact ⟨_, _, rfl, by assumption⟩)
local macro_rules | `(tactic| walk_at "call ref") => `(tactic| (k_here; refine b1_call (by assumption) (by with_reducible assumption) (room1 _) _ ?_; intro _ _ _ _))
theorem test_9 {c : Nat} {t : Tok} {E : Value → Shared → Prop} (X : Facts w mean mg mb h₀)
    (F : Fr h₀ C s.heap (fun y => if y = "sign" then some (.str ⟨#[c]⟩ t) else m y)) :
    wpAny (model PySem.Challenge.rw_wa0029_02.row.prog w) (callerA.deeper (env1 h₀ fa cd)) (isTrue if9 (compEnvC scope9 [] C (env1 h₀ fa cd)) (eval if9 (compEnvC scope9 [] C (env1 h₀ fa cd)))) (fun ok s' => ok = (!b1 c) ∧ Keeps s s') E s := by
  have KX : (hd.heap_39 w.params).In h₀ := X.K
  revert KX
  k_fill
  intro KX
  have T := X.T
  have hst : if9 = if9 := rfl
  conv at hst => { rhs; whnf }
  rw [hst]
  clear hst
  k_steps
  · exact fa
  · exact ("x" : Str)
  · exact cd
  · exact []
theorem b3_call {w : World} {mean : ExcName → Option Value} {mg mb : Str → Option Value} {A : Around} {E : Value → Shared → Prop} {s : Shared} {h₀ : Heap} {L : Addr} {Q : Value → Shared → Prop} {c : Nat} (X : Facts w mean mg mb h₀) (F : Fr h₀ L s.heap m) (hroom : A.depth + 5 < recursionLimit) (hc : b3Says c) (t : Tok)
    (hQ : ∀ h' tk u, Fr h₀ L h' m → (∀ b o, s.heap.get? b = some o → h'.get? b = some o) → Q (.str ⟨#[low c]⟩ u) { s with heap := h', toks := tk }) :
    wpAny (model PySem.Challenge.rw_wa0029_02.row.prog w) A (call (.ref 92) [.str ⟨#[c]⟩ t]) Q E s := by
  refine wpAny_mono (b3_spec (X.keeps F.keep) hroom c hc t) ?_ (fun _ _ h => h)
  rintro v s' ⟨⟨u, rfl⟩, h', tk, rfl, hk⟩
  exact hQ h' tk u (F.keeps hk) hk
noncomputable def IsLow (c : Nat) (v : Value) : Prop := ∃ u, v = .str ⟨#[low c]⟩ u
local macro_rules | `(tactic| walk_at "IsLow") => `(tactic| exact ⟨_, rfl⟩)
local macro_rules | `(tactic| walk_at "call ref") => `(tactic| (k_here; refine b3_call (by assumption) (by with_reducible assumption) (room1 _) (by assumption) _ ?_; intro _ _ _ _ _))
theorem elt_9 {c : Nat} {t : Tok} {E : Value → Shared → Prop} (X : Facts w mean mg mb h₀) (hc : b3Says c)
    (F : Fr h₀ C s.heap (fun y => if y = "sign" then some (.str ⟨#[c]⟩ t) else m y)) :
    wpAny (model PySem.Challenge.rw_wa0029_02.row.prog w) (callerA.deeper (env1 h₀ fa cd)) (eval elt9 (compEnvC scope9 [] C (env1 h₀ fa cd))) (fun v s' => IsLow c v ∧ Keeps s s') E s := by
  have KX : (hd.heap_39 w.params).In h₀ := X.K
  revert KX
  k_fill
  intro KX
  have T := X.T
  have hst : elt9 = elt9 := rfl
  conv at hst => { rhs; whnf }
  rw [hst]
  clear hst
  k_steps
  · exact fa
  · exact ("x" : Str)
  · exact cd
  · exact []
theorem low_low {third : Nat} {ds : List Nat} {i : Nat} {xs : List Nat} (T : Txt2 third ds i xs) {c : Nat} (h1 : c ∈ xs) (h2 : (!b1 (c : Int)) = true) : b3Says c :=
  says (T.ok c (List.mem_filter.mpr ⟨h1, h2⟩))
noncomputable def signNat : Value → Nat | .str ⟨a⟩ _ => a.getD 0 0 | _ => 0
theorem pairs_low : ∀ (l : List Value) (ys : List Value), Paired (fun v y => IsLow (signNat v) y) l ys → ∃ zs : List (Str × Tok), ys = strValues zs ∧ zs.map (·.1) = (l.map signNat).map (fun c => (⟨#[low c]⟩ : Str)) := by
  intro l ys h
  induction h with
  | nil => exact ⟨[], rfl, rfl⟩
  | cons hd _ ih =>
    obtain ⟨u, rfl⟩ := hd
    obtain ⟨zs, rfl, e⟩ := ih
    exact ⟨(_, u) :: zs, rfl, by simp only [List.map_cons, e]⟩
theorem signs_back {xs : List Nat} {vs : List Value} (hn : vs.length = xs.length) (h : ∀ j v, vs[j]? = some v → SignAt ⟨xs.toArray⟩ j v) : vs.map signNat = xs := by
  refine List.ext_getElem? fun j => ?_
  rw [List.getElem?_map]
  by_cases hj : j < vs.length
  · obtain ⟨c, u, hc, e⟩ := h j vs[j] (List.getElem?_eq_getElem hj)
    rw [List.getElem?_eq_getElem hj, e]
    have hc' : xs[j]? = some c := by simpa using hc
    rw [hc']
    rfl
  · rw [List.getElem?_eq_none (by omega), List.getElem?_eq_none (by omega)]
    rfl
theorem filter_back (vs : List Value) : (vs.filter fun v => !b1 (signNat v : Int)).map signNat = kept (vs.map signNat) := by
  induction vs with
  | nil => rfl
  | cons v r ih =>
    unfold kept at *
    rw [List.map_cons]
    by_cases h : (!b1 (signNat v : Int)) = true
    · rw [List.filter_cons_of_pos (by exact h), List.filter_cons_of_pos (by exact h), List.map_cons, ih]
    · rw [List.filter_cons_of_neg (by exact h), List.filter_cons_of_neg (by exact h), ih]
noncomputable def iter9 : Expr := match comp9 with | .ListComp _ [⟨_, e, _, _⟩] _ _ => e | _ => default
theorem text_9 {v : Value} {Q : Value → Shared → Prop} (X : Facts w mean mg mb h₀)
    (F : Fr h₀ h₀.objs.size s.heap (fun y => if y = "text" then some v else m y)) (hQ : Q v s) :
    wpAny (model PySem.Challenge.rw_wa0029_02.row.prog w) (callerA.deeper (env1 h₀ fa cd)) (eval iter9 (env1 h₀ fa cd)) Q (fun _ _ => False) s := by
  have KX : (hd.heap_39 w.params).In h₀ := X.K
  revert KX
  k_fill
  intro KX
  have T := X.T
  have hst : iter9 = iter9 := rfl
  conv at hst => { rhs; whnf }
  rw [hst]
  clear hst
  k_steps
  exact hQ
theorem comp_9 {third i : Nat} {ds xs : List Nat} {t : Tok} {Q : Value → Shared → Prop} (X : Facts w mean mg mb h₀) (hT : Txt2 third ds i xs) (hi : i ≤ 1000)
    (F : Fr h₀ h₀.objs.size s.heap (fun y => if y = "text" then some (.str ⟨xs.toArray⟩ t) else m y)) (N : News h₀ h₀.objs.size s.heap own)
    (hQ : ∀ h' tk D (zs : List (Str × Tok)), zs.map (·.1) = (kept xs).map (fun c => (⟨#[low c]⟩ : Str)) → Fr h₀ h₀.objs.size h' (fun y => if y = "text" then some (.str ⟨xs.toArray⟩ t) else m y) → News h₀ h₀.objs.size h' own → h'.IsList D (strValues zs).toArray → Q (.ref D) { s with heap := h', toks := tk }) :
    wpAny (model PySem.Challenge.rw_wa0029_02.row.prog w) (callerA.deeper (env1 h₀ fa cd)) (eval comp9 (env1 h₀ fa cd)) Q (fun _ _ => False) s := by
  have hz : xs.length ≤ 3000 := by have := hT.size; omega
  refine wpAny_ListComp_free (scope := scope9) (cl := []) (x := "sign") (fun v => !b1 (signNat v : Int)) (fun v y => IsLow (signNat v) y) (by rfl) (by decide) (by rfl) (by decide) (by rfl) ?_
  refine text_9 X F ?_
  refine wpAny_pyIter_str (fun ob St W hst => ?_)
  have old : ∀ b o, s.heap.get? b = some o → b ∉ [s.heap.objs.size] := fun b o e hm => by
    have := Heap.lt_size e
    rw [List.mem_singleton.mp hm] at this
    exact Nat.lt_irrefl _ this
  have up : ∀ (h' : Heap), (∀ b o', b ∉ [s.heap.objs.size] → (s.heap.push ob).get? b = some o' → h'.get? b = some o') → ∀ b o', s.heap.get? b = some o' → h'.get? b = some o' :=
    fun h' hk b o' e => hk b o' (old b o' e) (Heap.get?_push_of_some _ e)
  have room : ∀ C, (s.heap.push ob).objs.size ≤ C → h₀.objs.size ≤ C := fun C hC => by
    rw [Heap.size_push] at hC
    exact Nat.le_trans (Nat.le_of_lt F.ns.lt) (Nat.le_trans (Nat.le_succ _) hC)
  have mem : ∀ {c : Nat} {i : Nat}, (Str.mk xs.toArray).cps[i]? = some c → c ∈ xs := fun {c i} hc => by
    have hc' : xs[i]? = some c := by simpa using hc
    exact List.mem_of_getElem? hc'
  refine ⟨s.heap.objs.size, [s.heap.objs.size], [s.heap.objs.size], _, SignAt _, St, rfl, W _ (by rfl), ?_, hst, ?_, ⟨?_, ?_⟩, ?_⟩
  · rw [sizeLine_eq]
    simp only [List.size_toArray]
    omega
  · intro b hb
    rw [List.mem_singleton.mp hb, Heap.size_push]
    exact Nat.lt_succ_self _
  · rintro C i v s₃ m₃ E' hC ⟨c, u, hc, rfl⟩ hn hm hk htk
    refine wpAny_tests_one ?_
    have F3 : Fr h₀ C s₃.heap m₃ := ⟨hn, fun b o e => up _ hk b o (F.keep b o e), room C hC⟩
    rw [canonL (m := m₃) [("sign", Value.str ⟨#[c]⟩ u)] (by intro x hx; rw [List.mem_singleton.mp hx]; exact hm)] at F3
    exact test_9 X F3
  · rintro C i v s₃ m₃ E' hC ⟨c, u, hc, rfl⟩ hp hn hm hk htk
    have F3 : Fr h₀ C s₃.heap m₃ := ⟨hn, fun b o e => up _ hk b o (F.keep b o e), room C hC⟩
    rw [canonL (m := m₃) [("sign", Value.str ⟨#[c]⟩ u)] (by intro x hx; rw [List.mem_singleton.mp hx]; exact hm)] at F3
    exact elt_9 X (low_low hT (mem hc) hp) F3
  · intro D h' tk ys vs hD hl hpl hlen hP hPair hk
    obtain ⟨zs, e1, e2⟩ := pairs_low _ _ hPair
    rw [filter_back, signs_back (by rw [hlen]; simp) hP] at e2
    refine hQ h' tk D zs e2 (F.keeps (up h' hk)) (fun q hq => ⟨up h' hk _ _ (N q hq).1, (N q hq).2⟩) ?_
    rw [← e1]
    exact hl
end
end Mine
open PySem PySem.W PyProof.Rows PySem.Calls
namespace Mine
set_option maxHeartbeats 8000000
theorem join_go : ∀ (cs : List Nat) (acc : Array Nat), (cs.map fun c => (⟨#[c]⟩ : Str)).foldl (fun acc p => acc ++ (Str.ofString "").cps ++ p.cps) acc = acc ++ cs.toArray
  | [], acc => by simp
  | c :: r, acc => by
    rw [List.map_cons, List.foldl_cons, join_go r]
    have : (Str.ofString "").cps = #[] := by rfl
    rw [this]
    simp
theorem join_cs (cs : List Nat) : Txt.join (Str.ofString "") (cs.map fun c => (⟨#[c]⟩ : Str)) = ⟨cs.toArray⟩ := by
  cases cs with
  | nil => rfl
  | cons c r =>
    show Str.mk ((r.map fun c => (⟨#[c]⟩ : Str)).foldl (fun acc p => acc ++ (Str.ofString "").cps ++ p.cps) #[c]) = _
    rw [join_go]
    simp
theorem joinOk_go (cs : List Nat) : ∀ n : Nat, (cs.map fun c => (⟨#[c]⟩ : Str)).foldl (· + ·.length + (Str.ofString "").length) n = n + cs.length := by
  induction cs with
  | nil => intro n; rfl
  | cons c r ih =>
    intro n
    rw [List.map_cons, List.foldl_cons, ih]
    have h1 : (Str.ofString "").length = 0 := by rfl
    have h2 : (Str.mk #[c]).length = 1 := rfl
    rw [h1, h2, List.length_cons]
    omega
theorem joinOk_cs (cs : List Nat) (h : cs.length ≤ 100000) : JoinOk (Str.ofString "") (cs.map fun c => (⟨#[c]⟩ : Str)) = true := by
  unfold JoinOk
  rw [List.foldl_toArray, joinOk_go]
  unfold PySem.Builtin.Str.tooLong
  rw [sizeLine_eq]
  simp
  omega
section
variable {w : World} {mean : ExcName → Option Value} {mg mb : Str → Option Value} {s : Shared} {fa : Addr} {cd : Value} {h₀ : Heap} {a D C : Addr} {vs : List Value} {NS : List Int} {ob : Obj} {m : Str → Option Value} {own : List (Addr × Obj)}
theorem join_call {prog : Program} {w : World} {A : Around} {E : Value → Shared → Prop} {s : Shared} {t : Tok} {l : Addr} {zs : List (Str × Tok)} {xs cs : List Nat} {Q : Value → Shared → Prop} (hl : s.heap.IsList l (strValues zs).toArray) (hz : zs.map (·.1) = (kept xs).map (fun c => (⟨#[low c]⟩ : Str))) (hcs : (kept xs).map low = cs) (hn : cs.length ≤ 1000)
    (h : ∀ t' k, Q (.str ⟨cs.toArray⟩ t') { s with toks := k }) : wpAny (model prog w) A (call (.builtin "str.join") [.str (Str.ofString "") t, .ref l]) Q E s := by
  have e : zs.map (·.1) = cs.map (fun c => (⟨#[c]⟩ : Str)) := by rw [hz, ← hcs, List.map_map]; rfl
  refine SC.join hl e (joinOk_cs _ (by omega)) ?_
  rw [join_cs]
  exact h
theorem dec_call {w : World} {mean : ExcName → Option Value} {mg mb : Str → Option Value} {A : Around} {E : Value → Shared → Prop} {s : Shared} {h₀ : Heap} {L : Addr} {Q : Value → Shared → Prop} {a b c : List Nat} (X : Facts w mean mg mb h₀) (F : Fr h₀ L s.heap m) (N : News h₀ L s.heap own) (hh : A.handled = none) (hroom : A.depth + 5 < recursionLimit) (ha : ∀ x ∈ a, x ≠ 39) (hb : ∀ x ∈ b, x ≠ 39) (hc : ∀ x ∈ c, x ≠ 39) (hsz : (parted a b c).length ≤ 1000) (t : Tok)
    (hQ : ∀ h' tk l u₁ u₂ u₃, Fr h₀ L h' m → News h₀ L h' ((l, { cls := .type "list", data := .seq #[.str ⟨a.toArray⟩ u₁, .str ⟨b.toArray⟩ u₂, .str ⟨c.toArray⟩ u₃] }) :: own) → Q (.ref l) { s with heap := h', toks := tk }) :
    wpAny (model PySem.Challenge.rw_wa0029_02.row.prog w) A (call (.ref 28) [.str ⟨(parted a b c).toArray⟩ t]) Q E s := by
  refine wpAny_mono (dec_spec (X.keeps F.keep) hh hroom a b c ha hb hc hsz t) ?_ (fun _ _ h => h)
  rintro v s' ⟨⟨l, u₁, u₂, u₃, rfl, h1, h2⟩, h', tk, rfl, hk⟩
  refine hQ h' tk l u₁ u₂ u₃ (F.keeps hk) fun q hq => ?_
  rcases List.mem_cons.mp hq with rfl | hq
  · refine ⟨h1, fun e => ?_, ?_⟩
    · have e : l = L := e
      rw [e] at h2
      obtain ⟨_, _, _, ho, _⟩ := F.ns
      rw [ho] at h2
      cases h2
    · cases e : h₀.get? l with
      | none => rfl
      | some o => rw [F.keep _ _ e] at h2; cases h2
  · exact ⟨hk _ _ (N q hq).1, (N q hq).2⟩
local macro_rules | `(tactic| walk_at "eval ListComp") => `(tactic| (k_here; k_dflt (refine comp_9 (by assumption) (by assumption) (by assumption) (by with_reducible assumption) (by with_reducible assumption) ?_); intro _ _ _ _ _ _ _ _))
local macro_rules | `(tactic| walk_at "call builtin:str.join") => `(tactic| (k_here; refine join_call (by assumption) (by assumption) (by assumption) (by assumption) ?_; intro _ _))
local macro_rules | `(tactic| walk_at "call ref") => `(tactic| (k_here; refine dec_call (by assumption) (by with_reducible assumption) (by with_reducible assumption) (by rfl) (room1 _) (by assumption) (by assumption) (by assumption) (by assumption) _ ?_; intro _ _ _ _ _ _ _ _))
theorem law_10 {third i : Nat} {ds xs : List Nat} {t : Tok} {Q : Flow → Shared → Prop} {a b c : List Nat} (X : Facts w mean mg mb h₀) (hT : Txt2 third ds i xs) (hi : i ≤ 1000) (ha : ∀ x ∈ a, x ≠ 39) (hb : ∀ x ∈ b, x ≠ 39) (hc : ∀ x ∈ c, x ≠ 39) (hcs : (kept xs).map low = parted a b c) (hsz : (parted a b c).length ≤ 1000)
    (F : Fr h₀ h₀.objs.size s.heap (fun y => if y = "text" then some (.str ⟨xs.toArray⟩ t) else m y)) (N : News h₀ h₀.objs.size s.heap own)
    (hQ : ∀ h' tk l u₁ u₂ u₃, Fr h₀ h₀.objs.size h' (fun y => if y = "read" then some (.ref l) else if y = "text" then some (.str ⟨xs.toArray⟩ t) else m y) → News h₀ h₀.objs.size h' ((l, { cls := .type "list", data := .seq #[.str ⟨a.toArray⟩ u₁, .str ⟨b.toArray⟩ u₂, .str ⟨c.toArray⟩ u₃] }) :: own) → Q .next { s with heap := h', toks := tk }) :
    wpAny (model PySem.Challenge.rw_wa0029_02.row.prog w) (callerA.deeper (env1 h₀ fa cd)) (exec (stm 14 10) (env1 h₀ fa cd)) Q (fun _ _ => False) s := by
  have KX : (hd.heap_39 w.params).In h₀ := X.K
  revert KX
  k_fill
  intro KX
  have T := X.T
  have hst : stm 14 10 = stm 14 10 := rfl
  conv at hst => { rhs; whnf }
  rw [hst]
  clear hst
  k_steps
  (with_reducible rename Fr _ _ _ _ => F')
  (with_reducible rename News _ _ _ _ => N')
  exact hQ _ _ _ _ _ _ F' N'
end
end Mine
open PySem PySem.W PyProof.Rows PySem.Calls
namespace Mine
local macro_rules | `(tactic| walk_at "mine0") => `(tactic| fail)
local macro_rules | `(tactic| walk_at "mine1") => `(tactic| fail)
local macro_rules | `(tactic| walk_at "mine2") => `(tactic| fail)
local macro_rules | `(tactic| walk_at "mine3") => `(tactic| fail)
local macro_rules | `(tactic| walk_at "mine4") => `(tactic| fail)
local macro_rules | `(tactic| walk_at "mine5") => `(tactic| fail)
local macro_rules | `(tactic| walk_at "mine6") => `(tactic| fail)
local macro_rules | `(tactic| walk_at "mine7") => `(tactic| fail)
local macro_rules | `(tactic| walk_at "mine8") => `(tactic| fail)
local macro_rules | `(tactic| walk_at "mine9") => `(tactic| fail)
local macro_rules | `(tactic| walk_at "mine10") => `(tactic| fail)
local macro_rules | `(tactic| walk_at "mine11") => `(tactic| fail)
local macro_rules | `(tactic| walk_at "mine12") => `(tactic| fail)
local macro_rules | `(tactic| walk_at "mine13") => `(tactic| fail)
local macro_rules | `(tactic| walk_at "mine14") => `(tactic| fail)
set_option maxHeartbeats 2000000
section
variable {w : World} {mean : ExcName → Option Value} {mg mb : Str → Option Value} {s : Shared} {fa : Addr} {cd : Value} {h₀ : Heap} {D C : Addr} {vs : List Value} {NS : List Int} {ou oo oi : Obj} {m : Str → Option Value} {own : List (Addr × Obj)}
theorem none_in3 {prog : Program} {w : World} {A : Around} {E : Value → Shared → Prop} {s : Shared} {l : Addr} {a b c : Str} {u₁ u₂ u₃ : Tok} {Q : Value → Shared → Prop} (N : News h₀ D s.heap ((l, { cls := .type "list", data := .seq #[.str a u₁, .str b u₂, .str c u₃] }) :: own)) (h : Q (.bool false) s) :
    wpAny (model prog w) A (compareOp .In .none (.ref l)) Q E s := by
  refine PySem.SeqAt.in_listAt (items := #[.str a u₁, .str b u₂, .str c u₃]) (fun _ => false) ⟨_, N.get (.head _), rfl, _, rfl⟩ ?_ (by rw [show (#[Value.str a u₁, .str b u₂, .str c u₃].any fun _ => false) = false from by simp]; exact h)
  intro y hy
  have hy' : y ∈ ([.str a u₁, .str b u₂, .str c u₃] : List Value) := by simpa using hy
  simp only [List.mem_cons, List.not_mem_nil, or_false] at hy'
  rcases hy' with rfl | rfl | rfl <;> exact PySem.SeqAt.EqAt.str_none _ _
theorem lenT {prog : Program} {w : World} {A : Around} {E : Value → Shared → Prop} {s : Shared} {l : List Nat} {k : Nat} {t : Tok} {Q : Value → Shared → Prop} (hk : l.length = k) (hl : k ≤ 1000) (h : Q (.int (k : Int) (s.toks + 1)) { s with toks := s.toks + 1 + 1 }) : wpAny (model prog w) A (call (.builtin "len") [.str ⟨l.toArray⟩ t]) Q E s := by
  subst hk
  exact P.len_str (x := ⟨l.toArray⟩) (by show ¬ ((l.toArray.size : Nat) : Int) ≥ 2 ^ 63; simp only [List.size_toArray]; omega) (by exact h)
local macro_rules | `(tactic| walk_at "compareOp In") => `(tactic| (k_here; k_dflt (refine none_in3 (by with_reducible assumption) ?_)))
local macro_rules | `(tactic| walk_at "call builtin:len") => `(tactic| (k_here; (with_reducible show wpAny _ _ (call (Value.builtin "len") [Value.str ⟨List.toArray _⟩ _]) _ _ _); refine lenT (by assumption) (by omega) ?_))
theorem law_11 {l : Addr} {a b c : List Nat} {k : Nat} {u₁ u₂ u₃ v1 : Tok} {Q : Flow → Shared → Prop} (X : Facts w mean mg mb h₀) (ha : a.length = k) (hb : b.length = k) (hc : c.length = k) (hk : k ≤ 1000)
    (F : Fr h₀ h₀.objs.size s.heap (fun y => if y = "read" then some (.ref l) else if y = "third" then some (.int k v1) else m y)) (N : News h₀ h₀.objs.size s.heap ((l, { cls := .type "list", data := .seq #[.str ⟨a.toArray⟩ u₁, .str ⟨b.toArray⟩ u₂, .str ⟨c.toArray⟩ u₃] })  :: [(D, listOf vs.toArray 0), (h₀.objs.size + 1, ou), (h₀.objs.size + 2, oo), (h₀.objs.size + 3, oi)]))
    (hQ : ∀ h' tk, Fr h₀ h₀.objs.size h' (fun y => if y = "read" then some (.ref l) else if y = "third" then some (.int k v1) else m y) → News h₀ h₀.objs.size h' ((l, { cls := .type "list", data := .seq #[.str ⟨a.toArray⟩ u₁, .str ⟨b.toArray⟩ u₂, .str ⟨c.toArray⟩ u₃] })  :: [(D, listOf vs.toArray 0), (h₀.objs.size + 1, ou), (h₀.objs.size + 2, oo), (h₀.objs.size + 3, oi)]) → Q .next { s with heap := h', toks := tk }) :
    wpAny (model PySem.Challenge.rw_wa0029_02.row.prog w) (callerA.deeper (env1 h₀ fa cd)) (exec (stm 14 11) (env1 h₀ fa cd)) Q (fun _ _ => False) s := by
  have KX : (hd.heap_39 w.params).In h₀ := X.K
  revert KX
  k_fill
  intro KX
  have T := X.T
  have hst : stm 14 11 = stm 14 11 := rfl
  conv at hst => { rhs; whnf }
  rw [hst]
  clear hst
  k_steps
  (with_reducible rename Fr _ _ _ _ => F')
  (with_reducible rename News _ _ _ _ => N')
  exact hQ _ _ F' (fun q hq => N' q (.tail _ (.tail _ hq)))
end
end Mine
open PySem PySem.W PyProof.Rows PySem.Calls
namespace Mine
set_option maxHeartbeats 2000000
section
variable {w : World} {mean : ExcName → Option Value} {mg mb : Str → Option Value} {s : Shared} {fa : Addr} {cd : Value} {h₀ : Heap} {D C l : Addr} {vs : List Value} {NS : List Int} {ou oo oi : Obj} {a b c : Str} {w1 w2 w3 : Tok} {m : Str → Option Value} {own : List (Addr × Obj)} {Q : Flow → Shared → Prop}
theorem unitBits {t : Nat} (ht : t ≤ 100) : Builtin.Int.intBits ((16 ^ t : Nat) : Int) ≤ 401 := by
  refine PySem.intBits_le_iff.mpr ?_
  rw [Int.natAbs_natCast]
  calc 16 ^ t = 2 ^ (4 * t) := by rw [Nat.pow_mul]
    _ < 2 ^ 401 := Nat.pow_lt_pow_right (by decide) (by omega)
section
local macro_rules | `(tactic| walk_at "binaryOp Pow int int") => `(tactic| (k_here; (with_reducible refine pow_int_small (by omega) (by omega) (by decide) ?_)))
theorem law_12 {t : Nat} {v1 : Tok} (X : Facts w mean mg mb h₀) (ht : t ≤ 100)
    (F : Fr h₀ h₀.objs.size s.heap (fun y => if y = "third" then some (.int t v1) else m y)) (N : News h₀ h₀.objs.size s.heap [(l, { cls := .type "list", data := .seq #[.str a w1, .str b w2, .str c w3] }), (h₀.objs.size + 1, ou), (h₀.objs.size + 2, oo), (h₀.objs.size + 3, oi)]) (Z0 : oi.data = .cell none)
    (hQ : ∀ h' tk oi' u, oi'.data = .cell (some (.int (16 ^ t : Nat) u)) → Fr h₀ h₀.objs.size h' (fun y => if y = "third" then some (.int t v1) else m y) → News h₀ h₀.objs.size h' [(l, { cls := .type "list", data := .seq #[.str a w1, .str b w2, .str c w3] }), (h₀.objs.size + 1, ou), (h₀.objs.size + 2, oo), (h₀.objs.size + 3, oi')] → Q .next { s with heap := h', toks := tk }) :
    wpAny (model PySem.Challenge.rw_wa0029_02.row.prog w) (callerA.deeper (env1 h₀ fa cd)) (exec (stm 14 12) (env1 h₀ fa cd)) Q (fun _ _ => False) s := by
  have KX : (hd.heap_39 w.params).In h₀ := X.K
  revert KX
  k_fill
  intro KX
  have T := X.T
  have hst : stm 14 12 = stm 14 12 := rfl
  conv at hst => { rhs; whnf }
  rw [hst]
  clear hst
  k_steps
  (with_reducible rename Fr _ _ _ _ => F')
  (with_reducible rename News _ _ _ _ => N')
  (rename _ = Data.cell (some _) => d')
  rw [show (16 : Int) ^ (t : Int).toNat = ((16 ^ t : Nat) : Int) by rw [Int.toNat_natCast]; simp] at d'
  exact hQ _ _ _ _ d' F' N'
end
local macro_rules | `(tactic| walk_at "mineH1") => `(tactic| fail)
local macro_rules | `(tactic| walk_at "mineH2") => `(tactic| fail)
theorem pow_unit {prog : Program} {A : Around} {E : Value → Shared → Prop} {a k : Int} {t u : Tok} {Q : Value → Shared → Prop} (hU : Builtin.Int.intBits a ≤ 401) (h0 : 0 ≤ k) (h3 : k < 3) (h : Q (.int (a ^ k.toNat) s.toks) { s with toks := s.toks + 1 }) :
    wpAny (model prog w) A (binaryOp .Pow (.int a t) (.int k u)) Q E s := by
  have hk : k.toNat < 3 := by omega
  refine pow_int h0 ?_ h
  have e : k = (k.toNat : Int) := by omega
  rw [e, ← Int.natCast_mul]
  have : Builtin.Int.intBits a * k.toNat ≤ 401 * 2 := Nat.mul_le_mul hU (by omega)
  omega
local macro_rules | `(tactic| walk_at "binaryOp Pow int int") => `(tactic| (k_here; k_dflt (refine pow_unit (by assumption) (by omega) (by omega) ?_)))
noncomputable def restsL (n o U : Nat) : List Int := [((o * U ^ 0 % n : Nat) : Int), ((o * U ^ 1 % n : Nat) : Int), ((o * U ^ 2 % n : Nat) : Int)]
theorem rests_eq {n o U : Nat} (hn : 3 ≤ n) : List.map (fun k' : Int => ((o : Int) * (U : Int) ^ k'.toNat).fmod (n : Int)) (rangeKs 0 ((3 : Int) - 0).toNat) = restsL n o U := by
  have h0 : rangeKs 0 ((3 : Int) - 0).toNat = [0, 1, 2] := by rfl
  have h1 : ∀ k : Nat, ((o : Int) * (U : Int) ^ k).fmod (n : Int) = ((o * U ^ k % n : Nat) : Int) := fun k => by
    rw [Int.fmod_eq_emod_of_nonneg _ (by omega)]
    simp
  rw [h0]
  show [((o : Int) * (U : Int) ^ 0).fmod (n : Int), ((o : Int) * (U : Int) ^ 1).fmod (n : Int), ((o : Int) * (U : Int) ^ 2).fmod (n : Int)] = _
  rw [h1, h1, h1]
  rfl
theorem law_13 {n o U : Nat} {u1 u2 u3 : Tok} (X : Facts w mean mg mb h₀) (hn : 3 ≤ n ∧ n ≤ 99) (hon : o < n) (hU : Builtin.Int.intBits (U : Int) ≤ 401)
    (F : Fr h₀ h₀.objs.size s.heap m) (N : News h₀ h₀.objs.size s.heap [(l, { cls := .type "list", data := .seq #[.str a w1, .str b w2, .str c w3] }), (h₀.objs.size + 1, ou), (h₀.objs.size + 2, oo), (h₀.objs.size + 3, oi)]) (X0 : ou.data = .cell (some (.int n u1))) (Y0 : oo.data = .cell (some (.int o u2))) (Z0 : oi.data = .cell (some (.int U u3)))
    (hQ : ∀ h' tk R ys, IntsAre ys (restsL n o U) → Fr h₀ h₀.objs.size h' (fun y => if y = "rests" then some (.ref R) else m y) → News h₀ h₀.objs.size h' [(R, LCg.lst ys), (l, { cls := .type "list", data := .seq #[.str a w1, .str b w2, .str c w3] }), (h₀.objs.size + 1, ou), (h₀.objs.size + 2, oo), (h₀.objs.size + 3, oi)] → Q .next { s with heap := h', toks := tk }) :
    wpAny (model PySem.Challenge.rw_wa0029_02.row.prog w) (callerA.deeper (env1 h₀ fa cd)) (exec (stm 14 13) (env1 h₀ fa cd)) Q (fun _ _ => False) s := by
  have KX : (hd.heap_39 w.params).In h₀ := X.K
  revert KX
  k_fill
  intro KX
  have T := X.T
  have hst : stm 14 13 = stm 14 13 := rfl
  conv at hst => { rhs; whnf }
  rw [hst]
  clear hst
  show wpAny _ _ _ _ _ _
  k_steps
  (with_reducible rename Fr _ _ _ _ => F')
  (with_reducible rename News _ _ _ _ => N')
  (with_reducible rename IntsAre _ _ => I')
  rw [rests_eq hn.1] at I'
  exact hQ _ _ _ _ I' F' N'
local macro_rules | `(tactic| walk_at "mineH3") => `(tactic| fail)
theorem val_call {A : Around} {E : Value → Shared → Prop} {L : Addr} {Q : Value → Shared → Prop} {xs : List Nat} (X : Facts w mean mg mb h₀) (F : Fr h₀ L s.heap m) (N : News h₀ L s.heap own) (hh : A.handled = none) (hroom : A.depth + 5 < recursionLimit) (hx : Letters xs) (hz : xs.length ≤ 200) (t : Tok)
    (hQ : ∀ h' tk u, Fr h₀ L h' m → News h₀ L h' own → Q (.int (valsOf xs).sum u) { s with heap := h', toks := tk }) :
    wpAny (model PySem.Challenge.rw_wa0029_02.row.prog w) A (call (.ref 111) [.str ⟨xs.toArray⟩ t]) Q E s := by
  refine wpAny_mono (val_spec (X.keeps F.keep) hh hroom hx hz t) ?_ (fun _ _ h => h)
  rintro v s' ⟨⟨u, rfl⟩, h', tk, rfl, hk⟩
  exact hQ h' tk u (F.keeps hk) fun q hq => ⟨hk _ _ (N q hq).1, (N q hq).2⟩
local macro_rules | `(tactic| walk_at "call ref") => `(tactic| (k_here; k_dflt (refine val_call (by assumption) (by with_reducible assumption) (by with_reducible assumption) (by rfl) (room1 _) (by assumption) (by assumption) _ ?_); intro _ _ _ _ _))
theorem law_14 {a b c : List Nat} {R : Addr} {rs : List Value} (X : Facts w mean mg mb h₀) (ha : Letters a) (hb : Letters b) (hc : Letters c) (za : a.length ≤ 200) (zb : b.length ≤ 200) (zc : c.length ≤ 200)
    (F : Fr h₀ h₀.objs.size s.heap (fun y => if y = "read" then some (.ref l) else m y)) (N : News h₀ h₀.objs.size s.heap [(R, LCg.lst rs), (l, { cls := .type "list", data := .seq #[.str ⟨a.toArray⟩ w1, .str ⟨b.toArray⟩ w2, .str ⟨c.toArray⟩ w3] }), (h₀.objs.size + 1, ou), (h₀.objs.size + 2, oo), (h₀.objs.size + 3, oi)])
    (hQ : ∀ h' tk P t1 t2 t3, Fr h₀ h₀.objs.size h' (fun y => if y = "parts" then some (.ref P) else if y = "read" then some (.ref l) else m y) → News h₀ h₀.objs.size h' [(P, LCg.lst [.int (valsOf a).sum t1, .int (valsOf b).sum t2, .int (valsOf c).sum t3]), (R, LCg.lst rs), (l, { cls := .type "list", data := .seq #[.str ⟨a.toArray⟩ w1, .str ⟨b.toArray⟩ w2, .str ⟨c.toArray⟩ w3] }), (h₀.objs.size + 1, ou), (h₀.objs.size + 2, oo), (h₀.objs.size + 3, oi)] → Q .next { s with heap := h', toks := tk }) :
    wpAny (model PySem.Challenge.rw_wa0029_02.row.prog w) (callerA.deeper (env1 h₀ fa cd)) (exec (stm 14 14) (env1 h₀ fa cd)) Q (fun _ _ => False) s := by
  have KX : (hd.heap_39 w.params).In h₀ := X.K
  revert KX
  k_fill
  intro KX
  have T := X.T
  have hst : stm 14 14 = stm 14 14 := rfl
  conv at hst => { rhs; whnf }
  rw [hst]
  clear hst
  show wpAny _ _ _ _ _ _
  k_steps
  (with_reducible rename Fr _ _ _ _ => F')
  (with_reducible rename News _ _ _ _ => N')
  exact hQ _ _ _ _ _ _ F' N'
end
end Mine
open PySem PySem.W PyProof.Rows PySem.Calls
namespace Mine
local macro_rules | `(tactic| walk_at "mine0") => `(tactic| fail)
local macro_rules | `(tactic| walk_at "mine1") => `(tactic| fail)
local macro_rules | `(tactic| walk_at "mine2") => `(tactic| fail)
local macro_rules | `(tactic| walk_at "mine3") => `(tactic| fail)
local macro_rules | `(tactic| walk_at "mine4") => `(tactic| fail)
local macro_rules | `(tactic| walk_at "mine5") => `(tactic| fail)
local macro_rules | `(tactic| walk_at "mine6") => `(tactic| fail)
local macro_rules | `(tactic| walk_at "mine7") => `(tactic| fail)
local macro_rules | `(tactic| walk_at "mine8") => `(tactic| fail)
local macro_rules | `(tactic| walk_at "mine9") => `(tactic| fail)
local macro_rules | `(tactic| walk_at "mine10") => `(tactic| fail)
local macro_rules | `(tactic| walk_at "mine11") => `(tactic| fail)
local macro_rules | `(tactic| walk_at "mine12") => `(tactic| fail)
local macro_rules | `(tactic| walk_at "mine13") => `(tactic| fail)
local macro_rules | `(tactic| walk_at "mine14") => `(tactic| fail)
set_option maxHeartbeats 2000000
section
variable {w : World} {mean : ExcName → Option Value} {mg mb : Str → Option Value} {s : Shared} {fa : Addr} {cd : Value} {h₀ : Heap} {l : Addr} {ou oo oi : Obj} {m : Str → Option Value} {own : List (Addr × Obj)} {Q : Flow → Shared → Prop}
theorem mul_unit {prog : Program} {A : Around} {E : Value → Shared → Prop} {a k : Int} {r0 r1 r2 : Nat} {t u : Tok} {Q : Value → Shared → Prop} (hk : k ∈ [(r0 : Int), (r1 : Int), (r2 : Int)]) (h0 : r0 < 99) (h1 : r1 < 99) (h2 : r2 < 99) (h : Q (.int (a * k) s.toks) { s with toks := s.toks + 1 }) :
    wpAny (model prog w) A (binaryOp .Mult (.int a t) (.int k u)) Q E s := by
  refine mul_int h (IntMulOk.of_right (PySem.intBits_le_64 ?_ ?_))
  all_goals
    simp only [List.mem_cons, List.not_mem_nil, or_false] at hk
    omega
local macro_rules | `(tactic| walk_at "binaryOp Mult int int") => `(tactic| (k_here; k_dflt (refine mul_unit (by assumption) (by assumption) (by assumption) (by assumption) ?_)))
theorem law_15 {n o U A B C r0 r1 r2 : Nat} {P R : Addr} {t1 t2 t3 p1 p2 p3 u1 u2 u3 : Tok} (X : Facts w mean mg mb h₀) (hn : 3 ≤ n ∧ n ≤ 99) (hU : Builtin.Int.intBits (U : Int) ≤ 401) (h0 : r0 < 99) (h1 : r1 < 99) (h2 : r2 < 99)
    (F : Fr h₀ h₀.objs.size s.heap (fun y => if y = "parts" then some (.ref P) else if y = "rests" then some (.ref R) else m y)) (N : News h₀ h₀.objs.size s.heap [(P, LCg.lst [.int A p1, .int B p2, .int C p3]), (R, LCg.lst [.int r0 t1, .int r1 t2, .int r2 t3]), (h₀.objs.size + 1, ou), (h₀.objs.size + 2, oo), (h₀.objs.size + 3, oi)])
    (X0 : ou.data = .cell (some (.int n u1))) (Y0 : oo.data = .cell (some (.int o u2))) (Z0 : oi.data = .cell (some (.int U u3)))
    (e0 : ((U : Int) * (r0 : Int)).fdiv (n : Int) = (A : Int)) (e1 : ((U : Int) * (r1 : Int)).fdiv (n : Int) = (B : Int)) (e2 : ((U : Int) * (r2 : Int)).fdiv (n : Int) = (C : Int))
    (eS : ((A : Int) + ((B : Int) + ((C : Int) + 0))) * (n : Int) = ((r0 : Int) + ((r1 : Int) + ((r2 : Int) + 0))) * ((U : Int) - 1))
    (hQ : ∀ h' tk, Fr h₀ h₀.objs.size h' (fun y => if y = "parts" then some (.ref P) else if y = "rests" then some (.ref R) else m y) → News h₀ h₀.objs.size h' [(P, LCg.lst [.int A p1, .int B p2, .int C p3]), (h₀.objs.size + 1, ou), (h₀.objs.size + 2, oo), (h₀.objs.size + 3, oi)] → Q .next { s with heap := h', toks := tk }) :
    wpAny (model PySem.Challenge.rw_wa0029_02.row.prog w) (callerA.deeper (env1 h₀ fa cd)) (exec (stm 14 15) (env1 h₀ fa cd)) Q (fun _ _ => False) s := by
  have KX : (hd.heap_39 w.params).In h₀ := X.K
  revert KX
  k_fill
  intro KX
  have T := X.T
  have hst : stm 14 15 = stm 14 15 := rfl
  conv at hst => { rhs; whnf }
  rw [hst]
  clear hst
  show wpAny _ _ _ _ _ _
  k_steps
  · exact absurd eS (by assumption)
  · (with_reducible rename Fr _ _ _ _ => F')
    (with_reducible rename News _ _ _ _ => N')
    refine hQ _ _ F' (fun q hq => ?_)
    rcases List.mem_cons.mp hq with rfl | hq
    · exact N' _ (.tail _ (.head _))
    · exact N' q (.tail _ (.tail _ (.tail _ hq)))
  · (rename ¬ (_ = List.map _ _) => e3)
    exact absurd (show [(A : Int), (B : Int), (C : Int)] = [((U : Int) * (r0 : Int)).fdiv (n : Int), ((U : Int) * (r1 : Int)).fdiv (n : Int), ((U : Int) * (r2 : Int)).fdiv (n : Int)] by rw [e0, e1, e2]) e3
local macro_rules | `(tactic| walk_at "mineI1") => `(tactic| fail)
theorem gcd_callU {A : Around} {E : Value → Shared → Prop} {L : Addr} {Q : Value → Shared → Prop} {x U : Nat} {t u : Tok} (X : Facts w mean mg mb h₀) (F : Fr h₀ L s.heap m) (N : News h₀ L s.heap own) (hU : 1 ≤ U) (hh : A.handled = none) (hroom : A.depth + 5 < recursionLimit)
    (hQ : ∀ h' tk u, Fr h₀ L h' m → News h₀ L h' own → Q (.int (Nat.gcd (U - 1) x : Nat) u) { s with heap := h', toks := tk }) :
    wpAny (model PySem.Challenge.rw_wa0029_02.row.prog w) A (call (.ref 99) [.int x t, .int ((U : Int) - 1) u]) Q E s := by
  rw [show (U : Int) - 1 = ((U - 1 : Nat) : Int) by omega]
  exact gcd_call X F N hh hroom hQ
local macro_rules | `(tactic| walk_at "call ref") => `(tactic| (k_here; k_dflt (refine gcd_callU (by assumption) (by with_reducible assumption) (by with_reducible assumption) (by assumption) (by rfl) (room1 _) ?_); intro _ _ _ _ _))
theorem law_16 {n U : Nat} {P : Addr} {oP : Obj} {u1 u3 : Tok} (X : Facts w mean mg mb h₀) (hn : 3 ≤ n ∧ n ≤ 99) (hU : 1 ≤ U)
    (F : Fr h₀ h₀.objs.size s.heap m) (N : News h₀ h₀.objs.size s.heap [(P, oP), (h₀.objs.size + 1, ou), (h₀.objs.size + 2, oo), (h₀.objs.size + 3, oi)])
    (X0 : ou.data = .cell (some (.int n u1))) (Z0 : oi.data = .cell (some (.int U u3)))
    (hQ : ∀ h' tk u, Fr h₀ h₀.objs.size h' (fun y => if y = "shared" then some (.int (Nat.gcd (U - 1) n : Nat) u) else m y) → News h₀ h₀.objs.size h' [(P, oP), (h₀.objs.size + 1, ou), (h₀.objs.size + 2, oo), (h₀.objs.size + 3, oi)] → Q .next { s with heap := h', toks := tk }) :
    wpAny (model PySem.Challenge.rw_wa0029_02.row.prog w) (callerA.deeper (env1 h₀ fa cd)) (exec (stm 14 16) (env1 h₀ fa cd)) Q (fun _ _ => False) s := by
  have KX : (hd.heap_39 w.params).In h₀ := X.K
  revert KX
  k_fill
  intro KX
  have T := X.T
  have hst : stm 14 16 = stm 14 16 := rfl
  conv at hst => { rhs; whnf }
  rw [hst]
  clear hst
  show wpAny _ _ _ _ _ _
  k_steps
  exact hQ _ _ _ (by assumption) (by assumption)
local macro_rules | `(tactic| walk_at "mineI2") => `(tactic| fail)
local macro_rules | `(tactic| walk_at "mineI3") => `(tactic| fail)
theorem fin_bool {x : Int} {g n : Nat} (h : x = 0 ↔ (g = 1 ∨ (g = 3 ∧ n % 9 ≠ 0))) :
    ((g : Int) = 1 → ((x == 0) == ((g : Int) == 1)) = true) ∧ ((g : Int) ≠ 1 → (g : Int) = 3 → ((x == 0) == ((n : Int).fmod 9 != 0)) = true) ∧ ((g : Int) ≠ 1 → (g : Int) ≠ 3 → ((x == 0) == ((g : Int) == 3)) = true) := by
  have e9 : (n : Int).fmod 9 = ((n % 9 : Nat) : Int) := by rw [Int.fmod_eq_emod_of_nonneg _ (by decide)]; rfl
  rw [e9]
  refine ⟨fun h1 => ?_, fun h1 h3 => ?_, fun h1 h3 => ?_⟩
  · have : x = 0 := h.mpr (.inl (by omega))
    rw [this, h1]; rfl
  · by_cases hx : x = 0
    · rcases h.mp hx with h4 | ⟨_, h4⟩
      · omega
      · have : (((n % 9 : Nat) : Int) != 0) = true := by rw [bne_iff_ne]; omega
        rw [this, hx]; rfl
    · have h4 : ¬ (n % 9 ≠ 0) := fun h4 => hx (h.mpr (.inr ⟨by omega, h4⟩))
      have h5 : (((n % 9 : Nat) : Int) != 0) = false := by
        have : n % 9 = 0 := by omega
        rw [this]; rfl
      have h6 : (x == 0) = false := by rw [beq_eq_false_iff_ne]; exact hx
      rw [h5, h6]; rfl
  · have h6 : (x == 0) = false := by
      rw [beq_eq_false_iff_ne]
      intro hx
      rcases h.mp hx with h4 | ⟨h4, _⟩ <;> omega
    have h7 : ((g : Int) == 3) = false := by rw [beq_eq_false_iff_ne]; exact h3
    rw [h6, h7]; rfl
theorem law_17 {n U A B C g : Nat} {P : Addr} {p1 p2 p3 u1 u3 u4 : Tok} (X : Facts w mean mg mb h₀) (hn : 3 ≤ n ∧ n ≤ 99) (hU : 16 ≤ U)
    (F : Fr h₀ h₀.objs.size s.heap (fun y => if y = "shared" then some (.int g u4) else if y = "parts" then some (.ref P) else m y)) (N : News h₀ h₀.objs.size s.heap [(P, LCg.lst [.int A p1, .int B p2, .int C p3]), (h₀.objs.size + 1, ou), (h₀.objs.size + 2, oo), (h₀.objs.size + 3, oi)])
    (X0 : ou.data = .cell (some (.int n u1))) (Z0 : oi.data = .cell (some (.int U u3)))
    (hfin : ((A : Int) + ((B : Int) + ((C : Int) + 0))).fmod ((U : Int) - 1) = 0 ↔ (g = 1 ∨ (g = 3 ∧ n % 9 ≠ 0)))
    (hQ : ∀ h' tk, (∀ b o, h₀.get? b = some o → h'.get? b = some o) → Q (.ret (.bool true)) { s with heap := h', toks := tk }) :
    wpAny (model PySem.Challenge.rw_wa0029_02.row.prog w) (callerA.deeper (env1 h₀ fa cd)) (exec (stm 14 17) (env1 h₀ fa cd)) Q (fun _ _ => False) s := by
  have KX : (hd.heap_39 w.params).In h₀ := X.K
  revert KX
  k_fill
  intro KX
  have T := X.T
  have hst : stm 14 17 = stm 14 17 := rfl
  conv at hst => { rhs; whnf }
  rw [hst]
  clear hst
  show wpAny _ _ _ _ _ _
  k_steps
  all_goals (with_reducible rename Fr _ _ _ _ => F')
  · rw [(fin_bool hfin).1 (by assumption)]
    exact hQ _ _ F'.keep
  · rw [(fin_bool hfin).2.1 (by assumption) (by assumption)]
    exact hQ _ _ F'.keep
  · rw [(fin_bool hfin).2.2 (by assumption) (by assumption)]
    exact hQ _ _ F'.keep
end
end Mine
open PySem PySem.W PyProof.Rows PySem.Calls
namespace Mine
set_option maxHeartbeats 2000000
/-! the plain law of 02 -/
noncomputable def ordOf (n : Nat) : Nat := (((List.range 50).map (· + 1)).find? fun l => 16 ^ l % n == 1).getD 1
noncomputable def chk2 (n : Nat) : Bool :=
  let l := ordOf n
  let U := 16 ^ thirdOf l
  decide (1 ≤ l) && decide (l ≤ 50) && (16 ^ l % n == 1) && ((List.range l).all fun j => j == 0 || 16 ^ j % n != 1) && decide (1 ≤ thirdOf l) && (U * U * U % n == 1) &&
    (((1 + U + U * U) % n == 0) == (Nat.gcd (U - 1) n == 1 || (Nat.gcd (U - 1) n == 3 && n % 9 != 0)))
theorem chk2_all : ((List.range 49).all fun j => chk2 (2 * j + 3)) = true := by decide +kernel
structure Law2 (n l : Nat) : Prop where
  long : Long n l
  le : l ≤ 50
  third : 1 ≤ thirdOf l
  cube : 16 ^ thirdOf l * 16 ^ thirdOf l * 16 ^ thirdOf l % n = 1
  fin : (1 + 16 ^ thirdOf l + 16 ^ thirdOf l * 16 ^ thirdOf l) % n = 0 ↔ (Nat.gcd (16 ^ thirdOf l - 1) n = 1 ∨ (Nat.gcd (16 ^ thirdOf l - 1) n = 3 ∧ n % 9 ≠ 0))
theorem law2 {n : Nat} (h1 : n % 2 = 1) (h2 : 3 ≤ n ∧ n ≤ 99) : ∃ l, Law2 n l := by
  have h := List.all_eq_true.mp chk2_all ((n - 3) / 2) (List.mem_range.mpr (by omega))
  rw [show 2 * ((n - 3) / 2) + 3 = n by omega] at h
  unfold chk2 at h
  simp only [Bool.and_eq_true, decide_eq_true_eq, beq_iff_eq] at h
  obtain ⟨⟨⟨⟨⟨⟨a1, a2⟩, a3⟩, a4⟩, a5⟩, a6⟩, a7⟩ := h
  refine ⟨ordOf n, ⟨a1, a3, fun j hj1 hj2 => ?_⟩, a2, a5, a6, ?_⟩
  · have := List.all_eq_true.mp a4 j (List.mem_range.mpr hj2)
    rw [Bool.or_eq_true, beq_iff_eq, bne_iff_ne] at this
    rcases this with h | h
    · omega
    · exact h
  · constructor
    · intro h
      have h' : ((1 + 16 ^ thirdOf (ordOf n) + 16 ^ thirdOf (ordOf n) * 16 ^ thirdOf (ordOf n)) % n == 0) = true := by rw [h]; rfl
      rw [h'] at a7
      have := a7.symm
      rw [Bool.or_eq_true, Bool.and_eq_true, beq_iff_eq, beq_iff_eq, bne_iff_ne] at this
      exact this
    · intro h
      have h' : (Nat.gcd (16 ^ thirdOf (ordOf n) - 1) n == 1 || (Nat.gcd (16 ^ thirdOf (ordOf n) - 1) n == 3 && n % 9 != 0)) = true := by
        rw [Bool.or_eq_true, Bool.and_eq_true, beq_iff_eq, beq_iff_eq, bne_iff_ne]
        exact h
      rw [h'] at a7
      exact beq_iff_eq.mp a7
theorem thirdOf_le (l : Nat) : thirdOf l ≤ l := by unfold thirdOf; split <;> omega
/-! the figures in three parts -/
theorem pd_add (a : Nat) : ∀ (b q : Nat), pd (a + b) q = pd a (q / 16 ^ b) ++ pd b q
  | 0, q => by simp [pd]
  | b + 1, q => by
    rw [show a + (b + 1) = (a + b) + 1 by omega, pd, pd_add a b, pd, Nat.pow_succ, Nat.div_div_eq_div_mul, Nat.mul_comm 16, List.append_assoc]
theorem pd_three (t q : Nat) : pd (3 * t) q = pd t (q / 16 ^ t / 16 ^ t) ++ (pd t (q / 16 ^ t) ++ pd t q) := by
  rw [show 3 * t = (t + t) + t by omega, pd_add, pd_add, List.append_assoc]
noncomputable def valN (ys : List Nat) : Nat := ((List.range ys.length).map fun i => ys.getD i 0 * 16 ^ i).sum
theorem sum_map_mul (f : Nat → Nat) : ∀ l : List Nat, (l.map fun i => 16 * f i).sum = 16 * (l.map f).sum
  | [] => rfl
  | x :: r => by rw [List.map_cons, List.sum_cons, sum_map_mul f r, List.map_cons, List.sum_cons, Nat.mul_add]
theorem valN_cons (y : Nat) (ys : List Nat) : valN (y :: ys) = y + 16 * valN ys := by
  unfold valN
  rw [List.length_cons, List.range_succ_eq_map, List.map_cons, List.sum_cons, List.map_map, ← sum_map_mul]
  congr 1
  · simp
  · refine congrArg List.sum (List.map_congr_left fun i _ => ?_)
    show (y :: ys).getD (i + 1) 0 * 16 ^ (i + 1) = _
    rw [List.getD_cons_succ, Nat.pow_succ, Nat.mul_comm (16 ^ i) 16, ← Nat.mul_assoc, Nat.mul_comm _ 16, Nat.mul_assoc]
theorem valN_pd : ∀ (t x : Nat), valN (pd t x).reverse = x % 16 ^ t
  | 0, x => by simp [pd, valN, Nat.mod_one]
  | t + 1, x => by
    rw [pd, List.reverse_append, List.reverse_singleton, List.singleton_append, valN_cons, valN_pd t, Nat.pow_succ, Nat.mul_comm (16 ^ t) 16, Nat.mod_mul]
theorem valsOf_sum (ds : List Nat) : (valsOf (ds.map (97 + ·))).sum = ((valN ds.reverse : Nat) : Int) := by
  unfold valsOf valN
  rw [List.length_map, List.length_reverse]
  have e : ∀ l : List Nat, ((l.map fun i => ds.reverse.getD i 0 * 16 ^ i).sum : Nat) = ((l.map fun i => ((ds.reverse.getD i 0 * 16 ^ i : Nat) : Int)).sum : Int) := by
    intro l
    induction l with
    | nil => rfl
    | cons x r ih => rw [List.map_cons, List.sum_cons, List.map_cons, List.sum_cons, ← ih, Int.natCast_add]
  rw [e]
  refine congrArg List.sum (List.map_congr_left fun i hi => ?_)
  have hi : i < ds.reverse.length := by rw [List.length_reverse]; exact List.mem_range.mp hi
  have e2 : (ds.map (97 + ·)).reverse.getD i 0 = 97 + ds.reverse.getD i 0 := by
    rw [← List.map_reverse, List.getD_eq_getElem?_getD, List.getElem?_map, List.getD_eq_getElem?_getD, List.getElem?_eq_getElem hi]
    rfl
  rw [e2, Nat.add_sub_cancel_left]
/-! what the spelled text leaves -/
theorem outs_run {t : Nat} {ds : List Nat} (i : Nat) : ∀ j, i + j ≤ ds.length → (∀ k, i ≤ k → k < i + j → k ≠ t ∧ k ≠ 2 * t) → outs t ds (i + j) = outs t ds i ++ ((ds.drop i).take j).map (97 + ·)
  | 0, _, _ => by simp
  | j + 1, h, hk => by
    have h1 := hk (i + j) (by omega) (by omega)
    rw [show i + (j + 1) = (i + j) + 1 by omega, outs, outs_run i j (by omega) (fun k a b => hk k a (by omega)), if_neg (by omega), List.nil_append, List.append_assoc]
    congr 1
    have hlt : j < (ds.drop i).length := by rw [List.length_drop]; omega
    rw [List.take_succ_eq_append_getElem hlt, List.map_append, getD_lt (by omega)]
    simp [List.getElem_drop]
theorem outs_seg {t : Nat} {ds : List Nat} (i j : Nat) (hj : 1 ≤ j) (h : i + j ≤ ds.length) (hi : i = t ∨ i = 2 * t) (hk : ∀ k, i < k → k < i + j → k ≠ t ∧ k ≠ 2 * t) : outs t ds (i + j) = outs t ds i ++ 39 :: ((ds.drop i).take j).map (97 + ·) := by
  obtain ⟨j, rfl⟩ : ∃ j', j = j' + 1 := ⟨j - 1, by omega⟩
  rw [show i + (j + 1) = (i + 1) + j by omega, outs_run (i + 1) j (by omega) (fun k a b => hk k (by omega) (by omega)), outs, if_pos hi, List.append_assoc]
  congr 1
  have hlt : i < ds.length := by omega
  rw [List.drop_eq_getElem_cons hlt, List.take_succ_cons, List.map_cons, getD_lt hlt]
  rfl
theorem outs_three {t : Nat} (ht : 1 ≤ t) {a b c : List Nat} (ha : a.length = t) (hb : b.length = t) (hc : c.length = t) :
    outs t (a ++ (b ++ c)) (3 * t) = parted (a.map (97 + ·)) (b.map (97 + ·)) (c.map (97 + ·)) := by
  have hl : (a ++ (b ++ c)).length = 3 * t := by simp only [List.length_append]; omega
  have h0 : outs t (a ++ (b ++ c)) t = a.map (97 + ·) := by
    have := outs_run (t := t) (ds := a ++ (b ++ c)) 0 t (by omega) (fun k _ h => by omega)
    rw [Nat.zero_add] at this
    rw [this, List.drop_zero, ← ha, List.take_left']
    · rfl
    · rfl
  have h1 : outs t (a ++ (b ++ c)) (t + t) = a.map (97 + ·) ++ 39 :: b.map (97 + ·) := by
    rw [outs_seg t t ht (by omega) (.inl rfl) (fun k h1 h2 => by omega), h0, List.drop_left' ha, List.take_left' hb]
  have h2 : outs t (a ++ (b ++ c)) (2 * t + t) = a.map (97 + ·) ++ 39 :: b.map (97 + ·) ++ 39 :: c.map (97 + ·) := by
    rw [outs_seg (2 * t) t ht (by omega) (.inr rfl) (fun k h1 h2 => by omega), show 2 * t = t + t by omega, h1, ← List.append_assoc, List.drop_left' (by rw [List.length_append]; omega), List.take_of_length_le (by omega)]
  rw [show 3 * t = 2 * t + t by omega, h2]
  unfold parted
  simp only [List.append_assoc, List.cons_append]
end Mine
open PySem PySem.W PyProof.Rows PySem.Calls
namespace Mine
local macro_rules | `(tactic| walk_at "mine0") => `(tactic| fail)
local macro_rules | `(tactic| walk_at "mine1") => `(tactic| fail)
local macro_rules | `(tactic| walk_at "mine2") => `(tactic| fail)
local macro_rules | `(tactic| walk_at "mine3") => `(tactic| fail)
local macro_rules | `(tactic| walk_at "mine4") => `(tactic| fail)
local macro_rules | `(tactic| walk_at "mine5") => `(tactic| fail)
local macro_rules | `(tactic| walk_at "mine6") => `(tactic| fail)
local macro_rules | `(tactic| walk_at "mine7") => `(tactic| fail)
local macro_rules | `(tactic| walk_at "mine8") => `(tactic| fail)
local macro_rules | `(tactic| walk_at "mine9") => `(tactic| fail)
local macro_rules | `(tactic| walk_at "mine10") => `(tactic| fail)
local macro_rules | `(tactic| walk_at "mine11") => `(tactic| fail)
local macro_rules | `(tactic| walk_at "mine12") => `(tactic| fail)
local macro_rules | `(tactic| walk_at "mine13") => `(tactic| fail)
local macro_rules | `(tactic| walk_at "mine14") => `(tactic| fail)
set_option maxHeartbeats 2000000
theorem part_eq {n U : Nat} (hn : 0 < n) (hU : 0 < U) (x : Nat) : U * (x % n) / n = (x * U / n) % U := by
  have h : x * U = n * (x / n * U) + U * (x % n) := by
    have := Nat.div_add_mod x n
    calc x * U = (n * (x / n) + x % n) * U := by rw [this]
      _ = n * (x / n * U) + U * (x % n) := by rw [Nat.add_mul, Nat.mul_assoc, Nat.mul_comm (x % n)]
  have hlt : U * (x % n) / n < U := by
    rw [Nat.div_lt_iff_lt_mul hn]
    exact Nat.mul_lt_mul_of_pos_left (Nat.mod_lt _ hn) hU
  rw [h, Nat.mul_add_div hn, Nat.add_comm, Nat.add_mul_mod_self_right, Nat.mod_eq_of_lt hlt]
theorem q_div {n U : Nat} (hU : 0 < U) (y : Nat) : y * U / n / U = y / n := by
  rw [Nat.div_div_eq_div_mul, Nat.mul_div_mul_right _ _ hU]
theorem rest_step {n U : Nat} (x : Nat) : U * (x % n) = n * (U * (x % n) / n) + x * U % n := by
  have := Nat.div_add_mod (U * (x % n)) n
  rw [Nat.mul_mod_mod, Nat.mul_comm U x] at this
  exact this.symm
structure Arith (n o U A B C r0 r1 r2 : Nat) : Prop where
  e0 : ((U : Int) * (r0 : Int)).fdiv (n : Int) = (A : Int)
  e1 : ((U : Int) * (r1 : Int)).fdiv (n : Int) = (B : Int)
  e2 : ((U : Int) * (r2 : Int)).fdiv (n : Int) = (C : Int)
  eS : ((A : Int) + ((B : Int) + ((C : Int) + 0))) * (n : Int) = ((r0 : Int) + ((r1 : Int) + ((r2 : Int) + 0))) * ((U : Int) - 1)
  fin : ((A : Int) + ((B : Int) + ((C : Int) + 0))).fmod ((U : Int) - 1) = 0 ↔ (1 + U + U * U) % n = 0
theorem fdiv_nat {U r n A : Nat} (h : U * r / n = A) : ((U : Int) * (r : Int)).fdiv (n : Int) = (A : Int) := by
  rw [Int.fdiv_eq_ediv_of_nonneg _ (by omega), ← h, ← Int.natCast_mul]
  rfl
theorem arith {n o U : Nat} (hn : 3 ≤ n) (ho : o < n) (hU : 16 ≤ U) (hg : Nat.gcd o n = 1) (hc : U * U * U % n = 1) :
    Arith n o U (o * (U * U * U) / n / U / U % U) (o * (U * U * U) / n / U % U) (o * (U * U * U) / n % U) (o * U ^ 0 % n) (o * U ^ 1 % n) (o * U ^ 2 % n) := by
  have hn0 : 0 < n := by omega
  have hU0 : 0 < U := by omega
  have x0 : o * U ^ 0 = o := by rw [Nat.pow_zero, Nat.mul_one]
  have x1 : o * U ^ 1 = o * U := by rw [Nat.pow_one]
  have x2 : o * U ^ 2 = o * U * U := by rw [Nat.pow_two, Nat.mul_assoc]
  have x3 : o * (U * U * U) = o * U * U * U := by rw [Nat.mul_assoc U, ← Nat.mul_assoc o, ← Nat.mul_assoc (o * U)]
  have hA : U * (o * U ^ 0 % n) / n = o * (U * U * U) / n / U / U % U := by rw [x0, part_eq hn0 hU0, x3, q_div hU0, q_div hU0]
  have hB : U * (o * U ^ 1 % n) / n = o * (U * U * U) / n / U % U := by rw [x1, part_eq hn0 hU0, x3, q_div hU0]
  have hC : U * (o * U ^ 2 % n) / n = o * (U * U * U) / n % U := by rw [x2, part_eq hn0 hU0, x3]
  have s0 : U * (o * U ^ 0 % n) = n * (U * (o * U ^ 0 % n) / n) + o * U ^ 1 % n := by rw [x0, x1]; exact rest_step o
  have s1 : U * (o * U ^ 1 % n) = n * (U * (o * U ^ 1 % n) / n) + o * U ^ 2 % n := by rw [x1, x2]; exact rest_step (o * U)
  have s2 : U * (o * U ^ 2 % n) = n * (U * (o * U ^ 2 % n) / n) + o * U ^ 0 % n := by
    have e : o * U * U * U % n = o * U ^ 0 % n := by
      rw [x0, ← x3, Nat.mul_mod, hc, Nat.mul_one, Nat.mod_mod]
    rw [← e, x2]; exact rest_step (o * U * U)
  rw [hA] at s0
  rw [hB] at s1
  rw [hC] at s2
  have hsum : (o * U ^ 0 % n + o * U ^ 1 % n + o * U ^ 2 % n) % n = o * (1 + U + U * U) % n := by
    have : o * (1 + U + U * U) = o * U ^ 0 + o * U ^ 1 + o * U ^ 2 := by rw [x0, x1, x2, Nat.mul_add, Nat.mul_add, Nat.mul_one, Nat.mul_assoc]
    rw [this]
    simp only [Nat.add_mod, Nat.mod_mod]
  generalize o * (U * U * U) / n / U / U % U = A at *
  generalize o * (U * U * U) / n / U % U = B at *
  generalize o * (U * U * U) / n % U = C at *
  generalize o * U ^ 0 % n = r0 at *
  generalize o * U ^ 1 % n = r1 at *
  generalize o * U ^ 2 % n = r2 at *
  have hS : n * (A + B + C) + (r0 + r1 + r2) = U * (r0 + r1 + r2) := by
    rw [Nat.mul_add, Nat.mul_add, Nat.mul_add, Nat.mul_add, s0, s1, s2]; omega
  have hS2 : (A + B + C) * n = (r0 + r1 + r2) * (U - 1) := by
    rw [Nat.mul_sub, Nat.mul_one, Nat.mul_comm _ U, ← hS, Nat.add_sub_cancel, Nat.mul_comm]
  have cU : (U : Int) - 1 = ((U - 1 : Nat) : Int) := by omega
  have cP : (A : Int) + ((B : Int) + ((C : Int) + 0)) = ((A + B + C : Nat) : Int) := by omega
  have cR : (r0 : Int) + ((r1 : Int) + ((r2 : Int) + 0)) = ((r0 + r1 + r2 : Nat) : Int) := by omega
  refine ⟨fdiv_nat hA, fdiv_nat hB, fdiv_nat hC, ?_, ?_⟩
  · rw [cU, cP, cR, ← Int.natCast_mul, ← Int.natCast_mul, hS2]
  · rw [cU, cP, Int.fmod_eq_emod_of_nonneg _ (by omega)]
    have e1 : ((A + B + C : Nat) : Int) % ((U - 1 : Nat) : Int) = (((A + B + C) % (U - 1) : Nat) : Int) := rfl
    rw [e1]
    have h1 : (A + B + C) % (U - 1) = 0 ↔ (r0 + r1 + r2) % n = 0 := by
      constructor
      · intro h
        obtain ⟨k, hk⟩ := Nat.dvd_of_mod_eq_zero h
        rw [hk] at hS2
        have : (r0 + r1 + r2) = k * n := by
          refine Nat.eq_of_mul_eq_mul_right (show 0 < U - 1 by omega) ?_
          rw [← hS2, Nat.mul_assoc, Nat.mul_comm]
        rw [this]; exact Nat.mul_mod_left k n
      · intro h
        obtain ⟨k, hk⟩ := Nat.dvd_of_mod_eq_zero h
        rw [hk] at hS2
        have : A + B + C = k * (U - 1) := by
          refine Nat.eq_of_mul_eq_mul_right hn0 ?_
          rw [hS2, Nat.mul_assoc, Nat.mul_comm n]
        rw [this]; exact Nat.mul_mod_left k _
    have h2 : (r0 + r1 + r2) % n = 0 ↔ (1 + U + U * U) % n = 0 := by
      rw [hsum]
      constructor
      · intro h
        exact Nat.mod_eq_zero_of_dvd (Nat.Coprime.dvd_of_dvd_mul_left (Nat.Coprime.symm hg) (Nat.dvd_of_mod_eq_zero h))
      · intro h
        rw [Nat.mul_mod, h, Nat.mul_zero, Nat.zero_mod]
    rw [← h2, ← h1]
    omega
end Mine
open PySem PySem.W PyProof.Rows PySem.Calls
namespace Mine
set_option maxHeartbeats 8000000
section
variable {w : World} {mean : ExcName → Option Value} {mg mb : Str → Option Value} {s : Shared} {fa : Addr} {cd : Value} {h₀ : Heap} {a : Addr} {vals : List Value} {ns : List Int} {ou oo oi : Obj} {Q : Flow → Shared → Prop}
theorem law_0 
    (X : Facts w mean mg mb h₀) (hL : h₀.IsList a vals.toArray) (hI : IntsAre vals ns) (hlen : (ns.length : Int) ≤ 63)
    (F : Fr h₀ h₀.objs.size s.heap (fun y => if y = "script" then some (.ref a) else none)) (N : News h₀ h₀.objs.size s.heap [(h₀.objs.size + 1, ou), (h₀.objs.size + 2, oo), (h₀.objs.size + 3, oi)]) 
    (hQ : ∀ h' tk D vs NS, 6 ≤ NS.length → NS.length ≤ 100 → IntsAre vs NS → Fr h₀ h₀.objs.size h' (fun y => if y = "numbers" then some (.ref D) else if y = "script" then some (.ref a) else none) → News h₀ h₀.objs.size h' [(D, listOf vs.toArray 0), (h₀.objs.size + 1, ou), (h₀.objs.size + 2, oo), (h₀.objs.size + 3, oi)] → Q .next { s with heap := h', toks := tk }) :
    wpAny (model PySem.Challenge.rw_wa0029_02.row.prog w) (callerA.deeper (env1 h₀ fa cd)) (exec (stm 14 0) (env1 h₀ fa cd)) Q (fun _ _ => False) s := by
  have KX : (hd.heap_39 w.params).In h₀ := X.K
  revert KX
  k_fill
  intro KX
  have T := X.T
  have hst : stm 14 0 = stm 14 0 := rfl
  conv at hst => { rhs; whnf }
  rw [hst]
  clear hst
  k_steps
  (with_reducible rename Fr _ _ _ _ => F')
  (with_reducible rename News _ _ _ _ => N')
  (with_reducible rename IntsAre _ (_ ++ _) => hI')
  refine hQ _ _ _ _ _ ?_ ?_ hI' F' ?_
  · simp only [List.length_append, List.length_take, List.length_drop, List.length_cons, List.length_nil]
    omega
  · simp only [List.length_append, List.length_take, List.length_drop, List.length_cons, List.length_nil]
    omega
  · intro p hp
    rcases List.mem_cons.mp hp with rfl | hp
    · exact N' _ (.head _)
    · exact N' p (.tail _ (.tail _ (.tail _ (.tail _ hp))))
end
end Mine
open PySem PySem.W PyProof.Rows PySem.Calls
namespace Mine
local macro_rules | `(tactic| walk_at "mine0") => `(tactic| fail)
local macro_rules | `(tactic| walk_at "mine1") => `(tactic| fail)
local macro_rules | `(tactic| walk_at "mine2") => `(tactic| fail)
local macro_rules | `(tactic| walk_at "mine3") => `(tactic| fail)
local macro_rules | `(tactic| walk_at "mine4") => `(tactic| fail)
local macro_rules | `(tactic| walk_at "mine5") => `(tactic| fail)
local macro_rules | `(tactic| walk_at "mine6") => `(tactic| fail)
local macro_rules | `(tactic| walk_at "mine7") => `(tactic| fail)
local macro_rules | `(tactic| walk_at "mine8") => `(tactic| fail)
local macro_rules | `(tactic| walk_at "mine9") => `(tactic| fail)
local macro_rules | `(tactic| walk_at "mine10") => `(tactic| fail)
local macro_rules | `(tactic| walk_at "mine11") => `(tactic| fail)
local macro_rules | `(tactic| walk_at "mine12") => `(tactic| fail)
local macro_rules | `(tactic| walk_at "mine13") => `(tactic| fail)
local macro_rules | `(tactic| walk_at "mine14") => `(tactic| fail)
set_option maxHeartbeats 8000000
section
variable {w : World} {mean : ExcName → Option Value} {mg mb : Str → Option Value} {s : Shared} {fa : Addr} {cd : Value} {h₀ : Heap} {a D : Addr} {vs : List Value} {NS : List Int} {ou oo oi : Obj} {Q : Flow → Shared → Prop} {m : Str → Option Value}
theorem ints3 {ys : List Value} {x y z : Int} (h : IntsAre ys [x, y, z]) : ∃ t1 t2 t3, ys = [.int x t1, .int y t2, .int z t3] := by
  cases h with
  | cons a b r => cases r with
    | cons a b r => cases r with
      | cons a b r => cases r; exact ⟨_, _, _, rfl⟩
theorem body_list : bodyAt 14 = [stm 14 0, stm 14 1, stm 14 2, stm 14 3, stm 14 4, stm 14 5, stm 14 6, stm 14 7, stm 14 8, stm 14 9, stm 14 10, stm 14 11, stm 14 12, stm 14 13, stm 14 14, stm 14 15, stm 14 16, stm 14 17] := by rfl
theorem letters97 {l : List Nat} (hl : ∀ x ∈ l, x < 16) : Letters (l.map (97 + ·)) := by
  intro c hc
  obtain ⟨d, hd, rfl⟩ := List.mem_map.mp hc
  have := hl d hd
  omega
theorem no39 {l : List Nat} (hl : Letters l) : ∀ x ∈ l, x ≠ 39 := by
  intro x hx
  have := hl x hx
  omega
theorem law_body {vals : List Value} {ns : List Int}
    (X : Facts w mean mg mb h₀) (hL : h₀.IsList a vals.toArray) (hI : IntsAre vals ns) (hlen : (ns.length : Int) ≤ 63)
    (F : Fr h₀ h₀.objs.size s.heap (fun y => if y = "script" then some (.ref a) else none)) (N : News h₀ h₀.objs.size s.heap [(h₀.objs.size + 1, ou), (h₀.objs.size + 2, oo), (h₀.objs.size + 3, oi)]) (X0 : ou.data = .cell none) (Y0 : oo.data = .cell none) (Z0 : oi.data = .cell none)
    (hQ : ∀ h' tk, (∀ b o, h₀.get? b = some o → h'.get? b = some o) → Q (.ret (.bool true)) { s with heap := h', toks := tk }) :
    wpAny (model PySem.Challenge.rw_wa0029_02.row.prog w) (callerA.deeper (env1 h₀ fa cd)) (execs (bodyAt 14) (env1 h₀ fa cd)) Q (fun _ _ => False) s := by
  rw [body_list]
  refine wpAny_execs_cons ?_
  try dsimp only
  refine law_0 (fa := fa) (cd := cd) X hL hI hlen F N ?_
  intro h1 k1 D vs NS hN hN2 hI1 F1 N1
  refine wpAny_execs_cons ?_
  try dsimp only
  refine law_1 (fa := fa) (cd := cd) X hI1 hN (frAt F1 [("numbers", .ref D)] ⟨rfl, trivial⟩) N1 X0 ?_
  intro h2 k2 n u ou2 hodd hn F2 N2 X2
  refine wpAny_execs_cons ?_
  try dsimp only
  refine law_2 (fa := fa) (cd := cd) X hI1 hN hn F2 N2 X2 Y0 ?_
  intro h3 k3 o0 u3 oo3 ho0 hon0 F3 N3 Y3
  obtain ⟨m3, hm3, F3⟩ := frLook F3 [("numbers", Value.ref D)] ⟨rfl, trivial⟩
  refine wpAny_execs_cons ?_
  try dsimp only
  refine law_3 (fa := fa) (cd := cd) X hn ho0 hon0 F3 hm3.1 N3 X2 Y3 ?_
  intro h4 k4 o v4 oo4 m4 ho hon hg F4 hm4 N4 Y4
  refine wpAny_execs_cons ?_
  try dsimp only
  refine law_4 (fa := fa) (cd := cd) X F4 N4 ?_
  intro h5 k5 u5 F5 N5
  refine wpAny_execs_cons ?_
  try dsimp only
  refine law_5 (fa := fa) (cd := cd) X hn F5 N5 X2 ?_
  intro h6 k6 u6 F6 N6
  obtain ⟨m6, hm6, F6⟩ := frLook F6 [("long", Value.int 1 u5), ("rest", .int ((16 % n : Nat) : Int) u6), ("numbers", .ref D)] ⟨rfl, rfl, hm4, trivial⟩
  obtain ⟨l, hl⟩ := law2 hodd hn
  have hle := hl.le
  refine wpAny_execs_cons ?_
  try dsimp only
  refine law_6 (fa := fa) (cd := cd) X hn hl.long (by omega) F6 hm6.1 hm6.2.1 hm6.2.2.1 N6 X2 ?_
  intro h7 k7 u7 m7 hm7 hm7' F7 N7
  refine wpAny_execs_cons ?_
  try dsimp only
  refine law_7 (fa := fa) (cd := cd) X (frAt F7 [("long", .int l u7)] ⟨hm7, trivial⟩) N7 ?_
  intro h8 k8 u8 F8 N8
  have htl := thirdOf_le l
  have ht1 := hl.third
  have hcube := hl.cube
  have hfin := hl.fin
  generalize thirdOf l = t at *
  have hU16 : 16 ≤ 16 ^ t := by
    calc 16 = 16 ^ 1 := rfl
      _ ≤ 16 ^ t := Nat.pow_le_pow_right (by decide) ht1
  obtain ⟨m8, hm8, F8⟩ := frLook F8 [("third", Value.int t u8), ("numbers", .ref D)] ⟨rfl, hm7', trivial⟩
  refine wpAny_execs_cons ?_
  try dsimp only
  refine law_8 (fa := fa) (cd := cd) (n := n) (o := o) (t := t) X hn hon ⟨ht1, by omega⟩ (frAt F8 [("third", .int t u8)] ⟨hm8.1, trivial⟩) N8 X2 Y4 ?_
  intro h9 k9 u9 F9 N9
  have hdl : (pd (3 * t) (bigQ n o t)).length = 3 * t := pd_len _ _
  obtain ⟨m9, hm9, F9⟩ := frLook F9 [("letters", Value.str ⟨((pd (3 * t) (bigQ n o t)).map (65 + ·)).toArray⟩ u9), ("third", .int t u8), ("numbers", .ref D)] ⟨rfl, rfl, hm8.2.1, trivial⟩
  refine wpAny_execs_cons ?_
  try dsimp only
  refine law_9 (fa := fa) (cd := cd) (ds := pd (3 * t) (bigQ n o t)) (third := t) (m := m9) X hI1 hN hN2 (pd_lt _ _) (by omega) (frAt F9 [("letters", _), ("third", _), ("numbers", _)] ⟨hm9.1, hm9.2.1, hm9.2.2.1, trivial⟩) N9 ?_
  intro h10 k10 xs u10 hT F10 N10
  have hq : bigQ n o t = o * (16 ^ t * 16 ^ t * 16 ^ t) / n := by
    unfold bigQ
    rw [show 3 * t = t + t + t by omega, Nat.pow_add, Nat.pow_add]
  rw [hdl, hq] at hT
  have hds := pd_three t (o * (16 ^ t * 16 ^ t * 16 ^ t) / n)
  have hA16 := pd_lt t (o * (16 ^ t * 16 ^ t * 16 ^ t) / n / 16 ^ t / 16 ^ t)
  have hB16 := pd_lt t (o * (16 ^ t * 16 ^ t * 16 ^ t) / n / 16 ^ t)
  have hC16 := pd_lt t (o * (16 ^ t * 16 ^ t * 16 ^ t) / n)
  have hAl := pd_len t (o * (16 ^ t * 16 ^ t * 16 ^ t) / n / 16 ^ t / 16 ^ t)
  have hBl := pd_len t (o * (16 ^ t * 16 ^ t * 16 ^ t) / n / 16 ^ t)
  have hCl := pd_len t (o * (16 ^ t * 16 ^ t * 16 ^ t) / n)
  have hAv : (valsOf ((pd t (o * (16 ^ t * 16 ^ t * 16 ^ t) / n / 16 ^ t / 16 ^ t)).map (97 + ·))).sum = ((o * (16 ^ t * 16 ^ t * 16 ^ t) / n / 16 ^ t / 16 ^ t % 16 ^ t : Nat) : Int) := by rw [valsOf_sum, valN_pd]
  have hBv : (valsOf ((pd t (o * (16 ^ t * 16 ^ t * 16 ^ t) / n / 16 ^ t)).map (97 + ·))).sum = ((o * (16 ^ t * 16 ^ t * 16 ^ t) / n / 16 ^ t % 16 ^ t : Nat) : Int) := by rw [valsOf_sum, valN_pd]
  have hCv : (valsOf ((pd t (o * (16 ^ t * 16 ^ t * 16 ^ t) / n)).map (97 + ·))).sum = ((o * (16 ^ t * 16 ^ t * 16 ^ t) / n % 16 ^ t : Nat) : Int) := by rw [valsOf_sum, valN_pd]
  have hkept : (kept xs).map low = parted ((pd t (o * (16 ^ t * 16 ^ t * 16 ^ t) / n / 16 ^ t / 16 ^ t)).map (97 + ·)) ((pd t (o * (16 ^ t * 16 ^ t * 16 ^ t) / n / 16 ^ t)).map (97 + ·)) ((pd t (o * (16 ^ t * 16 ^ t * 16 ^ t) / n)).map (97 + ·)) := by
    rw [hT.out, hds, outs_three ht1 hAl hBl hCl]
  have har := arith (n := n) (o := o) (U := 16 ^ t) hn.1 hon hU16 hg hcube
  clear hq hds
  generalize pd t (o * (16 ^ t * 16 ^ t * 16 ^ t) / n / 16 ^ t / 16 ^ t) = pA at *
  generalize pd t (o * (16 ^ t * 16 ^ t * 16 ^ t) / n / 16 ^ t) = pB at *
  generalize pd t (o * (16 ^ t * 16 ^ t * 16 ^ t) / n) = pC at *
  generalize o * (16 ^ t * 16 ^ t * 16 ^ t) / n / 16 ^ t / 16 ^ t % 16 ^ t = vA at *
  generalize o * (16 ^ t * 16 ^ t * 16 ^ t) / n / 16 ^ t % 16 ^ t = vB at *
  generalize o * (16 ^ t * 16 ^ t * 16 ^ t) / n % 16 ^ t = vC at *
  have hpl : (parted (pA.map (97 + ·)) (pB.map (97 + ·)) (pC.map (97 + ·))).length ≤ 1000 := by
    unfold parted
    simp only [List.length_append, List.length_cons, List.length_map]
    omega
  obtain ⟨m10, hm10, F10⟩ := frLook F10 [("text", Value.str ⟨xs.toArray⟩ u10), ("third", .int t u8)] ⟨rfl, rfl, trivial⟩
  refine wpAny_execs_cons ?_
  try dsimp only
  refine law_10 (fa := fa) (cd := cd) (m := m10) X hT (by omega) (no39 (letters97 hA16)) (no39 (letters97 hB16)) (no39 (letters97 hC16)) hkept hpl (frAt F10 [("text", _)] ⟨hm10.1, trivial⟩) N10 ?_
  intro h11 k11 lr w1 w2 w3 F11 N11
  obtain ⟨m11, hm11, F11⟩ := frLook F11 [("read", Value.ref lr), ("third", .int t u8)] ⟨rfl, hm10.2.1, trivial⟩
  refine wpAny_execs_cons ?_
  try dsimp only
  refine law_11 (fa := fa) (cd := cd) (m := m11) (k := t) X (by rw [List.length_map]; exact hAl) (by rw [List.length_map]; exact hBl) (by rw [List.length_map]; exact hCl) (by omega) (frAt F11 [("read", _), ("third", _)] ⟨hm11.1, hm11.2.1, trivial⟩) N11 ?_
  intro h12 k12 F12 N12
  obtain ⟨m12, hm12, F12⟩ := frLook F12 [("read", Value.ref lr), ("third", .int t u8)] ⟨rfl, rfl, trivial⟩
  refine wpAny_execs_cons ?_
  try dsimp only
  refine law_12 (fa := fa) (cd := cd) (m := m12) (t := t) X (by omega) (frAt F12 [("third", _)] ⟨hm12.2.1, trivial⟩) (l := lr) (a := ⟨(pA.map (97 + ·)).toArray⟩) (b := ⟨(pB.map (97 + ·)).toArray⟩) (c := ⟨(pC.map (97 + ·)).toArray⟩) (w1 := w1) (w2 := w2) (w3 := w3) (fun q hq => by
    rcases List.mem_cons.mp hq with rfl | hq
    · exact N12 _ (.head _)
    · exact N12 q (.tail _ (.tail _ hq))) Z0 ?_
  intro h13 k13 oi13 u13 Z13 F13 N13
  obtain ⟨m13, hm13, F13⟩ := frLook F13 [("read", Value.ref lr)] ⟨hm12.1, trivial⟩
  refine wpAny_execs_cons ?_
  try dsimp only
  refine law_13 (fa := fa) (cd := cd) (m := m13) (n := n) (o := o) (U := 16 ^ t) X hn hon (unitBits (by omega)) F13 N13 X2 Y4 Z13 ?_
  intro h14 k14 R ys hys F14 N14
  obtain ⟨t1, t2, t3, rfl⟩ := ints3 hys
  obtain ⟨m14, hm14, F14⟩ := frLook F14 [("rests", Value.ref R), ("read", Value.ref lr)] ⟨rfl, hm13.1, trivial⟩
  refine wpAny_execs_cons ?_
  try dsimp only
  refine law_14 (fa := fa) (cd := cd) (m := m14) X (letters97 hA16) (letters97 hB16) (letters97 hC16) (by rw [List.length_map]; omega) (by rw [List.length_map]; omega) (by rw [List.length_map]; omega) (frAt F14 [("read", _)] ⟨hm14.2.1, trivial⟩) N14 ?_
  intro h15 k15 P p1 p2 p3 F15 N15
  rw [hAv, hBv, hCv] at N15
  obtain ⟨m15, hm15, F15⟩ := frLook F15 [("parts", Value.ref P), ("rests", Value.ref R)] ⟨rfl, hm14.1, trivial⟩
  have hr : ∀ k, o * (16 ^ t) ^ k % n < 99 := fun k => by
    have := Nat.mod_lt (o * (16 ^ t) ^ k) (show n > 0 by omega)
    omega
  refine wpAny_execs_cons ?_
  try dsimp only
  refine law_15 (fa := fa) (cd := cd) (m := m15) (n := n) (o := o) (U := 16 ^ t) (A := vA) (B := vB) (C := vC) (r0 := o * (16 ^ t) ^ 0 % n) (r1 := o * (16 ^ t) ^ 1 % n) (r2 := o * (16 ^ t) ^ 2 % n) X hn (unitBits (by omega)) (hr 0) (hr 1) (hr 2) (frAt F15 [("parts", _), ("rests", _)] ⟨hm15.1, hm15.2.1, trivial⟩) (fun q hq => by
    rcases List.mem_cons.mp hq with rfl | hq
    · exact N15 _ (.head _)
    rcases List.mem_cons.mp hq with rfl | hq
    · exact N15 _ (.tail _ (.head _))
    · exact N15 q (.tail _ (.tail _ (.tail _ hq)))) X2 Y4 Z13 har.e0 har.e1 har.e2 har.eS ?_
  intro h16 k16 F16 N16
  obtain ⟨m16, hm16, F16⟩ := frLook F16 [("parts", Value.ref P)] ⟨rfl, trivial⟩
  refine wpAny_execs_cons ?_
  try dsimp only
  refine law_16 (fa := fa) (cd := cd) (m := m16) (n := n) (U := 16 ^ t) X hn (by omega) F16 N16 X2 Z13 ?_
  intro h17 k17 u17 F17 N17
  obtain ⟨m17, hm17, F17⟩ := frLook F17 [("shared", Value.int (Nat.gcd (16 ^ t - 1) n : Nat) u17), ("parts", Value.ref P)] ⟨rfl, hm16.1, trivial⟩
  refine wpAny_execs_cons ?_
  try dsimp only
  refine law_17 (fa := fa) (cd := cd) (m := m17) (n := n) (U := 16 ^ t) (g := Nat.gcd (16 ^ t - 1) n) X hn hU16 (frAt F17 [("shared", _), ("parts", _)] ⟨hm17.1, hm17.2.1, trivial⟩) N17 X2 Z13 (har.fin.trans hfin) ?_
  intro h18 k18 hk
  exact hQ _ _ hk
end
end Mine
open PySem PySem.W PyProof.Rows PySem.Calls
namespace Mine
set_option maxHeartbeats 8000000
theorem news3 {h₀ h : Heap} {L x : Addr} {o1 o2 o3 : Obj} (N : News h₀ L h [(x + 1 + 1 + 1, o3), (x + 1 + 1, o2), (x + 1, o1)]) : News h₀ L h [(x + 1, o1), (x + 2, o2), (x + 3, o3)] := by
  intro q hq
  rcases List.mem_cons.mp hq with rfl | hq
  · exact N _ (.tail _ (.tail _ (.head _)))
  rcases List.mem_cons.mp hq with rfl | hq
  · exact N _ (.tail _ (.head _))
  · rw [List.mem_singleton.mp hq]
    exact N _ (.head _)
theorem final02 : PySem.Challenge.rw_wa0029_02.Holds := hd (by
  k_fill
  intro w s₀ s₁ mg mb G Y fa o pm cd doc dV kV ho hd hcd hD hmg hg args vals as hpre hlay hrd hwl hlo
  have SX := Y.2
  have KX := kIn_of Y.1
  k_behind G ho hd hcd hD hmg hpre hlay hrd hwl hlo cd
  show wpAny _ (callerA.deeper (envOfC "law" (scopeAt 14) _ _ _)) (execs (bodyAt 14) (envOfC "law" (scopeAt 14) _ _ _)) _ _ _
  (with_reducible rename Fr _ _ _ _ => F')
  (with_reducible rename News _ _ _ _ => N')
  (with_reducible rename CellsAre _ _ _ => C')
  (with_reducible rename IntsAre _ _ => hI')
  (with_reducible rename Heap.IsList _ _ _ => hL')
  (with_reducible rename Top _ _ _ _ _ _ => T')
  obtain ⟨ob3, ob2, ob1, hob, d3, d2, d1⟩ := CellsAre.three C'
  rw [hob] at N'
  refine wpAny_mono (law_body (ou := ob1) (oo := ob2) (oi := ob3) ⟨KX, SX.1, SX.2, T'⟩ hL' hI' (by omega) (by with_unfolding_all exact F') (news3 N') d1 d2 d3 ?_) (fun _ _ h => h) (fun _ _ h => h.elim)
  intro h' tk hk
  refine ⟨.inl ⟨.bool true, .bool true, [], rfl, fun cls => ?goodR, .bool true, ?goodP, fun h => ?goodU⟩, hk, rfl, hg⟩
  case goodR => rfl
  case goodU => first | exact ⟨List.nodup_nil, fun a ha => (by cases ha)⟩ | (cases h)
  case goodP =>

    first | rfl | kernel_rfl)
end Mine
theorem PySem.Challenge.cw_wa0029_02_holds : PySem.Challenge.rw_wa0029_02.Holds :=
  Mine.final02
