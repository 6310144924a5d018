import PyProof.Rows.All
import Wide.All
import OpenK.AllK
import Wide.FinOn
import PySem.Challenge.RW_mq0336_01
set_option Elab.async false
set_option linter.unusedVariables false
section
open PySem PySem.W PyProof.Rows
namespace Mine

section
variable {α β : Type} {tb : String → Option Builtin} {p : Program} {w : World} {n₀ : Nat} {ann : Option Value}

/-- x runs from (s, q) to a and (s', q') within c steps of the top, whatever stands around it -/
def Ev (tb : String → Option Builtin) (p : Program) (w : World) (n₀ : Nat) (ann : Option Value) (c : Nat) (x : Sem α) (s : Shared) (q : Pos) (a : α) (s' : Shared) (q' : Pos) : Prop :=
  ∀ (K : α → Sem Fin) (H : Value → Sem Fin) (gd : Bool → Bool) (lv : List Value → List Value) (code : Code) (f : Frame) (B : List Frame) (N : Nat) (r : Shared),
    topRun tb p w n₀ ann N s' ⟨K a, code, q', f :: B⟩ = some r → topRun tb p w n₀ ann (c + N) s ⟨x.wrap K H gd lv, code, q, f :: B⟩ = some r

theorem run_step {N : Nat} {s s' r : Shared} {t t' : Thread} (ht : through t = false) (hk : stepOk n₀ ann t = true) (hs : step (denote tb) p w s t = .go s' t') (h : topRun tb p w n₀ ann N s' t' = some r) :
    topRun tb p w n₀ ann (1 + N) s t = some r := by
  rw [Nat.add_comm]
  unfold topRun
  rw [ht, hk, hs]
  exact h

variable {s s' s'' : Shared} {q q' q'' : Pos} {a : α} {b : β} {c c' : Nat}
theorem Ev.mono {x : Sem α} (h : Ev tb p w n₀ ann c x s q a s' q') (le : c ≤ c') : Ev tb p w n₀ ann c' x s q a s' q' := fun K H gd lv code f B N r k => by
  have := topRun_mono (c' - c) _ _ _ _ (h K H gd lv code f B N r k)
  rwa [show c + N + (c' - c) = c' + N by omega] at this
theorem Ev.pure : Ev tb p w n₀ ann 0 (Pure.pure a : Sem α) s q a s q := fun K H gd lv code f B N r k => by rw [Nat.zero_add]; exact k
theorem Ev.bind {x : Sem α} {f : α → Sem β} (h : Ev tb p w n₀ ann c x s q a s' q') (k : Ev tb p w n₀ ann c' (f a) s' q' b s'' q'') : Ev tb p w n₀ ann (c + c') (x >>= f) s q b s'' q'' :=
  fun K H gd lv code fr B N r z => by
    have e : (x >>= f).wrap K H gd lv = x.wrap (fun a => (f a).wrap K H gd lv) H gd lv := by
      rw [Sem.bind_eq_wrap', Sem.wrap_wrap]; rfl
    rw [e, Nat.add_assoc]
    exact h _ _ _ _ _ _ _ _ _ (k K H gd lv code fr B N r z)
theorem Ev.keep {x : Sem α} (vs : List Value) (h : Ev tb p w n₀ ann c x s q a s' q') : Ev tb p w n₀ ann c (x.keep vs) s q a s' q' :=
  fun K H gd lv code fr B N r z => by
    rw [Sem.keep_eq_wrap, Sem.wrap_wrap]
    exact h _ _ _ _ _ _ _ _ _ z
theorem Ev.holding {x : Sem α} {vs : List Value} (h : Ev tb p w n₀ ann c x s q a s' q') : Ev tb p w n₀ ann c (holding vs x) s q a s' q' := by
  unfold PySem.holding
  split
  · exact h
  · exact h.keep _
theorem Ev.onRaise {x : Sem α} {g : Value → Sem Unit} (h : Ev tb p w n₀ ann c x s q a s' q') : Ev tb p w n₀ ann c (x.onRaise g) s q a s' q' :=
  fun K H gd lv code fr B N r z => by
    rw [Sem.onRaise_eq_wrap, Sem.wrap_wrap]
    exact h _ _ _ _ _ _ _ _ _ z
theorem Ev.tryCatch {x : Sem α} {g : Value → Sem α} (h : Ev tb p w n₀ ann c x s q a s' q') : Ev tb p w n₀ ann c (x.tryCatch g) s q a s' q' :=
  fun K H gd lv code fr B N r z => by
    rw [Sem.tryCatch_eq_wrap, Sem.wrap_wrap]
    exact h _ _ _ _ _ _ _ _ _ z
theorem Ev.rule_ {tag : String} {k : Unit → Sem α} (h : Ev tb p w n₀ ann c (k ()) s q a s' q') : Ev tb p w n₀ ann (1 + c) (.rule tag k) s q a s' q' :=
  fun K H gd lv code fr B N r z => by rw [Nat.add_assoc]; exact run_step rfl rfl rfl (h K H gd lv code fr B N r z)
theorem Ev.at_ {q₁ : Pos} {k : Unit → Sem α} (h : Ev tb p w n₀ ann c (k ()) s q₁ a s' q') : Ev tb p w n₀ ann (1 + c) (.at q₁ k) s q a s' q' :=
  fun K H gd lv code fr B N r z => by rw [Nat.add_assoc]; exact run_step rfl rfl rfl (h K H gd lv code fr B N r z)
theorem Ev.point_ {l : List Value} {k : Unit → Sem α} (h : Ev tb p w n₀ ann c (k ()) s q a s' q') : Ev tb p w n₀ ann (1 + c) (.point l k) s q a s' q' :=
  fun K H gd lv code fr B N r z => by rw [Nat.add_assoc]; exact run_step rfl rfl rfl (h K H gd lv code fr B N r z)
theorem Ev.ask_ {k : Setting → Sem α} (h : Ev tb p w n₀ ann c (k ⟨p, w.params⟩) s q a s' q') : Ev tb p w n₀ ann (1 + c) (.ask k) s q a s' q' :=
  fun K H gd lv code fr B N r z => by rw [Nat.add_assoc]; exact run_step rfl rfl rfl (h K H gd lv code fr B N r z)
theorem Ev.fresh_ {k : Tok → Sem α} (h : Ev tb p w n₀ ann c (k s.toks) { s with toks := s.toks + 1 } q a s' q') : Ev tb p w n₀ ann (1 + c) (.fresh k) s q a s' q' :=
  fun K H gd lv code fr B N r z => by rw [Nat.add_assoc]; exact run_step rfl rfl rfl (h K H gd lv code fr B N r z)
theorem Ev.alloc_ {o : Obj} {k : Addr → Sem α} (h : Ev tb p w n₀ ann c (k s.heap.objs.size) { s with heap := s.heap.push o } q a s' q') : Ev tb p w n₀ ann (1 + c) (.alloc o k) s q a s' q' :=
  fun K H gd lv code fr B N r z => by rw [Nat.add_assoc]; exact run_step rfl rfl rfl (h K H gd lv code fr B N r z)
theorem Ev.load_ {b : Addr} {part : Option Value} {o : Obj} {k : Obj → Sem α} (ho : s.heap.get? b = some o) (h : Ev tb p w n₀ ann c (k o) s q a s' q') : Ev tb p w n₀ ann (1 + c) (.load b part k) s q a s' q' :=
  fun K H gd lv code fr B N r z => by
    rw [Nat.add_assoc]
    refine run_step rfl rfl ?_ (h K H gd lv code fr B N r z)
    obtain ⟨heap, gens, drawn, toks, os⟩ := s
    simp only [Sem.wrap, step]
    rw [show heap.get? b = some o from ho]
theorem Ev.update_ {b : Addr} {part : Option Value} {o : Obj} {g : Obj → Obj} {k : Unit → Sem α} (ho : s.heap.get? b = some o) (hb : n₀ ≤ b) (h : Ev tb p w n₀ ann c (k ()) { s with heap := s.heap.update b g } q a s' q') : Ev tb p w n₀ ann (1 + c) (.update b part g k) s q a s' q' :=
  fun K H gd lv code fr B N r z => by
    rw [Nat.add_assoc]
    refine run_step rfl ?_ ?_ (h K H gd lv code fr B N r z)
    · show (true && (Nat.ble n₀ b || b == mainNs || b == cStatics || ann == some (.ref b))) = true
      rw [show Nat.ble n₀ b = true from Nat.ble_eq_true_of_le hb]; rfl
    · obtain ⟨heap, gens, drawn, toks, os⟩ := s
      simp only [Sem.wrap, step]
      rw [show heap.get? b = some o from ho]
      rfl

theorem Ev.bind0 {x : Sem α} {f : α → Sem β} (e : x = Pure.pure a) (k : Ev tb p w n₀ ann c (f a) s q b s' q') : Ev tb p w n₀ ann c (x >>= f) s q b s' q' := by
  subst e; exact k
theorem Ev.ask {f : Setting → Sem β} (k : Ev tb p w n₀ ann c (f ⟨p, w.params⟩) s q b s' q') : Ev tb p w n₀ ann (1 + c) (PySem.ask >>= f) s q b s' q' := Ev.ask_ k
theorem Ev.fresh {f : Tok → Sem β} (k : Ev tb p w n₀ ann c (f s.toks) { s with toks := s.toks + 1 } q b s' q') : Ev tb p w n₀ ann (1 + c) (PySem.fresh >>= f) s q b s' q' := Ev.fresh_ k
theorem Ev.mkInt {i : Int} {f : Value → Sem β} (k : Ev tb p w n₀ ann c (f (.int i s.toks)) { s with toks := s.toks + 1 } q b s' q') : Ev tb p w n₀ ann (1 + c) (PySem.mkInt i >>= f) s q b s' q' := Ev.fresh_ k
theorem Ev.rule {t : String} {f : Unit → Sem β} (k : Ev tb p w n₀ ann c (f ()) s q b s' q') : Ev tb p w n₀ ann (1 + c) (PySem.rule t >>= f) s q b s' q' := Ev.rule_ k
theorem Ev.standAt {q₁ : Pos} {f : Unit → Sem β} (k : Ev tb p w n₀ ann c (f ()) s q₁ b s' q') : Ev tb p w n₀ ann (1 + c) (PySem.standAt q₁ >>= f) s q b s' q' := Ev.at_ k
theorem Ev.alloc {o : Obj} {f : Addr → Sem β} (k : Ev tb p w n₀ ann c (f s.heap.objs.size) { s with heap := s.heap.push o } q b s' q') : Ev tb p w n₀ ann (1 + c) (PySem.alloc o >>= f) s q b s' q' := Ev.alloc_ k
theorem Ev.load {d : Addr} {o : Obj} {f : Obj → Sem β} (ho : s.heap.get? d = some o) (k : Ev tb p w n₀ ann c (f o) s q b s' q') : Ev tb p w n₀ ann (1 + c) (PySem.load d >>= f) s q b s' q' := Ev.load_ ho k
theorem Ev.loadPart {d : Addr} {part : Option Value} {o : Obj} {f : Obj → Sem β} (ho : s.heap.get? d = some o) (k : Ev tb p w n₀ ann c (f o) s q b s' q') : Ev tb p w n₀ ann (1 + c) (PySem.loadPart d part >>= f) s q b s' q' := Ev.load_ ho k
theorem Ev.updatePart {d : Addr} {part : Option Value} {o : Obj} {g : Obj → Obj} {f : Unit → Sem β} (ho : s.heap.get? d = some o) (hd : n₀ ≤ d) (k : Ev tb p w n₀ ann c (f ()) { s with heap := s.heap.update d g } q b s' q') : Ev tb p w n₀ ann (1 + c) (PySem.updatePart d part g >>= f) s q b s' q' := Ev.update_ ho hd k

/-- the same of a code that is called: it ends by done -/
def EvC (tb : String → Option Builtin) (p : Program) (w : World) (n₀ : Nat) (ann : Option Value) (c : Nat) (cd : Code) (s : Shared) (q : Pos) (f : Flow) (s' : Shared) : Prop :=
  ∀ (k : Result → Sem Fin) (h : Option Value) (g : Bool) (l : List Value) (code : Code) (q₀ : Pos) (kept : List Value) (B : List Frame) (N : Nat) (r : Shared),
    topRun tb p w n₀ ann N s' ⟨k (.ok f), code, q₀, B⟩ = some r → topRun tb p w n₀ ann (c + N) s ⟨denote tb cd, cd, q, .ret k h g l code q₀ kept :: B⟩ = some r
theorem wrap_self (x : Sem α) : x.wrap .pure .raise id id = x := by
  rw [← Sem.bind_eq_wrap]
  induction x <;> simp only [Sem.bind, *]
theorem EvC.done {cd : Code} {fl : Flow} {x : Sem Fin} (e : denote tb cd = x) (h : Ev tb p w n₀ ann c x s q (.done fl) s' q') : EvC tb p w n₀ ann (c + 1) cd s q fl s' :=
  fun k hd g l code q₀ kept B N r z => by
    have := h .pure .raise id id cd (.ret k hd g l code q₀ kept) B (1 + N) r (run_step rfl rfl (by obtain ⟨heap, gens, drawn, toks, os⟩ := s'; rfl) z)
    rw [wrap_self] at this
    rw [e, Nat.add_assoc]
    exact this
theorem EvC.again {cd cd' : Code} {fl : Flow} {x : Sem Fin} (e : denote tb cd = x) (h : Ev tb p w n₀ ann c x s q (.again cd') s' q') (hq : cd'.quiet = true) (k : EvC tb p w n₀ ann c' cd' s' q' fl s'') : EvC tb p w n₀ ann (c + (1 + c')) cd s q fl s'' :=
  fun k' hd g l code q₀ kept B N r z => by
    have ok : stepOk n₀ ann ⟨.pure (.again cd'), cd, q', .ret k' hd g l code q₀ kept :: B⟩ = true := by
      have hl := Thread.loud_again cd' cd q' (.ret k' hd g l code q₀ kept :: B)
      rw [hq] at hl
      unfold Thread.loud at hl
      show (((!_ || _) && !_ && true) && true) = true
      revert hl
      cases Thread.atCollectorCode ⟨.pure (.again cd'), cd, q', .ret k' hd g l code q₀ kept :: B⟩ <;> cases Thread.atExit ⟨.pure (.again cd'), cd, q', .ret k' hd g l code q₀ kept :: B⟩ <;> cases Thread.yieldsInsideHandler ⟨.pure (.again cd'), cd, q', .ret k' hd g l code q₀ kept :: B⟩ <;> simp
    obtain ⟨heap, gens, drawn, toks, os⟩ := s'
    have := h .pure .raise id id cd (.ret k' hd g l code q₀ kept) B (1 + (c' + N)) r (run_step rfl ok step_again (k k' hd g l code q₀ _ B N r z))
    rw [wrap_self] at this
    rw [e, show c + (1 + c') + N = c + (1 + (c' + N)) by omega]
    exact this
theorem Ev.call_ {cd : Code} {h : Option Value} {g : Bool} {l : List Value} {k : Result → Sem α} {fl : Flow} (hc : EvC tb p w n₀ ann c cd s q fl s') (hk : Ev tb p w n₀ ann c' (k (.ok fl)) s' q a s'' q'') : Ev tb p w n₀ ann (1 + (c + c')) (.call cd h g l k) s q a s'' q'' :=
  fun K H gd lv code fr B N r z => by
    rw [show 1 + (c + c') + N = 1 + (c + (c' + N)) by omega]
    obtain ⟨heap, gens, drawn, toks, os⟩ := s
    exact run_step rfl rfl rfl (hc _ _ _ _ _ _ _ (fr :: B) _ r (hk K H gd lv code fr B N r z))
end
end Mine
end
section
open PySem PySem.W PyProof.Rows
namespace Mine
theorem chk_hash (k : Int) (t : Tok) : checkBuiltinCall "int.__hash__" ⟨[.int k t], []⟩ = pure () := by kernel_rfl
theorem ent_hash : entryFor treeTable "int.__hash__" = some Builtin.«int.__hash__» := by kernel_rfl
theorem int_hash_is (k : Int) (t : Tok) : Builtin.«int.__hash__» ⟨[.int k t], []⟩ = (do ret (← mkInt (rawHash k))) := rfl
theorem spec_hash (k : Int) (t : Tok) : specialOf (.int k t) "__hash__" = pure (some (.builtin "int.__hash__")) := slot_int_hash.lookup
section
variable {α β : Type} {p : Program} {w : World} {n₀ : Nat} {ann : Option Value} {s s' s'' : Shared} {q q' q'' : Pos}
theorem ev_call_hash {k : Int} {t : Tok} : Ev treeTable p w n₀ ann 8 (call (.builtin "int.__hash__") [.int k t]) s q (.int (rawHash k) s.toks) { s with toks := s.toks + 1 } q := by
  have e1 : EvC treeTable p w n₀ ann 2 (.builtin "int.__hash__" ⟨[.int k t], []⟩) s q (.ret (.int (rawHash k) s.toks)) { s with toks := s.toks + 1 } := by
    refine EvC.done (c := 1) (x := do ret (← mkInt (rawHash k))) (by show (match entryFor treeTable "int.__hash__" with | some b => b ⟨[.int k t], []⟩ | none => unsupported ((withoutEnding? "int.__hash__" "#data").getD "int.__hash__")) = _; rw [ent_hash]; rfl) (q' := q) ?_
    refine Ev.mkInt (c := 0) ?_
    exact Ev.pure
  have e2 : EvC treeTable p w n₀ ann 3 (.call (.builtin "int.__hash__") ⟨[.int k t], []⟩) s q (.ret (.int (rawHash k) s.toks)) { s with toks := s.toks + 1 } := by
    refine EvC.again (c := 0) (c' := 2) (s' := s) (q' := q) (cd' := .builtin "int.__hash__" ⟨[.int k t], []⟩) (x := do checkBuiltinCall "int.__hash__" ⟨[.int k t], []⟩; again (.builtin "int.__hash__" ⟨[.int k t], []⟩)) rfl (Ev.bind0 (chk_hash k t) Ev.pure) (Code.quiet_builtin _ (by decide +kernel)) e1
  refine Ev.mono (c := 4) ?_ (by omega)
  refine Ev.bind (c := 4) (c' := 0) (a := Flow.ret (.int (rawHash k) s.toks)) (s' := { s with toks := s.toks + 1 }) (q' := q) ?_ Ev.pure
  exact Ev.call_ (c := 3) (c' := 0) e2 Ev.pure
theorem ev_hash {k : Int} {t : Tok} : Ev treeTable p w n₀ ann 10 (pyHash (.int k t)) s q (hashInt k) { s with toks := s.toks + 1 } q := by
  have hr := rawHash_range k
  show Ev treeTable p w n₀ ann 10 (pyHashByItsType (.int k t)) _ _ _ _ _
  unfold pyHashByItsType
  refine Ev.bind0 (show cRoomFor "hash" [.int k t] = Pure.pure () from rfl) ?_
  refine Ev.bind0 (spec_hash k t) ?_
  show Ev treeTable p w n₀ ann 10 (if (some (Value.builtin "int.__hash__") == some Value.none) = true then _ else _) _ _ _ _ _
  rw [if_neg (by rw [beq_builtin_none]; exact Bool.false_ne_true)]
  refine Ev.bind0 (spec_hash k t) ?_
  show Ev treeTable p w n₀ ann 10 (callSpecialIfBoundUnlessNone? (.int k t) "__hash__" _ >>= _) _ _ _ _ _
  refine Ev.bind (c := 10) (c' := 0) (a := some (.int (rawHash k) s.toks)) (s' := { s with toks := s.toks + 1 }) (q' := q) ?_ ?_
  · unfold callSpecialIfBoundUnlessNone?
    refine Ev.holding ?_
    have g : Ev treeTable p w n₀ ann 1 (bindSpecialIfBound? (.int k t) "__hash__") s q (some (.builtin "int.__hash__", [.int k t])) s q := by
      unfold bindSpecialIfBound?
      refine Ev.bind0 (spec_hash k t) ?_
      refine Ev.ask (c := 0) ?_
      show Ev treeTable p w n₀ ann 0 (if w.params.followText "special-get-raises" = true then _ else _) _ _ _ _ _
      split
      · exact Ev.bind0 (slot_int_hash.bind _) Ev.pure
      · exact Ev.tryCatch (Ev.bind0 (slot_int_hash.bind _) Ev.pure)
    refine (Ev.bind g ?_ (c' := 8)).mono (by omega)
    show Ev treeTable p w n₀ ann 8 (if (Value.builtin "int.__hash__" == Value.none) = true then _ else _) _ _ _ _ _
    rw [if_neg (by decide)]
    refine Ev.bind (c' := 0) ev_call_hash ?_
    exact Ev.pure
  · show Ev treeTable p w n₀ ann 0 (if (decide (-(2 : Int) ^ 63 ≤ rawHash k) && decide (rawHash k < 2 ^ 63)) = true then _ else _) _ _ _ _ _
    rw [if_pos (by rw [decide_eq_true hr.1, decide_eq_true hr.2]; rfl)]
    exact Ev.pure
end
end Mine
end
section
open PySem PySem.W PyProof.Rows
namespace Mine
/-- a heap with more objects behind -/
def HB (b : Heap) (l : List Obj) : Heap := ⟨b.objs ++ l.toArray, b.life⟩
theorem HB_nil (b : Heap) : HB b [] = b := by unfold HB; simp
theorem HB_size (b : Heap) (l : List Obj) : (HB b l).objs.size = b.objs.size + l.length := by simp [HB]
theorem HB_push (b : Heap) (l : List Obj) (o : Obj) : (HB b l).push o = HB b (l ++ [o]) := by
  simp [HB, Heap.push]
theorem HB_objs (b : Heap) (pre post : List Obj) (o : Obj) : (HB b (pre ++ o :: post)).objs[b.objs.size + pre.length]? = some o := by
  simp only [HB]
  rw [Array.getElem?_append_right (by omega), show b.objs.size + pre.length - b.objs.size = pre.length by omega, List.getElem?_toArray]
  simp
def dobj (es : List DictEntry) : Obj := { cls := .type "dict", data := .dict es.toArray es.length }
theorem HB_get (b : Heap) (pre post : List Obj) (es : List DictEntry) : (HB b (pre ++ dobj es :: post)).get? (b.objs.size + pre.length) = some (dobj es) := by
  unfold Heap.get?
  rw [HB_objs]; rfl
theorem HB_update (b : Heap) (pre post : List Obj) (o : Obj) (f : Obj → Obj) : (HB b (pre ++ o :: post)).update (b.objs.size + pre.length) f = HB b (pre ++ f o :: post) := by
  show Heap.mk ((b.objs ++ (pre ++ o :: post).toArray).modify (b.objs.size + pre.length) f) b.life = Heap.mk (b.objs ++ (pre ++ f o :: post).toArray) b.life
  congr 1
  apply Array.ext_getElem?
  intro i
  rw [Array.getElem?_modify]
  by_cases h : i < b.objs.size
  · rw [Array.getElem?_append_left h, Array.getElem?_append_left h, if_neg (by omega)]
  · rw [Array.getElem?_append_right (by omega), Array.getElem?_append_right (by omega), List.getElem?_toArray, List.getElem?_toArray]
    by_cases e : b.objs.size + pre.length = i
    · subst e; simp
    · rw [if_neg e]
      rw [List.getElem?_append, List.getElem?_append]
      split
      · rfl
      · rw [List.getElem?_cons, List.getElem?_cons, if_neg (by omega), if_neg (by omega)]
section
variable {p : Program} {w : World} {n₀ : Nat} {ann : Option Value} {s : Shared} {q : Pos}
theorem ev_find {b : Heap} {pre post : List Obj} {es : List DictEntry} {k h : Int} {t : Tok} {d : Addr} (hh : s.heap = HB b (pre ++ dobj es :: post)) (hd : d = b.objs.size + pre.length) (hn : ∀ e ∈ es, e.hash ≠ h) :
    Ev treeTable p w n₀ ann 1 (dictFind d (.int k t) h) s q none s q := by
  have ho : s.heap.get? d = some (dobj es) := by rw [hh, hd]; exact HB_get ..
  have hp : placesWithHash es.toArray.size (fun i => es.toArray[i]?.map (·.hash)) h = [] := by
    unfold placesWithHash
    refine List.filter_eq_nil_iff.mpr fun i hi => ?_
    simp only [List.getElem?_toArray, beq_iff_eq, Option.map_eq_some_iff, not_exists, not_and]
    exact fun e he => hn e (List.mem_of_getElem? he)
  unfold dictFind
  refine Ev.holding ?_
  unfold dictEntries
  refine Ev.bind (c := 1) (c' := 0) (a := es.toArray) (s' := s) (q' := q) ?_ ?_
  · exact Ev.loadPart (c := 0) ho Ev.pure
  dsimp only
  rw [hp]
  exact Ev.pure
theorem ev_push {b : Heap} {pre post : List Obj} {es : List DictEntry} {e : DictEntry} {d : Addr} {part : Option Value} (hh : s.heap = HB b (pre ++ dobj es :: post)) (hd : d = b.objs.size + pre.length) (hz : es.length ≤ 10000) (hn : n₀ ≤ d) :
    Ev treeTable p w n₀ ann 3 (updateDictKeys d (·.push e) part) s q () { s with heap := HB b (pre ++ dobj (es ++ [e]) :: post) } q := by
  have ho : s.heap.get? d = some (dobj es) := by rw [hh, hd]; exact HB_get ..
  have hu : s.heap.update d (Obj.mapDictKeys (·.push e)) = HB b (pre ++ dobj (es ++ [e]) :: post) := by
    rw [hh, hd, HB_update]
    congr 3
    show (⟨_, _, .dict (es.toArray.push e) (es.length + 1), _⟩ : Obj) = ⟨_, _, .dict (es ++ [e]).toArray (es ++ [e]).length, _⟩
    simp
  have ho' : (HB b (pre ++ dobj (es ++ [e]) :: post)).get? d = some (dobj (es ++ [e])) := by rw [hd]; exact HB_get ..
  unfold updateDictKeys
  refine Ev.loadPart (c := 2) ho ?_
  show Ev treeTable p w n₀ ann 2 (updatePart d part (Obj.mapDictKeys (·.push e)) >>= fun _ => lookBehind d part) _ _ _ _ _
  refine Ev.updatePart (c := 1) ho hn ?_
  rw [hu]
  unfold lookBehind
  refine Ev.loadPart (c := 0) (s := { s with heap := HB b (pre ++ dobj (es ++ [e]) :: post) }) ho' ?_
  have hl : (dobj (es ++ [e])).data.pastItsLine = none := by
    show (if _ then _ else _) = none
    rw [if_neg]
    simp only [List.size_toArray, List.length_append, List.length_singleton, sizeLine]
    omega
  rw [hl]
  exact Ev.pure
theorem ev_put {b : Heap} {pre post : List Obj} {es : List DictEntry} {k h : Int} {t : Tok} {v : Value} {d : Addr} (hh : s.heap = HB b (pre ++ dobj es :: post)) (hd : d = b.objs.size + pre.length) (hn : ∀ e ∈ es, e.hash ≠ h) (hz : es.length ≤ 10000) (hn0 : n₀ ≤ d) :
    Ev treeTable p w n₀ ann 4 (dictPut d h (.int k t) v) s q () { s with heap := HB b (pre ++ dobj (es ++ [⟨h, .int k t, v⟩]) :: post) } q := by
  unfold dictPut
  exact Ev.bind (c := 1) (c' := 3) (ev_find hh hd hn) (ev_push hh hd hz hn0)
theorem ev_set {b : Heap} {pre post : List Obj} {es : List DictEntry} {k : Int} {t : Tok} {v : Value} {d : Addr} (hh : s.heap = HB b (pre ++ dobj es :: post)) (hd : d = b.objs.size + pre.length) (hn : ∀ e ∈ es, e.hash ≠ hashInt k) (hz : es.length ≤ 10000) (hn0 : n₀ ≤ d) :
    Ev treeTable p w n₀ ann 15 (dictSet d (.int k t) v) s q () { s with heap := HB b (pre ++ dobj (es ++ [⟨hashInt k, .int k t, v⟩]) :: post), toks := s.toks + 1 } q := by
  unfold dictSet
  refine Ev.holding ?_
  refine Ev.bind (c := 10) (c' := 5) ev_hash ?_
  unfold dictSetHashed
  refine Ev.holding ?_
  refine Ev.bind (c := 1) (c' := 4) (ev_find (s := { s with toks := s.toks + 1 }) hh hd hn) ?_
  exact Ev.rule (c := 3) (ev_push (s := { s with toks := s.toks + 1 }) hh hd hz hn0)
end
end Mine
end
section
open PySem PySem.W PyProof.Rows
namespace Mine
/-- how a written pair of the display is reckoned -/
def kvSem (P : Pos) (kv : Int × Str) : Sem Value × Sem Value := (mkInt kv.1, do let x ← mkText kv.2; standAt P; pure x)
def ents : Nat → List (Int × Str) → List DictEntry
  | _, [] => []
  | t, (k, v) :: r => ⟨hashInt k, .int k t, .str v (t + 1)⟩ :: ents (t + 3) r
theorem ents_len : ∀ (l : List (Int × Str)) (t : Nat), (ents t l).length = l.length
  | [], _ => rfl
  | (k, v) :: r, t => by simp [ents, ents_len r]
theorem ents_hash : ∀ (l : List (Int × Str)) (t : Nat), ∀ e ∈ ents t l, ∃ x ∈ l, ∃ t' v, e = ⟨hashInt x.1, .int x.1 t', v⟩
  | (k, v) :: r, t, e, h => by
    rcases List.mem_cons.mp h with h | h
    · exact ⟨(k, v), .head _, _, _, h⟩
    · obtain ⟨x, hx, z⟩ := ents_hash r _ e h
      exact ⟨x, .tail _ hx, z⟩
def Apart (kvs : List (Int × Str)) : Prop := kvs.Pairwise fun x y => hashInt x.1 ≠ hashInt y.1
def Off (es : List DictEntry) (kvs : List (Int × Str)) : Prop := ∀ e ∈ es, ∀ x ∈ kvs, e.hash ≠ hashInt x.1
def longF (d : Addr) : Sem Value × Sem Value → PUnit → Sem (ForInStep PUnit) := fun x _ => match x with
  | (k, v) => do
    let kv ← k
    let vv ← holding [kv] v
    holding [kv, vv] (dictSet d kv vv)
    pure (ForInStep.yield PUnit.unit)
def endPos (P q : Pos) : List (Int × Str) → Pos
  | [] => q
  | _ :: _ => P
theorem endPos_endPos (P : Pos) (l : List (Int × Str)) : endPos P P l = P := by cases l <;> rfl
section
variable {p : Program} {w : World} {n₀ : Nat} {ann : Option Value} {b : Heap} {P : Pos}
theorem Ev.forIn_cons {α β : Type} {x : α} {xs : List α} {v v' v'' : β} {f : α → β → Sem (ForInStep β)} {c c' : Nat} {s s' s'' : Shared} {q q' q'' : Pos} (h : Ev treeTable p w n₀ ann c (f x v) s q (.yield v') s' q')
    (k : Ev treeTable p w n₀ ann c' (forIn xs v' f) s' q' v'' s'' q'') : Ev treeTable p w n₀ ann (c + c') (forIn (x :: xs) v f) s q v'' s'' q'' := by
  rw [List.forIn_cons]
  exact Ev.bind h k
theorem ev_long {pre post : List Obj} {d : Addr} (hd : d = b.objs.size + pre.length) (hn0 : n₀ ≤ d) : ∀ (kvs : List (Int × Str)) (es : List DictEntry) (s : Shared) (q : Pos), s.heap = HB b (pre ++ dobj es :: post) → Apart kvs → Off es kvs → es.length + kvs.length ≤ 10000 →
    Ev treeTable p w n₀ ann (20 * kvs.length) (forIn (kvs.map (kvSem P)) PUnit.unit (longF d)) s q PUnit.unit { s with heap := HB b (pre ++ dobj (es ++ ents s.toks kvs) :: post), toks := s.toks + 3 * kvs.length } (endPos P q kvs)
  | [], es, s, q, hh, _, _, _ => by
    have : ({ s with heap := HB b (pre ++ dobj (es ++ ents s.toks []) :: post), toks := s.toks + 3 * ([] : List (Int × Str)).length } : Shared) = s := by
      simp only [ents, List.append_nil, ← hh]; rfl
    rw [this]
    exact Ev.pure
  | (k, v) :: r, es, s, q, hh, hA, hO, hl => by
    obtain ⟨hA1, hA2⟩ := List.pairwise_cons.mp hA
    simp only [List.length_cons] at hl
    have hx : ∀ e ∈ es, e.hash ≠ hashInt k := fun e he => hO e he (k, v) (.head _)
    have one : Ev treeTable p w n₀ ann 20 (longF d (kvSem P (k, v)) PUnit.unit) s q (.yield PUnit.unit) { s with heap := HB b (pre ++ dobj (es ++ [⟨hashInt k, .int k s.toks, .str v (s.toks + 1)⟩]) :: post), toks := s.toks + 3 } P := by
      show Ev treeTable p w n₀ ann 20 (mkInt k >>= fun kv => holding [kv] (do let x ← mkText v; standAt P; pure x) >>= fun vv => holding [kv, vv] (dictSet d kv vv) >>= fun _ => pure (ForInStep.yield PUnit.unit)) _ _ _ _ _
      refine Ev.mkInt (c := 19) ?_
      refine Ev.bind (c := 2) (c' := 17) (a := .str v (s.toks + 1)) (s' := { s with toks := s.toks + 2 }) (q' := P) (Ev.holding ?_) ?_
      · show Ev treeTable p w n₀ ann 2 (fresh >>= fun t => standAt P >>= fun _ => pure (Value.str v t)) _ _ _ _ _
        exact Ev.fresh (c := 1) (Ev.standAt (c := 0) Ev.pure)
      refine Ev.mono (c := 15) (Ev.bind (c := 15) (c' := 0) (Ev.holding (ev_set (s := { s with toks := s.toks + 2 }) (b := b) (pre := pre) (post := post) (es := es) hh hd hx (by omega) hn0)) ?_) (by omega)
      exact Ev.pure
    have hO' : Off (es ++ [⟨hashInt k, .int k s.toks, .str v (s.toks + 1)⟩]) r := fun e he x hx => by
      rcases List.mem_append.mp he with he | he
      · exact hO e he x (.tail _ hx)
      · obtain rfl := List.mem_singleton.mp he
        exact hA1 x hx
    have rest := ev_long (pre := pre) (post := post) hd hn0 r _ { s with heap := HB b (pre ++ dobj (es ++ [⟨hashInt k, .int k s.toks, .str v (s.toks + 1)⟩]) :: post), toks := s.toks + 3 } P rfl hA2 hO' (by simp only [List.length_append, List.length_singleton]; omega)
    have := Ev.forIn_cons one rest
    refine Ev.mono (c := 20 + 20 * r.length) ?_ (by simp only [List.length_cons]; omega)
    rw [endPos_endPos P] at this
    simp only [List.append_assoc, List.singleton_append] at this
    rw [show s.toks + 3 + 3 * r.length = s.toks + 3 * ((k, v) :: r).length by simp only [List.length_cons]; omega] at this
    exact this
theorem ev_subLong {l : List Obj} {kvs : List (Int × Str)} {s : Shared} {q : Pos} (hh : s.heap = HB b l) (hn0 : n₀ ≤ b.objs.size) (h15 : 15 < kvs.length) (hA : Apart kvs) (hl : kvs.length ≤ 10000) :
    Ev treeTable p w n₀ ann (2 + 20 * kvs.length) (subDict (kvs.map (kvSem P))) s q (b.objs.size + l.length) { s with heap := HB b (l ++ [dobj (ents s.toks kvs)]), toks := s.toks + 3 * kvs.length } P := by
  unfold subDict
  have hsz : s.heap.objs.size = b.objs.size + l.length := by rw [hh, HB_size]
  rw [show 2 + 20 * kvs.length = 1 + (1 + 20 * kvs.length) by omega]
  refine Ev.alloc ?_
  rw [hsz]
  refine Ev.bind (c := 1 + 20 * kvs.length) (c' := 0) (a := ()) (Ev.holding ?_) Ev.pure
  rw [if_neg (by rw [List.length_map]; omega)]
  refine Ev.rule ?_
  refine Ev.bind (c := 20 * kvs.length) (c' := 0) ?_ Ev.pure (a := PUnit.unit)
  have := ev_long (n₀ := n₀) (p := p) (w := w) (ann := ann) (P := P) (b := b) (pre := l) (post := []) (d := b.objs.size + l.length) rfl (by omega) kvs [] { s with heap := s.heap.push { cls := .type "dict", data := .dict #[] } } q (by show s.heap.push _ = _; rw [hh, HB_push]; rfl) hA (fun e he => nomatch he) (by simp; omega)
  have hq : endPos P q kvs = P := by cases kvs with | nil => simp at h15 | cons => rfl
  rw [hq] at this
  exact this
end
end Mine
end
section
open PySem PySem.W PyProof.Rows
namespace Mine
def entsS : Nat → List (Int × Str) → List DictEntry
  | _, [] => []
  | t, (k, v) :: r => ⟨hashInt k, .int k t, .str v (t + 1)⟩ :: entsS (t + 2) r
def valsS : Nat → List (Int × Str) → List (Value × Value)
  | _, [] => []
  | t, (k, v) :: r => (.int k t, .str v (t + 1)) :: valsS (t + 2) r
theorem entsS_len : ∀ (l : List (Int × Str)) (t : Nat), (entsS t l).length = l.length
  | [], _ => rfl
  | (k, v) :: r, t => by simp [entsS, entsS_len r]
theorem entsS_hash : ∀ (l : List (Int × Str)) (t : Nat), ∀ e ∈ entsS t l, ∃ x ∈ l, ∃ t' v, e = ⟨hashInt x.1, .int x.1 t', v⟩
  | (k, v) :: r, t, e, h => by
    rcases List.mem_cons.mp h with h | h
    · exact ⟨(k, v), .head _, _, _, h⟩
    · obtain ⟨x, hx, z⟩ := entsS_hash r _ e h
      exact ⟨x, .tail _ hx, z⟩
def shortF (d : Addr) : Value × Value → PUnit → Sem (ForInStep PUnit) := fun x _ => match x with
  | (k, v) => do
    dictSet d k v
    pure (ForInStep.yield PUnit.unit)
section
variable {p : Program} {w : World} {n₀ : Nat} {ann : Option Value} {b : Heap} {P : Pos}
theorem ev_pairs : ∀ (kvs : List (Int × Str)) (s : Shared) (q : Pos), Ev treeTable p w n₀ ann (3 * kvs.length) (evalPairs (kvs.map (kvSem P))) s q (valsS s.toks kvs) { s with toks := s.toks + 2 * kvs.length } (endPos P q kvs)
  | [], s, q => Ev.pure
  | (k, v) :: r, s, q => by
    rw [show 3 * ((k, v) :: r).length = 1 + (2 + (3 * r.length + 0)) by simp only [List.length_cons]; omega]
    show Ev treeTable p w n₀ ann _ (mkInt k >>= fun kv => holding [kv] (do let x ← mkText v; standAt P; pure x) >>= fun vv => holding [kv, vv] (evalPairs (r.map (kvSem P))) >>= fun l => pure ((kv, vv) :: l)) _ _ _ _ _
    refine Ev.mkInt ?_
    refine Ev.bind (c := 2) (a := .str v (s.toks + 1)) (s' := { s with toks := s.toks + 2 }) (q' := P) (Ev.holding ?_) ?_
    · show Ev treeTable p w n₀ ann 2 (fresh >>= fun t => standAt P >>= fun _ => pure (Value.str v t)) _ _ _ _ _
      exact Ev.fresh (c := 1) (Ev.standAt (c := 0) Ev.pure)
    refine Ev.bind (Ev.holding (ev_pairs r { s with toks := s.toks + 2 } P)) ?_
    rw [show s.toks + 2 * ((k, v) :: r).length = s.toks + 2 + 2 * r.length by simp only [List.length_cons]; omega, endPos_endPos]
    exact Ev.pure
theorem ev_short {pre post : List Obj} {d : Addr} (hd : d = b.objs.size + pre.length) (hn0 : n₀ ≤ d) : ∀ (kvs : List (Int × Str)) (t : Nat) (es : List DictEntry) (s : Shared) (q : Pos), s.heap = HB b (pre ++ dobj es :: post) → Apart kvs → Off es kvs → es.length + kvs.length ≤ 10000 →
    Ev treeTable p w n₀ ann (15 * kvs.length) (forIn (valsS t kvs) PUnit.unit (shortF d)) s q PUnit.unit { s with heap := HB b (pre ++ dobj (es ++ entsS t kvs) :: post), toks := s.toks + kvs.length } q
  | [], t, es, s, q, hh, _, _, _ => by
    have : ({ s with heap := HB b (pre ++ dobj (es ++ entsS t []) :: post), toks := s.toks + ([] : List (Int × Str)).length } : Shared) = s := by
      simp only [entsS, List.append_nil, ← hh]; rfl
    rw [this]
    exact Ev.pure
  | (k, v) :: r, t, es, s, q, hh, hA, hO, hl => by
    obtain ⟨hA1, hA2⟩ := List.pairwise_cons.mp hA
    simp only [List.length_cons] at hl
    have hx : ∀ e ∈ es, e.hash ≠ hashInt k := fun e he => hO e he (k, v) (.head _)
    have one : Ev treeTable p w n₀ ann 15 (shortF d (.int k t, .str v (t + 1)) PUnit.unit) s q (.yield PUnit.unit) { s with heap := HB b (pre ++ dobj (es ++ [⟨hashInt k, .int k t, .str v (t + 1)⟩]) :: post), toks := s.toks + 1 } q := by
      show Ev treeTable p w n₀ ann 15 (dictSet d (.int k t) (.str v (t + 1)) >>= fun _ => pure (ForInStep.yield PUnit.unit)) _ _ _ _ _
      exact Ev.bind (c := 15) (c' := 0) (ev_set hh hd hx (by omega) hn0) Ev.pure
    have hO' : Off (es ++ [⟨hashInt k, .int k t, .str v (t + 1)⟩]) r := fun e he x hx => by
      rcases List.mem_append.mp he with he | he
      · exact hO e he x (.tail _ hx)
      · obtain rfl := List.mem_singleton.mp he
        exact hA1 x hx
    have rest := ev_short (pre := pre) (post := post) hd hn0 r (t + 2) _ { s with heap := HB b (pre ++ dobj (es ++ [⟨hashInt k, .int k t, .str v (t + 1)⟩]) :: post), toks := s.toks + 1 } q rfl hA2 hO' (by simp only [List.length_append, List.length_singleton]; omega)
    have := Ev.forIn_cons one rest
    refine Ev.mono (c := 15 + 15 * r.length) ?_ (by simp only [List.length_cons]; omega)
    simp only [List.append_assoc, List.singleton_append] at this
    rw [show s.toks + 1 + r.length = s.toks + ((k, v) :: r).length by simp only [List.length_cons]; omega] at this
    exact this
theorem ev_subShort {l : List Obj} {kvs : List (Int × Str)} {s : Shared} {q : Pos} (hh : s.heap = HB b l) (hn0 : n₀ ≤ b.objs.size) (h15 : kvs.length ≤ 15) (h0 : kvs ≠ []) (hA : Apart kvs) :
    Ev treeTable p w n₀ ann (2 + 20 * kvs.length) (subDict (kvs.map (kvSem P))) s q (b.objs.size + l.length) { s with heap := HB b (l ++ [dobj (entsS s.toks kvs)]), toks := s.toks + 3 * kvs.length } P := by
  unfold subDict
  have hsz : s.heap.objs.size = b.objs.size + l.length := by rw [hh, HB_size]
  refine Ev.mono (c := 1 + (3 * kvs.length + 15 * kvs.length)) ?_ (by omega)
  refine Ev.alloc ?_
  rw [hsz]
  refine Ev.bind (c := 3 * kvs.length + 15 * kvs.length) (c' := 0) (a := ()) (Ev.holding ?_) Ev.pure
  rw [if_pos (by rw [List.length_map]; omega)]
  have hq : endPos P q kvs = P := by cases kvs with | nil => simp at h0 | cons => rfl
  have e1 := ev_pairs (n₀ := n₀) (p := p) (w := w) (ann := ann) (P := P) kvs { s with heap := s.heap.push { cls := .type "dict", data := .dict #[] } } q
  rw [hq] at e1
  refine Ev.bind e1 (Ev.holding ?_)
  refine Ev.bind (c := 15 * kvs.length) (c' := 0) ?_ Ev.pure (a := PUnit.unit)
  have := ev_short (n₀ := n₀) (p := p) (w := w) (ann := ann) (b := b) (pre := l) (post := []) (d := b.objs.size + l.length) rfl (by omega) kvs s.toks [] { s with heap := s.heap.push { cls := .type "dict", data := .dict #[] }, toks := s.toks + 2 * kvs.length } P (by show s.heap.push _ = _; rw [hh, HB_push]; rfl) hA (fun e he => nomatch he) (by simp; omega)
  rw [show s.toks + 3 * kvs.length = s.toks + 2 * kvs.length + kvs.length by omega]
  exact this
def mergeF (d a epoch : Nat) : Nat → PUnit → Sem (ForInStep PUnit) := fun i _ => do
  let es ← dictEntries a
  match es[i]? with
    | some e => do
      holding [e.key, e.val] (dictPut d e.hash e.key e.val)
      let n ← dictEpoch a
      if (n != epoch) = true then do
          unsupported "dict.changed-during-merge"
          pure (ForInStep.yield PUnit.unit)
        else pure (ForInStep.yield PUnit.unit)
    | x => do
      unsupported "dict.changed-during-merge"
      pure (ForInStep.yield PUnit.unit)
theorem ev_mergeLoop {mid : List Obj} {cs : List DictEntry} {d a : Addr} (hd : d = b.objs.size) (ha : a = b.objs.size + (mid.length + 1)) (hn0 : n₀ ≤ d) (hk : ∀ e ∈ cs, ∃ k t, e.key = .int k t) (hp : cs.Pairwise fun x y => x.hash ≠ y.hash) (q : Pos) :
    ∀ (n i : Nat) (es : List DictEntry) (s : Shared), s.heap = HB b (dobj es :: mid ++ [dobj cs]) → i + n = cs.length → (∀ e ∈ es, ∀ c ∈ cs.drop i, e.hash ≠ c.hash) → es.length + n ≤ 10000 →
    Ev treeTable p w n₀ ann (8 * n) (forIn (List.range' i n) PUnit.unit (mergeF d a cs.length)) s q PUnit.unit { s with heap := HB b (dobj (es ++ cs.drop i) :: mid ++ [dobj cs]) } q
  | 0, i, es, s, hh, hi, _, _ => by
    have : ({ s with heap := HB b (dobj (es ++ cs.drop i) :: mid ++ [dobj cs]) } : Shared) = s := by
      rw [List.drop_eq_nil_of_le (by omega), List.append_nil, ← hh]
    rw [this]
    exact Ev.pure
  | n + 1, i, es, s, hh, hi, ho, hl => by
    have hlt : i < cs.length := by omega
    have hdrop : cs.drop i = cs[i] :: cs.drop (i + 1) := (List.drop_eq_getElem_cons hlt)
    obtain ⟨k, t, hkey⟩ := hk cs[i] (List.getElem_mem hlt)
    have hga : ∀ es' : List DictEntry, (HB b (dobj es' :: mid ++ [dobj cs])).get? a = some (dobj cs) := fun es' => by
      have := HB_get b (dobj es' :: mid) [] cs
      rwa [show b.objs.size + (dobj es' :: mid).length = a by rw [ha]; simp] at this
    have one : Ev treeTable p w n₀ ann 8 (mergeF d a cs.length i PUnit.unit) s q (.yield PUnit.unit) { s with heap := HB b (dobj (es ++ [cs[i]]) :: mid ++ [dobj cs]) } q := by
      unfold mergeF
      refine Ev.bind (c := 1) (c' := 7) (a := cs.toArray) (s' := s) (q' := q) (Ev.loadPart (c := 0) (by rw [hh]; exact hga es) Ev.pure) ?_
      rw [show cs.toArray[i]? = some cs[i] by rw [List.getElem?_toArray]; exact List.getElem?_eq_getElem hlt]
      have put := ev_put (p := p) (w := w) (ann := ann) (n₀ := n₀) (s := s) (q := q) (b := b) (pre := []) (post := mid ++ [dobj cs]) (es := es) (k := k) (h := cs[i].hash) (t := t) (v := cs[i].val) (d := d) hh (by simpa using hd)
        (fun e he => ho e he cs[i] (by rw [hdrop]; exact .head _)) (by omega) hn0
      rw [← hkey] at put
      refine Ev.bind (c := 4) (c' := 3) (Ev.holding put) ?_
      refine Ev.mono (c := 1) (Ev.bind (c := 1) (c' := 0) (a := cs.length) (q' := q) (Ev.loadPart (c := 0) (hga _) Ev.pure) ?_) (by omega)
      rw [if_neg (by simp)]
      exact Ev.pure
    rw [List.range'_succ]
    refine Ev.mono (c := 8 + 8 * n) ?_ (by omega)
    have rest := ev_mergeLoop hd ha hn0 hk hp q n (i + 1) (es ++ [cs[i]]) { s with heap := HB b (dobj (es ++ [cs[i]]) :: mid ++ [dobj cs]) } rfl (by omega) (fun e he c hc => by
      rcases List.mem_append.mp he with he | he
      · exact ho e he c (by rw [hdrop]; exact .tail _ hc)
      · obtain rfl := List.mem_singleton.mp he
        have := hp.drop (i := i)
        rw [hdrop] at this
        exact (List.pairwise_cons.mp this).1 c hc) (by simp only [List.length_append, List.length_singleton]; omega)
    have := Ev.forIn_cons one rest
    simp only [List.append_assoc, List.singleton_append] at this
    rw [hdrop]
    simpa only [List.cons_append] using this
end
end Mine
end
section
open PySem PySem.W PyProof.Rows
namespace Mine
theorem dict_sub : isSubtype (.type "dict") (.type "dict") = pure true := by kernel_rfl
theorem dict_iter : typeLookup (.type "dict") "__iter__" = pure (some (.builtin "dict.__iter__")) := by kernel_rfl
section
variable {p : Program} {w : World} {n₀ : Nat} {ann : Option Value} {b : Heap} {P : Pos}
theorem ev_typeOf {s : Shared} {q : Pos} {a : Addr} {es : List DictEntry} (h : s.heap.get? a = some (dobj es)) : Ev treeTable p w n₀ ann 1 (typeOf (.ref a)) s q (.type "dict") s q := by
  show Ev treeTable p w n₀ ann 1 (loadHead a >>= fun o => pure o.cls) s q (.type "dict") s q
  exact Ev.loadPart (c := 0) h Ev.pure
theorem ev_merge {mid : List Obj} {cs es : List DictEntry} {d a : Addr} {s : Shared} {q : Pos} (hh : s.heap = HB b (dobj es :: mid ++ [dobj cs])) (hd : d = b.objs.size) (ha : a = b.objs.size + (mid.length + 1)) (hn0 : n₀ ≤ d) (h1 : 1 < d) (hk : ∀ e ∈ cs, ∃ k t, e.key = .int k t)
    (hp : cs.Pairwise fun x y => x.hash ≠ y.hash) (ho : ∀ e ∈ es, ∀ c ∈ cs, e.hash ≠ c.hash) (hne : es ≠ []) (hl : es.length + cs.length ≤ 10000) :
    Ev treeTable p w n₀ ann (5 + 8 * cs.length) (mergeMapping d (.ref a) false) s q () { s with heap := HB b (dobj (es ++ cs) :: mid ++ [dobj cs]) } q := by
  have hga : s.heap.get? a = some (dobj cs) := by
    rw [hh]
    have := HB_get b (dobj es :: mid) [] cs
    rwa [show b.objs.size + (dobj es :: mid).length = a by rw [ha]; simp] at this
  have hgd : s.heap.get? d = some (dobj es) := by
    rw [hh]
    have := HB_get b [] (mid ++ [dobj cs]) es
    rwa [show b.objs.size + ([] : List Obj).length = d by rw [hd]; simp] at this
  unfold mergeMapping
  rw [show 5 + 8 * cs.length = 1 + (1 + (1 + (1 + (1 + 8 * cs.length)))) by omega]
  refine Ev.bind (c := 1) (a := true) (s' := s) (q' := q) ?_ ?_
  · unfold isInstance
    exact Ev.bind (c := 1) (c' := 0) (ev_typeOf hga) (by rw [dict_sub]; exact Ev.pure)
  dsimp only
  rw [if_pos rfl]
  refine Ev.bind (c := 1) (a := some (.builtin "dict.__iter__")) (s' := s) (q' := q) ?_ ?_
  · unfold specialOf
    exact Ev.bind (c := 1) (c' := 0) (ev_typeOf hga) (by rw [dict_iter]; exact Ev.pure)
  refine Ev.bind0 (a := true) (by rw [show (some (Value.builtin "dict.__iter__") == some (Value.builtin "dict.__iter__")) = true from by decide]) ?_
  dsimp only
  rw [if_neg (by rw [beq_iff_eq]; intro e; subst hd; subst ha; exact absurd e (Nat.ne_of_gt (Nat.lt_of_lt_of_le h1 (Nat.le_add_right _ _))))]
  refine Ev.bind (c := 1) (a := es.toArray) (s' := s) (q' := q) (Ev.loadPart (c := 0) hgd Ev.pure) ?_
  rw [if_neg (by simpa using hne)]
  refine Ev.bind (c := 1) (a := cs.toArray) (s' := s) (q' := q) (Ev.loadPart (c := 0) hga Ev.pure) ?_
  refine Ev.bind (c := 1) (a := cs.length) (s' := s) (q' := q) (Ev.loadPart (c := 0) hga Ev.pure) ?_
  refine Ev.bind (c := 8 * cs.length) (c' := 0) (a := PUnit.unit) (q' := q) ?_ Ev.pure
  rw [List.size_toArray, List.range_eq_range']
  have := ev_mergeLoop (p := p) (w := w) (ann := ann) (n₀ := n₀) hd ha hn0 hk hp q cs.length 0 es s hh (by omega) (by simpa using ho) hl
  rw [List.drop_zero] at this
  exact this
end
end Mine
end
section
open PySem PySem.W PyProof.Rows
namespace Mine
abbrev Run := List (Sem Value × Sem Value)
def flushD (run : Run) (main : Option Addr) : Sem (Option Addr) :=
  if run.isEmpty = true then pure main
  else match main with
    | none => do
      let d ← subDict run
      pure (some d)
    | some d => do
      let sub ← holding [Value.ref d] (subDict run)
      (holding [Value.ref d, Value.ref sub] (mergeMapping d (Value.ref sub) false)).onRaise fun x => do
          let _ ← holding [Value.ref d, x] (runValue (Code.builtin "proto.let_go" { }))
          pure ()
      pure (some d)
def fillF (kv : Sem Value × Sem Value) (st : Option Addr × Run) : Sem (ForInStep (Option Addr × Run)) :=
  if ((st.2 ++ [kv]).length == 17) = true then do
    let main ← flushD (st.2 ++ [kv]) st.1
    pure (ForInStep.yield (main, []))
  else pure (ForInStep.yield (st.1, st.2 ++ [kv]))
theorem display_is (l : Run) : dictDisplay (l.map fun x => (some x.1, x.2)) = (do
    let st ← forIn l (none, []) fillF
    match ← flushD st.2 st.1 with
      | some d => pure (Value.ref d)
      | none => newDict) := by
  unfold dictDisplay
  dsimp only
  rw [List.forIn_map]
  rfl
theorem ents_apart : ∀ (l : List (Int × Str)) (t : Nat), Apart l → (ents t l).Pairwise fun x y => x.hash ≠ y.hash
  | [], _, _ => .nil
  | (k, v) :: r, t, h => by
    obtain ⟨h1, h2⟩ := List.pairwise_cons.mp h
    refine List.pairwise_cons.mpr ⟨fun e he => ?_, ents_apart r _ h2⟩
    obtain ⟨x, hx, t', v', rfl⟩ := ents_hash r _ e he
    exact h1 x hx
theorem entsS_apart : ∀ (l : List (Int × Str)) (t : Nat), Apart l → (entsS t l).Pairwise fun x y => x.hash ≠ y.hash
  | [], _, _ => .nil
  | (k, v) :: r, t, h => by
    obtain ⟨h1, h2⟩ := List.pairwise_cons.mp h
    refine List.pairwise_cons.mpr ⟨fun e he => ?_, entsS_apart r _ h2⟩
    obtain ⟨x, hx, t', v', rfl⟩ := entsS_hash r _ e he
    exact h1 x hx
def allEnts : Nat → List (List (Int × Str)) → List DictEntry
  | _, [] => []
  | t, c :: r => ents t c ++ allEnts (t + 51) r
def subs : Nat → List (List (Int × Str)) → List Obj
  | _, [] => []
  | t, c :: r => dobj (ents t c) :: subs (t + 51) r
section
variable {p : Program} {w : World} {n₀ : Nat} {ann : Option Value} {b : Heap} {P : Pos}
theorem ev_fill {α : Type} {c : Nat} {s s' : Shared} {q q' : Pos} {r : Option Addr × Run} {rest : Run} {main : Option Addr} : ∀ (ys run : Run), run.length + ys.length < 17 →
    Ev treeTable p w n₀ ann c (forIn rest (main, run ++ ys) fillF) s q r s' q' → Ev treeTable p w n₀ ann c (forIn (ys ++ rest) (main, run) fillF) s q r s' q'
  | [], run, _, h => by simpa using h
  | y :: ys, run, hl, h => by
    rw [List.cons_append, List.forIn_cons]
    refine Ev.bind0 (a := ForInStep.yield (main, run ++ [y])) ?_ ?_
    · unfold fillF
      rw [if_neg (by simp only [List.length_append, List.length_singleton, beq_iff_eq]; simp only [List.length_cons] at hl; omega)]
    · refine ev_fill (α := α) ys (run ++ [y]) (by simp only [List.length_append, List.length_singleton]; simp only [List.length_cons] at hl; omega) ?_
      rwa [List.append_assoc, List.singleton_append]
theorem ev_chunk {c c' : Nat} {s s' s'' : Shared} {q q' q'' : Pos} {r : Option Addr × Run} {rest : Run} {main main' : Option Addr} {ys : Run} (h17 : ys.length = 17) (hf : Ev treeTable p w n₀ ann c (flushD ys main) s q main' s' q')
    (hr : Ev treeTable p w n₀ ann c' (forIn rest (main', []) fillF) s' q' r s'' q'') : Ev treeTable p w n₀ ann (c + c') (forIn (ys ++ rest) (main, []) fillF) s q r s'' q'' := by
  obtain ⟨zs, y, rfl⟩ : ∃ zs y, ys = zs ++ [y] := ⟨ys.dropLast, ys.getLast (by intro e; subst e; simp at h17), (List.dropLast_concat_getLast _).symm⟩
  rw [List.append_assoc, List.singleton_append]
  refine ev_fill (α := Unit) zs [] (by simp only [List.length_append, List.length_singleton] at h17; simp only [List.length_nil]; omega) ?_
  rw [List.nil_append, List.forIn_cons]
  refine Ev.bind (c := c) (a := ForInStep.yield (main', [])) (s' := s') (q' := q') ?_ hr
  unfold fillF
  rw [if_pos (by simp only [beq_iff_eq]; exact h17)]
  exact Ev.bind (c := c) (c' := 0) hf Ev.pure
theorem Off.app {es es' : List DictEntry} {kvs : List (Int × Str)} (h : Off es kvs) (h' : Off es' kvs) : Off (es ++ es') kvs := fun e he => (List.mem_append.mp he).elim (h e) (h' e)
/-- a chunk onto the main dict -/
theorem ev_flush {kvs : List (Int × Str)} {E : List DictEntry} {mid : List Obj} {s : Shared} {q : Pos} {cs : List DictEntry} (hsub : ∀ l, s.heap = HB b l → Ev treeTable p w n₀ ann (2 + 20 * kvs.length) (subDict (kvs.map (kvSem P))) s q (b.objs.size + l.length) { s with heap := HB b (l ++ [dobj cs]), toks := s.toks + 3 * kvs.length } P)
    (hlen : cs.length = kvs.length) (hcs : ∀ e ∈ cs, ∃ x ∈ kvs, ∃ t' v, e = ⟨hashInt x.1, .int x.1 t', v⟩) (hcp : cs.Pairwise fun x y => x.hash ≠ y.hash) (hh : s.heap = HB b (dobj E :: mid)) (hn0 : n₀ ≤ b.objs.size) (h1 : 1 < b.objs.size) (hO : Off E kvs) (hE : E ≠ []) (hk : kvs ≠ []) (hl : E.length + kvs.length ≤ 10000) :
    Ev treeTable p w n₀ ann (7 + 28 * kvs.length) (flushD (kvs.map (kvSem P)) (some b.objs.size)) s q (some b.objs.size) { s with heap := HB b (dobj (E ++ cs) :: mid ++ [dobj cs]), toks := s.toks + 3 * kvs.length } P := by
  unfold flushD
  rw [if_neg (by cases kvs with | nil => exact absurd rfl hk | cons => simp)]
  dsimp only
  rw [show 7 + 28 * kvs.length = (2 + 20 * kvs.length) + (5 + 8 * cs.length + 0) by rw [hlen]; omega]
  refine Ev.bind (Ev.holding (hsub _ hh)) ?_
  refine Ev.bind (Ev.onRaise (Ev.holding (ev_merge (s := { s with heap := HB b (dobj E :: mid ++ [dobj cs]), toks := s.toks + 3 * kvs.length }) (mid := mid) (cs := cs) (es := E) rfl rfl (by simp only [List.length_cons]) hn0 h1
    (fun e he => by obtain ⟨x, _, t', v', rfl⟩ := hcs e he; exact ⟨_, _, rfl⟩) hcp (fun e he c hc => by obtain ⟨x, hx, t', v', rfl⟩ := hcs c hc; exact hO e he x hx) hE (by omega)))) ?_
  exact Ev.pure
theorem ev_chunks (hn0 : n₀ ≤ b.objs.size) (h1 : 1 < b.objs.size) {last : Run} (hlast : last.length < 17) : ∀ (chunks : List (List (Int × Str))) (E : List DictEntry) (mid : List Obj) (s : Shared), (∀ c ∈ chunks, c.length = 17) → s.heap = HB b (dobj E :: mid) → Apart chunks.flatten → Off E chunks.flatten → E ≠ [] → E.length + 17 * chunks.length ≤ 10000 →
    Ev treeTable p w n₀ ann (483 * chunks.length) (forIn (chunks.flatten.map (kvSem P) ++ last) (some b.objs.size, []) fillF) s P (some b.objs.size, last) { s with heap := HB b (dobj (E ++ allEnts s.toks chunks) :: (mid ++ subs s.toks chunks)), toks := s.toks + 51 * chunks.length } P
  | [], E, mid, s, _, hh, _, _, _, _ => by
    have : ({ s with heap := HB b (dobj (E ++ allEnts s.toks []) :: (mid ++ subs s.toks [])), toks := s.toks + 51 * ([] : List (List (Int × Str))).length } : Shared) = s := by
      simp only [allEnts, subs, List.append_nil, ← hh]; rfl
    rw [this]
    have := ev_fill (α := Unit) (p := p) (w := w) (n₀ := n₀) (ann := ann) (c := 0) (s := s) (s' := s) (q := P) (q' := P) (r := (some b.objs.size, last)) (rest := []) (main := some b.objs.size) last [] (by simpa using hlast) (by rw [List.nil_append]; exact Ev.pure)
    simpa using this
  | c :: r, E, mid, s, h17, hh, hA, hO, hE, hl => by
    rw [List.flatten_cons] at hA hO
    obtain ⟨hA1, hA2, hA3⟩ := List.pairwise_append.mp hA
    have hc : c.length = 17 := h17 c (.head _)
    simp only [List.length_cons] at hl
    have hcne : c ≠ [] := by rintro rfl; simp at hc
    have f := ev_flush (p := p) (w := w) (n₀ := n₀) (ann := ann) (P := P) (b := b) (kvs := c) (E := E) (mid := mid) (s := s) (q := P) (cs := ents s.toks c) (fun l hl => ev_subLong hl hn0 (by omega) hA1 (by omega)) (ents_len _ _) (ents_hash _ _) (ents_apart _ _ hA1) hh hn0 h1
      (fun e he x hx => hO e he x (List.mem_append_left _ hx)) hE hcne (by omega)
    rw [hc] at f
    have hO' : Off (E ++ ents s.toks c) r.flatten := Off.app (fun e he x hx => hO e he x (List.mem_append_right _ hx)) fun e he x hx => by
      obtain ⟨y, hy, t', v', rfl⟩ := ents_hash _ _ e he
      exact hA3 y hy x hx
    have rest := ev_chunks hn0 h1 hlast r (E ++ ents s.toks c) (mid ++ [dobj (ents s.toks c)]) { s with heap := HB b (dobj (E ++ ents s.toks c) :: mid ++ [dobj (ents s.toks c)]), toks := s.toks + 51 } (fun x hx => h17 x (.tail _ hx)) rfl hA2 hO' (by simp [hE]) (by simp only [List.length_append, ents_len, hc]; omega)
    have := ev_chunk (p := p) (w := w) (n₀ := n₀) (ann := ann) (by rw [List.length_map]; exact hc) f rest
    rw [List.flatten_cons, List.map_append, List.append_assoc]
    refine Ev.mono (c := 7 + 28 * 17 + 483 * r.length) ?_ (by simp only [List.length_cons]; omega)
    simp only [List.append_assoc, List.singleton_append] at this
    rw [show s.toks + 51 + 51 * r.length = s.toks + 51 * (c :: r).length by simp only [List.length_cons]; omega] at this
    exact this
theorem ev_display (hn0 : n₀ ≤ b.objs.size) (h1 : 1 < b.objs.size) {first last : List (Int × Str)} {chunks : List (List (Int × Str))} {s : Shared} {q : Pos} (hf : first.length = 17) (h17 : ∀ c ∈ chunks, c.length = 17) (hl : last.length ≤ 15) (hl0 : last ≠ []) (hh : s.heap = b)
    (hA : Apart (first ++ (chunks.flatten ++ last))) (hz : chunks.length ≤ 500) :
    Ev treeTable p w n₀ ann (1000 + 483 * chunks.length) (dictDisplay (((first ++ (chunks.flatten ++ last)).map (kvSem P)).map fun x => (some x.1, x.2))) s q (.ref b.objs.size)
      { s with heap := HB b (dobj (ents s.toks first ++ allEnts (s.toks + 51) chunks ++ entsS (s.toks + 51 + 51 * chunks.length) last) :: (subs (s.toks + 51) chunks ++ [dobj (entsS (s.toks + 51 + 51 * chunks.length) last)])), toks := s.toks + 51 + 51 * chunks.length + 3 * last.length } P := by
  obtain ⟨hA1, hA2, hA3⟩ := List.pairwise_append.mp hA
  obtain ⟨hA4, hA5, hA6⟩ := List.pairwise_append.mp hA2
  rw [display_is, List.map_append, List.map_append]
  have sub1 := ev_subLong (p := p) (w := w) (n₀ := n₀) (ann := ann) (P := P) (b := b) (l := []) (kvs := first) (s := s) (q := q) (by rw [hh, HB_nil]) hn0 (by omega) hA1 (by omega)
  have f1 : Ev treeTable p w n₀ ann (2 + 20 * 17) (flushD (first.map (kvSem P)) none) s q (some b.objs.size) { s with heap := HB b [dobj (ents s.toks first)], toks := s.toks + 51 } P := by
    unfold flushD
    rw [if_neg (by cases first with | nil => simp at hf | cons => simp)]
    rw [hf] at sub1
    exact Ev.bind (c' := 0) sub1 Ev.pure
  have hO : Off (ents s.toks first) (chunks.flatten ++ last) := fun e he x hx => by
    obtain ⟨y, hy, t', v', rfl⟩ := ents_hash _ _ e he
    exact hA3 y hy x hx
  have hne : ents s.toks first ≠ [] := by intro e; have := congrArg List.length e; rw [ents_len, hf] at this; simp at this
  have r1 := ev_chunks (p := p) (w := w) (n₀ := n₀) (ann := ann) (P := P) (b := b) hn0 h1 (last := last.map (kvSem P)) (by rw [List.length_map]; omega) chunks (ents s.toks first) [] { s with heap := HB b [dobj (ents s.toks first)], toks := s.toks + 51 } h17 rfl hA4 (fun e he x hx => hO e he x (List.mem_append_left _ hx)) hne (by rw [ents_len, hf]; omega)
  have loop := ev_chunk (by rw [List.length_map]; exact hf) f1 r1
  refine Ev.mono (c := (2 + 20 * 17 + 483 * chunks.length) + (7 + 28 * last.length + 0)) (Ev.bind loop ?_) (by omega)
  dsimp only
  rw [List.nil_append]
  have hO2 : Off (ents s.toks first ++ allEnts (s.toks + 51) chunks) last := by
    refine Off.app (fun e he x hx => hO e he x (List.mem_append_right _ hx)) ?_
    have go : ∀ (cs : List (List (Int × Str))) (t : Nat), (∀ y ∈ cs.flatten, ∀ x ∈ last, hashInt y.1 ≠ hashInt x.1) → Off (allEnts t cs) last := by
      intro cs
      induction cs with
      | nil => intro t _ e he; exact nomatch he
      | cons c r ih =>
        intro t h
        refine Off.app (fun e he x hx => ?_) (ih _ fun y hy => h y (by rw [List.flatten_cons]; exact List.mem_append_right _ hy))
        obtain ⟨y, hy, t', v', rfl⟩ := ents_hash _ _ e he
        exact h y (by rw [List.flatten_cons]; exact List.mem_append_left _ hy) x hx
    exact go chunks _ hA6
  have hlen2 : ∀ (cs : List (List (Int × Str))) (t : Nat), (∀ c ∈ cs, c.length = 17) → (allEnts t cs).length = 17 * cs.length := by
    intro cs
    induction cs with
    | nil => intro t _; rfl
    | cons c r ih => intro t h; rw [allEnts, List.length_append, ents_len, h c (.head _), ih _ fun x hx => h x (.tail _ hx), List.length_cons]; omega
  refine Ev.bind (ev_flush (p := p) (w := w) (n₀ := n₀) (ann := ann) (P := P) (b := b) (kvs := last) (E := ents s.toks first ++ allEnts (s.toks + 51) chunks) (mid := subs (s.toks + 51) chunks) (q := P) (cs := entsS (s.toks + 51 + 51 * chunks.length) last)
    (fun l hl' => ev_subShort hl' hn0 hl hl0 hA5) (entsS_len _ _) (entsS_hash _ _) (entsS_apart _ _ hA5) rfl hn0 h1 hO2 (by simp [hne]) hl0 (by rw [List.length_append, ents_len, hlen2 _ _ h17, hf]; omega)) ?_
  exact Ev.pure
end
end Mine
end
section
open PySem PySem.W PyProof.Rows
set_option maxRecDepth 100000
namespace Mine
noncomputable section
abbrev S (x : String) : Str := Str.ofString x
abbrev pw : Program := PySem.Challenge.pw_mq0336_01
def stA (i : Nat) : Stmt := pw.main.body.getD i (.Pass default)
def fPar (i : Nat) : Arguments := match stA i with
  | .FunctionDef _ a _ _ _ _ _ _ _ _ => a
  | _ => default
def fBody (i : Nat) : List Stmt := match stA i with
  | .FunctionDef _ _ b _ _ _ _ _ _ _ => b
  | _ => []
def fScope (i : Nat) : Scope := match stA i with
  | .FunctionDef _ _ _ _ _ _ s _ _ _ => s
  | _ => default
abbrev kv (P : Params) (x : Str) (t : Tok) (v : Value) : DictEntry := ⟨PyData.keyHash P x, .str x t, v⟩
def b3c0 : List (Int × Str) := [(181, S "μ"), (223, S "ss"), (304, S "i̇"), (329, S "ʼn"), (383, S "s"), (496, S "ǰ"), (837, S "ι"), (890, S " ι"), (912, S "ΐ"), (944, S "ΰ"), (962, S "σ"), (976, S "β"), (977, S "θ"), (978, S "υ"), (979, S "ύ"), (980, S "ϋ"), (981, S "φ")]
def b3c1 : List (Int × Str) := [(982, S "π"), (1008, S "κ"), (1009, S "ρ"), (1010, S "σ"), (1013, S "ε"), (1415, S "եւ"), (7830, S "ẖ"), (7831, S "ẗ"), (7832, S "ẘ"), (7833, S "ẙ"), (7834, S "aʾ"), (7835, S "ṡ"), (8016, S "ὐ"), (8018, S "ὒ"), (8020, S "ὔ"), (8022, S "ὖ"), (8064, S "ἀι")]
def b3c2 : List (Int × Str) := [(8065, S "ἁι"), (8066, S "ἂι"), (8067, S "ἃι"), (8068, S "ἄι"), (8069, S "ἅι"), (8070, S "ἆι"), (8071, S "ἇι"), (8072, S "ἀι"), (8073, S "ἁι"), (8074, S "ἂι"), (8075, S "ἃι"), (8076, S "ἄι"), (8077, S "ἅι"), (8078, S "ἆι"), (8079, S "ἇι"), (8080, S "ἠι"), (8081, S "ἡι")]
def b3c3 : List (Int × Str) := [(8082, S "ἢι"), (8083, S "ἣι"), (8084, S "ἤι"), (8085, S "ἥι"), (8086, S "ἦι"), (8087, S "ἧι"), (8088, S "ἠι"), (8089, S "ἡι"), (8090, S "ἢι"), (8091, S "ἣι"), (8092, S "ἤι"), (8093, S "ἥι"), (8094, S "ἦι"), (8095, S "ἧι"), (8096, S "ὠι"), (8097, S "ὡι"), (8098, S "ὢι")]
def b3c4 : List (Int × Str) := [(8099, S "ὣι"), (8100, S "ὤι"), (8101, S "ὥι"), (8102, S "ὦι"), (8103, S "ὧι"), (8104, S "ὠι"), (8105, S "ὡι"), (8106, S "ὢι"), (8107, S "ὣι"), (8108, S "ὤι"), (8109, S "ὥι"), (8110, S "ὦι"), (8111, S "ὧι"), (8114, S "ὰι"), (8115, S "αι"), (8116, S "άι"), (8118, S "ᾶ")]
def b3c5 : List (Int × Str) := [(8119, S "ᾶι"), (8124, S "αι"), (8126, S "ι"), (8130, S "ὴι"), (8131, S "ηι"), (8132, S "ήι"), (8134, S "ῆ"), (8135, S "ῆι"), (8140, S "ηι"), (8146, S "ῒ"), (8147, S "ΐ"), (8150, S "ῖ"), (8151, S "ῗ"), (8162, S "ῢ"), (8163, S "ΰ"), (8164, S "ῤ"), (8166, S "ῦ")]
def b3c6 : List (Int × Str) := [(8167, S "ῧ"), (8178, S "ὼι"), (8179, S "ωι"), (8180, S "ώι"), (8182, S "ῶ"), (8183, S "ῶι"), (8188, S "ωι"), (8360, S "rs"), (8450, S "c"), (8451, S "°c"), (8455, S "ɛ"), (8457, S "°f"), (8459, S "h"), (8460, S "h"), (8461, S "h"), (8464, S "i"), (8465, S "i")]
def b3c7 : List (Int × Str) := [(8466, S "l"), (8469, S "n"), (8470, S "no"), (8473, S "p"), (8474, S "q"), (8475, S "r"), (8476, S "r"), (8477, S "r"), (8480, S "sm"), (8481, S "tel"), (8482, S "tm"), (8484, S "z"), (8488, S "z"), (8492, S "b"), (8493, S "c"), (8496, S "e"), (8497, S "f")]
def b3c8 : List (Int × Str) := [(8499, S "m"), (8510, S "γ"), (8511, S "π"), (8517, S "d"), (13169, S "hpa"), (13171, S "au"), (13173, S "ov"), (13184, S "pa"), (13185, S "na"), (13186, S "μa"), (13187, S "ma"), (13188, S "ka"), (13189, S "kb"), (13190, S "mb"), (13191, S "gb"), (13194, S "pf"), (13195, S "nf")]
def b3c9 : List (Int × Str) := [(13196, S "μf"), (13200, S "hz"), (13201, S "khz"), (13202, S "mhz"), (13203, S "ghz"), (13204, S "thz"), (13225, S "pa"), (13226, S "kpa"), (13227, S "mpa"), (13228, S "gpa"), (13236, S "pv"), (13237, S "nv"), (13238, S "μv"), (13239, S "mv"), (13240, S "kv"), (13241, S "mv"), (13242, S "pw")]
def b3c10 : List (Int × Str) := [(13243, S "nw"), (13244, S "μw"), (13245, S "mw"), (13246, S "kw"), (13247, S "mw"), (13248, S "kω"), (13249, S "mω"), (13251, S "bq"), (13254, S "c∕kg"), (13255, S "co."), (13256, S "db"), (13257, S "gy"), (13259, S "hp"), (13261, S "kk"), (13262, S "km"), (13271, S "ph"), (13273, S "ppm")]
def b3c11 : List (Int × Str) := [(13274, S "pr"), (13276, S "sv"), (13277, S "wb"), (64256, S "ff"), (64257, S "fi"), (64258, S "fl"), (64259, S "ffi"), (64260, S "ffl"), (64261, S "st"), (64262, S "st"), (64275, S "մն"), (64276, S "մե"), (64277, S "մի"), (64278, S "վն"), (64279, S "մխ"), (119808, S "a"), (119809, S "b")]
def b3c12 : List (Int × Str) := [(119810, S "c"), (119811, S "d"), (119812, S "e"), (119813, S "f"), (119814, S "g"), (119815, S "h"), (119816, S "i"), (119817, S "j"), (119818, S "k"), (119819, S "l"), (119820, S "m"), (119821, S "n"), (119822, S "o"), (119823, S "p"), (119824, S "q"), (119825, S "r"), (119826, S "s")]
def b3c13 : List (Int × Str) := [(119827, S "t"), (119828, S "u"), (119829, S "v"), (119830, S "w"), (119831, S "x"), (119832, S "y"), (119833, S "z"), (119860, S "a"), (119861, S "b"), (119862, S "c"), (119863, S "d"), (119864, S "e"), (119865, S "f"), (119866, S "g"), (119867, S "h"), (119868, S "i"), (119869, S "j")]
def b3c14 : List (Int × Str) := [(119870, S "k"), (119871, S "l"), (119872, S "m"), (119873, S "n"), (119874, S "o"), (119875, S "p"), (119876, S "q"), (119877, S "r"), (119878, S "s"), (119879, S "t"), (119880, S "u"), (119881, S "v"), (119882, S "w"), (119883, S "x"), (119884, S "y"), (119885, S "z"), (119912, S "a")]
def b3c15 : List (Int × Str) := [(119913, S "b"), (119914, S "c"), (119915, S "d"), (119916, S "e"), (119917, S "f"), (119918, S "g"), (119919, S "h"), (119920, S "i"), (119921, S "j"), (119922, S "k"), (119923, S "l"), (119924, S "m"), (119925, S "n"), (119926, S "o"), (119927, S "p"), (119928, S "q"), (119929, S "r")]
def b3c16 : List (Int × Str) := [(119930, S "s"), (119931, S "t"), (119932, S "u"), (119933, S "v"), (119934, S "w"), (119935, S "x"), (119936, S "y"), (119937, S "z"), (119964, S "a"), (119966, S "c"), (119967, S "d"), (119970, S "g"), (119973, S "j"), (119974, S "k"), (119977, S "n"), (119978, S "o"), (119979, S "p")]
def b3c17 : List (Int × Str) := [(119980, S "q"), (119982, S "s"), (119983, S "t"), (119984, S "u"), (119985, S "v"), (119986, S "w"), (119987, S "x"), (119988, S "y"), (119989, S "z"), (120016, S "a"), (120017, S "b"), (120018, S "c"), (120019, S "d"), (120020, S "e"), (120021, S "f"), (120022, S "g"), (120023, S "h")]
def b3c18 : List (Int × Str) := [(120024, S "i"), (120025, S "j"), (120026, S "k"), (120027, S "l"), (120028, S "m"), (120029, S "n"), (120030, S "o"), (120031, S "p"), (120032, S "q"), (120033, S "r"), (120034, S "s"), (120035, S "t"), (120036, S "u"), (120037, S "v"), (120038, S "w"), (120039, S "x"), (120040, S "y")]
def b3c19 : List (Int × Str) := [(120041, S "z"), (120068, S "a"), (120069, S "b"), (120071, S "d"), (120072, S "e"), (120073, S "f"), (120074, S "g"), (120077, S "j"), (120078, S "k"), (120079, S "l"), (120080, S "m"), (120081, S "n"), (120082, S "o"), (120083, S "p"), (120084, S "q"), (120086, S "s"), (120087, S "t")]
def b3c20 : List (Int × Str) := [(120088, S "u"), (120089, S "v"), (120090, S "w"), (120091, S "x"), (120092, S "y"), (120120, S "a"), (120121, S "b"), (120123, S "d"), (120124, S "e"), (120125, S "f"), (120126, S "g"), (120128, S "i"), (120129, S "j"), (120130, S "k"), (120131, S "l"), (120132, S "m"), (120134, S "o")]
def b3c21 : List (Int × Str) := [(120138, S "s"), (120139, S "t"), (120140, S "u"), (120141, S "v"), (120142, S "w"), (120143, S "x"), (120144, S "y"), (120172, S "a"), (120173, S "b"), (120174, S "c"), (120175, S "d"), (120176, S "e"), (120177, S "f"), (120178, S "g"), (120179, S "h"), (120180, S "i"), (120181, S "j")]
def b3c22 : List (Int × Str) := [(120182, S "k"), (120183, S "l"), (120184, S "m"), (120185, S "n"), (120186, S "o"), (120187, S "p"), (120188, S "q"), (120189, S "r"), (120190, S "s"), (120191, S "t"), (120192, S "u"), (120193, S "v"), (120194, S "w"), (120195, S "x"), (120196, S "y"), (120197, S "z"), (120224, S "a")]
def b3c23 : List (Int × Str) := [(120225, S "b"), (120226, S "c"), (120227, S "d"), (120228, S "e"), (120229, S "f"), (120230, S "g"), (120231, S "h"), (120232, S "i"), (120233, S "j"), (120234, S "k"), (120235, S "l"), (120236, S "m"), (120237, S "n"), (120238, S "o"), (120239, S "p"), (120240, S "q"), (120241, S "r")]
def b3c24 : List (Int × Str) := [(120242, S "s"), (120243, S "t"), (120244, S "u"), (120245, S "v"), (120246, S "w"), (120247, S "x"), (120248, S "y"), (120249, S "z"), (120276, S "a"), (120277, S "b"), (120278, S "c"), (120279, S "d"), (120280, S "e"), (120281, S "f"), (120282, S "g"), (120283, S "h"), (120284, S "i")]
def b3c25 : List (Int × Str) := [(120285, S "j"), (120286, S "k"), (120287, S "l"), (120288, S "m"), (120289, S "n"), (120290, S "o"), (120291, S "p"), (120292, S "q"), (120293, S "r"), (120294, S "s"), (120295, S "t"), (120296, S "u"), (120297, S "v"), (120298, S "w"), (120299, S "x"), (120300, S "y"), (120301, S "z")]
def b3c26 : List (Int × Str) := [(120328, S "a"), (120329, S "b"), (120330, S "c"), (120331, S "d"), (120332, S "e"), (120333, S "f"), (120334, S "g"), (120335, S "h"), (120336, S "i"), (120337, S "j"), (120338, S "k"), (120339, S "l"), (120340, S "m"), (120341, S "n"), (120342, S "o"), (120343, S "p"), (120344, S "q")]
def b3c27 : List (Int × Str) := [(120345, S "r"), (120346, S "s"), (120347, S "t"), (120348, S "u"), (120349, S "v"), (120350, S "w"), (120351, S "x"), (120352, S "y"), (120353, S "z"), (120380, S "a"), (120381, S "b"), (120382, S "c"), (120383, S "d"), (120384, S "e"), (120385, S "f"), (120386, S "g"), (120387, S "h")]
def b3c28 : List (Int × Str) := [(120388, S "i"), (120389, S "j"), (120390, S "k"), (120391, S "l"), (120392, S "m"), (120393, S "n"), (120394, S "o"), (120395, S "p"), (120396, S "q"), (120397, S "r"), (120398, S "s"), (120399, S "t"), (120400, S "u"), (120401, S "v"), (120402, S "w"), (120403, S "x"), (120404, S "y")]
def b3c29 : List (Int × Str) := [(120405, S "z"), (120432, S "a"), (120433, S "b"), (120434, S "c"), (120435, S "d"), (120436, S "e"), (120437, S "f"), (120438, S "g"), (120439, S "h"), (120440, S "i"), (120441, S "j"), (120442, S "k"), (120443, S "l"), (120444, S "m"), (120445, S "n"), (120446, S "o"), (120447, S "p")]
def b3c30 : List (Int × Str) := [(120448, S "q"), (120449, S "r"), (120450, S "s"), (120451, S "t"), (120452, S "u"), (120453, S "v"), (120454, S "w"), (120455, S "x"), (120456, S "y"), (120457, S "z"), (120488, S "α"), (120489, S "β"), (120490, S "γ"), (120491, S "δ"), (120492, S "ε"), (120493, S "ζ"), (120494, S "η")]
def b3c31 : List (Int × Str) := [(120495, S "θ"), (120496, S "ι"), (120497, S "κ"), (120498, S "λ"), (120499, S "μ"), (120500, S "ν"), (120501, S "ξ"), (120502, S "ο"), (120503, S "π"), (120504, S "ρ"), (120505, S "θ"), (120506, S "σ"), (120507, S "τ"), (120508, S "υ"), (120509, S "φ"), (120510, S "χ"), (120511, S "ψ")]
def b3c32 : List (Int × Str) := [(120512, S "ω"), (120531, S "σ"), (120546, S "α"), (120547, S "β"), (120548, S "γ"), (120549, S "δ"), (120550, S "ε"), (120551, S "ζ"), (120552, S "η"), (120553, S "θ"), (120554, S "ι"), (120555, S "κ"), (120556, S "λ"), (120557, S "μ"), (120558, S "ν"), (120559, S "ξ"), (120560, S "ο")]
def b3c33 : List (Int × Str) := [(120561, S "π"), (120562, S "ρ"), (120563, S "θ"), (120564, S "σ"), (120565, S "τ"), (120566, S "υ"), (120567, S "φ"), (120568, S "χ"), (120569, S "ψ"), (120570, S "ω"), (120589, S "σ"), (120604, S "α"), (120605, S "β"), (120606, S "γ"), (120607, S "δ"), (120608, S "ε"), (120609, S "ζ")]
def b3c34 : List (Int × Str) := [(120610, S "η"), (120611, S "θ"), (120612, S "ι"), (120613, S "κ"), (120614, S "λ"), (120615, S "μ"), (120616, S "ν"), (120617, S "ξ"), (120618, S "ο"), (120619, S "π"), (120620, S "ρ"), (120621, S "θ"), (120622, S "σ"), (120623, S "τ"), (120624, S "υ"), (120625, S "φ"), (120626, S "χ")]
def b3c35 : List (Int × Str) := [(120627, S "ψ"), (120628, S "ω"), (120647, S "σ"), (120662, S "α"), (120663, S "β"), (120664, S "γ"), (120665, S "δ"), (120666, S "ε"), (120667, S "ζ"), (120668, S "η"), (120669, S "θ"), (120670, S "ι"), (120671, S "κ"), (120672, S "λ"), (120673, S "μ"), (120674, S "ν"), (120675, S "ξ")]
def b3c36 : List (Int × Str) := [(120676, S "ο"), (120677, S "π"), (120678, S "ρ"), (120679, S "θ"), (120680, S "σ"), (120681, S "τ"), (120682, S "υ"), (120683, S "φ"), (120684, S "χ"), (120685, S "ψ"), (120686, S "ω"), (120705, S "σ"), (120720, S "α"), (120721, S "β"), (120722, S "γ"), (120723, S "δ"), (120724, S "ε")]
def b3c37 : List (Int × Str) := [(120725, S "ζ"), (120726, S "η"), (120727, S "θ"), (120728, S "ι"), (120729, S "κ"), (120730, S "λ"), (120731, S "μ"), (120732, S "ν"), (120733, S "ξ"), (120734, S "ο"), (120735, S "π"), (120736, S "ρ"), (120737, S "θ"), (120738, S "σ"), (120739, S "τ"), (120740, S "υ"), (120741, S "φ")]
def b3c38 : List (Int × Str) := [(120742, S "χ"), (120743, S "ψ"), (120744, S "ω"), (120763, S "σ")]
def b3mid : List (List (Int × Str)) := [b3c1, b3c2, b3c3, b3c4, b3c5, b3c6, b3c7, b3c8, b3c9, b3c10, b3c11, b3c12, b3c13, b3c14, b3c15, b3c16, b3c17, b3c18, b3c19, b3c20, b3c21, b3c22, b3c23, b3c24, b3c25, b3c26, b3c27, b3c28, b3c29, b3c30, b3c31, b3c32, b3c33, b3c34, b3c35, b3c36, b3c37]
def b3all : List (Int × Str) := b3c0 ++ (b3mid.flatten ++ b3c38)
def o11_0 (_ : Params) : Obj := ⟨.type "tuple", none, .seq [].toArray 0, [].toArray⟩
def o12_0 (_ : Params) : Obj := ⟨.none, none, .fields [].toArray, [].toArray⟩
def o13_0 (_ : Params) : Obj := ⟨.type "code", none, .fields [.str (S "<module>") 182, .str (S "<module>") 183, .str (S "/claim/cut.py") 184, .int (1) 0, .int (0) 0, .int (0) 0, .int (0) 0, .int (0) 0, .ref 11, .bool false, .int (181) 0, .ref 12, .none, .none, .none, .none, .int (185) 0, .int (1) 0, .str (S "/claim/cut.py") 186].toArray, [].toArray⟩
def o14_0 (_ : Params) : Obj := ⟨.type "frame", none, .plain, [(some (.ref 13)), (some (.ref 3)), (some (.ref 3)), none, (some (.str (S "__main__") 164)), none, (some (.ref 0))].toArray⟩
def hp0 (P : Params) : Heap := ⟨[boot_o_0 P, boot_o_1 P, boot_o_2 P, boot_o_3 P, boot_o_4 P, boot_o_5 P, boot_o_6 P, boot_o_7 P, boot_o_8 P, boot_o_9 P, boot_o_10 P, o11_0 P, o12_0 P, o13_0 P, o14_0 P].toArray, (boot_heap P).life⟩
def o3_1 (P : Params) : Obj := ⟨.type "dict", none, .dict [kv P (S "__name__") 165 (.str (S "cpy313.stringprep") 214), kv P (S "__doc__") 166 (.none), kv P (S "__package__") 167 (.none), kv P (S "__loader__") 168 (.builtin "__main__.__loader__#opaque"), kv P (S "__spec__") 169 (.none), kv P (S "__annotations__") 170 (.ref 6), kv P (S "__builtins__") 171 (.ref 4), kv P (S "__file__") 173 (.str (S "/claim/cut.py") 172), kv P (S "__cached__") 174 (.none), kv P (S "_wall") 193 (.ref 21), kv P (S "ace_prefix") 197 (.bytes #[120, 110, 45, 45] 196), kv P (S "sace_prefix") 199 (.str (S "xn--") 198), kv P (S "nameprep") 205 (.ref 26), kv P (S "ToASCII") 213 (.ref 33)].toArray 14, [].toArray⟩
def o12_1 (_ : Params) : Obj := ⟨.none, none, .fields [.int (1) 0, .int (0) 0, .ref 20, .int (7) 0, .int (0) 0, .ref 25, .int (28) 0, .int (0) 0, .ref 32].toArray, [].toArray⟩
def o15_1 (_ : Params) : Obj := ⟨.type "tuple", none, .seq [].toArray 0, [].toArray⟩
def o16_1 (_ : Params) : Obj := ⟨.none, none, .fields [].toArray, [].toArray⟩
def o17_1 (_ : Params) : Obj := ⟨.type "tuple", none, .seq [.str (S "k") 190].toArray 0, [].toArray⟩
def o18_1 (_ : Params) : Obj := ⟨.type "tuple", none, .seq [].toArray 0, [].toArray⟩
def o19_1 (_ : Params) : Obj := ⟨.none, none, .func { name := S "_wall", qualname := S "_wall", params := fPar 0, body := .stmts (fBody 0), scope := fScope 0, globals := 0, closure := [], defaults := .none, kwdefaults := .none, doc := .none, pyModule := .none, annotations := none, code := .none, closureTuple := .none, builtins := 0 }, [].toArray⟩
def o20_1 (_ : Params) : Obj := ⟨.type "code", none, .fields [.str (S "_wall") 187, .str (S "_wall") 188, .str (S "/claim/cut.py") 189, .int (1) 0, .int (1) 0, .int (0) 0, .int (0) 0, .int (3) 0, .ref 15, .bool true, .int (181) 0, .ref 16, .none, .ref 17, .ref 18, .ref 19, .int (191) 0, .int (1) 0, .str (S "/claim/cut.py") 192].toArray, [].toArray⟩
def o21_1 (_ : Params) : Obj := ⟨.type "function", none, .func { name := S "_wall", qualname := S "_wall", params := fPar 0, body := .stmts (fBody 0), scope := fScope 0, globals := 3, closure := [], defaults := .none, kwdefaults := .none, doc := .none, pyModule := .str (S "__main__") 164, annotations := none, code := .ref 20, closureTuple := .none, builtins := 0 }, [].toArray⟩
def o22_1 (_ : Params) : Obj := ⟨.type "tuple", none, .seq [].toArray 0, [].toArray⟩
def o23_1 (_ : Params) : Obj := ⟨.none, none, .fields [].toArray, [].toArray⟩
def o24_1 (_ : Params) : Obj := ⟨.none, none, .func { name := S "nameprep", qualname := S "nameprep", params := fPar 4, body := .stmts (fBody 4), scope := fScope 4, globals := 0, closure := [], defaults := .none, kwdefaults := .none, doc := .none, pyModule := .none, annotations := none, code := .none, closureTuple := .none, builtins := 0 }, [].toArray⟩
def o25_1 (_ : Params) : Obj := ⟨.type "code", none, .fields [.str (S "nameprep") 200, .str (S "nameprep") 201, .str (S "/claim/cut.py") 202, .int (7) 0, .int (1) 0, .int (0) 0, .int (0) 0, .int (3) 0, .ref 22, .bool true, .int (181) 0, .ref 23, .none, .none, .none, .ref 24, .int (203) 0, .int (7) 0, .str (S "/claim/cut.py") 204].toArray, [].toArray⟩
def o26_1 (_ : Params) : Obj := ⟨.type "function", none, .func { name := S "nameprep", qualname := S "nameprep", params := fPar 4, body := .stmts (fBody 4), scope := fScope 4, globals := 3, closure := [], defaults := .none, kwdefaults := .none, doc := .none, pyModule := .str (S "cpy313.encodings.idna") 194, annotations := none, code := .ref 25, closureTuple := .none, builtins := 0 }, [].toArray⟩
def o27_1 (_ : Params) : Obj := ⟨.type "tuple", none, .seq [].toArray 0, [].toArray⟩
def o28_1 (_ : Params) : Obj := ⟨.none, none, .fields [].toArray, [].toArray⟩
def o29_1 (_ : Params) : Obj := ⟨.type "tuple", none, .seq [.str (S "label") 209, .str (S "label_ascii") 210].toArray 0, [].toArray⟩
def o30_1 (_ : Params) : Obj := ⟨.type "tuple", none, .seq [].toArray 0, [].toArray⟩
def o31_1 (_ : Params) : Obj := ⟨.none, none, .func { name := S "ToASCII", qualname := S "ToASCII", params := fPar 5, body := .stmts (fBody 5), scope := fScope 5, globals := 0, closure := [], defaults := .none, kwdefaults := .none, doc := .none, pyModule := .none, annotations := none, code := .none, closureTuple := .none, builtins := 0 }, [].toArray⟩
def o32_1 (_ : Params) : Obj := ⟨.type "code", none, .fields [.str (S "ToASCII") 206, .str (S "ToASCII") 207, .str (S "/claim/cut.py") 208, .int (28) 0, .int (1) 0, .int (0) 0, .int (0) 0, .int (3) 0, .ref 27, .bool true, .int (181) 0, .ref 28, .none, .ref 29, .ref 30, .ref 31, .int (211) 0, .int (28) 0, .str (S "/claim/cut.py") 212].toArray, [].toArray⟩
def o33_1 (_ : Params) : Obj := ⟨.type "function", none, .func { name := S "ToASCII", qualname := S "ToASCII", params := fPar 5, body := .stmts (fBody 5), scope := fScope 5, globals := 3, closure := [], defaults := .none, kwdefaults := .none, doc := .none, pyModule := .str (S "cpy313.encodings.idna") 194, annotations := none, code := .ref 32, closureTuple := .none, builtins := 0 }, [].toArray⟩
def hp1 (P : Params) : Heap := ⟨[boot_o_0 P, boot_o_1 P, boot_o_2 P, o3_1 P, boot_o_4 P, boot_o_5 P, boot_o_6 P, boot_o_7 P, boot_o_8 P, boot_o_9 P, boot_o_10 P, o11_0 P, o12_1 P, o13_0 P, o14_0 P, o15_1 P, o16_1 P, o17_1 P, o18_1 P, o19_1 P, o20_1 P, o21_1 P, o22_1 P, o23_1 P, o24_1 P, o25_1 P, o26_1 P, o27_1 P, o28_1 P, o29_1 P, o30_1 P, o31_1 P, o32_1 P, o33_1 P].toArray, (boot_heap P).life⟩
def o3_2 (P : Params) : Obj := ⟨.type "dict", none, .dict [kv P (S "__name__") 165 (.str (S "cpy313.stringprep") 214), kv P (S "__doc__") 166 (.none), kv P (S "__package__") 167 (.none), kv P (S "__loader__") 168 (.builtin "__main__.__loader__#opaque"), kv P (S "__spec__") 169 (.none), kv P (S "__annotations__") 170 (.ref 6), kv P (S "__builtins__") 171 (.ref 4), kv P (S "__file__") 173 (.str (S "/claim/cut.py") 172), kv P (S "__cached__") 174 (.none), kv P (S "_wall") 193 (.ref 21), kv P (S "ace_prefix") 197 (.bytes #[120, 110, 45, 45] 196), kv P (S "sace_prefix") 199 (.str (S "xn--") 198), kv P (S "nameprep") 205 (.ref 26), kv P (S "ToASCII") 213 (.ref 33), kv P (S "b1_set") 275 (.ref 41)].toArray 15, [].toArray⟩
def o34_2 (_ : Params) : Obj := ⟨.type "list", none, .seq [.int (173) 216, .int (847) 217, .int (6150) 218, .int (6155) 219, .int (6156) 220, .int (6157) 221, .int (8203) 222, .int (8204) 223, .int (8205) 224, .int (8288) 225, .int (65279) 226].toArray 0, [].toArray⟩
def o35_2 (_ : Params) : Obj := ⟨.type "range", none, .fields [.int (65024) 227, .int (65040) 228, .int (1) 229].toArray, [].toArray⟩
def o36_2 (_ : Params) : Obj := ⟨.type "list", none, .seq [.int (65024) 232, .int (65025) 233, .int (65026) 234, .int (65027) 235, .int (65028) 236, .int (65029) 237, .int (65030) 238, .int (65031) 239, .int (65032) 240, .int (65033) 241, .int (65034) 242, .int (65035) 243, .int (65036) 244, .int (65037) 245, .int (65038) 246, .int (65039) 247].toArray 18, [].toArray⟩
def o37_2 (_ : Params) : Obj := ⟨.type "range_iterator", none, .fields [.int (65040) 0, .int (0) 0, .int (1) 0].toArray, [].toArray⟩
def o38_2 (_ : Params) : Obj := ⟨.type "tuple", none, .seq [].toArray 0, [].toArray⟩
def o39_2 (_ : Params) : Obj := ⟨.type "StopIteration", none, .fields [.ref 38, .none, .none, .none, .bool false, .none].toArray, [].toArray⟩
def o40_2 (_ : Params) : Obj := ⟨.type "list", none, .seq [.int (173) 216, .int (847) 217, .int (6150) 218, .int (6155) 219, .int (6156) 220, .int (6157) 221, .int (8203) 222, .int (8204) 223, .int (8205) 224, .int (8288) 225, .int (65279) 226, .int (65024) 232, .int (65025) 233, .int (65026) 234, .int (65027) 235, .int (65028) 236, .int (65029) 237, .int (65030) 238, .int (65031) 239, .int (65032) 240, .int (65033) 241, .int (65034) 242, .int (65035) 243, .int (65036) 244, .int (65037) 245, .int (65038) 246, .int (65039) 247].toArray 0, [].toArray⟩
def o41_2 (P : Params) : Obj := ⟨.type "set", none, .set [(65024, .int (65024) 232), (65025, .int (65025) 233), (65026, .int (65026) 234), (65027, .int (65027) 235), (65028, .int (65028) 236), (65029, .int (65029) 237), (6150, .int (6150) 218), (65030, .int (65030) 238), (65031, .int (65031) 239), (65032, .int (65032) 240), (65033, .int (65033) 241), (6155, .int (6155) 219), (6156, .int (6156) 220), (6157, .int (6157) 221), (8203, .int (8203) 222), (8204, .int (8204) 223), (8205, .int (8205) 224), (65034, .int (65034) 242), (65035, .int (65035) 243), (65036, .int (65036) 244), (65037, .int (65037) 245), (65038, .int (65038) 246), (65039, .int (65039) 247), (173, .int (173) 216), (847, .int (847) 217), (8288, .int (8288) 225), (65279, .int (65279) 226)].toArray 29 { mask := 127, place := #[0, 1, 2, 3, 4, 5, 6, 7, 8, 9, 10, 11, 12, 13, 14, 15, 16, 17, 18, 19, 20, 21, 22, 45, 79, 96, 127], dummies := #[], finger := 0, led := !P.followText "set-order", moves := 2, plain := true }, [].toArray⟩
def o42_2 (_ : Params) : Obj := ⟨.type "list_iterator", none, .fields [.none, .int (27) 0].toArray, [].toArray⟩
def o43_2 (_ : Params) : Obj := ⟨.type "tuple", none, .seq [].toArray 0, [].toArray⟩
def o44_2 (_ : Params) : Obj := ⟨.type "StopIteration", none, .fields [.ref 43, .none, .none, .none, .bool false, .none].toArray, [].toArray⟩
def hp2 (P : Params) : Heap := ⟨[boot_o_0 P, boot_o_1 P, boot_o_2 P, o3_2 P, boot_o_4 P, boot_o_5 P, boot_o_6 P, boot_o_7 P, boot_o_8 P, boot_o_9 P, boot_o_10 P, o11_0 P, o12_1 P, o13_0 P, o14_0 P, o15_1 P, o16_1 P, o17_1 P, o18_1 P, o19_1 P, o20_1 P, o21_1 P, o22_1 P, o23_1 P, o24_1 P, o25_1 P, o26_1 P, o27_1 P, o28_1 P, o29_1 P, o30_1 P, o31_1 P, o32_1 P, o33_1 P, o34_2 P, o35_2 P, o36_2 P, o37_2 P, o38_2 P, o39_2 P, o40_2 P, o41_2 P, o42_2 P, o43_2 P, o44_2 P].toArray, (boot_heap P).life⟩
def o3_3 (P : Params) : Obj := ⟨.type "dict", none, .dict [kv P (S "__name__") 165 (.str (S "cpy313.stringprep") 214), kv P (S "__doc__") 166 (.none), kv P (S "__package__") 167 (.none), kv P (S "__loader__") 168 (.builtin "__main__.__loader__#opaque"), kv P (S "__spec__") 169 (.none), kv P (S "__annotations__") 170 (.ref 6), kv P (S "__builtins__") 171 (.ref 4), kv P (S "__file__") 173 (.str (S "/claim/cut.py") 172), kv P (S "__cached__") 174 (.none), kv P (S "_wall") 193 (.ref 21), kv P (S "ace_prefix") 197 (.bytes #[120, 110, 45, 45] 196), kv P (S "sace_prefix") 199 (.str (S "xn--") 198), kv P (S "nameprep") 205 (.ref 26), kv P (S "ToASCII") 213 (.ref 33), kv P (S "b1_set") 275 (.ref 41), kv P (S "in_table_b1") 282 (.ref 51)].toArray 16, [].toArray⟩
def o12_3 (_ : Params) : Obj := ⟨.none, none, .fields [.int (1) 0, .int (0) 0, .ref 20, .int (7) 0, .int (0) 0, .ref 25, .int (28) 0, .int (0) 0, .ref 32, .int (61) 0, .int (0) 0, .ref 50].toArray, [].toArray⟩
def o45_3 (_ : Params) : Obj := ⟨.type "tuple", none, .seq [].toArray 0, [].toArray⟩
def o46_3 (_ : Params) : Obj := ⟨.none, none, .fields [].toArray, [].toArray⟩
def o47_3 (_ : Params) : Obj := ⟨.type "tuple", none, .seq [.str (S "code") 279].toArray 0, [].toArray⟩
def o48_3 (_ : Params) : Obj := ⟨.type "tuple", none, .seq [].toArray 0, [].toArray⟩
def o49_3 (_ : Params) : Obj := ⟨.none, none, .func { name := S "in_table_b1", qualname := S "in_table_b1", params := fPar 8, body := .stmts (fBody 8), scope := fScope 8, globals := 0, closure := [], defaults := .none, kwdefaults := .none, doc := .none, pyModule := .none, annotations := none, code := .none, closureTuple := .none, builtins := 0 }, [].toArray⟩
def o50_3 (_ : Params) : Obj := ⟨.type "code", none, .fields [.str (S "in_table_b1") 276, .str (S "in_table_b1") 277, .str (S "/claim/cut.py") 278, .int (61) 0, .int (1) 0, .int (0) 0, .int (0) 0, .int (3) 0, .ref 45, .bool true, .int (181) 0, .ref 46, .none, .ref 47, .ref 48, .ref 49, .int (280) 0, .int (61) 0, .str (S "/claim/cut.py") 281].toArray, [].toArray⟩
def o51_3 (_ : Params) : Obj := ⟨.type "function", none, .func { name := S "in_table_b1", qualname := S "in_table_b1", params := fPar 8, body := .stmts (fBody 8), scope := fScope 8, globals := 3, closure := [], defaults := .none, kwdefaults := .none, doc := .none, pyModule := .str (S "cpy313.stringprep") 214, annotations := none, code := .ref 50, closureTuple := .none, builtins := 0 }, [].toArray⟩
def hp3 (P : Params) : Heap := ⟨[boot_o_0 P, boot_o_1 P, boot_o_2 P, o3_3 P, boot_o_4 P, boot_o_5 P, boot_o_6 P, boot_o_7 P, boot_o_8 P, boot_o_9 P, boot_o_10 P, o11_0 P, o12_3 P, o13_0 P, o14_0 P, o15_1 P, o16_1 P, o17_1 P, o18_1 P, o19_1 P, o20_1 P, o21_1 P, o22_1 P, o23_1 P, o24_1 P, o25_1 P, o26_1 P, o27_1 P, o28_1 P, o29_1 P, o30_1 P, o31_1 P, o32_1 P, o33_1 P, o34_2 P, o35_2 P, o36_2 P, o37_2 P, o38_2 P, o39_2 P, o40_2 P, o41_2 P, o42_2 P, o43_2 P, o44_2 P, o45_3 P, o46_3 P, o47_3 P, o48_3 P, o49_3 P, o50_3 P, o51_3 P].toArray, (boot_heap P).life⟩
def o3_4 (P : Params) : Obj := ⟨.type "dict", none, .dict [kv P (S "__name__") 165 (.str (S "cpy313.stringprep") 214), kv P (S "__doc__") 166 (.none), kv P (S "__package__") 167 (.none), kv P (S "__loader__") 168 (.builtin "__main__.__loader__#opaque"), kv P (S "__spec__") 169 (.none), kv P (S "__annotations__") 170 (.ref 6), kv P (S "__builtins__") 171 (.ref 4), kv P (S "__file__") 173 (.str (S "/claim/cut.py") 172), kv P (S "__cached__") 174 (.none), kv P (S "_wall") 193 (.ref 21), kv P (S "ace_prefix") 197 (.bytes #[120, 110, 45, 45] 196), kv P (S "sace_prefix") 199 (.str (S "xn--") 198), kv P (S "nameprep") 205 (.ref 26), kv P (S "ToASCII") 213 (.ref 33), kv P (S "b1_set") 275 (.ref 41), kv P (S "in_table_b1") 282 (.ref 51), kv P (S "b3_exceptions") 2233 (.ref 52)].toArray 17, [].toArray⟩
def mainEs : List DictEntry := ents 283 b3c0 ++ allEnts 334 b3mid ++ entsS 2221 b3c38
def o52_4 (_ : Params) : Obj := dobj mainEs
def o53_4 (_ : Params) : Obj := dobj (ents 334 b3c1)
def o54_4 (_ : Params) : Obj := dobj (ents 385 b3c2)
def o55_4 (_ : Params) : Obj := dobj (ents 436 b3c3)
def o56_4 (_ : Params) : Obj := dobj (ents 487 b3c4)
def o57_4 (_ : Params) : Obj := dobj (ents 538 b3c5)
def o58_4 (_ : Params) : Obj := dobj (ents 589 b3c6)
def o59_4 (_ : Params) : Obj := dobj (ents 640 b3c7)
def o60_4 (_ : Params) : Obj := dobj (ents 691 b3c8)
def o61_4 (_ : Params) : Obj := dobj (ents 742 b3c9)
def o62_4 (_ : Params) : Obj := dobj (ents 793 b3c10)
def o63_4 (_ : Params) : Obj := dobj (ents 844 b3c11)
def o64_4 (_ : Params) : Obj := dobj (ents 895 b3c12)
def o65_4 (_ : Params) : Obj := dobj (ents 946 b3c13)
def o66_4 (_ : Params) : Obj := dobj (ents 997 b3c14)
def o67_4 (_ : Params) : Obj := dobj (ents 1048 b3c15)
def o68_4 (_ : Params) : Obj := dobj (ents 1099 b3c16)
def o69_4 (_ : Params) : Obj := dobj (ents 1150 b3c17)
def o70_4 (_ : Params) : Obj := dobj (ents 1201 b3c18)
def o71_4 (_ : Params) : Obj := dobj (ents 1252 b3c19)
def o72_4 (_ : Params) : Obj := dobj (ents 1303 b3c20)
def o73_4 (_ : Params) : Obj := dobj (ents 1354 b3c21)
def o74_4 (_ : Params) : Obj := dobj (ents 1405 b3c22)
def o75_4 (_ : Params) : Obj := dobj (ents 1456 b3c23)
def o76_4 (_ : Params) : Obj := dobj (ents 1507 b3c24)
def o77_4 (_ : Params) : Obj := dobj (ents 1558 b3c25)
def o78_4 (_ : Params) : Obj := dobj (ents 1609 b3c26)
def o79_4 (_ : Params) : Obj := dobj (ents 1660 b3c27)
def o80_4 (_ : Params) : Obj := dobj (ents 1711 b3c28)
def o81_4 (_ : Params) : Obj := dobj (ents 1762 b3c29)
def o82_4 (_ : Params) : Obj := dobj (ents 1813 b3c30)
def o83_4 (_ : Params) : Obj := dobj (ents 1864 b3c31)
def o84_4 (_ : Params) : Obj := dobj (ents 1915 b3c32)
def o85_4 (_ : Params) : Obj := dobj (ents 1966 b3c33)
def o86_4 (_ : Params) : Obj := dobj (ents 2017 b3c34)
def o87_4 (_ : Params) : Obj := dobj (ents 2068 b3c35)
def o88_4 (_ : Params) : Obj := dobj (ents 2119 b3c36)
def o89_4 (_ : Params) : Obj := dobj (ents 2170 b3c37)
def o90_4 (_ : Params) : Obj := dobj (entsS 2221 b3c38)
def hp4 (P : Params) : Heap := ⟨[boot_o_0 P, boot_o_1 P, boot_o_2 P, o3_4 P, boot_o_4 P, boot_o_5 P, boot_o_6 P, boot_o_7 P, boot_o_8 P, boot_o_9 P, boot_o_10 P, o11_0 P, o12_3 P, o13_0 P, o14_0 P, o15_1 P, o16_1 P, o17_1 P, o18_1 P, o19_1 P, o20_1 P, o21_1 P, o22_1 P, o23_1 P, o24_1 P, o25_1 P, o26_1 P, o27_1 P, o28_1 P, o29_1 P, o30_1 P, o31_1 P, o32_1 P, o33_1 P, o34_2 P, o35_2 P, o36_2 P, o37_2 P, o38_2 P, o39_2 P, o40_2 P, o41_2 P, o42_2 P, o43_2 P, o44_2 P, o45_3 P, o46_3 P, o47_3 P, o48_3 P, o49_3 P, o50_3 P, o51_3 P, o52_4 P, o53_4 P, o54_4 P, o55_4 P, o56_4 P, o57_4 P, o58_4 P, o59_4 P, o60_4 P, o61_4 P, o62_4 P, o63_4 P, o64_4 P, o65_4 P, o66_4 P, o67_4 P, o68_4 P, o69_4 P, o70_4 P, o71_4 P, o72_4 P, o73_4 P, o74_4 P, o75_4 P, o76_4 P, o77_4 P, o78_4 P, o79_4 P, o80_4 P, o81_4 P, o82_4 P, o83_4 P, o84_4 P, o85_4 P, o86_4 P, o87_4 P, o88_4 P, o89_4 P, o90_4 P].toArray, (boot_heap P).life⟩
def hp4a (P : Params) : Heap := ⟨[boot_o_0 P, boot_o_1 P, boot_o_2 P, o3_3 P, boot_o_4 P, boot_o_5 P, boot_o_6 P, boot_o_7 P, boot_o_8 P, boot_o_9 P, boot_o_10 P, o11_0 P, o12_3 P, o13_0 P, o14_0 P, o15_1 P, o16_1 P, o17_1 P, o18_1 P, o19_1 P, o20_1 P, o21_1 P, o22_1 P, o23_1 P, o24_1 P, o25_1 P, o26_1 P, o27_1 P, o28_1 P, o29_1 P, o30_1 P, o31_1 P, o32_1 P, o33_1 P, o34_2 P, o35_2 P, o36_2 P, o37_2 P, o38_2 P, o39_2 P, o40_2 P, o41_2 P, o42_2 P, o43_2 P, o44_2 P, o45_3 P, o46_3 P, o47_3 P, o48_3 P, o49_3 P, o50_3 P, o51_3 P, o52_4 P, o53_4 P, o54_4 P, o55_4 P, o56_4 P, o57_4 P, o58_4 P, o59_4 P, o60_4 P, o61_4 P, o62_4 P, o63_4 P, o64_4 P, o65_4 P, o66_4 P, o67_4 P, o68_4 P, o69_4 P, o70_4 P, o71_4 P, o72_4 P, o73_4 P, o74_4 P, o75_4 P, o76_4 P, o77_4 P, o78_4 P, o79_4 P, o80_4 P, o81_4 P, o82_4 P, o83_4 P, o84_4 P, o85_4 P, o86_4 P, o87_4 P, o88_4 P, o89_4 P, o90_4 P].toArray, (boot_heap P).life⟩
def o3_5 (P : Params) : Obj := ⟨.type "dict", none, .dict [kv P (S "__name__") 165 (.str (S "law_mq0336_01") 2242), kv P (S "__doc__") 166 (.none), kv P (S "__package__") 167 (.none), kv P (S "__loader__") 168 (.builtin "__main__.__loader__#opaque"), kv P (S "__spec__") 169 (.none), kv P (S "__annotations__") 170 (.ref 6), kv P (S "__builtins__") 171 (.ref 4), kv P (S "__file__") 173 (.str (S "/claim/cut.py") 172), kv P (S "__cached__") 174 (.none), kv P (S "_wall") 193 (.ref 21), kv P (S "ace_prefix") 197 (.bytes #[120, 110, 45, 45] 196), kv P (S "sace_prefix") 199 (.str (S "xn--") 198), kv P (S "nameprep") 205 (.ref 26), kv P (S "ToASCII") 213 (.ref 33), kv P (S "b1_set") 275 (.ref 41), kv P (S "in_table_b1") 282 (.ref 51), kv P (S "b3_exceptions") 2233 (.ref 52), kv P (S "map_table_b3") 2241 (.ref 97), kv P (S "_law_rows") 2249 (.ref 102), kv P (S "_law_seven") 2260 (.ref 109), kv P (S "_law_code") 2270 (.ref 116), kv P (S "_law_ascii") 2277 (.ref 123), kv P (S "_law_due") 2283 (.ref 128), kv P (S "law") 2289 (.ref 133)].toArray 24, [].toArray⟩
def o12_5 (_ : Params) : Obj := ⟨.none, none, .fields [.int (1) 0, .int (0) 0, .ref 20, .int (7) 0, .int (0) 0, .ref 25, .int (28) 0, .int (0) 0, .ref 32, .int (61) 0, .int (0) 0, .ref 50, .int (64) 0, .int (0) 0, .ref 96, .int (70) 0, .int (0) 0, .ref 101, .int (75) 0, .int (0) 0, .ref 108, .int (89) 0, .int (0) 0, .ref 115, .int (107) 0, .int (0) 0, .ref 122, .int (112) 0, .int (0) 0, .ref 127, .int (114) 0, .int (0) 0, .ref 132].toArray, [].toArray⟩
def o91_5 (_ : Params) : Obj := ⟨.type "tuple", none, .seq [].toArray 0, [].toArray⟩
def o92_5 (_ : Params) : Obj := ⟨.none, none, .fields [].toArray, [].toArray⟩
def o93_5 (_ : Params) : Obj := ⟨.type "tuple", none, .seq [.str (S "code") 2237, .str (S "r") 2238].toArray 0, [].toArray⟩
def o94_5 (_ : Params) : Obj := ⟨.type "tuple", none, .seq [].toArray 0, [].toArray⟩
def o95_5 (_ : Params) : Obj := ⟨.none, none, .func { name := S "map_table_b3", qualname := S "map_table_b3", params := fPar 10, body := .stmts (fBody 10), scope := fScope 10, globals := 0, closure := [], defaults := .none, kwdefaults := .none, doc := .none, pyModule := .none, annotations := none, code := .none, closureTuple := .none, builtins := 0 }, [].toArray⟩
def o96_5 (_ : Params) : Obj := ⟨.type "code", none, .fields [.str (S "map_table_b3") 2234, .str (S "map_table_b3") 2235, .str (S "/claim/cut.py") 2236, .int (64) 0, .int (1) 0, .int (0) 0, .int (0) 0, .int (3) 0, .ref 91, .bool true, .int (181) 0, .ref 92, .none, .ref 93, .ref 94, .ref 95, .int (2239) 0, .int (64) 0, .str (S "/claim/cut.py") 2240].toArray, [].toArray⟩
def o97_5 (_ : Params) : Obj := ⟨.type "function", none, .func { name := S "map_table_b3", qualname := S "map_table_b3", params := fPar 10, body := .stmts (fBody 10), scope := fScope 10, globals := 3, closure := [], defaults := .none, kwdefaults := .none, doc := .none, pyModule := .str (S "cpy313.stringprep") 214, annotations := none, code := .ref 96, closureTuple := .none, builtins := 0 }, [].toArray⟩
def o98_5 (_ : Params) : Obj := ⟨.type "tuple", none, .seq [].toArray 0, [].toArray⟩
def o99_5 (_ : Params) : Obj := ⟨.none, none, .fields [].toArray, [].toArray⟩
def o100_5 (_ : Params) : Obj := ⟨.none, none, .func { name := S "_law_rows", qualname := S "_law_rows", params := fPar 12, body := .stmts (fBody 12), scope := fScope 12, globals := 0, closure := [], defaults := .none, kwdefaults := .none, doc := .none, pyModule := .none, annotations := none, code := .none, closureTuple := .none, builtins := 0 }, [].toArray⟩
def o101_5 (_ : Params) : Obj := ⟨.type "code", none, .fields [.str (S "_law_rows") 2244, .str (S "_law_rows") 2245, .str (S "/claim/cut.py") 2246, .int (70) 0, .int (0) 0, .int (0) 0, .int (0) 0, .int (3) 0, .ref 98, .bool true, .int (181) 0, .ref 99, .none, .none, .none, .ref 100, .int (2247) 0, .int (70) 0, .str (S "/claim/cut.py") 2248].toArray, [].toArray⟩
def o102_5 (_ : Params) : Obj := ⟨.type "function", none, .func { name := S "_law_rows", qualname := S "_law_rows", params := fPar 12, body := .stmts (fBody 12), scope := fScope 12, globals := 3, closure := [], defaults := .none, kwdefaults := .none, doc := .none, pyModule := .str (S "law_mq0336_01") 2242, annotations := none, code := .ref 101, closureTuple := .none, builtins := 0 }, [].toArray⟩
def o103_5 (_ : Params) : Obj := ⟨.type "tuple", none, .seq [].toArray 0, [].toArray⟩
def o104_5 (_ : Params) : Obj := ⟨.none, none, .fields [].toArray, [].toArray⟩
def o105_5 (_ : Params) : Obj := ⟨.type "tuple", none, .seq [.str (S "n") 2253, .str (S "rows") 2254, .str (S "place") 2255, .str (S "first") 2256, .str (S "words") 2257].toArray 0, [].toArray⟩
def o106_5 (_ : Params) : Obj := ⟨.type "tuple", none, .seq [].toArray 0, [].toArray⟩
def o107_5 (_ : Params) : Obj := ⟨.none, none, .func { name := S "_law_seven", qualname := S "_law_seven", params := fPar 13, body := .stmts (fBody 13), scope := fScope 13, globals := 0, closure := [], defaults := .none, kwdefaults := .none, doc := .none, pyModule := .none, annotations := none, code := .none, closureTuple := .none, builtins := 0 }, [].toArray⟩
def o108_5 (_ : Params) : Obj := ⟨.type "code", none, .fields [.str (S "_law_seven") 2250, .str (S "_law_seven") 2251, .str (S "/claim/cut.py") 2252, .int (75) 0, .int (2) 0, .int (0) 0, .int (0) 0, .int (3) 0, .ref 103, .bool true, .int (181) 0, .ref 104, .none, .ref 105, .ref 106, .ref 107, .int (2258) 0, .int (75) 0, .str (S "/claim/cut.py") 2259].toArray, [].toArray⟩
def o109_5 (_ : Params) : Obj := ⟨.type "function", none, .func { name := S "_law_seven", qualname := S "_law_seven", params := fPar 13, body := .stmts (fBody 13), scope := fScope 13, globals := 3, closure := [], defaults := .none, kwdefaults := .none, doc := .none, pyModule := .str (S "law_mq0336_01") 2242, annotations := none, code := .ref 108, closureTuple := .none, builtins := 0 }, [].toArray⟩
def o110_5 (_ : Params) : Obj := ⟨.type "tuple", none, .seq [].toArray 0, [].toArray⟩
def o111_5 (_ : Params) : Obj := ⟨.none, none, .fields [].toArray, [].toArray⟩
def o112_5 (_ : Params) : Obj := ⟨.type "tuple", none, .seq [.str (S "x") 2264, .str (S "others") 2265, .str (S "rest") 2266, .str (S "kind") 2267].toArray 0, [].toArray⟩
def o113_5 (_ : Params) : Obj := ⟨.type "tuple", none, .seq [].toArray 0, [].toArray⟩
def o114_5 (_ : Params) : Obj := ⟨.none, none, .func { name := S "_law_code", qualname := S "_law_code", params := fPar 14, body := .stmts (fBody 14), scope := fScope 14, globals := 0, closure := [], defaults := .none, kwdefaults := .none, doc := .none, pyModule := .none, annotations := none, code := .none, closureTuple := .none, builtins := 0 }, [].toArray⟩
def o115_5 (_ : Params) : Obj := ⟨.type "code", none, .fields [.str (S "_law_code") 2261, .str (S "_law_code") 2262, .str (S "/claim/cut.py") 2263, .int (89) 0, .int (2) 0, .int (0) 0, .int (0) 0, .int (3) 0, .ref 110, .bool true, .int (181) 0, .ref 111, .none, .ref 112, .ref 113, .ref 114, .int (2268) 0, .int (89) 0, .str (S "/claim/cut.py") 2269].toArray, [].toArray⟩
def o116_5 (_ : Params) : Obj := ⟨.type "function", none, .func { name := S "_law_code", qualname := S "_law_code", params := fPar 14, body := .stmts (fBody 14), scope := fScope 14, globals := 3, closure := [], defaults := .none, kwdefaults := .none, doc := .none, pyModule := .str (S "law_mq0336_01") 2242, annotations := none, code := .ref 115, closureTuple := .none, builtins := 0 }, [].toArray⟩
def o117_5 (_ : Params) : Obj := ⟨.type "tuple", none, .seq [].toArray 0, [].toArray⟩
def o118_5 (_ : Params) : Obj := ⟨.none, none, .fields [].toArray, [].toArray⟩
def o119_5 (_ : Params) : Obj := ⟨.type "tuple", none, .seq [.str (S "label") 2274].toArray 0, [].toArray⟩
def o120_5 (_ : Params) : Obj := ⟨.type "tuple", none, .seq [].toArray 0, [].toArray⟩
def o121_5 (_ : Params) : Obj := ⟨.none, none, .func { name := S "_law_ascii", qualname := S "_law_ascii", params := fPar 15, body := .stmts (fBody 15), scope := fScope 15, globals := 0, closure := [], defaults := .none, kwdefaults := .none, doc := .none, pyModule := .none, annotations := none, code := .none, closureTuple := .none, builtins := 0 }, [].toArray⟩
def o122_5 (_ : Params) : Obj := ⟨.type "code", none, .fields [.str (S "_law_ascii") 2271, .str (S "_law_ascii") 2272, .str (S "/claim/cut.py") 2273, .int (107) 0, .int (1) 0, .int (0) 0, .int (0) 0, .int (3) 0, .ref 117, .bool true, .int (181) 0, .ref 118, .none, .ref 119, .ref 120, .ref 121, .int (2275) 0, .int (107) 0, .str (S "/claim/cut.py") 2276].toArray, [].toArray⟩
def o123_5 (_ : Params) : Obj := ⟨.type "function", none, .func { name := S "_law_ascii", qualname := S "_law_ascii", params := fPar 15, body := .stmts (fBody 15), scope := fScope 15, globals := 3, closure := [], defaults := .none, kwdefaults := .none, doc := .none, pyModule := .str (S "law_mq0336_01") 2242, annotations := none, code := .ref 122, closureTuple := .none, builtins := 0 }, [].toArray⟩
def o124_5 (_ : Params) : Obj := ⟨.type "tuple", none, .seq [].toArray 0, [].toArray⟩
def o125_5 (_ : Params) : Obj := ⟨.none, none, .fields [].toArray, [].toArray⟩
def o126_5 (_ : Params) : Obj := ⟨.none, none, .func { name := S "_law_due", qualname := S "_law_due", params := fPar 16, body := .stmts (fBody 16), scope := fScope 16, globals := 0, closure := [], defaults := .none, kwdefaults := .none, doc := .none, pyModule := .none, annotations := none, code := .none, closureTuple := .none, builtins := 0 }, [].toArray⟩
def o127_5 (_ : Params) : Obj := ⟨.type "code", none, .fields [.str (S "_law_due") 2278, .str (S "_law_due") 2279, .str (S "/claim/cut.py") 2280, .int (112) 0, .int (1) 0, .int (0) 0, .int (0) 0, .int (3) 0, .ref 124, .bool true, .int (181) 0, .ref 125, .none, .none, .none, .ref 126, .int (2281) 0, .int (112) 0, .str (S "/claim/cut.py") 2282].toArray, [].toArray⟩
def o128_5 (_ : Params) : Obj := ⟨.type "function", none, .func { name := S "_law_due", qualname := S "_law_due", params := fPar 16, body := .stmts (fBody 16), scope := fScope 16, globals := 3, closure := [], defaults := .none, kwdefaults := .none, doc := .none, pyModule := .str (S "law_mq0336_01") 2242, annotations := none, code := .ref 127, closureTuple := .none, builtins := 0 }, [].toArray⟩
def o129_5 (_ : Params) : Obj := ⟨.type "tuple", none, .seq [].toArray 0, [].toArray⟩
def o130_5 (_ : Params) : Obj := ⟨.none, none, .fields [].toArray, [].toArray⟩
def o131_5 (_ : Params) : Obj := ⟨.none, none, .func { name := S "law", qualname := S "law", params := fPar 17, body := .stmts (fBody 17), scope := fScope 17, globals := 0, closure := [], defaults := .none, kwdefaults := .none, doc := .none, pyModule := .none, annotations := none, code := .none, closureTuple := .none, builtins := 0 }, [].toArray⟩
def o132_5 (_ : Params) : Obj := ⟨.type "code", none, .fields [.str (S "law") 2284, .str (S "law") 2285, .str (S "/claim/cut.py") 2286, .int (114) 0, .int (1) 0, .int (0) 0, .int (0) 0, .int (3) 0, .ref 129, .bool true, .int (181) 0, .ref 130, .none, .none, .none, .ref 131, .int (2287) 0, .int (114) 0, .str (S "/claim/cut.py") 2288].toArray, [].toArray⟩
def o133_5 (_ : Params) : Obj := ⟨.type "function", none, .func { name := S "law", qualname := S "law", params := fPar 17, body := .stmts (fBody 17), scope := fScope 17, globals := 3, closure := [], defaults := .none, kwdefaults := .none, doc := .none, pyModule := .str (S "law_mq0336_01") 2242, annotations := none, code := .ref 132, closureTuple := .none, builtins := 0 }, [].toArray⟩
def hp5 (P : Params) : Heap := ⟨[boot_o_0 P, boot_o_1 P, boot_o_2 P, o3_5 P, boot_o_4 P, boot_o_5 P, boot_o_6 P, boot_o_7 P, boot_o_8 P, boot_o_9 P, boot_o_10 P, o11_0 P, o12_5 P, o13_0 P, o14_0 P, o15_1 P, o16_1 P, o17_1 P, o18_1 P, o19_1 P, o20_1 P, o21_1 P, o22_1 P, o23_1 P, o24_1 P, o25_1 P, o26_1 P, o27_1 P, o28_1 P, o29_1 P, o30_1 P, o31_1 P, o32_1 P, o33_1 P, o34_2 P, o35_2 P, o36_2 P, o37_2 P, o38_2 P, o39_2 P, o40_2 P, o41_2 P, o42_2 P, o43_2 P, o44_2 P, o45_3 P, o46_3 P, o47_3 P, o48_3 P, o49_3 P, o50_3 P, o51_3 P, o52_4 P, o53_4 P, o54_4 P, o55_4 P, o56_4 P, o57_4 P, o58_4 P, o59_4 P, o60_4 P, o61_4 P, o62_4 P, o63_4 P, o64_4 P, o65_4 P, o66_4 P, o67_4 P, o68_4 P, o69_4 P, o70_4 P, o71_4 P, o72_4 P, o73_4 P, o74_4 P, o75_4 P, o76_4 P, o77_4 P, o78_4 P, o79_4 P, o80_4 P, o81_4 P, o82_4 P, o83_4 P, o84_4 P, o85_4 P, o86_4 P, o87_4 P, o88_4 P, o89_4 P, o90_4 P, o91_5 P, o92_5 P, o93_5 P, o94_5 P, o95_5 P, o96_5 P, o97_5 P, o98_5 P, o99_5 P, o100_5 P, o101_5 P, o102_5 P, o103_5 P, o104_5 P, o105_5 P, o106_5 P, o107_5 P, o108_5 P, o109_5 P, o110_5 P, o111_5 P, o112_5 P, o113_5 P, o114_5 P, o115_5 P, o116_5 P, o117_5 P, o118_5 P, o119_5 P, o120_5 P, o121_5 P, o122_5 P, o123_5 P, o124_5 P, o125_5 P, o126_5 P, o127_5 P, o128_5 P, o129_5 P, o130_5 P, o131_5 P, o132_5 P, o133_5 P].toArray, (boot_heap P).life⟩
end
end Mine
end
section
open PySem PySem.W PyProof.Rows
set_option maxRecDepth 100000
namespace Mine
noncomputable section
def envT : Env := { scope := pw.main.scope, locals := mainNs, globals := mainNs, cells := [], code := .ref 13, frame := some 14 }
def cT : Code := .body (behindTheImports pw) envT
def g0 : Array GenState := Array.mk []
abbrev annT : Option Value := some (.ref 6)
def zP : Pos := ⟨0, 0, 0, 0⟩
theorem t_pre (w : World) (os : OsState) : topGo treeTable pw w 11 annT 12 ⟨boot_heap w.params, g0, boot_drawn, boot_toks, os⟩ (topStub pw) = some (⟨hp0 w.params, g0, boot_drawn, 187, os⟩, ⟨denote treeTable cT, cT, zP, [topFrame zP]⟩) := by kernel_rfl
theorem t_block (w : World) (os : OsState) : segRun treeTable pw w 11 annT 1 1 ⟨hp0 w.params, g0, boot_drawn, 187, os⟩ (blockOf (behindTheImports pw) envT cT zP [topFrame zP]) = some (.next, ⟨hp0 w.params, g0, boot_drawn, 187, os⟩, cT, zP) := by kernel_rfl
end
end Mine
end
section
open PySem PySem.W PyProof.Rows
set_option maxRecDepth 100000
namespace Mine
noncomputable section
theorem t_g1 (w : World) (os : OsState) : segRun treeTable pw w 11 annT 1 122 ⟨hp0 w.params, g0, boot_drawn, 187, os⟩ (piecesOf [stA 0, stA 1, stA 2, stA 3, stA 4, stA 5, stA 6] envT cT zP [topFrame zP]) = some (.next, ⟨hp1 w.params, g0, boot_drawn, 216, os⟩, cT, ⟨59, 0, 59, 8⟩) := by kernel_rfl
end
end Mine
end
section
open PySem PySem.W PyProof.Rows
set_option maxRecDepth 100000
namespace Mine
noncomputable section
abbrev setP (w : World) : Prop := (fun os => segRun treeTable pw w 11 annT 1 999 ⟨hp1 w.params, g0, boot_drawn, 216, os⟩ (piecesOf [stA 7] envT cT ⟨59, 0, 59, 8⟩ [topFrame zP])) = fun os => some (.next, ⟨hp2 w.params, g0, boot_drawn, 276, os⟩, cT, ⟨60, 0, 60, 6⟩)
theorem t_set_f (w : World) : setP (w.withFollow "special-get-raises" false) := by unfold setP; rw [PySem.W.Fast.te14374325043358763698, PySem.W.Fast.te14364793385576792824]; kernel_rfl
theorem t_set_t (w : World) : setP (w.withFollow "special-get-raises" true) := by unfold setP; rw [PySem.W.Fast.te14374325043358763698, PySem.W.Fast.te14364793385576792824]; kernel_rfl
theorem t_set (w : World) : setP w := byRow2 "special-get-raises" (P := setP) t_set_f t_set_t w
end
end Mine
end
section
open PySem PySem.W PyProof.Rows
set_option maxRecDepth 100000
namespace Mine
noncomputable section
theorem t_g3 (w : World) (os : OsState) : segRun treeTable pw w 11 annT 1 30 ⟨hp2 w.params, g0, boot_drawn, 276, os⟩ (piecesOf [stA 8] envT cT ⟨60, 0, 60, 6⟩ [topFrame zP]) = some (.next, ⟨hp3 w.params, g0, boot_drawn, 283, os⟩, cT, ⟨61, 0, 62, 30⟩) := by kernel_rfl
theorem t_g5 (w : World) (os : OsState) : segRun treeTable pw w 11 annT 1 212 ⟨hp4 w.params, g0, boot_drawn, 2234, os⟩ (piecesOf [stA 10, stA 11, stA 12, stA 13, stA 14, stA 15, stA 16, stA 17] envT cT ⟨63, 0, 63, 13⟩ [topFrame zP]) = some (.next, ⟨hp5 w.params, g0, boot_drawn, 2290, os⟩, cT, ⟨114, 0, 139, 15⟩) := by kernel_rfl
theorem t_fin (w : World) (os : OsState) : topRun treeTable pw w 11 annT 2 ⟨hp5 w.params, g0, boot_drawn, 2290, os⟩ ⟨doneF .next, cT, ⟨114, 0, 139, 15⟩, [topFrame zP]⟩ = some ⟨hp5 w.params, g0, boot_drawn, 2290, os⟩ := by kernel_rfl
end
end Mine
end
section
open PySem PySem.W PyProof.Rows
set_option maxRecDepth 100000
namespace Mine
noncomputable section
def b3T : List PySem.Expr := match stA 9 with
  | .Assign ts _ _ => ts
  | _ => []
def b3V : PySem.Expr := match stA 9 with
  | .Assign _ v _ => v
  | _ => .Name (S "") default
def b3P : Pos := match b3V with
  | .Dict _ _ q => q
  | _ => default
def b3Tail (v : Value) : Sem Flow := do
  let sw ← swappedStores b3T b3V envT
  assignStores envT v sw ((assignEach b3T envT).map (·.2))
theorem b3_exec : exec (stA 9) envT = (do standAt ⟨63, 0, 63, 8704⟩; standAt b3P; let v ← dictDisplay ((b3all.map (kvSem b3P)).map fun x => (some x.1, x.2)); b3Tail v) := by kernel_rfl
end
end Mine
end
section
open PySem PySem.W PyProof.Rows
set_option maxRecDepth 100000
namespace Mine
noncomputable section
theorem Ev.of_eq {α : Type} {tb : String → Option Builtin} {p : Program} {w : World} {n₀ : Nat} {ann : Option Value} {c : Nat} {x : Sem α} {s s' : Shared} {q q' : Pos} {a : α}
    (h : ∀ (K : α → Sem Fin) (H : Value → Sem Fin) (gd : Bool → Bool) (lv : List Value → List Value) (code : Code) (f : Frame) (B : List Frame) (N : Nat), topRun tb p w n₀ ann (N + c) s ⟨x.wrap K H gd lv, code, q, f :: B⟩ = topRun tb p w n₀ ann N s' ⟨K a, code, q', f :: B⟩) : Ev tb p w n₀ ann c x s q a s' q' :=
  fun K H gd lv code f B N r k => by rw [Nat.add_comm, h]; exact k
theorem b3_tail (w : World) (os : OsState) : Ev treeTable pw w 11 annT 7 (b3Tail (.ref 52)) ⟨hp4a w.params, g0, boot_drawn, 2233, os⟩ b3P .next ⟨hp4 w.params, g0, boot_drawn, 2234, os⟩ ⟨63, 0, 63, 13⟩ := Ev.of_eq fun K H gd lv code f B N => by kernel_rfl
end
end Mine
end
section
open PySem PySem.W PyProof.Rows
set_option maxRecDepth 100000
namespace Mine
noncomputable section
/-- the keys rise -/
def rises : Int → List (Int × Str) → Bool
  | _, [] => true
  | a, (k, _) :: r => decide (a < k) && rises k r
theorem rises_all : ∀ (l : List (Int × Str)) (a : Int), rises a l = true → ∀ x ∈ l, a < x.1
  | (k, v) :: r, a, h, x, hx => by
    simp only [rises, Bool.and_eq_true, decide_eq_true_eq] at h
    rcases List.mem_cons.mp hx with rfl | hx
    · exact h.1
    · have := rises_all r k h.2 x hx; omega
theorem rises_pair : ∀ (l : List (Int × Str)) (a : Int), rises a l = true → l.Pairwise fun x y => x.1 < y.1
  | [], _, _ => .nil
  | (k, v) :: r, a, h => by
    simp only [rises, Bool.and_eq_true, decide_eq_true_eq] at h
    exact List.pairwise_cons.mpr ⟨fun x hx => rises_all r k h.2 x hx, rises_pair r k h.2⟩
theorem hashInt_small {k : Int} (h0 : 0 ≤ k) (h1 : k < 2000000) : hashInt k = k := by
  have e : rawHash k = k := by
    unfold rawHash
    have h2 : ((k.natAbs : Nat) : Int) = k := by omega
    have h3 : k % ((2 ^ 61 - 1 : Nat) : Int) = k := Int.emod_eq_of_lt h0 (by omega)
    have h4 : ¬ k < 0 := by omega
    have h5 : (k == -1) = false := by rw [beq_eq_false_iff_ne]; omega
    simp only [h2, h3, if_neg h4, h5, Bool.false_eq_true, if_false]
  unfold hashInt
  rw [e, if_neg (by simp only [beq_iff_eq]; omega)]
theorem b3_rises : rises 0 b3all = true := by decide +kernel
theorem b3_small : (b3all.all fun x => decide (x.1 < 2000000)) = true := by decide +kernel
theorem b3_apart : Apart b3all := by
  refine (rises_pair _ _ b3_rises).imp_of_mem fun {x y} hx hy h => ?_
  have s1 := of_decide_eq_true (List.all_eq_true.mp b3_small x hx)
  have s2 := of_decide_eq_true (List.all_eq_true.mp b3_small y hy)
  have r1 := rises_all _ _ b3_rises x hx
  have r2 := rises_all _ _ b3_rises y hy
  rw [hashInt_small (by omega) s1, hashInt_small (by omega) s2]
  omega
theorem hp4a_is (P : Params) : HB (hp3 P) (dobj (ents 283 b3c0 ++ allEnts (283 + 51) b3mid ++ entsS (283 + 51 + 51 * b3mid.length) b3c38) :: (subs (283 + 51) b3mid ++ [dobj (entsS (283 + 51 + 51 * b3mid.length) b3c38)])) = hp4a P := by kernel_rfl
theorem b3_ev (w : World) (os : OsState) : Ev treeTable pw w 11 annT 20000 (exec (stA 9) envT) ⟨hp3 w.params, g0, boot_drawn, 283, os⟩ ⟨61, 0, 62, 30⟩ .next ⟨hp4 w.params, g0, boot_drawn, 2234, os⟩ ⟨63, 0, 63, 13⟩ := by
  rw [b3_exec]
  refine Ev.mono (c := 1 + (1 + ((1000 + 483 * b3mid.length) + 7))) ?_ (by decide +kernel)
  refine Ev.standAt (Ev.standAt ?_)
  have d := ev_display (p := pw) (w := w) (n₀ := 11) (ann := annT) (P := b3P) (b := hp3 w.params) (by show 11 ≤ 52; omega) (by show 1 < 52; omega) (first := b3c0) (last := b3c38) (chunks := b3mid) (s := ⟨hp3 w.params, g0, boot_drawn, 283, os⟩) (q := b3P) rfl
    (fun c hc => of_decide_eq_true (List.all_eq_true.mp (by decide +kernel : (b3mid.all fun c => decide (c.length = 17)) = true) c hc)) (by decide +kernel) (by intro e; cases e) rfl b3_apart (by decide +kernel)
  rw [hp4a_is] at d
  exact Ev.bind d (b3_tail w os)
theorem bodyIs : behindTheImports pw = [stA 0, stA 1, stA 2, stA 3, stA 4, stA 5, stA 6] ++ ([stA 7] ++ ([stA 8] ++ (stA 9 :: ([stA 10, stA 11, stA 12, stA 13, stA 14, stA 15, stA 16, stA 17] ++ [])))) := by kernel_rfl
theorem t_run (w : World) (os : OsState) : topRun treeTable pw w 11 annT 21500 ⟨boot_heap w.params, g0, boot_drawn, boot_toks, os⟩ (topStub pw) = some ⟨hp5 w.params, g0, boot_drawn, 2290, os⟩ := by
  have k5 := piece_nil (env := envT) (t_fin w os)
  have k4 := piece_app (t_g5 w os) k5
  have k3 : topRun treeTable pw w 11 annT (20000 + (212 + 2)) ⟨hp3 w.params, g0, boot_drawn, 283, os⟩ (restOf (stA 9 :: ([stA 10, stA 11, stA 12, stA 13, stA 14, stA 15, stA 16, stA 17] ++ [])) envT cT ⟨61, 0, 62, 30⟩ [topFrame zP]) = some ⟨hp5 w.params, g0, boot_drawn, 2290, os⟩ := by
    unfold restOf
    rw [execs_cons_wrap]
    exact b3_ev w os _ _ _ _ _ _ _ _ _ k4
  have k2 := piece_app (t_g3 w os) k3
  have k1 := piece_app (congrFun (t_set w) os) k2
  have k0 := piece_app (t_g1 w os) k1
  rw [← bodyIs] at k0
  have kb := piece_block (t_block w os) k0
  have := topRun_mono 0 _ _ _ _ (go_top (t_pre w os) kb)
  have m := topRun_mono (21500 - (12 + (1 + (122 + (999 + (30 + (20000 + (212 + 2)))))))) _ _ _ _ (go_top (t_pre w os) kb)
  exact m
end
end Mine
end
section
open PySem PySem.W PyProof.Rows
set_option maxRecDepth 100000
namespace Mine
noncomputable section
/-- what is known of the heap behind the top -/
def KF (P : Params) : Frag := [(2, boot_o_2 P), (3, o3_5 P), (6, boot_o_6 P), (15, o15_1 P), (17, o17_1 P), (18, o18_1 P), (20, o20_1 P), (21, o21_1 P), (22, o22_1 P), (25, o25_1 P), (26, o26_1 P), (27, o27_1 P), (29, o29_1 P), (30, o30_1 P), (32, o32_1 P), (33, o33_1 P), (41, o41_2 P), (45, o45_3 P), (47, o47_3 P), (48, o48_3 P), (50, o50_3 P), (51, o51_3 P), (52, o52_4 P), (91, o91_5 P), (93, o93_5 P), (94, o94_5 P), (96, o96_5 P), (97, o97_5 P), (98, o98_5 P), (101, o101_5 P), (102, o102_5 P), (103, o103_5 P), (105, o105_5 P), (106, o106_5 P), (108, o108_5 P), (109, o109_5 P), (110, o110_5 P), (112, o112_5 P), (113, o113_5 P), (115, o115_5 P), (116, o116_5 P), (117, o117_5 P), (119, o119_5 P), (120, o120_5 P), (122, o122_5 P), (123, o123_5 P), (124, o124_5 P), (127, o127_5 P), (128, o128_5 P), (129, o129_5 P), (132, o132_5 P), (133, o133_5 P)]
def KA : List Addr := [2, 3, 6, 15, 17, 18, 20, 21, 22, 25, 26, 27, 29, 30, 32, 33, 41, 45, 47, 48, 50, 51, 52, 91, 93, 94, 96, 97, 98, 101, 102, 103, 105, 106, 108, 109, 110, 112, 113, 115, 116, 117, 119, 120, 122, 123, 124, 127, 128, 129, 132, 133]
def qv : Program := { pw with main := { pw.main with body := [stA 0, stA 2, stA 3, stA 4, stA 5, stA 8, stA 10, stA 12, stA 13, stA 14, stA 15, stA 16, stA 17] } }
def looseL : List Str := [S "b1_set", S "b3_exceptions"]
def HK : Hook := kHook KF KA (fun _ => by kernel_rfl)
abbrev XtL : Shared → Bool := fun s => xlAt qv [] s && recOk [] s
end
end Mine
end
section
open PySem PySem.W PyProof.Rows
set_option maxRecDepth 100000
namespace Mine
noncomputable section
theorem l_open : ∀ w : World, (fencedOpening treeTable pw w 22000).map (fun s => (s.heap, s.gens, s.drawn, s.toks)) = some (boot_heap w.params, Array.mk [], boot_drawn, boot_toks) :=
  boot_open (by kernel_rfl) (by decide +kernel) (fun s => by kernel_rfl)
theorem l_size (w : World) : ((boot_heap w.params).isNs mainGlobals && g0.size == 0, (boot_heap w.params).objs.size, (boot_heap w.params).nsMap mainGlobals "__annotations__") = (true, 11, annT) := by kernel_rfl
theorem l_look1 (w : World) : (fun os => ((staticsOk (importedModules pw.main.body) (boot_heap w.params) (hp5 w.params) && namesBound pw (hp5 w.params) && gensDone ⟨hp5 w.params, g0, boot_drawn, 2290, os⟩ && laidKept (boot_heap w.params) (hp5 w.params)))) = fun _ => true := by kernel_rfl
theorem l_look3 (w : World) : (fun os => HK.obs ⟨hp5 w.params, g0, boot_drawn, 2290, os⟩) = fun _ => HK.val w := by kernel_rfl
end
end Mine
end
section
open PySem PySem.W PyProof.Rows
set_option maxRecDepth 100000
namespace Mine
noncomputable section
theorem l_look2 (w : World) : (fun os => openSeen qv looseL (importedModules pw.main.body) XtL true ⟨hp5 w.params, g0, boot_drawn, 2290, os⟩) = fun _ => openGood qv looseL := by kernel_rfl
end
end Mine
end
section
open PySem PySem.W PyProof.Rows
set_option maxRecDepth 100000
namespace Mine
noncomputable section
theorem leftT : LeftO pw qv looseL XtL (Hook.obs HK) (Hook.val HK) 22000 true :=
  LeftO.of_pieces (H₀ := boot_heap) (H₁ := hp5) (gs₀ := g0) (gs₁ := g0) (d₀ := boot_drawn) (d₁ := boot_drawn) (k₀ := boot_toks) (k₁ := 2290) (m₀ := 11) (ann := annT) (M := 21500)
    l_open l_size t_run (by decide +kernel) fun w => funext fun os => Prod.ext (congrFun (l_look1 w) os) (Prod.ext (congrFun (l_look2 w) os) (congrFun (l_look3 w) os))
end
end Mine
end
section
open PySem PySem.W PyProof.Rows
set_option maxRecDepth 100000
set_option maxHeartbeats 8000000
namespace Mine
noncomputable section
abbrev lawD : DefRec := { name := S "law", params := fPar 17, body := fBody 17, scope := fScope 17, pos := ⟨114, 0, 139, 15⟩ }
theorem headT (hc : WalkO qv looseL (XL qv []) (InK KF) PySem.Challenge.rw_mq0336_01.row.toRowW lawD [] fun f vs => PySem.call f vs) : PySem.Challenge.rw_mq0336_01.Holds := by
  o_law
  refine holds_open (q := qv) (loose := looseL) (Xt := XtL) (XP := XL qv []) (Yf := Hook.obs HK) (Ya := Hook.val HK) (YP := Hook.says HK) (N := 22000) leftT (Hook.of HK) (Hook.keeps HK) (fun s e => xl_of s (Bool.and_eq_true_iff.mp e).1) XL.keeps (by rfl) (by rfl) (by rfl) (fun s e => recFacts_of (Bool.and_eq_true_iff.mp e).2) (by rfl) (by assumption) (by decide +kernel) ⟨rfl, rfl, rfl, rfl, rfl, by decide +kernel⟩ ?hw ?hc
  case hw => w_witness2
  case hc => exact hc
end
end Mine
end
section
open PySem PySem.W PyProof.Rows PySem.Calls
set_option maxRecDepth 100000
namespace Mine
noncomputable section
/-- what every frame of the law may lean on -/
structure Cx (w : World) (mean : ExcName → Option Value) (mg mb : Str → Option Value) (h : Heap) : Prop where
  KX : (KF w.params).In h
  GL : Glob 0 mg mb (List.map itemOf (recsOf qv)) (scalarsOf [] ++ constsW qv) [] (namesW qv looseL) h
  T : Top qv (looseW qv looseL) mean mg mb h
section
variable {w : World} {mean : ExcName → Option Value} {mg mb : Str → Option Value} {h h' : Heap}
theorem Cx.keeps (C : Cx w mean mg mb h) (k : ∀ b o, h.get? b = some o → h'.get? b = some o) : Cx w mean mg mb h' :=
  ⟨C.KX.keeps k, C.GL.keeps k, C.T.keeps k⟩
/-- a name of the text's, read in a def -/
theorem glob_name {M : Model} {A : Around} {E : Value → Shared → Prop} {s : Shared} {env : Env} {x : Str} {pos : Pos} {v : Value} {Q : Value → Shared → Prop} (KX : (KF w.params).In s.heap) (T : Top qv (looseW qv looseL) mean mg mb h) (k : ∀ b o, h.get? b = some o → s.heap.get? b = some o)
    (e : nsIn (KF w.params) mainGlobals x = some (some v)) (hQ : Q v s) (hg : env.globals = mainGlobals) (hk : env.scope.kind = .function) (hx : env.kindOf x = some .globalImplicit) (hd : (x == ("__debug__" : Str)) = false) :
    wpAny M A (eval (.Name x pos) env) Q E s :=
  Name_function_global hk hx (loadGlobal_global (env := env) (by rw [hg]; exact T.g.keeps k) (mg_of KX (T.g.keeps k) e) hQ) hd
end
end
end Mine
end
section
open PySem PySem.W PyProof.Rows
set_option maxRecDepth 100000
namespace Mine
noncomputable section
theorem getD_mem {l : List Int} {i : Nat} (h : i < l.length) : l.getD i 0 ∈ l := by
  have e : l.getD i 0 = l[i] := by simp [List.getD, List.getElem?_eq_getElem h]
  rw [e]; exact List.getElem_mem h
theorem fm_in (a : Int) {b : Int} (hb : 0 < b) : 0 ≤ a.fmod b ∧ a.fmod b < b := by
  rw [Int.fmod_eq_emod_of_nonneg a (Int.le_of_lt hb)]
  exact ⟨Int.emod_nonneg _ (by omega), Int.emod_lt_of_pos _ hb⟩
set_option maxHeartbeats 4000000 in
theorem c_code {w : World} {mean : ExcName → Option Value} {mg mb : Str → Option Value} {dp un : Nat} {fr : Option (List Env)} {gd : Option (List Code)} {s : Shared} {x : Int} {t : Tok} {o : Addr} {ys : List Value} {ns : List Int} {R : Result → Shared → Prop} (C : Cx w mean mg mb s.heap) (hd : dp + 10 < recursionLimit) (hu : un + 100 < cLine)
    (IL : s.heap.IsList o ys.toArray) (II : IntsAre ys ns) (hlen : ns.length = 79) (hns : ∀ n ∈ ns, 0 ≤ n ∧ n < 1114112)
    (h : ∀ c tk s', 0 ≤ c → c < 1114112 → Keeps s s' → R (.ok (.ret (.int c tk))) s') :
    codeAny (model pw w) ⟨none, dp, fr, gd, un⟩ (.call (.ref 116) ⟨[.int x t, .ref o], []⟩) R s := by
  obtain ⟨KX, GL, T⟩ := C
  have hobj := KX 116 _ rfl
  refine call_plain (name := S "_law_code") (params := fPar 14) (body := fBody 14) (scope := fScope 14) (by show dp < recursionLimit; omega) hobj rfl T.nolimit (codeRec_of KX (cd := .ref 115) rfl) (binds := [(S "x", .int x t), (S "others", .ref o)]) (by rfl) (locs (by rfl)) ?_ (by rfl) (by rfl) (by rfl) (by decide +kernel)
  intro h₁ F
  have N : News s.heap s.heap.objs.size h₁ [] := News.nil
  conv in fBody 14 => whnf
  all_goals repeat' (first | walk1 | (dsimp only; walk1))
  all_goals try dsimp only
  · exact h _ _ _ (fm_in _ (by omega)).1 (fm_in _ (by omega)).2 ⟨_, _, rfl, Fr.keep (by assumption)⟩
  · have e := fm_in (x.fdiv 8) (b := 128) (by omega)
    exact h _ _ _ (by omega) (by omega) ⟨_, _, rfl, Fr.keep (by assumption)⟩
  · have e := fm_in (x.fdiv 8) (b := 26) (by omega)
    have e' := fm_in ((x.fdiv 8).fdiv 26) (b := 2) (by omega)
    exact h _ _ _ (by omega) (by omega) ⟨_, _, rfl, Fr.keep (by assumption)⟩
  · have e := fm_in (x.fdiv 8) (b := 676) (by omega)
    exact h _ _ _ (by omega) (by omega) ⟨_, _, rfl, Fr.keep (by assumption)⟩
  · have hc5 := IntsAre.ofCarried (ns := rangeInts 65024 1 (65040 - 65024 : Int).toNat) (by assumption)
    refine add_arrays_ints (ns := [173, 847, 6150, 6155, 6156, 6157, 8203, 8204, 8205, 8288, 65279]) (by assumption) (by assumption) (News.isList (by assumption) (.head _)) (by assumption) (by repeat constructor) hc5 ?_ (by rw [rangeInts_length, sizeLine_eq]; decide)
    intro h' F' N' hI'
    have e := fm_in (x.fdiv 8) (b := 27) (by omega)
    iterate 4 (first | walk1 | (dsimp only; walk1))
    obtain ⟨c, hc⟩ : ∃ c, ([173, 847, 6150, 6155, 6156, 6157, 8203, 8204, 8205, 8288, 65279] ++ rangeInts 65024 1 (65040 - 65024 : Int).toNat)[((x.fdiv 8).fmod 27).toNat]? = some c :=
      ⟨_, List.getElem?_eq_getElem (by rw [List.length_append, rangeInts_length]; show _ < 27; omega)⟩
    obtain ⟨t', ht'⟩ := hI'.get _ _ hc
    have hcr : 0 ≤ c ∧ c < 1114112 := of_decide_eq_true (List.all_eq_true.mp (by decide +kernel : (([173, 847, 6150, 6155, 6156, 6157, 8203, 8204, 8205, 8288, 65279] ++ rangeInts 65024 1 (65040 - 65024 : Int).toNat).all fun c => decide (0 ≤ c ∧ c < 1114112)) = true) c (List.mem_of_getElem? hc))
    dsimp only
    refine tail_any (News.isList N' (.head _)).typeIs slot_list_getitem.lookup (wpAny_getItem_list (News.isList N' (.head _)) e.1 (by omega) (by rw [List.getElem?_toArray]; exact ht') ?_) (by with_unfolding_all rfl)
    exact h _ _ _ hcr.1 hcr.2 ⟨_, _, rfl, F'.keep⟩
  · have e := fm_in (x.fdiv 8) (b := (ns.length : Int)) (by omega)
    have := hns (ns.getD ((x.fdiv 8).fmod ns.length).toNat 0) (getD_mem (by omega))
    exact h _ _ _ this.1 this.2 ⟨_, _, rfl, Fr.keep (by assumption)⟩
  · have e := fm_in ((x.fdiv 8).fdiv 2) (b := 80) (by omega)
    exact h _ _ _ (by omega) (by omega) ⟨_, _, rfl, Fr.keep (by assumption)⟩
  · have e := fm_in ((x.fdiv 8).fdiv 2) (b := 109) (by omega)
    exact h _ _ _ (by omega) (by omega) ⟨_, _, rfl, Fr.keep (by assumption)⟩
end
end Mine
end
section
open PySem PySem.W PyProof.Rows
set_option maxRecDepth 100000
namespace Mine
noncomputable section
def b1L : List Int := [173, 847, 6150, 6155, 6156, 6157, 8203, 8204, 8205, 8288, 65279, 65024, 65025, 65026, 65027, 65028, 65029, 65030, 65031, 65032, 65033, 65034, 65035, 65036, 65037, 65038, 65039]
def b1Es : List (Int × Value) := [(65024, .int (65024) 232), (65025, .int (65025) 233), (65026, .int (65026) 234), (65027, .int (65027) 235), (65028, .int (65028) 236), (65029, .int (65029) 237), (6150, .int (6150) 218), (65030, .int (65030) 238), (65031, .int (65031) 239), (65032, .int (65032) 240), (65033, .int (65033) 241), (6155, .int (6155) 219), (6156, .int (6156) 220), (6157, .int (6157) 221), (8203, .int (8203) 222), (8204, .int (8204) 223), (8205, .int (8205) 224), (65034, .int (65034) 242), (65035, .int (65035) 243), (65036, .int (65036) 244), (65037, .int (65037) 245), (65038, .int (65038) 246), (65039, .int (65039) 247), (173, .int (173) 216), (847, .int (847) 217), (8288, .int (8288) 225), (65279, .int (65279) 226)]
theorem b1_set {w : World} {h : Heap} (KX : (KF w.params).In h) : h.SetOf (intKind pw w) 41 (fun k => b1L.contains k) 27 := by
  have ho : h.get? 41 = some (o41_2 w.params) := KX 41 _ rfl
  have all : (b1Es.all fun e => match e.2 with | .int k _ => e.1 == k && decide (0 ≤ k) && decide (k < 2000000) && b1L.contains k | _ => false) = true := by decide +kernel
  have shape : ∀ e ∈ b1Es, ∃ k t, e = (k, .int k t) ∧ 0 ≤ k ∧ k < 2000000 ∧ k ∈ b1L := fun e he => by
    have := List.all_eq_true.mp all e he
    obtain ⟨a, v⟩ := e
    cases v <;> simp only [Bool.and_eq_true, beq_iff_eq, decide_eq_true_eq, Bool.false_eq_true, List.contains_iff_mem] at this
    obtain ⟨⟨⟨rfl, h0⟩, h1⟩, h2⟩ := this
    exact ⟨_, _, rfl, h0, h1, h2⟩
  have back : ∀ k ∈ b1L, ∃ t, (k, Value.int k t) ∈ b1Es := fun k hk => by
    have q := List.all_eq_true.mp (by decide +kernel : (b1L.all fun k => b1Es.any fun e => match e.2 with | .int j _ => e.1 == k && j == k | _ => false) = true) k hk
    obtain ⟨⟨a, v⟩, he, q⟩ := List.any_eq_true.mp q
    cases v <;> simp only [Bool.and_eq_true, beq_iff_eq, Bool.false_eq_true] at q
    obtain ⟨rfl, rfl⟩ := q
    exact ⟨_, he⟩
  refine ⟨_, b1Es.toArray, 29, _, ho, ⟨rfl, rfl, rfl⟩, rfl, fun e he => ?_, fun k => ⟨fun hk => ?_, fun hk => ?_⟩, by decide +kernel, by rfl, by rfl⟩
  · obtain ⟨k, t, rfl, h0, h1, _⟩ := shape e he
    exact ⟨⟨k, by show (k == k) = true; simp, (hashInt_small h0 h1).symm⟩, rfl⟩
  · obtain ⟨t, ht⟩ := back k (List.contains_iff_mem.mp hk)
    exact ⟨_, ht, by show (k == k) = true; simp⟩
  · obtain ⟨e, he, q⟩ := hk
    obtain ⟨k', t, rfl, _, _, h2⟩ := shape e he
    have : k' = k := beq_iff_eq.mp (show (k' == k) = true from q)
    subst this
    exact List.contains_iff_mem.mpr h2
set_option maxHeartbeats 4000000 in
theorem c_b1 {w : World} {mean : ExcName → Option Value} {mg mb : Str → Option Value} {dp un : Nat} {fr : Option (List Env)} {gd : Option (List Code)} {s : Shared} {n : Nat} {t : Tok} {R : Result → Shared → Prop} (C : Cx w mean mg mb s.heap) (hd : dp + 10 < recursionLimit) (hu : un + 100 < cLine)
    (hn : n < 1114112) (h : ∀ s', Keeps s s' → R (.ok (.ret (.bool (b1L.contains (n : Int))))) s') :
    codeAny (model pw w) ⟨none, dp, fr, gd, un⟩ (.call (.ref 51) ⟨[.str ⟨#[n]⟩ t], []⟩) R s := by
  obtain ⟨KX, GL, T⟩ := C
  have hobj := KX 51 _ rfl
  refine call_plain (name := S "in_table_b1") (params := fPar 8) (body := fBody 8) (scope := fScope 8) (by show dp < recursionLimit; omega) hobj rfl T.nolimit (codeRec_of KX (cd := .ref 50) rfl) (binds := [(S "code", .str ⟨#[n]⟩ t)]) (by rfl) (locs (by rfl)) ?_ (by rfl) (by rfl) (by rfl) (by decide +kernel)
  intro h₁ F
  have N : News s.heap s.heap.objs.size h₁ [] := News.nil
  conv in fBody 8 => whnf
  repeat' (first | walk1 | (dsimp only; walk1))
  dsimp only
  refine glob_name (KX.keeps F.keep) T F.keep (v := .ref 41) (by kernel_rfl) ?_ rfl rfl (by rfl) (by decide +kernel)
  refine wpAny_inSet_of (knd := intKind pw w) (k := (n : Int)) (intKind_is _ _ _ _) rfl (b1_set (KX.keeps F.keep)) ?_
  exact h _ ⟨_, _, rfl, F.keep⟩
end
end Mine
end
section
open PySem PySem.W PyProof.Rows
set_option maxRecDepth 100000
namespace Mine
noncomputable section
/-- the entries tell the pairs -/
def Tl : List (Int × Str) → List DictEntry → Prop
  | [], [] => True
  | x :: l, e :: r => (∃ t t', e = ⟨hashInt x.1, .int x.1 t, .str x.2 t'⟩) ∧ Tl l r
  | _, _ => False
theorem Tl.append : ∀ {l l' : List (Int × Str)} {r r' : List DictEntry}, Tl l r → Tl l' r' → Tl (l ++ l') (r ++ r')
  | [], _, [], _, _, h => h
  | _ :: _, _, _ :: _, _, ⟨a, b⟩, h => ⟨a, b.append h⟩
  | [], _, _ :: _, _, h, _ => h.elim
  | _ :: _, _, [], _, h, _ => h.elim
theorem tl_ents : ∀ (l : List (Int × Str)) (t : Nat), Tl l (ents t l)
  | [], _ => trivial
  | (_, _) :: r, t => ⟨⟨_, _, rfl⟩, tl_ents r (t + 3)⟩
theorem tl_entsS : ∀ (l : List (Int × Str)) (t : Nat), Tl l (entsS t l)
  | [], _ => trivial
  | (_, _) :: r, t => ⟨⟨_, _, rfl⟩, tl_entsS r (t + 2)⟩
theorem tl_all : ∀ (l : List (List (Int × Str))) (t : Nat), Tl l.flatten (allEnts t l)
  | [], _ => trivial
  | c :: r, t => by rw [List.flatten_cons]; exact (tl_ents c t).append (tl_all r (t + 51))
theorem tl_main : Tl b3all mainEs := by
  unfold b3all mainEs
  rw [List.append_assoc]
  exact (tl_ents _ _).append ((tl_all _ _).append (tl_entsS _ _))
theorem Tl.keys : ∀ {l : List (Int × Str)} {r : List DictEntry}, Tl l r → ∀ e ∈ r, ∃ k, Value.isInt k e.key = true ∧ e.hash = hashInt k
  | [], [], _, _, he => nomatch he
  | _ :: _, _ :: _, ⟨⟨t, t', a⟩, b⟩, e, he => by
    rcases List.mem_cons.mp he with rfl | he
    · subst a; exact ⟨_, by show (_ == _) = true; simp, rfl⟩
    · exact b.keys e he
theorem Tl.find : ∀ {l : List (Int × Str)} {r : List DictEntry}, Tl l r → ∀ k, (l.lookup k = none ∧ r.find? (fun e => Value.isInt k e.key) = none) ∨ ∃ v t e, l.lookup k = some v ∧ r.find? (fun e => Value.isInt k e.key) = some e ∧ e.val = .str v t
  | [], [], _, _ => .inl ⟨rfl, rfl⟩
  | (k', v') :: l, e :: r, ⟨⟨t, t', a⟩, b⟩, k => by
    subst a
    by_cases hk : k = k'
    · subst hk
      refine .inr ⟨v', t', ⟨hashInt k, .int k t, .str v' t'⟩, ?_, ?_, rfl⟩
      · simp [List.lookup]
      · rw [List.find?_cons]; simp [Value.isInt]
    · have h1 : (k == k') = false := by simpa using hk
      have h2 : Value.isInt k (Value.int k' t) = false := by show (k' == k) = false; simpa using fun e => hk e.symm
      rw [List.lookup_cons, h1, List.find?_cons]
      simp only [h2]
      exact b.find k
theorem b3_map {w : World} {h : Heap} (KX : (KF w.params).In h) : h.MapOf (intKind pw w) 52 (fun k => (mainEs.find? fun e => Value.isInt k e.key).map (·.val)) := by
  refine ⟨dobj mainEs, mainEs.toArray, mainEs.length, KX 52 _ rfl, ⟨rfl, rfl, rfl⟩, rfl, fun e he => ?_, fun k => ?_⟩
  · exact tl_main.keys e (by simpa using he)
  · unfold findBy
    rw [List.find?_toArray]
    rfl
/-- what the dict answers -/
theorem b3_get (k : Int) : (b3all.lookup k = none ∧ ((mainEs.find? fun e => Value.isInt k e.key).map (·.val)).getD .none = Value.none) ∨ ∃ v t, b3all.lookup k = some v ∧ ((mainEs.find? fun e => Value.isInt k e.key).map (·.val)).getD .none = Value.str v t := by
  rcases tl_main.find k with ⟨a, b⟩ | ⟨v, t, e, a, b, c⟩
  · exact .inl ⟨a, by rw [b]; rfl⟩
  · exact .inr ⟨v, t, a, by rw [b]; exact c⟩
end
end Mine
end
section
open PySem PySem.W PyProof.Rows
set_option maxRecDepth 100000
namespace Mine
noncomputable section
/-- what map_table_b3 makes of a sign -/
def b3Of (n : Nat) : Str := match b3all.lookup (n : Int) with
  | some v => v
  | none => Txt.lower ⟨#[n]⟩
set_option maxHeartbeats 4000000 in
theorem c_b3 {w : World} {mean : ExcName → Option Value} {mg mb : Str → Option Value} {dp un : Nat} {fr : Option (List Env)} {gd : Option (List Code)} {s : Shared} {n : Nat} {t : Tok} {R : Result → Shared → Prop} (C : Cx w mean mg mb s.heap) (hd : dp + 10 < recursionLimit) (hu : un + 100 < cLine)
    (hn : n < 1114112) (h : ∀ tk s', Keeps s s' → R (.ok (.ret (.str (b3Of n) tk))) s') :
    codeAny (model pw w) ⟨none, dp, fr, gd, un⟩ (.call (.ref 97) ⟨[.str ⟨#[n]⟩ t], []⟩) R s := by
  obtain ⟨KX, GL, T⟩ := C
  have hobj := KX 97 _ rfl
  refine call_plain (name := S "map_table_b3") (params := fPar 10) (body := fBody 10) (scope := fScope 10) (by show dp < recursionLimit; omega) hobj rfl T.nolimit (codeRec_of KX (cd := .ref 96) rfl) (binds := [(S "code", .str ⟨#[n]⟩ t)]) (by rfl) (locs (by rfl)) ?_ (by rfl) (by rfl) (by rfl) (by decide +kernel)
  intro h₁ F
  have N : News s.heap s.heap.objs.size h₁ [] := News.nil
  conv in fBody 10 => whnf
  iterate 3 (first | walk1 | (dsimp only; walk1))
  dsimp only
  refine glob_name (KX.keeps F.keep) T F.keep (v := .ref 52) (by kernel_rfl) ?_ rfl rfl (by rfl) (by decide +kernel)
  have hm := b3_map (KX.keeps F.keep)
  refine getMethod_builtin hm.typeIs PySem.F.plainAttrs_dict PySem.F.slot_dict_get PySem.F.type_dict_get hm.noDict ?_
  iterate 10 (first | walk1 | (dsimp only; walk1))
  refine call_meetsIn PySem.F.slot_dict_get hm.typeIs PySem.F.entry_dict_get (PySem.F.args_dict_get_2 _ _) (meets_dict_get (intKind pw w) 52 (k := (n : Int)) (intKind_is _ _ _ _) (by decide)) ⟨_, hm, ?_⟩
  show wpAny _ _ (storeName _ _ _) _ _ _
  rcases b3_get (n : Int) with ⟨hl, e⟩ | ⟨v, tv, hl, e⟩
  · rw [e]
    repeat' (first | walk1 | (dsimp only; walk1))
    all_goals try dsimp only
    have hb : b3Of n = Txt.lower ⟨#[n]⟩ := by unfold b3Of; rw [hl]
    refine SCL.lower (by show 1 ≤ 5592405; omega) ?_
    intro _
    rw [← hb]
    exact h _ _ ⟨_, _, rfl, Fr.keep (by assumption)⟩
  · rw [e]
    repeat' (first | walk1 | (dsimp only; walk1))
    all_goals try dsimp only
    have hb : b3Of n = v := by unfold b3Of; rw [hl]
    rw [← hb]
    exact h _ _ ⟨_, _, rfl, Fr.keep (by assumption)⟩
end
end Mine
end
section
open PySem PySem.W PyProof.Rows
set_option maxRecDepth 100000
namespace Mine
section
variable {w : World} {A : Around} {E : Value → Shared → Prop} {s : Shared} {env : Env}
theorem Keeps.refl (s : Shared) : Keeps s s := ⟨_, _, rfl, fun _ _ e => e⟩
theorem Keeps.trans {s s' s'' : Shared} (a : Keeps s s') (b : Keeps s' s'') : Keeps s s'' := by
  obtain ⟨h, tk, rfl, k⟩ := a
  obtain ⟨h', tk', rfl, k'⟩ := b
  exact ⟨h', tk', rfl, fun b o e => k' b o (k b o e)⟩
theorem Keeps.heap {s s' : Shared} (a : Keeps s s') : ∀ b o, s.heap.get? b = some o → s'.heap.get? b = some o := by
  obtain ⟨h, tk, rfl, k⟩ := a
  exact k
/-- a list comprehension over a text's signs -/
theorem comp_str {elt iter : PySem.Expr} {x : Str} {px : Pos} {ifs : List PySem.Expr} {scope : Scope} {cl : List (Str × Addr)} {pos : Pos} {Q : Value → Shared → Prop} (p : Value → Bool) (F : Value → Value → Prop) {xs : Str}
    (hh : A.handled = none) (hclos : closureFor scope env = pure cl) (hcell : ∀ y ∈ scope.names, y.2 ≠ .cell) (hkind : scope.kind = .function)
    (hnames : ∀ y ∈ scope.names, y.2 = .local → scope.names.lookup y.1 = some .local) (hx : scope.names.lookup x = some .local) (hlen : xs.length ≤ sizeLine)
    (hiter : wpAny (model pw w) A (eval iter env) (fun v s₁ => (∃ t, v = .str xs t) ∧ Keeps s s₁) E s)
    (htests : ∀ C c u s₃ m₃ E', c ∈ xs.cps.toList → (∀ b o, s.heap.get? b = some o → s₃.heap.get? b = some o) → s₃.heap.Ns C m₃ → m₃ x = some (.str ⟨#[c]⟩ u) →
      wpAny (model pw w) A (forIn ifs true fun c r => if r = true then do let ok ← isTrue c (compEnvC scope cl C env) (eval c (compEnvC scope cl C env)); pure (ForInStep.yield ok) else pure (ForInStep.yield r))
        (fun ok s₄ => ok = p (.str ⟨#[c]⟩ u) ∧ Keeps s₃ s₄) E' s₃)
    (helt : ∀ C c u s₃ m₃ E', c ∈ xs.cps.toList → p (.str ⟨#[c]⟩ u) = true → (∀ b o, s.heap.get? b = some o → s₃.heap.get? b = some o) → s₃.heap.Ns C m₃ → m₃ x = some (.str ⟨#[c]⟩ u) →
      wpAny (model pw w) A (eval elt (compEnvC scope cl C env)) (fun y s₄ => F (.str ⟨#[c]⟩ u) y ∧ Keeps s₃ s₄) E' s₃)
    (hQ : ∀ D h' tk ys (vs : List Value), s.heap.get? D = none → h'.PlainList D ys → vs.length = xs.length → (∀ j v, vs[j]? = some v → SignAt xs j v) → Paired F (vs.filter p) ys.toList →
      (∀ b o, s.heap.get? b = some o → h'.get? b = some o) → Q (.ref D) { s with heap := h', toks := tk })
    (hs : ∀ x, foldedSetIterable iter env x = pure x := by intro _; rfl) :
    wpAny (model pw w) A (eval (.ListComp elt [⟨.Name x px, iter, ifs, 0⟩] scope pos) env) Q E s := by
  refine wpAny_ListComp_free p F hclos hcell hkind hnames hx (wpAny_mono hiter (fun v s₁ h₁ => ?_) fun _ _ e => e) hs
  obtain ⟨⟨t, rfl⟩, h', tk, rfl, k⟩ := h₁
  refine wpAny_pyIter_str fun o St W st0 => ?_
  have old : ∀ b o', s.heap.get? b = some o' → b ∉ [h'.objs.size] := fun b o' e hb => by
    rw [List.mem_singleton.mp hb] at e
    exact absurd (Heap.lt_size (k _ _ e)) (Nat.lt_irrefl _)
  have inn : ∀ i v, SignAt xs i v → ∃ c u, c ∈ xs.cps.toList ∧ v = .str ⟨#[c]⟩ u := fun i v ⟨c, u, hc, e⟩ => ⟨c, u, by rw [← Array.getElem?_toList] at hc; exact List.mem_of_getElem? hc, e⟩
  refine ⟨_, _, _, _, _, St, rfl, W A hh, hlen, st0, fun b hb => by rw [List.mem_singleton.mp hb]; show _ < (h'.push o).objs.size; rw [Heap.size_push]; exact Nat.lt_succ_self _, ⟨fun C i v s₃ m₃ E' _ hv hn hm hk _ => ?_, fun C i v s₃ m₃ E' _ hv hp hn hm hk _ => ?_⟩, fun D h'' tk' ys vs hD _ hpl hvl hvs hF hk => ?_⟩
  · obtain ⟨c, u, hc, rfl⟩ := inn i v hv
    exact htests C c u s₃ m₃ E' hc (fun b o' e => hk b o' (old b o' e) (Heap.get?_push_of_some _ (k b o' e))) hn hm
  · obtain ⟨c, u, hc, rfl⟩ := inn i v hv
    exact helt C c u s₃ m₃ E' hc hp (fun b o' e => hk b o' (old b o' e) (Heap.get?_push_of_some _ (k b o' e))) hn hm
  · refine hQ D h'' tk' ys vs ?_ hpl hvl hvs hF fun b o' e => hk b o' (old b o' e) (Heap.get?_push_of_some _ (k b o' e))
    cases e : s.heap.get? D with
    | none => rfl
    | some o' => have := Heap.get?_push_of_some o (k _ _ e); rw [this] at hD; cases hD
/-- a list comprehension over a list -/
theorem comp_list {elt iter : PySem.Expr} {x : Str} {px : Pos} {ifs : List PySem.Expr} {scope : Scope} {cl : List (Str × Addr)} {pos : Pos} {Q : Value → Shared → Prop} (p : Value → Bool) (F : Value → Value → Prop) {ax : Addr} {items : Array Value}
    (hh : A.handled = none) (hclos : closureFor scope env = pure cl) (hcell : ∀ y ∈ scope.names, y.2 ≠ .cell) (hkind : scope.kind = .function)
    (hnames : ∀ y ∈ scope.names, y.2 = .local → scope.names.lookup y.1 = some .local) (hx : scope.names.lookup x = some .local) (hlen : items.size ≤ sizeLine)
    (hiter : wpAny (model pw w) A (eval iter env) (fun v s₁ => v = .ref ax ∧ Keeps s s₁ ∧ s₁.heap.IsList ax items) E s)
    (htests : ∀ C v s₃ m₃ E', v ∈ items.toList → (∀ b o, s.heap.get? b = some o → s₃.heap.get? b = some o) → s₃.heap.Ns C m₃ → m₃ x = some v →
      wpAny (model pw w) A (forIn ifs true fun c r => if r = true then do let ok ← isTrue c (compEnvC scope cl C env) (eval c (compEnvC scope cl C env)); pure (ForInStep.yield ok) else pure (ForInStep.yield r))
        (fun ok s₄ => ok = p v ∧ Keeps s₃ s₄) E' s₃)
    (helt : ∀ C v s₃ m₃ E', v ∈ items.toList → p v = true → (∀ b o, s.heap.get? b = some o → s₃.heap.get? b = some o) → s₃.heap.Ns C m₃ → m₃ x = some v →
      wpAny (model pw w) A (eval elt (compEnvC scope cl C env)) (fun y s₄ => F v y ∧ Keeps s₃ s₄) E' s₃)
    (hQ : ∀ D h' tk ys, s.heap.get? D = none → h'.PlainList D ys → Paired F (items.toList.filter p) ys.toList →
      (∀ b o, s.heap.get? b = some o → h'.get? b = some o) → Q (.ref D) { s with heap := h', toks := tk })
    (hs : ∀ x, foldedSetIterable iter env x = pure x := by intro _; rfl) :
    wpAny (model pw w) A (eval (.ListComp elt [⟨.Name x px, iter, ifs, 0⟩] scope pos) env) Q E s := by
  refine wpAny_ListComp_free p F hclos hcell hkind hnames hx (wpAny_mono hiter (fun v s₁ h₁ => ?_) fun _ _ e => e) hs
  obtain ⟨rfl, ⟨h', tk, rfl, k⟩, hl⟩ := h₁
  refine wpAny_pyIter_list hl ?_
  have old : ∀ b o', s.heap.get? b = some o' → b ∉ [h'.objs.size] := fun b o' e hb => by
    rw [List.mem_singleton.mp hb] at e
    exact absurd (Heap.lt_size (k _ _ e)) (Nat.lt_irrefl _)
  have hne : ax ≠ h'.objs.size := by
    obtain ⟨o, ho, _⟩ := hl
    exact Nat.ne_of_lt (Heap.lt_size ho)
  have inn : ∀ i v, items[i]? = some v → v ∈ items.toList := fun i v e => by rw [← Array.getElem?_toList] at e; exact List.mem_of_getElem? e
  refine ⟨_, _, _, _, _, _, rfl, Walks.list hh _ ax hne items, hlen, ⟨⟨_, Heap.get?_push_size _ rfl, rfl, rfl⟩, hl.at fun o e => Heap.get?_push_of_some _ e⟩, fun b hb => ?_, ⟨fun C i v s₃ m₃ E' _ hv hn hm hk _ => ?_, fun C i v s₃ m₃ E' _ hv hp hn hm hk _ => ?_⟩, fun D h'' tk' ys vs hD _ hpl hvl hvs hF hk => ?_⟩
  · show b < (h'.push _).objs.size
    rw [Heap.size_push]
    rcases List.mem_cons.mp hb with rfl | hb
    · exact Nat.lt_succ_self _
    · rw [List.mem_singleton.mp hb]
      obtain ⟨o, ho, _⟩ := hl
      exact Nat.lt_succ_of_lt (Heap.lt_size ho)
  · exact htests C v s₃ m₃ E' (inn i v hv) (fun b o' e => hk b o' (old b o' e) (Heap.get?_push_of_some _ (k b o' e))) hn hm
  · exact helt C v s₃ m₃ E' (inn i v hv) hp (fun b o' e => hk b o' (old b o' e) (Heap.get?_push_of_some _ (k b o' e))) hn hm
  · have : vs = items.toList := list_of_places hvl hvs
    subst this
    refine hQ D h'' tk' ys ?_ hpl hF fun b o' e => hk b o' (old b o' e) (Heap.get?_push_of_some _ (k b o' e))
    cases e : s.heap.get? D with
    | none => rfl
    | some o' => have := Heap.get?_push_of_some ({ cls := .type "list_iterator", data := .fields #[.ref ax, .int 0 0] } : Obj) (k _ _ e); rw [this] at hD; cases hD
/-- the same, stored under a name of the frame's on the same line -/
theorem comp_list_to {elt iter : PySem.Expr} {x y : Str} {px py : Pos} {ifs : List PySem.Expr} {scope : Scope} {cl : List (Str × Addr)} {pos spos : Pos} {Q : Flow → Shared → Prop} (p : Value → Bool) (F : Value → Value → Prop) {ax : Addr} {items : Array Value} {m : Str → Option Value}
    (hh : A.handled = none) (hsw : swapsWith (.ListComp elt [⟨.Name x px, iter, ifs, 0⟩] scope pos) (some (.Name y py)) spos.line env = pure true)
    (hclos : closureFor scope env = pure cl) (hcell : ∀ y ∈ scope.names, y.2 ≠ .cell) (hkind : scope.kind = .function)
    (hnames : ∀ y ∈ scope.names, y.2 = .local → scope.names.lookup y.1 = some .local) (hx : scope.names.lookup x = some .local)
    (hy : env.kindOf y = some .local) (hp : (env.scope.kind == .class || (env.scope.kind == .module && env.locals != env.globals)) = false) (hlen : items.size ≤ sizeLine) (hN : s.heap.Ns env.locals m)
    (hiter : wpAny (model pw w) A (eval iter env) (fun v s₁ => v = .ref ax ∧ Keeps s s₁ ∧ s₁.heap.IsList ax items) E s)
    (htests : ∀ C v s₃ m₃ E', v ∈ items.toList → (∀ b o, s.heap.get? b = some o → s₃.heap.get? b = some o) → s₃.heap.Ns C m₃ → m₃ x = some v →
      wpAny (model pw w) A (forIn ifs true fun c r => if r = true then do let ok ← isTrue c (compEnvC scope cl C env) (eval c (compEnvC scope cl C env)); pure (ForInStep.yield ok) else pure (ForInStep.yield r))
        (fun ok s₄ => ok = p v ∧ Keeps s₃ s₄) E' s₃)
    (helt : ∀ C v s₃ m₃ E', v ∈ items.toList → p v = true → (∀ b o, s.heap.get? b = some o → s₃.heap.get? b = some o) → s₃.heap.Ns C m₃ → m₃ x = some v →
      wpAny (model pw w) A (eval elt (compEnvC scope cl C env)) (fun y s₄ => F v y ∧ Keeps s₃ s₄) E' s₃)
    (hQ : ∀ D h' tk ys, s.heap.get? D = none → h'.PlainList D ys → Paired F (items.toList.filter p) ys.toList →
      h'.Ns env.locals (fun z => if z = y then some (.ref D) else m z) → (∀ b o, b ≠ env.locals → s.heap.get? b = some o → h'.get? b = some o) → Q .next { s with heap := h', toks := tk })
    (hs : ∀ x, foldedSetIterable iter env x = pure x := by intro _; rfl) :
    wpAny (model pw w) A (exec (.Assign [.Name y py] (.ListComp elt [⟨.Name x px, iter, ifs, 0⟩] scope pos) spos) env) Q E s := by
  refine wpAny_Assign_ListComp_free p F hsw hclos hcell hkind hnames hx hy hp (wpAny_mono hiter (fun v s₁ h₁ => ?_) fun _ _ e => e) hs
  obtain ⟨rfl, ⟨h', tk, rfl, k⟩, hl⟩ := h₁
  refine wpAny_pyIter_list hl ?_
  have old : ∀ b o', s.heap.get? b = some o' → b ∉ [h'.objs.size] := fun b o' e hb => by
    rw [List.mem_singleton.mp hb] at e
    exact absurd (Heap.lt_size (k _ _ e)) (Nat.lt_irrefl _)
  have hne : ax ≠ h'.objs.size := by
    obtain ⟨o, ho, _⟩ := hl
    exact Nat.ne_of_lt (Heap.lt_size ho)
  have inn : ∀ i v, items[i]? = some v → v ∈ items.toList := fun i v e => by rw [← Array.getElem?_toList] at e; exact List.mem_of_getElem? e
  refine ⟨_, _, _, _, _, _, m, rfl, Walks.list hh _ ax hne items, hlen, ⟨⟨_, Heap.get?_push_size _ rfl, rfl, rfl⟩, hl.at fun o e => Heap.get?_push_of_some _ e⟩, fun b hb => ?_, ?_, hN.at' fun o e => Heap.get?_push_of_some _ (k _ _ e), ⟨fun C i v s₃ m₃ E' _ hv hn hm hk _ => ?_, fun C i v s₃ m₃ E' _ hv hp hn hm hk _ => ?_⟩, fun D h'' tk' ys vs hD _ hpl hvl hvs hF hNs hk => ?_⟩
  · show b < (h'.push _).objs.size
    rw [Heap.size_push]
    rcases List.mem_cons.mp hb with rfl | hb
    · exact Nat.lt_succ_self _
    · rw [List.mem_singleton.mp hb]
      obtain ⟨o, ho, _⟩ := hl
      exact Nat.lt_succ_of_lt (Heap.lt_size ho)
  · obtain ⟨o, _, _, ho, _⟩ := hN
    exact old _ _ ho
  · exact htests C v s₃ m₃ E' (inn i v hv) (fun b o' e => hk b o' (old b o' e) (Heap.get?_push_of_some _ (k b o' e))) hn hm
  · exact helt C v s₃ m₃ E' (inn i v hv) hp (fun b o' e => hk b o' (old b o' e) (Heap.get?_push_of_some _ (k b o' e))) hn hm
  · have : vs = items.toList := list_of_places hvl hvs
    subst this
    refine hQ D h'' tk' ys ?_ hpl hF hNs fun b o' hb e => hk b o' hb (old b o' e) (Heap.get?_push_of_some _ (k b o' e))
    cases e : s.heap.get? D with
    | none => rfl
    | some o' => have := Heap.get?_push_of_some ({ cls := .type "list_iterator", data := .fields #[.ref ax, .int 0 0] } : Obj) (k _ _ e); rw [this] at hD; cases hD
end
end Mine
end
section
open PySem PySem.W PyProof.Rows PySem.Calls
set_option maxRecDepth 100000
namespace Mine
noncomputable section
section
variable {w : World} {mean : ExcName → Option Value} {mg mb : Str → Option Value} {M : Model} {A : Around} {E : Value → Shared → Prop} {s : Shared} {env : Env}
/-- an environment of the law's: a def's or a comprehension's -/
structure EnvOk (env : Env) : Prop where
  g : env.globals = mainGlobals
  b : env.builtins = builtinsNs
  k : env.scope.kind = .function
theorem Cx.glob {x : Str} {pos : Pos} {v : Value} {Q : Value → Shared → Prop} (C : Cx w mean mg mb s.heap) (V : EnvOk env) (e : nsIn (KF w.params) mainGlobals x = some (some v)) (hx : env.kindOf x = some .globalImplicit) (hd : (x == ("__debug__" : Str)) = false) (hQ : Q v s) :
    wpAny M A (eval (.Name x pos) env) Q E s := glob_name C.KX C.T (fun _ _ e => e) e hQ V.g V.k hx hd
theorem Cx.built {x : Str} {pos : Pos} {v : Value} {Q : Value → Shared → Prop} (C : Cx w mean mg mb s.heap) (V : EnvOk env) (e : nsIn (KF w.params) mainGlobals x = some none) (hb : bootBuiltins x = some v) (hn : x ≠ "__name__") (hx : env.kindOf x = some .globalImplicit) (hd : (x == ("__debug__" : Str)) = false) (hQ : Q v s) :
    wpAny M A (eval (.Name x pos) env) Q E s :=
  Name_function_global V.k hx (loadGlobal_builtin (env := env) (by rw [V.g]; exact C.T.g) (mg_none_of C.KX C.T.g e) (by rw [V.b]; exact C.T.b) ((C.T.builtins x hn).trans hb) hQ) hd
/-- a built-in function on one argument -/
theorem built1 {x : Str} {np pos : Pos} {a : PySem.Expr} {id : String} {Q : Value → Shared → Prop} (C : Cx w mean mg mb s.heap) (V : EnvOk env) (e : nsIn (KF w.params) mainGlobals x = some none) (hb : bootBuiltins x = some (.builtin id)) (hn : x ≠ "__name__") (hx : env.kindOf x = some .globalImplicit)
    (hd : (x == ("__debug__" : Str)) = false) (h : wpAny M A (eval a env) (fun v s₁ => wpAny M A (call (.builtin id) [v]) Q E s₁) E s) (he : starEach [a] env = [(false, eval a env)] := by rfl) :
    wpAny M A (eval (.Call (.Name x np) [a] [] pos) env) Q E s :=
  Call_ (C.built V e hb hn hx hd (callWith_builtin1 (args_cons (wpAny_mono h (fun _ _ k => args_nil k) fun _ _ k => k) he) he))
/-- a def of the text's on one argument -/
theorem fn1 {x : Str} {np pos : Pos} {a : PySem.Expr} {f : Addr} {o : Obj} {fd : FuncData} {Q : Value → Shared → Prop} (C : Cx w mean mg mb s.heap) (V : EnvOk env) (e : nsIn (KF w.params) mainGlobals x = some (some (.ref f))) (ho : (KF w.params).lookup f = some o) (hd' : o.data = .func fd) (hx : env.kindOf x = some .globalImplicit)
    (hd : (x == ("__debug__" : Str)) = false) (h : wpAny M A (eval a env) (fun v s₁ => Keeps s s₁ ∧ wpAny M A (call (.ref f) [v]) Q E s₁) E s) (he : starEach [a] env = [(false, eval a env)] := by rfl) :
    wpAny M A (eval (.Call (.Name x np) [a] [] pos) env) Q E s :=
  Call_ (C.glob V e hx hd (callWith_def hd' (args_cons (wpAny_mono h (fun _ _ k => args_nil ⟨Keeps.heap k.1 _ _ (C.KX _ _ ho), k.2⟩) fun _ _ k => k) he) he))
theorem fn2 {x : Str} {np pos : Pos} {a b : PySem.Expr} {f : Addr} {o : Obj} {fd : FuncData} {Q : Value → Shared → Prop} (C : Cx w mean mg mb s.heap) (V : EnvOk env) (e : nsIn (KF w.params) mainGlobals x = some (some (.ref f))) (ho : (KF w.params).lookup f = some o) (hd' : o.data = .func fd) (hx : env.kindOf x = some .globalImplicit)
    (hd : (x == ("__debug__" : Str)) = false) (h : wpAny M A (eval a env) (fun v s₁ => wpAny M A (eval b env) (fun v' s₂ => Keeps s s₂ ∧ wpAny M A (call (.ref f) [v, v']) Q E s₂) E s₁) E s)
    (he : starEach [a, b] env = (false, eval a env) :: starEach [b] env := by rfl) (he' : starEach [b] env = [(false, eval b env)] := by rfl) :
    wpAny M A (eval (.Call (.Name x np) [a, b] [] pos) env) Q E s :=
  Call_ (C.glob V e hx hd (callWith_def hd' (args_cons (wpAny_mono h (fun _ _ k => args_cons (wpAny_mono k (fun _ _ k' => args_nil ⟨Keeps.heap k'.1 _ _ (C.KX _ _ ho), k'.2⟩) fun _ _ k => k) he') fun _ _ k => k) he) he))
/-- a local name -/
theorem loc_name {x : Str} {pos : Pos} {v : Value} {m : Str → Option Value} {Q : Value → Shared → Prop} (V : EnvOk env) (hl : env.kindOf x = some .local) (hN : s.heap.Ns env.locals m) (hv : m x = some v) (hd : (x == ("__debug__" : Str)) = false) (hQ : Q v s) :
    wpAny M A (eval (.Name x pos) env) Q E s := wpAny_Name (wpAny_loadName_local V.k hl hN hv hQ) hd
theorem envOk_of {name : Str} {scope : Scope} {L a : Addr} {cd : Value} (h : scope.kind = .function) : EnvOk (envOf name scope L a cd) := ⟨rfl, rfl, h⟩
theorem envOk_comp {scope : Scope} {cl : List (Str × Addr)} {C : Addr} (V : EnvOk env) (h : scope.kind = .function) : EnvOk (compEnvC scope cl C env) := ⟨V.g, V.b, h⟩
end
end
end Mine
end
section
open PySem PySem.W PyProof.Rows
set_option maxRecDepth 100000
namespace Mine
noncomputable section
/-- the octets of a text -/
def cpInts (x : Str) : List Int := x.cps.toList.map fun (c : Nat) => (c : Int)
def octs (x : Str) : Array UInt8 := byteArr (cpInts x)
def dueOf (x : Str) (tk : Tok) : Value := if 0 < x.length ∧ x.length < 64 then .bytes (octs x) tk else .none
theorem signs_ints (x : Str) : ∀ (vs ys : List Value) (cs : List Nat), vs.length = cs.length → (∀ (j : Nat) (v : Value), vs[j]? = some v → ∃ c u, cs[j]? = some c ∧ v = Value.str ⟨#[c]⟩ u) → Paired (fun v y => ∃ c u u', v = Value.str ⟨#[c]⟩ u ∧ y = Value.int (c : Int) u') vs ys → IntsAre ys (cs.map fun (c : Nat) => (c : Int))
  | [], _, [], _, _, .nil => .nil
  | v :: vs, _, c :: cs, hl, hv, .cons ⟨c', u, u', e, e'⟩ hp => by
    obtain ⟨c₀, u₀, h1, h2⟩ := hv 0 v rfl
    obtain rfl : c = c₀ := by simpa using h1
    subst e'
    rw [e] at h2
    obtain ⟨rfl, _⟩ : c' = c ∧ u = u₀ := by simpa using h2
    exact .cons _ _ (signs_ints x vs _ cs (by simpa using hl) (fun j v' h => hv (j + 1) v' (by simpa using h)) hp)
set_option maxHeartbeats 4000000 in
theorem c_due {w : World} {mean : ExcName → Option Value} {mg mb : Str → Option Value} {dp un : Nat} {fr : Option (List Env)} {gd : Option (List Code)} {s : Shared} {x : Str} {t : Tok} {R : Result → Shared → Prop} (C : Cx w mean mg mb s.heap) (hd : dp + 10 < recursionLimit) (hu : un + 100 < cLine)
    (hx : ∀ c ∈ x.cps.toList, c < 128) (hl : x.length ≤ 1048576) (h : ∀ tk s', Keeps s s' → R (.ok (.ret (dueOf x tk))) s') :
    codeAny (model pw w) ⟨none, dp, fr, gd, un⟩ (.call (.ref 128) ⟨[.str x t], []⟩) R s := by
  obtain ⟨KX, GL, T⟩ := C
  have hobj := KX 128 _ rfl
  refine call_plain (name := S "_law_due") (params := fPar 16) (body := fBody 16) (scope := fScope 16) (by show dp < recursionLimit; omega) hobj rfl T.nolimit (codeRec_of KX (cd := .ref 127) rfl) (binds := [(S "label", .str x t)]) (by rfl) (locs (by rfl)) ?_ (by rfl) (by rfl) (by rfl) (by decide +kernel)
  intro h₁ F
  have N : News s.heap s.heap.objs.size h₁ [] := News.nil
  conv in fBody 16 => whnf
  repeat' (fail_if_success (with_reducible show wpAny _ _ (eval (Expr.ListComp _ _ _ _) _) _ _ _)); (first | walk1 | (dsimp only; walk1))
  all_goals try dsimp only
  · refine comp_str (cl := []) (xs := x) (fun _ => true) (fun v y => ∃ c u u', v = .str ⟨#[c]⟩ u ∧ y = .int (c : Int) u') rfl (by rfl) (by decide +kernel) rfl (by decide +kernel) (by rfl) (by rw [sizeLine_eq]; omega) ?_ ?_ ?_ ?_
    · walk1
      exact ⟨⟨_, rfl⟩, ⟨_, _, rfl, fun _ _ e => e⟩⟩
    · intro C c u s₃ m₃ E' hc hk hn hm
      exact wpAny_pure ⟨rfl, ⟨_, _, rfl, fun _ _ e => e⟩⟩
    · intro Ca c u s₃ m₃ E' hc _ hk hn hm
      have V : EnvOk (envOf (S "_law_due") (fScope 16) s.heap.objs.size 128 (Value.ref 127)) := envOk_of rfl
      have C₃ : Cx w mean mg mb s₃.heap := (Cx.keeps ⟨KX, GL, T⟩ F.keep).keeps hk
      refine built1 C₃ (envOk_comp V rfl) (by kernel_rfl) boot_ord (by decide +kernel) (by rfl) (by decide +kernel) ?_
      refine loc_name (envOk_comp V rfl) (by rfl) hn hm (by decide +kernel) ?_
      exact P.ord_of_char ⟨⟨c, u, _, rfl, rfl⟩, ⟨_, _, rfl, fun _ _ e => e⟩⟩
    · intro D h' tk ys vs hD hpl hvl hvs hF hk
      have hI : IntsAre ys.toList (cpInts x) := signs_ints x vs ys.toList x.cps.toList (by rw [hvl]; simp [Str.length]) (fun j v hj => by obtain ⟨c, u, h1, h2⟩ := hvs j v hj; exact ⟨c, u, by rw [Array.getElem?_toList]; exact h1, h2⟩) (by rw [List.filter_eq_self.mpr (fun _ _ => rfl)] at hF; exact hF)
      walk1
      refine call_bytes_ints (vs := ys.toList) hpl.isList hI (fun n hn => ?_) ?_ rfl ?_
      · obtain ⟨c, hc, rfl⟩ := List.mem_map.mp hn
        have := hx c hc
        omega
      · rw [hI.length, cpInts, List.length_map, sizeLine_eq]
        have : x.cps.toList.length = x.length := by simp [Str.length]
        omega
      · intro h'' t' k' hk'
        have e : Value.bytes (byteArr (cpInts x)) t' = dueOf x t' := by unfold dueOf; rw [if_pos ⟨by omega, by omega⟩]; rfl
        rw [e]
        exact h _ _ ⟨_, _, rfl, fun b o e => hk' b o (hk b o (F.keep b o e))⟩
  · have e : Value.none = dueOf x 0 := by unfold dueOf; rw [if_neg (by omega)]
    rw [e]
    exact h _ _ ⟨_, _, rfl, F.keep⟩
  · have e : Value.none = dueOf x 0 := by unfold dueOf; rw [if_neg (by omega)]
    rw [e]
    exact h _ _ ⟨_, _, rfl, F.keep⟩
end
end Mine
end
section
open PySem PySem.W PyProof.Rows
set_option maxRecDepth 100000
namespace Mine
open PySem.Builtin._codecs PySem.Builtin
theorem forIn_once {β : Type} (f : Nat → β → Sem (ForInStep β)) (l : List Nat) (b b' : β) (h1 : ∀ k, f k b = pure (.yield b')) (h2 : ∀ k, f k b' = pure (.done b')) (hl : l ≠ []) : forIn l b f = pure b' := by
  cases l with
  | nil => exact absurd rfl hl
  | cons k r =>
    rw [List.forIn_cons, h1]
    show forIn r b' f = pure b'
    cases r with
    | nil => rfl
    | cons k' r' => rw [List.forIn_cons, h2]; rfl
theorem fold_octs (l : List Nat) : ∀ acc : Array UInt8, l.foldl (fun acc y => acc ++ (asciiCodec.bytesOf y).toArray) acc = acc ++ (l.map Nat.toUInt8).toArray := by
  induction l with
  | nil => intro acc; simp
  | cons c r ih =>
    intro acc
    rw [List.foldl_cons, ih]
    show (acc ++ #[c.toUInt8]) ++ _ = _
    simp
theorem octs_is (x : Str) : octs x = (x.cps.toList.map Nat.toUInt8).toArray := by
  unfold octs byteArr cpInts
  rw [List.map_map]
  rfl
theorem enc_ascii (id : String) (self : Value) (s : Str) (h : ∀ c ∈ s.cps.toList, c < 128) (hz : s.length ≤ sizeLine) : encodeNarrow id asciiCodec none self s = pure (octs s) := by
  have bad : ∀ c ∈ s.cps.toList, asciiCodec.bad c = false := fun c hc => by
    show decide (c ≥ 128) = false
    have := h c hc
    simp; omega
  by_cases h0 : s.length = 0
  · have hc : s.cps = #[] := Array.eq_empty_of_size_eq_zero h0
    unfold encodeNarrow
    dsimp only
    rw [Std.Legacy.Range.forIn_eq_forIn_range', h0]
    rw [octs_is, hc]
    rfl
  · have hlt : 0 < s.cps.size := Nat.pos_of_ne_zero h0
    have hx : s.cps[0]? = some s.cps[0] := Array.getElem?_eq_getElem hlt
    have hb : asciiCodec.bad s.cps[0] = false := bad _ (by rw [Array.mem_toList_iff]; exact Array.getElem_mem hlt)
    have hf : Array.findIdx? asciiCodec.bad s.cps = none := by
      rw [Array.findIdx?_eq_none_iff]
      intro c hc
      refine bad c ?_
      rw [Array.mem_toList_iff]
      exact hc
    have ho : Array.foldl (fun acc y => acc ++ (asciiCodec.bytesOf y).toArray) #[] s.cps = octs s := by
      rw [← Array.foldl_toList, fold_octs, octs_is]
      simp
    have hsz : (octs s).size = s.length := by rw [octs_is]; simp [Str.length]
    unfold encodeNarrow
    dsimp only
    rw [Std.Legacy.Range.forIn_eq_forIn_range']
    rw [forIn_once _ _ _ (s.length, octs s, {}) ?_ ?_ ?_]
    · rfl
    · intro k
      simp only [hx, hb, hf, List.size_toArray, List.length_nil, Nat.not_lt_zero, gt_iff_lt, if_false, Bool.not_false, if_true, Option.getD_none, Nat.zero_add, Array.extract_size, Array.size_extract, Nat.sub_zero, Nat.min_self, ho]
      rfl
    · intro k
      have hn : s.cps[s.length]? = none := Array.getElem?_eq_none (Nat.le_refl _)
      simp only [hn, hsz, gt_iff_lt]
      rw [if_neg (by omega)]
    · intro e
      have := congrArg List.length e
      rw [List.length_range'] at this
      simp only [Std.Legacy.Range.size, Nat.sub_zero, Nat.add_sub_cancel, Nat.div_one] at this
      exact h0 this
section
variable {w : World} {A : Around} {E : Value → Shared → Prop} {s : Shared}
theorem bind_enc (u : Tok) : Builtin.Str.bindOptional "str.encode" "encode" 0 ["encoding", "errors"] [.str (S "ascii") u] [] = pure [some (.str (S "ascii") u), none] := by kernel_rfl
theorem args_enc (x : Str) (t u : Tok) : argsOk "str.encode" ⟨[.str x t, .str (S "ascii") u], []⟩ := by unfold argsOk; kernel_rfl
theorem codec_enc (u : Tok) : Builtin.Str.codecArg "str.encode" "encode" "'encoding'" (some (.str (S "ascii") u)) = pure (some (S "ascii")) := by kernel_rfl
theorem codec_none : Builtin.Str.codecArg "str.encode" "encode" "'errors'" none = pure none := rfl
theorem road_enc (self : Value) (x : Str) : encodeRoad "str.encode" self x (S "ascii") none = (do mkBytes (← encodeNarrow "str.encode" asciiCodec none self x)) := by
  unfold encodeRoad
  rw [show (normalName (S "ascii")).toString = "ascii" from by decide +kernel]
  kernel_rfl
theorem call_encode {x : Str} {t u : Tok} {Q : Value → Shared → Prop} (h : ∀ c ∈ x.cps.toList, c < 128) (hz : x.length ≤ sizeLine) (hQ : Q (.bytes (octs x) s.toks) { s with toks := s.toks + 1 }) :
    wpAny (model pw w) A (call (.builtin "str.encode") [.str x t, .str (S "ascii") u]) Q E s := by
  refine wpAny_call_entry PySem.F.slot_str_encode (typeIs_str _ _ _) PySem.F.entry_str_encode ?_ (args_enc x t u)
  show wpAny _ _ (do
    let l ← Builtin.Str.bindOptional "str.encode" "encode" 0 ["encoding", "errors"] [.str (S "ascii") u] []
    match l with
    | [encoding, errors] => do
      let e ← Builtin.Str.codecArg "str.encode" "encode" "'encoding'" encoding
      let er ← Builtin.Str.codecArg "str.encode" "encode" "'errors'" errors
      let r ← encodeRoad "str.encode" (.str x t) x (e.getD "utf-8") er
      ret r
    | _ => unsupported "internal:str.encode") _ _ _
  rw [bind_enc]
  refine wpAny_bind (wpAny_pure ?_)
  dsimp only
  rw [codec_enc]
  refine wpAny_bind (wpAny_pure ?_)
  rw [codec_none]
  refine wpAny_bind (wpAny_pure ?_)
  rw [show ((some (S "ascii")).getD (Str.ofString "utf-8")) = S "ascii" from rfl, road_enc, enc_ascii _ _ _ h hz]
  refine wpAny_bind ?_
  refine wpAny_bind (wpAny_pure ?_)
  unfold mkBytes
  rw [if_neg (by rw [octs_is]; simp only [List.size_toArray, List.length_map]; show ¬ _ > _; have : x.cps.toList.length = x.length := by simp [Str.length]
                 omega)]
  refine wpAny_bind (wpAny_fresh (wpAny_pure (wpAny_pure ⟨_, rfl, hQ⟩)))
end
end Mine
end
section
open PySem PySem.W PyProof.Rows
set_option maxRecDepth 100000
namespace Mine
open PySem.Builtin.UnicodeEncodeError PySem.Builtin
section
variable {w : World} {A : Around} {E : Value → Shared → Prop} {s : Shared}
theorem uee_new : ExcNewFacts "UnicodeEncodeError" "UnicodeEncodeError.__new__" where
  ends := by decide +kernel
  owner := by decide +kernel
  entry := entryFor_alias (id' := "BaseException.__new__") (by rw [fastTable_eq_tree]; kernel_rfl) (by first | rfl | decide +kernel) (by decide +kernel) (by rw [fastTable_eq_tree]; kernel_rfl)
  sub := by rw [isSubtype_type]; kernel_rfl
  notAttr := by rw [isSubtype_type]; kernel_rfl
  notName := by rw [isSubtype_type]; kernel_rfl
  made := by kernel_rfl
theorem uee_slot : Slot "UnicodeEncodeError" "__init__" "UnicodeEncodeError.__init__" := .of (owner := "UnicodeEncodeError") (n := "__init__") (by rw [typeLookup_type, builtinLookup_eq_fast]; kernel_rfl) (by decide +kernel) (by decide +kernel) (by decide +kernel)
    (by first | exact .inl (by decide +kernel) | exact .inr (by decide +kernel)) (by rw [isSubtype_type]; kernel_rfl)
theorem uee_initEntry : entryFor table "UnicodeEncodeError.__init__" = some «UnicodeEncodeError.__init__» := entryFor_of_tree (by kernel_rfl)
theorem uee_isExc : isSubtype (.type "UnicodeEncodeError") (.type "BaseException") = pure true := by rw [isSubtype_type]; kernel_rfl
theorem uee_meta : (Value.type ((Manifest.find? "UnicodeEncodeError").elim "type" fun x => x.metatype) == Value.type "type") = true := by kernel_rfl
theorem uee_notType : (Value.type "UnicodeEncodeError" == Value.type "type") = false := by decide +kernel
theorem uee_canMake : ((Manifest.find? "UnicodeEncodeError").bind fun x => List.findSome? (fun t => (Manifest.find? t).bind fun b =>
    if b.noNew = true then some true else if (b.attrs.any fun x => x.fst == "__new__") = true then some false else none) x.mro).getD false = false := by kernel_rfl
theorem uee_noVector (args : Args) : checkTypeCall "UnicodeEncodeError" args = pure () := by kernel_rfl
theorem uee_mro : mroOf (.type "UnicodeEncodeError") = pure [.type "UnicodeEncodeError", .type "UnicodeError", .type "ValueError", .type "Exception", .type "BaseException", .type "object"] := by rw [mroOf_type]; kernel_rfl
theorem uee_madeBy : Bind.madeBy (.type "UnicodeEncodeError") = pure (some "UnicodeEncodeError.__new__") := by kernel_rfl
theorem uee_quiet : "UnicodeEncodeError.__new__".startsWith "lifetime." = false := by decide +kernel
theorem uee_newOk (rest : List Value) : checkBuiltinCall "UnicodeEncodeError.__new__" ⟨.type "UnicodeEncodeError" :: rest, []⟩ = pure () := by kernel_rfl
theorem uee_initKind : builtinKind "UnicodeEncodeError.__init__" = some .slot := by kernel_rfl
theorem uee_sig : Manifest.signature? "UnicodeEncodeError.__init__" = some ⟨.hand, "wrapper __init__", "", .self, []⟩ := by kernel_rfl
theorem uee_initSplit : splitId "UnicodeEncodeError.__init__" = some ("UnicodeEncodeError", "__init__") := by kernel_rfl
def Ued (a0 m1 m2 m3 m4 m5 : Value) : Obj := { cls := .type "UnicodeEncodeError", data := .fields #[a0, .none, .none, .none, .bool false, .none, m1, m2, m3, m4, m5] }
theorem uee_update {e : Addr} {o : Obj} {vs : Array Value} {f : Array Value → Array Value} {Q : Unit → Shared → Prop} (he : s.heap.get? e = some o) (hd : o.data = .fields vs) (hz : (f vs).size ≤ sizeLine + 3)
    (h : ∀ h' : Heap, h'.get? e = some { o with data := .fields (f vs) } → (∀ b, b ≠ e → h'.get? b = s.heap.get? b) → h'.objs.size = s.heap.objs.size → Q () { s with heap := h' }) :
    wpAny (model pw w) A (updateFields e f) Q E s := by
  refine wpAny_updateFields he hd (h _ ?_ (fun b hb => Heap.get?_update_other _ _ (Ne.symm hb)) (Heap.size_after_update ..)) hz
  have := Heap.get?_update_self (Obj.mapFields f) he (Obj.isFreed_of_fields (Obj.data_mapFields hd _))
  rw [this]
  obtain ⟨c, d, dt, sl⟩ := o
  obtain rfl : dt = .fields vs := hd
  rfl
theorem uee_set {e : Addr} {vs : Array Value} {a0 : Value} {m : Members} {Q : Unit → Shared → Prop} (he : s.heap.get? e = some { cls := .type "UnicodeEncodeError", data := .fields vs }) (hx : vs.extract 0 6 = #[a0, .none, .none, .none, .bool false, .none])
    (h : ∀ h' : Heap, h'.get? e = some (Ued a0 m.encoding m.object (rawInt m.start) (rawInt m.stop) m.reason) → (∀ b, b ≠ e → h'.get? b = s.heap.get? b) → h'.objs.size = s.heap.objs.size → Q () { s with heap := h' }) :
    wpAny (model pw w) A (setMembers (.ref e) m) Q E s := by
  unfold setMembers
  refine uee_update he rfl (by rw [hx]; show 11 ≤ _; rw [sizeLine_eq]; omega) fun h' h1 h2 h3 => h h' ?_ h2 h3
  rw [h1, hx]
  rfl
theorem uee_members0 {e : Addr} {a0 : Value} {Q : Members → Shared → Prop} (he : s.heap.get? e = some { cls := .type "UnicodeEncodeError", data := .fields #[a0, .none, .none, .none, .bool false, .none] }) (h : Q {} s) :
    wpAny (model pw w) A (members (.ref e)) Q E s := by
  unfold members
  exact wpAny_bind (wpAny_fieldsOf he rfl (wpAny_pure h))
theorem uee_members {e : Addr} {a0 m1 m2 m5 : Value} {i j : Int} {t u : Tok} {Q : Members → Shared → Prop} (he : s.heap.get? e = some (Ued a0 m1 m2 (.int i t) (.int j u) m5)) (h : Q { encoding := m1, object := m2, start := i, stop := j, reason := m5 } s) :
    wpAny (model pw w) A (members (.ref e)) Q E s := by
  unfold members
  exact wpAny_bind (wpAny_fieldsOf he rfl (wpAny_pure h))
theorem uee_size {id : String} {i : Int} {u : Tok} {Q : Int → Shared → Prop} (hi : 0 ≤ i) (hi' : i < 2 ^ 63) (h : Q i s) : wpAny (model pw w) A (sizeArgument id (.int i u)) Q E s := by
  unfold sizeArgument asIndex
  refine wpAny_bind (wpAny_bind (wpAny_of_eq (a := some i) (by rfl) ?_))
  refine wpAny_pure ?_
  dsimp only
  rw [if_neg (by simp; omega)]
  exact wpAny_pure h
theorem uee_init {e : Addr} {a0 : Value} {a x r : Str} {ta tx tr u v : Tok} {i j : Int} {Q : Fin → Shared → Prop}
    (he : s.heap.get? e = some { cls := .type "UnicodeEncodeError", data := .fields #[a0, .none, .none, .none, .bool false, .none] }) (hi : 0 ≤ i) (hi' : i < 2 ^ 63) (hj : 0 ≤ j) (hj' : j < 2 ^ 63)
    (h : ∀ (h' : Heap) (a1 m1 m2 m3 m4 m5 : Value), (∀ b o, b ≠ e → s.heap.get? b = some o → h'.get? b = some o) → h'.get? e = some (Ued a1 m1 m2 m3 m4 m5) → Q (.done (.ret .none)) { s with heap := h' }) :
    wpAny (model pw w) A («UnicodeEncodeError.__init__» ⟨[.ref e, .str a ta, .str x tx, .int i u, .int j v, .str r tr], []⟩) Q E s := by
  unfold «UnicodeEncodeError.__init__» beginInit
  dsimp only
  refine wpAny_bind ?_
  simp only [List.isEmpty_nil, Bool.not_true, Bool.false_eq_true, if_false, beq_self_eq_true, if_true, List.length_cons, List.length_nil, Nat.zero_add, Nat.reduceAdd, bne_self_eq_false]
  refine wpAny_bind (wpAny_field he rfl rfl ?_)
  refine wpAny_bind (wpAny_newTuple ?_ (by show 5 ≤ _; rw [sizeLine_eq]; omega))
  have he' := Heap.get?_push_of_some (h := s.heap) { cls := .type "tuple", data := .seq [Value.str a ta, .str x tx, .int i u, .int j v, .str r tr].toArray } he
  refine wpAny_bind (wpAny_setField he' rfl (by show 0 < 6; omega) ?_)
  have he₁ := Heap.get?_update_self (Obj.mapFields (·.setIfInBounds 0 (.ref s.heap.objs.size))) he' (Obj.isFreed_of_fields (Obj.data_mapFields rfl _))
  have hk : ∀ b o, b ≠ e → s.heap.get? b = some o → ((s.heap.push { cls := .type "tuple", data := .seq [Value.str a ta, .str x tx, .int i u, .int j v, .str r tr].toArray }).update e (Obj.mapFields (·.setIfInBounds 0 (.ref s.heap.objs.size)))).get? b = some o := fun b o hb hs => by
    rw [Heap.get?_update_other _ _ (Ne.symm hb)]
    exact Heap.get?_push_of_some _ hs
  generalize hH : (s.heap.push { cls := .type "tuple", data := .seq [Value.str a ta, .str x tx, .int i u, .int j v, .str r tr].toArray }).update e (Obj.mapFields (·.setIfInBounds 0 (.ref s.heap.objs.size))) = H at *
  clear hH
  replace he₁ : H.get? e = some { cls := .type "UnicodeEncodeError", data := .fields #[.ref s.heap.objs.size, .none, .none, .none, .bool false, .none] } := he₁
  refine wpAny_bind (wpAny_letGo ?_)
  refine wpAny_bind (uee_members0 he₁ ?_)
  refine wpAny_bind (uee_set (a0 := .ref s.heap.objs.size) he₁ rfl fun H₂ he₂ hk₂ _ => ?_)
  dsimp only at he₂ ⊢
  refine wpAny_bind (wpAny_letGo ?_)
  refine wpAny_bind (uee_members he₂ ?_)
  refine wpAny_bind (uee_set (a0 := .ref s.heap.objs.size) he₂ rfl fun H₃ he₃ hk₃ _ => ?_)
  dsimp only at he₃ ⊢
  refine wpAny_bind (wpAny_letGo ?_)
  refine wpAny_bind (uee_members he₃ ?_)
  refine wpAny_bind (uee_set (a0 := .ref s.heap.objs.size) he₃ rfl fun H₄ he₄ hk₄ _ => ?_)
  dsimp only at he₄ ⊢
  refine wpAny_bind (wpAny_letGo ?_)
  refine wpAny_pure ?_
  dsimp only
  unfold strArgument
  refine wpAny_bind (wpAny_bind (wpAny_pure ?_))
  refine wpAny_pure ?_
  refine wpAny_bind (wpAny_bind (wpAny_pure ?_))
  refine wpAny_pure ?_
  unfold initRange
  refine wpAny_bind (wpAny_bind (uee_size hi hi' ?_))
  refine wpAny_bind (uee_members he₄ ?_)
  refine wpAny_bind (uee_set (a0 := .ref s.heap.objs.size) he₄ rfl fun H₅ he₅ hk₅ _ => ?_)
  dsimp only at he₅ ⊢
  refine wpAny_bind (uee_size hj hj' ?_)
  refine wpAny_bind (uee_members he₅ ?_)
  refine uee_set (a0 := .ref s.heap.objs.size) he₅ rfl fun H₆ he₆ hk₆ _ => ?_
  dsimp only at he₆ ⊢
  refine wpAny_bind (wpAny_bind (wpAny_pure ?_))
  refine wpAny_pure ?_
  refine wpAny_bind (uee_members he₆ ?_)
  refine wpAny_bind (uee_set (a0 := .ref s.heap.objs.size) he₆ rfl fun H₇ he₇ hk₇ _ => ?_)
  dsimp only at he₇ hk₇ hk₆ hk₅ hk₄ hk₃ hk₂ ⊢
  refine wpAny_pure (h H₇ _ _ _ _ _ _ (fun b o hb hs => ?_) he₇)
  rw [hk₇ b hb, hk₆ b hb, hk₅ b hb, hk₄ b hb, hk₃ b hb, hk₂ b hb]
  exact hk b o hb hs
theorem uee_check {e : Addr} {rest : List Value} {o : Obj} {Q : Unit → Shared → Prop} (he : s.heap.get? e = some o) (hc : o.cls = .type "UnicodeEncodeError") (h : Q () s) :
    wpAny (model pw w) A (checkBuiltinCall "UnicodeEncodeError.__init__" ⟨.ref e :: rest, []⟩) Q E s := by
  obtain ⟨hp, g, d, tk, os⟩ := s
  have hT : Shared.TypeIs ⟨hp, g, d, tk, os⟩ (.ref e) "UnicodeEncodeError" := ⟨o, he, hc⟩
  have hsub := uee_new.sub
  have hns : ("UnicodeEncodeError" != "*") = true := by decide +kernel
  simp only [checkBuiltinCall, uee_initKind, uee_initSplit, uee_sig]
  refine wpAny_bind (wpAny_isInstance hT hsub ?_)
  rw [if_neg (by decide)]
  show wpAny _ _ (Bind.checkArgs _ _ _) _ _ _
  unfold Bind.checkArgs
  wp_walk
  exact h
/-- the class called with its five arguments -/
theorem uee_call {a x r : Str} {ta tx tr u v : Tok} {i j : Int} {Q : Value → Shared → Prop} {hp : Heap} {g : Array GenState} {d : Drawn} {tk : Nat} {os : OsState} (hi : 0 ≤ i) (hi' : i < 2 ^ 63) (hj : 0 ≤ j) (hj' : j < 2 ^ 63)
    (h : ∀ (h' : Heap) (e : Addr) (a1 m1 m2 m3 m4 m5 : Value), (∀ b o, hp.get? b = some o → h'.get? b = some o) → hp.get? e = none → h'.get? e = some (Ued a1 m1 m2 m3 m4 m5) → Q (.ref e) ⟨h', g, d, tk, os⟩) :
    wpAny (model pw w) A (call (.type "UnicodeEncodeError") [.str a ta, .str x tx, .int i u, .int j v, .str r tr]) Q E ⟨hp, g, d, tk, os⟩ := by
  refine wpAny_call (codeAny_of_tree ?_)
  show wpAny _ _ (again (.builtin "type.__call__" ⟨.type "UnicodeEncodeError" :: [.str a ta, .str x tx, .int i u, .int j v, .str r tr], []⟩)) _ _ _
  refine wpAny_pure ⟨Code.quiet_builtin _ (by decide +kernel), codeAny_builtin entry_typeCall ?_⟩
  have hnt := uee_notType
  have hcan := uee_canMake
  have hchk := uee_noVector ⟨[.str a ta, .str x tx, .int i u, .int j v, .str r tr], []⟩
  have hmro := uee_mro
  have hmade := uee_madeBy
  wp_walk
  refine codeAny_call_builtin_code (Code.quiet_builtin _ uee_quiet) (wpAny_of_eq (uee_newOk _) ?_)
  refine codeAny_exc_new uee_new ?_ (by show 5 ≤ _; rw [sizeLine_eq]; omega)
  show wpAny _ _ _ _ _ _
  have hget : ((hp.push { cls := .type "tuple", data := .seq [Value.str a ta, .str x tx, .int i u, .int j v, .str r tr].toArray }).push
      { cls := .type "UnicodeEncodeError", data := .fields #[.ref hp.objs.size, .none, .none, .none, .bool false, .none] }).get? (hp.objs.size + 1) = some
      { cls := .type "UnicodeEncodeError", data := .fields #[.ref hp.objs.size, .none, .none, .none, .bool false, .none] } := by heap_get
  refine wpAny_bind (wpAny_isInstance ⟨_, hget, rfl⟩ uee_new.sub ?_)
  wp_step
  refine wpAny_bind (wpAny_holding (wpAny_callSpecial?_slot ⟨_, hget, rfl⟩ uee_slot (wpAny_call (codeAny_call_builtin uee_slot.plain uee_initEntry (uee_check hget rfl ?_)))))
  refine uee_init hget hi hi' hj hj' fun h' a1 m1 m2 m3 m4 m5 hk he => ?_
  dsimp only
  wp_walk
  refine h h' _ a1 m1 m2 m3 m4 m5 (fun b o hb => hk b o (Nat.ne_of_lt (Nat.lt_succ_of_lt (Heap.lt_size hb))) (Heap.get?_push_of_some _ (Heap.get?_push_of_some _ hb))) (Heap.get?_none_of_le (Nat.le_succ _)) he
end
end Mine
end
section
open PySem PySem.W PyProof.Rows
set_option maxRecDepth 100000
namespace Mine
section
variable {w : World} {A : Around} {E : Value → Shared → Prop} {s : Shared} {env : Env}
def IsUee (E : Value → Shared → Prop) (v : Value) (s₁ : Shared) : Prop := ∃ a a1 m1 m2 m3 m4 m5, v = .ref a ∧ s₁.heap.get? a = some (Ued a1 m1 m2 m3 m4 m5) ∧ E (.ref a) s₁
theorem raise_uee {M : Model} {e : PySem.Expr} {pos : Pos} {Q : Flow → Shared → Prop} (hh : A.handled = none)
    (h : wpAny M A (eval e env) (IsUee E) E s) : wpAny M A (exec (.Raise (some e) none pos) env) Q E s := by
  show wpAny M A (do standAt pos; raiseStmt env (some (do let v ← eval e env; standAt pos; pure v)) none) Q E s
  refine wpAny_bind (wpAny_standAt ?_)
  unfold raiseStmt
  dsimp only
  refine wpAny_bind (wpAny_bind (wpAny_mono h (fun v s₁ h₁ => wpAny_bind (wpAny_standAt (wpAny_pure ?_))) fun _ _ x => x))
  obtain ⟨a, a1, m1, m2, m3, m4, m5, rfl, ha, hE⟩ := h₁
  have hT : s₁.TypeIs (.ref a) "UnicodeEncodeError" := ⟨_, ha, rfl⟩
  have hnt : ∀ {Q' : Bool → Shared → Prop}, Q' false s₁ → wpAny M A (isType (.ref a)) Q' E s₁ := by
    intro Q' hq
    simp only [isType, loadHead]
    refine wpAny_bind (wpAny_loadPart ha ?_)
    exact wpAny_pure hq
  refine wpAny_bind (wpAny_pure ?_)
  dsimp only
  refine wpAny_bind (wpAny_holding ?_)
  unfold excFromValue isExcClass
  refine wpAny_bind (wpAny_bind (hnt ?_))
  simp only [Bool.false_eq_true, if_false]
  refine wpAny_pure ?_
  simp only [Bool.false_eq_true, if_false]
  refine wpAny_bind (wpAny_isInstance hT uee_isExc ?_)
  simp only [if_true]
  refine wpAny_pure ?_
  refine wpAny_bind (hnt ?_)
  simp only [Bool.false_eq_true, if_false]
  unfold raisedInstance
  refine wpAny_bind (wpAny_bind (wpAny_typeOf hT (wpAny_bind (m := typeOf (.type "UnicodeEncodeError")) (wpAny_pure ?_))))
  rw [if_pos uee_meta]
  refine wpAny_pure ?_
  unfold setFlight raiseNew
  refine wpAny_bind (wpAny_bind (wpAny_field (x := .none) ha rfl rfl ?_))
  rw [if_neg (by decide)]
  refine wpAny_pure (wpAny_bind (wpAny_handled ?_))
  rw [hh]
  first
    | exact wpAny_throw hE
    | exact wpAny_bind (wpAny_pure (wpAny_throw hE))
/-- what a call that lets the error fly leaves: the old objects, up to the frames' slots -/
def UpTo (h h' : Heap) : Prop := ∀ b o, h.get? b = some o → (∀ vs, o.data ≠ .fields vs) → ∃ sl, h'.get? b = some { o with slots := sl }
theorem note_next {M : Model} {base : Heap} {env : Env} {outer : List Env} {L e : Addr} {cls : Value} {Q : Unit → Shared → Prop}
    (hfr : A.frames = some (env :: outer)) (hl : s.heap.FunFrames base (env :: outer)) (hf : env.frame = some L) (ht : s.heap.Traced base e cls) (hkb : base.StaysIn s.heap) (hen : base.get? e = none)
    (h : ∀ h', Heap.Left base (env :: outer) e cls s.heap h' → Q () { s with heap := h' }) : wpAny M A (noteFrame (.ref e) env) (fun _ s₂ => wpAny M A (setFlight (.ref e) none) Q E s₂) E s := by
  obtain ⟨oe, vs, T, oT, ts, he, hcls, hd, h1, hnT, hTe, hT, hdT, h3⟩ := ht
  subst hcls
  unfold noteFrame
  simp only [hf]
  refine wpAny_bind (wpAny_field he hd h1 ?_)
  rw [if_pos (show (Value.ref T != Value.none) = true from by simp)]
  refine wpAny_bind (wpAny_field hT hdT h3 ?_)
  rw [if_neg (show ¬ ((Value.none == rawInt L) = true) from by simp [rawInt])]
  refine wpAny_bind (wpAny_setField hT hdT (Array.getElem?_eq_some_iff.mp h3).1 ?_)
  have other : ∀ b, b ≠ T → (s.heap.update T (Obj.mapFields (·.setIfInBounds 3 Value.none))).get? b = s.heap.get? b := fun b hb => Heap.get?_update_other _ _ (Ne.symm hb)
  have noRecord : ∀ b o, s.heap.get? b = some o → (∀ vs, o.data ≠ .fields vs) → b ≠ T := fun b o hb hnf q => by
    rw [q, hT] at hb; injection hb with hb; subst hb; exact hnf ts hdT
  refine wpAny_newEntry hfr (hl.of_keeps fun b o hb hnf => ⟨o, (other b (noRecord b o hb hnf)).trans hb, rfl⟩) hf ((other e (Ne.symm hTe)).trans he)
    (fun b o hbo => (other b fun q => by rw [q, hnT] at hbo; cases hbo).trans (hkb b o hbo)) hen hd (Array.getElem?_eq_some_iff.mp h1).1
    fun h' ⟨x1, x2, x3, x4⟩ => h h' ⟨x1, x2, x3, fun b o hb hnf => x4 b o ((other b (noRecord b o hb hnf)).trans hb) hnf⟩
/-- the flight's end at the handler -/
theorem land_traced {M : Model} {base : Heap} {e : Addr} {cls : Value} {Q : Unit → Shared → Prop} (ht : s.heap.Traced base e cls)
    (h : ∀ h' : Heap, (∀ b o, base.get? b = some o → s.heap.get? b = some o → h'.get? b = some o) → (∀ b o, s.heap.get? b = some o → (∀ vs, o.data ≠ .fields vs) → h'.get? b = some o) → Q () { s with heap := h' }) :
    wpAny M A (setFlight (.ref e) none) Q E s := by
  obtain ⟨oe, vs, T, oT, ts, he, hcls, hd, h1, hnT, hTe, hT, hdT, h3⟩ := ht
  have other : ∀ b, b ≠ T → (s.heap.update T (Obj.mapFields (·.setIfInBounds 3 Value.none))).get? b = s.heap.get? b := fun b hb => Heap.get?_update_other _ _ (Ne.symm hb)
  refine wpAny_setFlight_none he hd h1 hT hdT (Array.getElem?_eq_some_iff.mp h3).1 (h _ (fun b o hb hs => (other b fun q => by rw [q, hnT] at hb; cases hb).trans hs) fun b o hs hnf => (other b fun q => ?_).trans hs)
  rw [q, hT] at hs; injection hs with hs; subst hs; exact hnf ts hdT
end
end Mine
end
section
open PySem PySem.W PyProof.Rows
set_option maxRecDepth 100000
namespace Mine
noncomputable section
set_option maxHeartbeats 4000000 in
theorem c_to {w : World} {mean : ExcName → Option Value} {mg mb : Str → Option Value} {dp un : Nat} {outer : List Env} {gd : Option (List Code)} {s : Shared} {x : Str} {t : Tok} {R : Result → Shared → Prop} {base : Heap} (C : Cx w mean mg mb s.heap) (hd : dp + 10 < recursionLimit) (hu : un + 100 < cLine)
    (hst : base.StaysIn s.heap) (hff : s.heap.FunFrames base outer)
    (hx : ∀ c ∈ x.cps.toList, c < 128) (hl : x.length ≤ 1048576) (h : 0 < x.length → x.length < 64 → ∀ tk s', Keeps s s' → R (.ok (.ret (.bytes (octs x) tk))) s')
    (hE : ¬ (0 < x.length ∧ x.length < 64) → ∀ e h' tk, Heap.Flying base outer e (.type "UnicodeEncodeError") h' → UpTo s.heap h' → R (.error (.ref e)) { s with heap := h', toks := tk }) :
    codeAny (model pw w) ⟨none, dp, some outer, gd, un⟩ (.call (.ref 33) ⟨[.str x t], []⟩) R s := by
  have C₀ := C
  obtain ⟨KX, GL, T⟩ := C
  have hobj := KX 33 _ rfl
  refine call_plain (name := S "ToASCII") (params := fPar 5) (body := fBody 5) (scope := fScope 5) (by show dp < recursionLimit; omega) hobj rfl T.nolimit (codeRec_of KX (cd := .ref 32) rfl) (binds := [(S "label", .str x t)]) (by rfl) (locs (by rfl)) ?_ (by rfl) (by rfl) (by rfl) (by decide +kernel)
  intro h₁ F
  have N : News s.heap s.heap.objs.size h₁ [] := News.nil
  conv in fBody 5 => whnf
  repeat' (first | walk1 | (dsimp only; walk1))
  dsimp only
  refine getMethod_builtin (typeIs_str _ _ _) PySem.F.plainAttrs_str PySem.F.slot_str_encode PySem.F.type_str_encode (fun a e => by cases e) ?_
  iterate 4 (first | walk1 | (dsimp only; walk1))
  refine call_encode hx (by rw [sizeLine_eq]; omega) ?_
  repeat' (first | walk1 | (dsimp only; walk1))
  try dsimp only
  have hsz : (octs x).size = x.length := by rw [octs_is]; simp [Str.length]
  refine PySem.W.len_bytes (by omega) ?_
  rw [hsz]
  repeat' (fail_if_success (with_reducible show wpAny _ _ (exec (Stmt.Raise _ _ _) _) _ _ _)); (first | walk1 | (dsimp only; walk1))
  all_goals try dsimp only
  · exact h (by omega) (by omega) _ _ ⟨_, _, rfl, Fr.keep (by assumption)⟩
  all_goals
    rename Fr s.heap _ _ _ => F'
    have V : EnvOk (envOf (S "ToASCII") (fScope 5) s.heap.objs.size 33 (Value.ref 32)) := envOk_of rfl
    refine raise_uee rfl ?_
    refine Call_ (Cx.built (C₀.keeps F'.keep) V (by kernel_rfl) (v := .type "UnicodeEncodeError") (by kernel_rfl) (by decide +kernel) (by rfl) (by decide +kernel) ?_)
    refine PyProof.Rows.callWith_type1 ?_
    repeat' (first | walk1 | (dsimp only; walk1))
    try dsimp only
    refine uee_call (by omega) (by omega) (by omega) (by omega) fun h' e a1 m1 m2 m3 m4 m5 hk hn he => ?_
    refine ⟨e, a1, m1, m2, m3, m4, m5, rfl, he, ?_⟩
    have hb : base.get? e = none := by
      cases hq : base.get? e with
      | none => rfl
      | some o => have := F'.keep e o (hst e o hq); rw [hn] at this; cases this
    have hL : base.get? s.heap.objs.size = none := by
      cases hq : base.get? s.heap.objs.size with
      | none => rfl
      | some o => exact absurd (Heap.lt_size (hst _ o hq)) (Nat.lt_irrefl _)
    have hNs : h'.Ns s.heap.objs.size _ := let ⟨o, es, ep, q, r⟩ := F'.ns; ⟨o, es, ep, hk _ _ q, r⟩
    refine wpAny_leaving_first (base := base) (env := envOf (S "ToASCII") (fScope 5) s.heap.objs.size 33 (Value.ref 32)) (outer := outer) (L := s.heap.objs.size) rfl
      (Heap.FunFrames.cons (by show (fScope 5).kind ≠ .module; decide +kernel) rfl hNs hL (hff.of_keeps fun b o q _ => ⟨o, hk b o (F'.keep b o q), rfl⟩)) rfl he (fun b o q => hk b o (F'.keep b o (hst b o q))) hb rfl rfl fun h'' hLf => ?_
    obtain ⟨k1, ⟨_, _, k2⟩, k3, k4⟩ := hLf
    exact hE (by omega) e h'' _ ⟨k1, hb, k2, k3⟩ fun b o q hnf => k4 b o (hk b o (F'.keep b o q)) hnf
end
end Mine
end
section
open PySem PySem.W PyProof.Rows
set_option maxRecDepth 100000
namespace Mine
noncomputable section
/-- all old objects stay; of the frame `L` the slots may be others -/
def KeepsS (L : Addr) (s s' : Shared) : Prop := ∃ h' tk, s' = { s with heap := h', toks := tk } ∧ (∀ b o, s.heap.get? b = some o → b ≠ L → h'.get? b = some o) ∧ ∀ o, s.heap.get? L = some o → ∃ sl, h'.get? L = some { o with slots := sl }
theorem Keeps.toS {L : Addr} {s s' : Shared} (k : Keeps s s') : KeepsS L s s' := by
  obtain ⟨h', tk, e, k⟩ := k
  exact ⟨h', tk, e, fun b o q _ => k b o q, fun o q => ⟨o.slots, k L o q⟩⟩
set_option maxHeartbeats 4000000 in
theorem c_asc {w : World} {mean : ExcName → Option Value} {mg mb : Str → Option Value} {dp un : Nat} {envC : Env} {LC : Addr} {oC : Obj} {es : Array DictEntry} {ep : Nat} {gd : Option (List Code)} {s : Shared} {x : Str} {t : Tok} {R : Result → Shared → Prop} {g₀ : Heap} (C : Cx w mean mg mb g₀) (hg : ∀ b o, g₀.get? b = some o → s.heap.get? b = some o) (hgL : g₀.objs.size ≤ LC)
    (hd : dp + 20 < recursionLimit) (hu : un + 200 < cLine) (hCk : envC.scope.kind ≠ .module) (hCf : envC.frame = some LC) (hC : s.heap.get? LC = some oC) (hCd : oC.data = .dict es ep)
    (hx : ∀ c ∈ x.cps.toList, c < 128) (hl : x.length ≤ 1048576) (h : ∀ tk s', KeepsS LC s s' → R (.ok (.ret (dueOf x tk))) s') :
    codeAny (model pw w) ⟨none, dp, some [envC], gd, un⟩ (.call (.ref 123) ⟨[.str x t], []⟩) R s := by
  have C₀ := C.keeps hg
  obtain ⟨KX, GL, T⟩ := C₀
  have hobj := KX 123 _ rfl
  refine call_plain (name := S "_law_ascii") (params := fPar 15) (body := fBody 15) (scope := fScope 15) (by show dp < recursionLimit; omega) hobj rfl T.nolimit (codeRec_of KX (cd := .ref 122) rfl) (binds := [(S "label", .str x t)]) (by rfl) (locs (by rfl)) ?_ (by rfl) (by rfl) (by rfl) (by decide +kernel)
  intro h₁ F
  have N : News s.heap s.heap.objs.size h₁ [] := News.nil
  conv in fBody 15 => whnf
  repeat' (fail_if_success (with_reducible show wpAny _ _ (eval (Expr.Call _ _ _ _) _) _ _ _)); (first | walk1 | (dsimp only; walk1))
  try dsimp only
  have V : EnvOk (envOf (S "_law_ascii") (fScope 15) s.heap.objs.size 123 (Value.ref 122)) := envOk_of rfl
  have C₁ : Cx w mean mg mb h₁ := (C.keeps hg).keeps F.keep
  refine fn1 (f := 33) (o := o33_1 w.params) C₁ V (by kernel_rfl) (by kernel_rfl) rfl (by rfl) (by decide +kernel) ?_
  refine loc_name V (by rfl) F.ns (by rfl) (by decide +kernel) ?_
  refine ⟨⟨_, _, rfl, fun _ _ e => e⟩, wpAny_call ?_⟩
  have hLne : LC ≠ s.heap.objs.size := Nat.ne_of_lt (Heap.lt_size hC)
  have hst : (TI.gone s.heap [LC]).StaysIn h₁ := fun b o q => F.keep b o (TI.gone_some q).2
  have hbL : (TI.gone s.heap [LC]).get? LC = none := TI.gone_none (List.mem_singleton.mpr rfl)
  have hbN : (TI.gone s.heap [LC]).get? s.heap.objs.size = none := by
    rw [TI.gone_get (by simpa using Ne.symm hLne)]
    exact Heap.get?_none_of_le (Nat.le_refl _)
  refine c_to (base := TI.gone s.heap [LC]) C₁ (by show dp + 1 + 10 < _; omega) (by show un + 3 + 100 < cLine; omega) hst (Heap.FunFrames.cons (by show (fScope 15).kind ≠ .module; decide +kernel) rfl F.ns hbN ⟨hCk, ⟨LC, oC, hCf, hbL, F.keep _ _ hC, fun vs q => by rw [hCd] at q; cases q⟩, trivial⟩) hx hl ?_ ?_
  · intro h0 h64 tk s' hk
    have e : Value.bytes (octs x) tk = dueOf x tk := by unfold dueOf; rw [if_pos ⟨h0, h64⟩]
    obtain ⟨h', tk', rfl, k⟩ := hk
    dsimp only
    rw [e]
    exact h _ _ (Keeps.toS ⟨_, _, rfl, fun b o q => k b o (F.keep b o q)⟩)
  · intro hne e h' tk hfl hup
    have e0 : Value.none = dueOf x 0 := by unfold dueOf; rw [if_neg hne]
    obtain ⟨f1, f2, f3, f4⟩ := hfl
    dsimp only
    refine note_next (base := TI.gone s.heap [LC]) (outer := [envC]) rfl f3 rfl f4 f1 f2 fun h₂ hL => ?_
    obtain ⟨k1, k2, k3, k4⟩ := hL
    have F₂ : Fr (TI.gone s.heap [LC]) s.heap.objs.size h₂ fun y => List.lookup y [(S "label", Value.str x t)].reverse := by
      obtain ⟨oF, esF, epF, q1, q2, q3⟩ := F.ns
      have hnf : ∀ vs, oF.data ≠ .fields vs := fun vs q => by rw [q2] at q; cases q
      obtain ⟨sl, q1'⟩ := hup _ _ q1 hnf
      obtain ⟨sl', q1''⟩ := k4 _ _ q1' hnf
      exact ⟨⟨_, esF, epF, q1'', q2, q3⟩, k1, by
        show ((TI.gone s.heap []).update LC _).objs.size ≤ _
        rw [Heap.size_after_update]; exact Nat.le_refl _⟩
    have hC₂ : ∃ sl, h₂.get? LC = some { oC with slots := sl } := by
      have hnf : ∀ vs, oC.data ≠ .fields vs := fun vs q => by rw [hCd] at q; cases q
      obtain ⟨sl, q1'⟩ := hup _ _ (F.keep _ _ hC) hnf
      obtain ⟨sl', q1''⟩ := k4 _ _ q1' hnf
      exact ⟨sl', q1''⟩
    have g2 : ∀ b o, g₀.get? b = some o → (TI.gone s.heap [LC]).get? b = some o := fun b o q => by
      rw [TI.gone_get (by
        intro m
        rw [List.mem_singleton.mp m] at q
        exact absurd (Heap.lt_size q) (Nat.not_lt.mpr hgL))]
      exact hg b o q
    have C₂ : Cx w mean mg mb h₂ := (C.keeps g2).keeps k1
    have hT : Shared.TypeIs { heap := h₂, gens := s.gens, drawn := s.drawn, toks := tk, os := s.os } (.ref e) "UnicodeEncodeError" := by
      obtain ⟨oe, vs, T', oT, ts, he, hcls, _⟩ := k3
      exact ⟨oe, he, hcls⟩
    refine wpAny_handleBy_builtin (X := "UnicodeEncodeError") (T := "UnicodeEncodeError") (b := true) uee_isExc (by rw [isSubtype_type]; kernel_rfl) uee_new.sub ?_
    refine Cx.built C₂ V (by kernel_rfl) (v := .type "UnicodeEncodeError") (by kernel_rfl) (by decide +kernel) (by rfl) (by decide +kernel) ⟨rfl, hT, ?_⟩
    rw [if_pos rfl]
    refine land_traced k3 fun h₃ q1 q2 => ?_
    have fin : KeepsS LC s { s with heap := h₃, toks := tk } := by
      refine ⟨h₃, tk, rfl, fun b o q hne => q1 b o ?_ ?_, fun o q => ?_⟩
      · rw [TI.gone_get (by simpa using hne)]; exact q
      · exact k1 b o (by rw [TI.gone_get (by simpa using hne)]; exact q)
      · obtain ⟨sl, q'⟩ := hC₂
        rw [hC] at q
        injection q with q
        subst q
        exact ⟨sl, q2 _ _ q' fun vs q => by rw [show ({ oC with slots := sl } : Obj).data = oC.data from rfl, hCd] at q; cases q⟩
    repeat' (first | walk1 | (dsimp only; walk1))
    all_goals try dsimp only
    rw [e0]
    exact h _ _ fin
end
end Mine
end
section
open PySem PySem.W PyProof.Rows PyProof.Rows.LCp PyProof.Rows.LCg
set_option maxRecDepth 100000
namespace Mine
section
variable {w : World} {A : Around} {E : Value → Shared → Prop} {s : Shared} {env : Env}
/-- a comprehension comes down to its loop -/
theorem compG {elt target iter : PySem.Expr} {ifs : List PySem.Expr} {rest : List Comprehension} {scope : Scope} {cl : List (Str × Addr)} {pos : Pos} {Q : Value → Shared → Prop}
    (hclos : closureFor scope env = pure cl) (hcell : ∀ y ∈ scope.names, y.2 ≠ .cell) (hkind : scope.kind = .function)
    (hnames : ∀ y ∈ scope.names, y.2 = .local → scope.names.lookup y.1 = some .local)
    (h : wpAny (model pw w) A (eval iter env) (fun xv s₁ => wpAny (model pw w) A (pyIter xv) (fun it s₂ =>
      (∀ (s' : Shared) (Q' : Value → Shared → Prop) (E' : Value → Shared → Prop), (∀ b o, s₂.heap.get? b = some o → s'.heap.get? b = some o) → Q' it s' → wpAny (model pw w) A (pyIter it) Q' E' s') ∧
      ∀ D C m (s₄ : Shared), Keeps s₂ s₄ → s₂.heap.get? D = none → s₂.heap.get? C = none → D ≠ C → s₄.heap.PlainList D #[] → s₄.heap.Ns C m →
        codeAny (model pw w) A (.compLoop (.ListComp elt (⟨target, iter, ifs, 0⟩ :: rest) scope pos) 0 it (.ref D) (compEnvC scope cl C env))
          (fun r s' => r = .ok .next ∧ ∃ m, s'.heap.Ns C m ∧ ∀ h', Heap.SameBut C s'.heap h' → Q (.ref D) { s' with heap := h' }) s₄) E s₁) E s)
    (hs : ∀ x, foldedSetIterable iter env x = pure x := by intro _; rfl) :
    wpAny (model pw w) A (eval (.ListComp elt (⟨target, iter, ifs, 0⟩ :: rest) scope pos) env) Q E s := by
  rw [eval_ListComp]
  refine wpAny_comprehension_free (use := none) rfl hs hclos hkind hnames (wpAny_mono h (fun xv s₁ h₁ => wpAny_mono h₁ (fun it s₂ h₂ => ?_) fun _ _ e => e) fun _ _ e => e)
  obtain ⟨hself, h₂⟩ := h₂
  refine wpAny_newObj_type (wpAny_newFunctionEnv hcell (by intro y hy; simp at hy) (fun h₁ hns₁ hsb₁ => ?_) hkind)
  dsimp only at hns₁ hsb₁ ⊢
  generalize hH2 : s₂.heap.push { cls := .type "list", dict := none, data := .seq ([] : List Value).toArray } = H2 at hns₁ hsb₁ ⊢
  have hC : H2.objs.size = s₂.heap.objs.size + 1 := by rw [← hH2, Heap.size_push]
  have hDC : s₂.heap.objs.size ≠ H2.objs.size := by rw [hC]; exact Nat.ne_of_lt (Nat.lt_succ_self _)
  have below : ∀ b, b < s₂.heap.objs.size → b ≠ H2.objs.size ∧ b ≠ s₂.heap.objs.size := fun b hb => ⟨by rw [hC]; exact Nat.ne_of_lt (Nat.lt_succ_of_lt hb), Nat.ne_of_lt hb⟩
  have old : ∀ b o, s₂.heap.get? b = some o → h₁.get? b = some o := fun b o e => hsb₁.extBut b o (below b (Heap.lt_size e)).1 (Heap.get?_push_of_some _ (hH2 ▸ Heap.get?_push_of_some _ e))
  have hacc : h₁.PlainList s₂.heap.objs.size #[] := ⟨_, hsb₁.extBut _ _ hDC (Heap.get?_push_of_some _ (hH2 ▸ Heap.get?_push_size _ rfl))⟩
  have loop : ∀ s₃ : Shared, s₃ = { s₂ with heap := h₁, toks := s₂.toks + ([] : List (Str × Value)).length } →
      codeAny (model pw w) A (.compLoop (.ListComp elt (⟨target, iter, ifs, 0⟩ :: rest) scope pos) 0 it (.ref s₂.heap.objs.size) (compEnvC scope cl H2.objs.size env)) (compPost (model pw w) A E none Q (.ref s₂.heap.objs.size) H2.objs.size) s₃ := by
    rintro s₃ rfl
    refine codeAny_mono (h₂ s₂.heap.objs.size H2.objs.size _ _ ⟨h₁, _, rfl, old⟩ (Heap.get?_none_of_le (Nat.le_refl _)) (Heap.get?_none_of_le (by omega)) hDC hacc hns₁) fun r s' hr => ?_
    obtain ⟨rfl, hr⟩ := hr
    exact hr
  exact codeAny_compStart_list (loop _ rfl) (hself _ _ _ old (loop _ rfl))
/-- the results of a loop's turns: objects of their own -/
def OwnG (G : List Addr → Heap → Nat → Value → Prop) : Prop := ∀ fp h h' i y, (∀ b ∈ fp, ∀ o, h.get? b = some o → h'.get? b = some o) → G fp h i y → G fp h' i y
/-- a list comprehension over a list of pairs, its results objects -/
theorem comp_pair {elt iter : PySem.Expr} {x x₂ : Str} {px px₂ tp : Pos} {kk : Nat} {scope : Scope} {cl : List (Str × Addr)} {pos : Pos} {Q : Value → Shared → Prop} {items : Array Value} {l : Addr} (hl : s.heap.IsList l items) (P : Nat → Value → Value → Prop) {G : List Addr → Heap → Nat → Value → Prop} (hG : OwnG G)
    (hh : A.handled = none) (hclos : closureFor scope env = pure cl) (hcell : ∀ y ∈ scope.names, y.2 ≠ .cell) (hkind : scope.kind = .function)
    (hnames : ∀ y ∈ scope.names, y.2 = .local → scope.names.lookup y.1 = some .local) (hx : scope.names.lookup x = some .local) (hx₂ : scope.names.lookup x₂ = some .local) (hxx : x ≠ x₂) (hlen : items.size ≤ sizeLine)
    (hiter : wpAny (model pw w) A (eval iter env) (fun v s₁ => v = .ref l ∧ Keeps s s₁) E s)
    (hitems : ∀ i v, items[i]? = some v → ∃ t a b, v = .ref t ∧ s.heap.IsTuple t #[a, b] ∧ P i a b)
    (helt : ∀ C i a b s₃ m₃ E', P i a b → (∀ b o, s.heap.get? b = some o → s₃.heap.get? b = some o) → s₃.heap.Ns C m₃ → m₃ x = some a → m₃ x₂ = some b →
      wpAny (model pw w) A (eval elt (compEnvC scope cl C env)) (fun y s₄ => (∃ fp, (∀ b ∈ fp, s₃.heap.get? b = none) ∧ G fp s₄.heap i y) ∧ Keeps s₃ s₄) E' s₃)
    (hQ : ∀ D h' tk ys, s.heap.get? D = none → h'.PlainList D ys → ys.size = items.size → (∀ j y, ys[j]? = some y → ∃ fp, G fp h' j y) →
      (∀ b o, s.heap.get? b = some o → h'.get? b = some o) → Q (.ref D) { s with heap := h', toks := tk })
    (hs : ∀ x, foldedSetIterable iter env x = pure x := by intro _; rfl) :
    wpAny (model pw w) A (eval (.ListComp elt [⟨.Tuple [.Name x px, .Name x₂ px₂] kk tp, iter, [], 0⟩] scope pos) env) Q E s := by
  refine compG hclos hcell hkind hnames (wpAny_mono hiter (fun v s₁ h₁ => ?_) fun _ _ e => e) hs
  obtain ⟨rfl, h₁, tk₁, rfl, k₁⟩ := h₁
  have hl₁ : h₁.IsList l items := hl.at fun o e => k₁ _ o e
  refine wpAny_pyIter_list hl₁ ?_
  have hlo : ∃ o, s.heap.get? l = some o := by obtain ⟨o, ho, _⟩ := hl; exact ⟨o, ho⟩
  have hne : l ≠ h₁.objs.size := by
    obtain ⟨o, ho⟩ := hlo
    exact Nat.ne_of_lt (Heap.lt_size (k₁ _ _ ho))
  have hIn : s.heap.get? h₁.objs.size = none := by
    cases e : s.heap.get? h₁.objs.size with
    | none => rfl
    | some o => exact absurd (Heap.lt_size (k₁ _ _ e)) (Nat.lt_irrefl _)
  have W := Walks.list (prog := pw) (w := w) (A := A) hh h₁.objs.size l hne items
  have st0 : (h₁.push { cls := .type "list_iterator", data := .fields #[.ref l, .int 0 0] }).IsListIter h₁.objs.size l 0 ∧ (h₁.push { cls := .type "list_iterator", data := .fields #[.ref l, .int 0 0] }).IsList l items :=
    ⟨⟨_, Heap.get?_push_size _ rfl, rfl, rfl⟩, hl₁.at fun o e => Heap.get?_push_of_some _ e⟩
  have k₂ : ∀ b o, s.heap.get? b = some o → (h₁.push { cls := .type "list_iterator", data := .fields #[.ref l, .int 0 0] }).get? b = some o := fun b o e => Heap.get?_push_of_some _ (k₁ b o e)
  generalize hH : h₁.push { cls := .type "list_iterator", data := .fields #[.ref l, .int 0 0] } = H at st0 k₂ ⊢
  generalize hI : h₁.objs.size = I at *
  clear hH
  refine ⟨fun s' Q' E' hk hq => W.self 0 _ _ _ (W.frame _ _ _ st0 fun b _ o e => hk b o e) hq, fun D C m s₄ hk₄ hD hC hDC hpl hns => ?_⟩
  obtain ⟨h₄, tk₄, rfl, k₄⟩ := hk₄
  dsimp only at hD hC k₄ hpl hns
  have gone : ∀ b, H.get? b = none → s.heap.get? b = none := fun b e => by
    cases e' : s.heap.get? b with
    | none => rfl
    | some o => rw [k₂ b o e'] at e; cases e
  have sD := gone D hD
  have sC := gone C hC
  have hCI : C ≠ I := fun q => by
    obtain ⟨o, ho, _⟩ := st0.1
    rw [← q, hC] at ho; cases ho
  have hDI : D ≠ I := fun q => by
    obtain ⟨o, ho, _⟩ := st0.1
    rw [← q, hD] at ho; cases ho
  have hCl : C ≠ l := fun q => by
    obtain ⟨o, ho⟩ := hlo
    rw [← q, sC] at ho; cases ho
  have hDl : D ≠ l := fun q => by
    obtain ⟨o, ho⟩ := hlo
    rw [← q, sD] at ho; cases ho
  have ne3 : ∀ b o, s.heap.get? b = some o → b ≠ C ∧ b ≠ D ∧ b ≠ I := fun b o e =>
    ⟨(fun q => by rw [q, sC] at e; cases e), (fun q => by rw [q, sD] at e; cases e), (fun q => by rw [q, hIn] at e; cases e)⟩
  refine codeAny_compLoop_pair
    (fun k s' => ∃ h' tk ys m', s' = { s with heap := h', toks := tk } ∧ ys.size ≤ items.size ∧ k = items.size + 1 - ys.size ∧ (h'.IsListIter I l ys.size ∧ h'.IsList l items) ∧ h'.PlainList D ys ∧ h'.Ns C m' ∧
      (∀ b o, s.heap.get? b = some o → h'.get? b = some o) ∧ ∀ j y, ys[j]? = some y → ∃ fp, (∀ b ∈ fp, b ≠ I ∧ b ≠ C ∧ b ≠ D) ∧ G fp h' j y) ?_ (items.size + 1)
    ⟨h₄, tk₄, #[], m, rfl, Nat.zero_le _, rfl, W.frame _ _ _ st0 (fun b _ o e => k₄ b o e), hpl, hns, fun b o e => k₄ b o (k₂ b o e), fun j y e => by simp at e⟩
  rintro k s' ⟨h', tk, ys, m', rfl, hi, rfl, hst', hpl', hn', hk', hys⟩
  by_cases hlt : ys.size < items.size
  · refine W.item ys.size _ _ _ hlt hst' fun v h₅ tk₅ hPv hst₅ hk₅ => ?_
    obtain ⟨t, a, b, rfl, ht, hP⟩ := hitems _ _ hPv
    have up₅ : ∀ b o, b ≠ I → h'.get? b = some o → h₅.get? b = some o := fun b o hb e => hk₅ b o (by simpa using hb) e
    have ht₅ : h₅.IsTuple t #[a, b] := by
      obtain ⟨o, ho, r⟩ := ht
      exact ⟨o, up₅ _ _ (ne3 _ _ ho).2.2 (hk' _ _ ho), r⟩
    refine wpAny_letOwnedTupleGo_listiter hst₅.1 ?_
    refine kcp_assign (m := m') hh ht₅ (lookup_relabel_local hx) (lookup_relabel_local hx₂) (by simp [compEnvC, relabel, hkind]) (hn'.at' fun o e => up₅ _ o hCI e) fun h₆ tk₆ hn₆ hk₆ => ?_
    replace hk₆ : ∀ c o, c ≠ C → h₅.get? c = some o → h₆.get? c = some o := hk₆
    have up₆ : ∀ b o, s.heap.get? b = some o → h₆.get? b = some o := fun b o e => hk₆ b o (ne3 b o e).1 (up₅ b o (ne3 b o e).2.2 (hk' b o e))
    have hst₆ : h₆.IsListIter I l (ys.size + 1) ∧ h₆.IsList l items := W.frame _ _ _ hst₅ fun b hb o e => hk₆ b o (fun q => by
      rcases List.mem_cons.mp hb with e' | hb
      · exact hCI (q.symm.trans e')
      · exact hCl (q.symm.trans (List.mem_singleton.mp hb))) e
    have hpl₆ : h₆.PlainList D ys := hpl'.at fun o e => hk₆ _ o hDC (up₅ _ o hDI e)
    refine wpAny_mono (helt C ys.size a b _ _ _ hP up₆ hn₆ (by simp [hxx]) (by simp)) (fun y s₇ h₇ => ?_) fun _ _ e => e
    obtain ⟨⟨fp, hfp, hGy⟩, h₇, tk₇, rfl, k₇⟩ := h₇
    dsimp only at hfp hGy k₇
    refine wpAny_list_append_plain (hsz := by omega) (hpl₆.at fun o e => k₇ _ o e) fun h₈ hl₈ hs₈ => ?_
    have up₈ : ∀ b o, b ≠ D → h₆.get? b = some o → h₈.get? b = some o := fun b o hb e => hs₈.extBut b o hb (k₇ b o e)
    have there : ∀ b, h₆.get? b = none → b ≠ I ∧ b ≠ C ∧ b ≠ D := by
      intro b hb
      refine ⟨fun q => ?_, fun q => ?_, fun q => ?_⟩
      · obtain ⟨o, ho, _⟩ := hst₆.1
        rw [← q, hb] at ho; cases ho
      · obtain ⟨o, _, _, ho, _⟩ := hn₆
        rw [← show b = (compEnvC scope cl C env).locals from q, hb] at ho; cases ho
      · obtain ⟨n, ho⟩ := hpl₆
        rw [← q, hb] at ho; cases ho
    refine ⟨items.size + 1 - (ys.size + 1), by omega, h₈, tk₇, ys.push y, _, rfl, by rw [Array.size_push]; omega, by rw [Array.size_push], ?_, hl₈, (hn₆.keeps k₇).sameBut hs₈ (Ne.symm hDC), fun b o e => up₈ b o (ne3 b o e).2.1 (up₆ b o e), fun j y' e => ?_⟩
    · rw [Array.size_push]
      exact W.frame _ _ _ hst₆ fun b hb o e => up₈ b o (fun q => by
        rcases List.mem_cons.mp hb with e' | hb
        · exact hDI (q.symm.trans e')
        · exact hDl (q.symm.trans (List.mem_singleton.mp hb))) e
    · rcases Nat.lt_or_ge j ys.size with hj | hj
      · rw [Array.getElem?_push_lt hj] at e
        obtain ⟨fp', hfp', hG'⟩ := hys j y' (by rw [Array.getElem?_eq_getElem hj]; exact e)
        exact ⟨fp', hfp', hG _ _ _ _ _ (fun b hb o e => up₈ b o (hfp' b hb).2.2 (hk₆ b o (hfp' b hb).2.1 (up₅ b o (hfp' b hb).1 e))) hG'⟩
      · have hj' : j < (ys.push y).size := (Array.getElem?_eq_some_iff.mp e).1
        rw [Array.size_push] at hj'
        obtain rfl : j = ys.size := by omega
        rw [Array.getElem?_push_size] at e
        injection e with e
        subst e
        exact ⟨fp, fun b hb => there b (hfp b hb), hG _ _ _ _ _ (fun b hb o e => hs₈.extBut b o (there b (hfp b hb)).2.2 e) hGy⟩
  · have hin : ys.size = items.size := by omega
    refine W.done _ _ _ (hin ▸ hst') fun h₅ tk₅ hk₅ => ?_
    have up₅ : ∀ b o, b ≠ I → h'.get? b = some o → h₅.get? b = some o := fun b o hb e => hk₅ b o (by simpa using hb) e
    refine ⟨rfl, m', hn'.at' fun o e => up₅ _ o hCI e, fun h₆ hs₆ => hQ D h₆ tk₅ ys sD ((hpl'.at fun o e => up₅ _ o hDI e).at fun o e => hs₆.extBut _ o hDC e) hin (fun j y e => ?_) fun b o e => hs₆.extBut b o (ne3 b o e).1 (up₅ b o (ne3 b o e).2.2 (hk' b o e))⟩
    obtain ⟨fp, hfp, hG'⟩ := hys j y e
    exact ⟨fp, hG _ _ _ _ _ (fun b hb o e => hs₆.extBut b o (hfp b hb).2.1 (up₅ b o (hfp b hb).1 e)) hG'⟩
end
end Mine
end
section
open PySem PySem.W PyProof.Rows
set_option maxRecDepth 100000
namespace Mine
noncomputable section
def wt1 : Str := Str.ofString "ss"
def wt2 : Str := Str.ofString "s"
def wt3 : Str := Str.ofString "rs"
def wt4 : Str := Str.ofString "ff fi fl ffi ffl st st"
def wt5 : Str := Str.ofString "c - - - - - - - - h h h - - i i l - - n no - - p q r r r - - sm tel tm - z - - - z - k - b c - - e f - m - - - - - - - - - - - - - - - - - d"
def wt6 : Str := Str.ofString "hpa - au - ov - - - - - - - - - - pa na - ma ka kb mb gb - - pf nf - - - - hz khz mhz ghz thz - - - - - - - - - - - - - - - - - - - - pa kpa mpa gpa - - - - - - - pv nv - mv kv mv pw nw - mw kw mw - - - bq - - - co. db gy - hp - kk km - - - - - - - - ph - ppm pr - sv wb"
open PySem.Builtin PySem.Builtin.Str in
theorem call_split {w : World} {A : Around} {E : Value → Shared → Prop} {s : Shared} {x : Str} {t : Tok} {Q : Value → Shared → Prop} (hsz : x.length + 2 ≤ sizeLine)
    (h : ∀ vs k, StrsAre vs (Txt.words x) → Q (.ref s.heap.objs.size) { s with heap := s.heap.push { cls := .type "list", data := .seq vs.toArray }, toks := k }) :
    wpAny (model pw w) A (call (.builtin "str.split") [.str x t]) Q E s := by
  have hn : (spaceWords x (x.length + 1)).length ≤ sizeLine := by
    have e1 := (StrLaws.sw_weight x).1
    have e2 := StrLaws.len_le_wsum (spaceWords x (x.length + 1))
    omega
  refine call_meets F.slot_str_split (typeIs_str _ _ _) F.entry_str_split (F.args_str_split_1 _) (meets_str_split_space x t (by omega) hn) ?_
  have key : ∀ l : List (Str × Tok), l.map (·.1) = Txt.words x → StrsAre (strValues l) (Txt.words x) := fun l e => by
    rw [← e]; exact strsAre_of_values l
  cases hw : spaceWords x (x.length + 1) == [(0, x.length)]
  · simp only [Bool.false_eq_true, if_false]
    rw [strsFrom_eq]
    exact h _ _ (key (numbered s.toks (PySem.wordsOf x)) ((numbered_texts _ _).trans (if_neg (ne_true_of_eq_false hw)).symm))
  · simp only [if_true]
    exact h _ s.toks (key [(x, t)] (if_pos hw).symm)
def rowTexts : List (Nat × Str) := [(223, wt1), (383, wt2), (8360, wt3), (64256, wt4), (8450, wt5), (13169, wt6)]
/-- one row of the law's: a pair of a number and a list of words -/
def RowG (L : List (Nat × Str)) (fp : List Addr) (h : Heap) (i : Nat) (v : Value) : Prop :=
  ∃ t l p tk vs, v = .ref t ∧ fp = [t, l] ∧ L[i]? = some p ∧ h.IsTuple t #[.int (p.1 : Int) tk, .ref l] ∧ h.PlainList l vs ∧ StrsAre vs.toList (Txt.words p.2)
theorem rowG_own (L : List (Nat × Str)) : OwnG (RowG L) := by
  rintro fp h h' i y k ⟨t, l, p, tk, vs, rfl, rfl, hp, ⟨o, ho, r⟩, hl, hs⟩
  exact ⟨t, l, p, tk, vs, rfl, rfl, hp, ⟨o, k t (by simp) _ ho, r⟩, hl.at fun o e => k l (by simp) o e, hs⟩
/-- the law's rows, as a list -/
def RowsAre (L : List (Nat × Str)) (h : Heap) (D : Addr) : Prop := ∃ ys, h.PlainList D ys ∧ ys.size = L.length ∧ ∀ j y, ys[j]? = some y → ∃ fp, RowG L fp h j y
theorem RowsAre.keeps {L : List (Nat × Str)} {h h' : Heap} {D : Addr} (x : RowsAre L h D) (k : ∀ b o, h.get? b = some o → h'.get? b = some o) : RowsAre L h' D := by
  obtain ⟨ys, h1, h2, h3⟩ := x
  exact ⟨ys, h1.at fun o e => k _ o e, h2, fun j y e => let ⟨fp, g⟩ := h3 j y e; ⟨fp, rowG_own L _ _ _ _ _ (fun b _ o e => k b o e) g⟩⟩
set_option maxHeartbeats 4000000 in
theorem c_rows {w : World} {mean : ExcName → Option Value} {mg mb : Str → Option Value} {dp un : Nat} {fr : Option (List Env)} {gd : Option (List Code)} {s : Shared} {R : Result → Shared → Prop} (C : Cx w mean mg mb s.heap) (hd : dp + 10 < recursionLimit) (hu : un + 100 < cLine)
    (h : ∀ D s', RowsAre rowTexts s'.heap D → Keeps s s' → R (.ok (.ret (.ref D))) s') :
    codeAny (model pw w) ⟨none, dp, fr, gd, un⟩ (.call (.ref 102) ⟨[], []⟩) R s := by
  obtain ⟨KX, GL, T⟩ := C
  have hobj := KX 102 _ rfl
  refine call_plain (name := S "_law_rows") (params := fPar 12) (body := fBody 12) (scope := fScope 12) (by show dp < recursionLimit; omega) hobj rfl T.nolimit (codeRec_of KX (cd := .ref 101) rfl) (binds := []) (by rfl) (locs (by rfl)) ?_ (by rfl) (by rfl) (by rfl) (by decide +kernel)
  intro h₁ F
  have N : News s.heap s.heap.objs.size h₁ [] := News.nil
  conv in fBody 12 => whnf
  have hl1 : (Str.ofString "ss").length ≤ 1000 := by decide +kernel
  have hl2 : (Str.ofString "s").length ≤ 1000 := by decide +kernel
  have hl3 : (Str.ofString "rs").length ≤ 1000 := by decide +kernel
  have hl4 : (Str.ofString "ff fi fl ffi ffl st st").length ≤ 1000 := by decide +kernel
  have hl5 : (Str.ofString "c - - - - - - - - h h h - - i i l - - n no - - p q r r r - - sm tel tm - z - - - z - k - b c - - e f - m - - - - - - - - - - - - - - - - - d").length ≤ 1000 := by decide +kernel
  have hl6 : (Str.ofString "hpa - au - ov - - - - - - - - - - pa na - ma ka kb mb gb - - pf nf - - - - hz khz mhz ghz thz - - - - - - - - - - - - - - - - - - - - pa kpa mpa gpa - - - - - - - pv nv - mv kv mv pw nw - mw kw mw - - - bq - - - co. db gy - hp - kk km - - - - - - - - ph - ppm pr - sv wb").length ≤ 1000 := by decide +kernel
  generalize hW1 : Str.ofString "ss" = W1 at hl1 ⊢
  generalize hW2 : Str.ofString "s" = W2 at hl2 ⊢
  generalize hW3 : Str.ofString "rs" = W3 at hl3 ⊢
  generalize hW4 : Str.ofString "ff fi fl ffi ffl st st" = W4 at hl4 ⊢
  generalize hW5 : Str.ofString "c - - - - - - - - h h h - - i i l - - n no - - p q r r r - - sm tel tm - z - - - z - k - b c - - e f - m - - - - - - - - - - - - - - - - - d" = W5 at hl5 ⊢
  generalize hW6 : Str.ofString "hpa - au - ov - - - - - - - - - - pa na - ma ka kb mb gb - - pf nf - - - - hz khz mhz ghz thz - - - - - - - - - - - - - - - - - - - - pa kpa mpa gpa - - - - - - - pv nv - mv kv mv pw nw - mw kw mw - - - bq - - - co. db gy - hp - kk km - - - - - - - - ph - ppm pr - sv wb" = W6 at hl6 ⊢
  repeat' (fail_if_success (with_reducible show wpAny _ _ (eval (Expr.ListComp _ _ _ _) _) _ _ _)); (first | walk1 | (dsimp only; walk1))
  all_goals try dsimp only
  rename News s.heap _ _ _ => N'
  rename Fr s.heap _ _ _ => F'
  have hT : rowTexts = [(223, W1), (383, W2), (8360, W3), (64256, W4), (8450, W5), (13169, W6)] := by subst hW1 hW2 hW3 hW4 hW5 hW6; rfl
  clear hW1 hW2 hW3 hW4 hW5 hW6
  have V : EnvOk (envOf (S "_law_rows") (fScope 12) s.heap.objs.size 102 (Value.ref 101)) := envOk_of rfl
  have n0 := (N' _ (List.mem_cons_self ..)).1
  have n1 := (N' _ (List.mem_cons_of_mem _ (List.mem_cons_self ..))).1
  have n2 := (N' _ (List.mem_cons_of_mem _ (List.mem_cons_of_mem _ (List.mem_cons_self ..)))).1
  have n3 := (N' _ (List.mem_cons_of_mem _ (List.mem_cons_of_mem _ (List.mem_cons_of_mem _ (List.mem_cons_self ..))))).1
  have n4 := (N' _ (List.mem_cons_of_mem _ (List.mem_cons_of_mem _ (List.mem_cons_of_mem _ (List.mem_cons_of_mem _ (List.mem_cons_self ..)))))).1
  have n5 := (N' _ (List.mem_cons_of_mem _ (List.mem_cons_of_mem _ (List.mem_cons_of_mem _ (List.mem_cons_of_mem _ (List.mem_cons_of_mem _ (List.mem_cons_self ..))))))).1
  have n6 := (N' _ (List.mem_cons_of_mem _ (List.mem_cons_of_mem _ (List.mem_cons_of_mem _ (List.mem_cons_of_mem _ (List.mem_cons_of_mem _ (List.mem_cons_of_mem _ (List.mem_cons_self ..)))))))).1
  dsimp only at n0 n1 n2 n3 n4 n5 n6
  have nl : Heap.IsList _ _ _ := ⟨_, n2, rfl, _, rfl⟩
  refine comp_pair (cl := []) nl (fun i a b => ∃ p tk tk', rowTexts[i]? = some p ∧ p.2.length ≤ 1000 ∧ a = .int (p.1 : Int) tk ∧ b = .str p.2 tk') (rowG_own rowTexts) rfl (by rfl) (by decide +kernel) rfl (by decide +kernel) (by rfl) (by rfl) (by decide +kernel) ?_ ?_ ?_ ?_ ?_
  rotate_left
  · refine loc_name V (by rfl) F'.ns (by rfl) (by decide +kernel) ?_
    exact ⟨rfl, Keeps.refl _⟩
  · intro i v hv
    have hi := (Array.getElem?_eq_some_iff.mp hv).1
    simp only [Array.size_push, List.size_toArray, List.length_cons, List.length_nil] at hi
    rw [hT]
    match i, hi, hv with
    | 0, _, hv => cases hv; exact ⟨_, _, _, rfl, ⟨_, n6, rfl, _, rfl⟩, _, _, _, rfl, hl1, rfl, rfl⟩
    | 1, _, hv => cases hv; exact ⟨_, _, _, rfl, ⟨_, n5, rfl, _, rfl⟩, _, _, _, rfl, hl2, rfl, rfl⟩
    | 2, _, hv => cases hv; exact ⟨_, _, _, rfl, ⟨_, n4, rfl, _, rfl⟩, _, _, _, rfl, hl3, rfl, rfl⟩
    | 3, _, hv => cases hv; exact ⟨_, _, _, rfl, ⟨_, n3, rfl, _, rfl⟩, _, _, _, rfl, hl4, rfl, rfl⟩
    | 4, _, hv => cases hv; exact ⟨_, _, _, rfl, ⟨_, n1, rfl, _, rfl⟩, _, _, _, rfl, hl5, rfl, rfl⟩
    | 5, _, hv => cases hv; exact ⟨_, _, _, rfl, ⟨_, n0, rfl, _, rfl⟩, _, _, _, rfl, hl6, rfl, rfl⟩
  · rintro Ca i a b s₃ m₃ E' ⟨p, tk, tk', hp, hpl, rfl, rfl⟩ hk hn hm hm'
    refine Tuple_ ?_
    refine args_cons (loc_name (envOk_comp V rfl) (by rfl) hn hm (by decide +kernel) ?_) rfl
    refine args_cons ?_ rfl
    refine MethodCall_ ?_ rfl
    refine loc_name (envOk_comp V rfl) (by rfl) hn hm' (by decide +kernel) ?_
    refine getMethod_builtin (typeIs_str _ _ _) PySem.F.plainAttrs_str PySem.F.slot_str_split PySem.F.type_str_split (fun a e => by cases e) ?_
    walk1
    dsimp only
    refine call_split (by rw [sizeLine_eq]; omega) fun vs k hvs => ?_
    refine args_nil ?_
    refine wpAny_newTuple ?_ (by show 2 ≤ _; rw [sizeLine_eq]; omega)
    have e1 : (s₃.heap.push { cls := .type "list", data := .seq vs.toArray }).get? s₃.heap.objs.size = some { cls := .type "list", data := .seq vs.toArray } := Heap.get?_push_size _ rfl
    refine ⟨⟨[s₃.heap.objs.size + 1, s₃.heap.objs.size], ?_, s₃.heap.objs.size + 1, s₃.heap.objs.size, p, tk, vs.toArray, ?_, rfl, hp, ⟨{ cls := .type "tuple", data := .seq [Value.int (p.1 : Int) tk, .ref s₃.heap.objs.size].toArray }, ?_, rfl, _, rfl⟩, ⟨_, Heap.get?_push_of_some _ e1⟩, by simpa using hvs⟩, ⟨_, _, rfl, fun b o e => Heap.get?_push_of_some _ (Heap.get?_push_of_some _ e)⟩⟩
    · intro b hb
      rcases List.mem_cons.mp hb with rfl | hb
      · exact Heap.get?_none_of_le (Nat.le_succ _)
      · rw [List.mem_singleton.mp hb]; exact Heap.get?_none_of_le (Nat.le_refl _)
    · dsimp only
      rw [Heap.size_push]
    · exact Heap.get?_push_at (by dsimp only; rw [Heap.size_push]) rfl
  · intro D h' tk ys hD hpl hsz hys hk
    refine h D _ ⟨ys, hpl, hsz, hys⟩ ⟨_, _, rfl, fun b o e => hk b o (F'.keep b o e)⟩
  · show 6 ≤ _
    rw [sizeLine_eq]; omega
end
end Mine
end
section
open PySem PySem.W PyProof.Rows
set_option maxRecDepth 100000
namespace Mine
noncomputable section
def rowWords : List (Nat × List Str) := [(223, [S "ss"]), (383, [S "s"]), (8360, [S "rs"]), (64256, [S "ff", S "fi", S "fl", S "ffi", S "ffl", S "st", S "st"]), (8450, [S "c", S "-", S "-", S "-", S "-", S "-", S "-", S "-", S "-", S "h", S "h", S "h", S "-", S "-", S "i", S "i", S "l", S "-", S "-", S "n", S "no", S "-", S "-", S "p", S "q", S "r", S "r", S "r", S "-", S "-", S "sm", S "tel", S "tm", S "-", S "z", S "-", S "-", S "-", S "z", S "-", S "k", S "-", S "b", S "c", S "-", S "-", S "e", S "f", S "-", S "m", S "-", S "-", S "-", S "-", S "-", S "-", S "-", S "-", S "-", S "-", S "-", S "-", S "-", S "-", S "-", S "-", S "-", S "d"]), (13169, [S "hpa", S "-", S "au", S "-", S "ov", S "-", S "-", S "-", S "-", S "-", S "-", S "-", S "-", S "-", S "-", S "pa", S "na", S "-", S "ma", S "ka", S "kb", S "mb", S "gb", S "-", S "-", S "pf", S "nf", S "-", S "-", S "-", S "-", S "hz", S "khz", S "mhz", S "ghz", S "thz", S "-", S "-", S "-", S "-", S "-", S "-", S "-", S "-", S "-", S "-", S "-", S "-", S "-", S "-", S "-", S "-", S "-", S "-", S "-", S "-", S "pa", S "kpa", S "mpa", S "gpa", S "-", S "-", S "-", S "-", S "-", S "-", S "-", S "pv", S "nv", S "-", S "mv", S "kv", S "mv", S "pw", S "nw", S "-", S "mw", S "kw", S "mw", S "-", S "-", S "-", S "bq", S "-", S "-", S "-", S "co.", S "db", S "gy", S "-", S "hp", S "-", S "kk", S "km", S "-", S "-", S "-", S "-", S "-", S "-", S "-", S "-", S "ph", S "-", S "ppm", S "pr", S "-", S "sv", S "wb"])]
theorem rowWords_1 : Txt.words wt1 = [S "ss"] := by kernel_rfl
theorem rowWords_2 : Txt.words wt2 = [S "s"] := by kernel_rfl
theorem rowWords_3 : Txt.words wt3 = [S "rs"] := by kernel_rfl
theorem rowWords_4 : Txt.words wt4 = [S "ff", S "fi", S "fl", S "ffi", S "ffl", S "st", S "st"] := by kernel_rfl
theorem rowWords_5 : Txt.words wt5 = [S "c", S "-", S "-", S "-", S "-", S "-", S "-", S "-", S "-", S "h", S "h", S "h", S "-", S "-", S "i", S "i", S "l", S "-", S "-", S "n", S "no", S "-", S "-", S "p", S "q", S "r", S "r", S "r", S "-", S "-", S "sm", S "tel", S "tm", S "-", S "z", S "-", S "-", S "-", S "z", S "-", S "k", S "-", S "b", S "c", S "-", S "-", S "e", S "f", S "-", S "m", S "-", S "-", S "-", S "-", S "-", S "-", S "-", S "-", S "-", S "-", S "-", S "-", S "-", S "-", S "-", S "-", S "-", S "d"] := by kernel_rfl
theorem rowWords_6 : Txt.words wt6 = [S "hpa", S "-", S "au", S "-", S "ov", S "-", S "-", S "-", S "-", S "-", S "-", S "-", S "-", S "-", S "-", S "pa", S "na", S "-", S "ma", S "ka", S "kb", S "mb", S "gb", S "-", S "-", S "pf", S "nf", S "-", S "-", S "-", S "-", S "hz", S "khz", S "mhz", S "ghz", S "thz", S "-", S "-", S "-", S "-", S "-", S "-", S "-", S "-", S "-", S "-", S "-", S "-", S "-", S "-", S "-", S "-", S "-", S "-", S "-", S "-", S "pa", S "kpa", S "mpa", S "gpa", S "-", S "-", S "-", S "-", S "-", S "-", S "-", S "pv", S "nv", S "-", S "mv", S "kv", S "mv", S "pw", S "nw", S "-", S "mw", S "kw", S "mw", S "-", S "-", S "-", S "bq", S "-", S "-", S "-", S "co.", S "db", S "gy", S "-", S "hp", S "-", S "kk", S "km", S "-", S "-", S "-", S "-", S "-", S "-", S "-", S "-", S "ph", S "-", S "ppm", S "pr", S "-", S "sv", S "wb"] := by kernel_rfl
theorem rowWords_is : rowTexts.map (fun p => (p.1, Txt.words p.2)) = rowWords := by
  show [(223, Txt.words wt1), (383, Txt.words wt2), (8360, Txt.words wt3), (64256, Txt.words wt4), (8450, Txt.words wt5), (13169, Txt.words wt6)] = rowWords
  rw [rowWords_1, rowWords_2, rowWords_3, rowWords_4, rowWords_5, rowWords_6, rowWords]
theorem rowWords_mem {p : Nat × Str} (h : p ∈ rowTexts) : (p.1, Txt.words p.2) ∈ rowWords := by
  rw [← rowWords_is]
  exact List.mem_map_of_mem h
theorem rowWords_small : rowWords.all (fun p => decide (p.2.length ≤ 1000 ∧ p.1 < 1114112)) = true := by decide +kernel
theorem rows_small : rowTexts.all (fun p => decide ((Txt.words p.2).length ≤ 1000 ∧ p.1 < 1114112)) = true :=
  List.all_eq_true.mpr fun _ h => List.all_eq_true.mp rowWords_small _ (rowWords_mem h)
end
end Mine
end
section
open PySem PySem.W PyProof.Rows
set_option maxRecDepth 100000
namespace Mine
noncomputable section
/-- the law's rows, looked through for a code point -/
def rowsFind : List (Nat × Str) → Nat → Option Str
  | [], _ => none
  | p :: r, n => if p.1 ≤ n ∧ n < p.1 + (Txt.words p.2).length ∧ (Txt.words p.2)[n - p.1]? ≠ some (S "-") then (Txt.words p.2)[n - p.1]? else rowsFind r n
def b1Five : List Int := [173, 847, 6150, 6155, 6156, 6157, 8203, 8204, 8205, 8288, 65279]
def mathOut : List Int := [157, 160, 161, 163, 164, 167, 168, 173, 262, 267, 268, 277, 285, 314, 319, 325, 327, 328, 329, 337]
def sevenOf (n : Nat) : Option Str :=
  if (b1Five.any fun x => x == (n : Int)) = true ∨ (65024 ≤ (n : Int) ∧ (n : Int) ≤ 65039) then some (Str.ofString "")
  else if (n : Int) < 128 then some (if 65 ≤ (n : Int) ∧ (n : Int) ≤ 90 then ⟨#[((n : Int) + 32).toNat]⟩ else ⟨#[(n : Int).toNat]⟩)
  else if 0 ≤ (n : Int) - 119808 ∧ (n : Int) - 119808 < 676 then
    (if 25 < ((n : Int) - 119808).fmod 52 ∨ (mathOut.any fun x => x == (n : Int) - 119808) = true then none else some ⟨#[(97 + ((n : Int) - 119808).fmod 52).toNat]⟩)
  else rowsFind rowTexts n
def valOf (o : Option Str) (t : Tok) : Value := match o with | none => .none | some x => .str x t
def forBody : Option Stmt → List Stmt
  | some (.For _ _ b _ _) => b
  | _ => []
def sevenBody : List Stmt := forBody ((fBody 13)[4]?)
theorem StrsAre.at {vs : List Value} {ws : List Str} (h : StrsAre vs ws) : ∀ (i : Nat) (x : Str), ws[i]? = some x → ∃ t, vs[i]? = some (.str x t) := by
  induction h with
  | nil => intro i x e; simp at e
  | cons y t _ ih =>
    intro i x e
    cases i with
    | zero => simp at e; subst e; exact ⟨t, rfl⟩
    | succ i => simp at e; simpa using ih i x e
theorem StrsAre.len {vs : List Value} {ws : List Str} (h : StrsAre vs ws) : vs.length = ws.length := by
  induction h with
  | nil => rfl
  | cons y t _ ih => simp [ih]
set_option maxHeartbeats 4000000 in
theorem seven_body {w : World} {mean : ExcName → Option Value} {mg mb : Str → Option Value} {dp un : Nat} {fr : Option (List Env)} {gd : Option (List Code)} {s : Shared} {n : Nat} {t tkf : Tok} {D la : Addr} {pv : Value} {f : Nat} {xs : List Value} {ws : List Str} {h₄ : Heap} {tk₄ : Nat} {QQ : Flow → Shared → Prop} {EE : Value → Shared → Prop}
    (C : Cx w mean mg mb s.heap) (hn : n < 1114112) (hw : ws.length ≤ 1000) (hf : f < 1114112)
    (F₄ : Fr s.heap s.heap.objs.size h₄ fun z => if z = Str.ofString "words" then some (Value.ref la) else if z = Str.ofString "first" then some (Value.int (f : Int) tkf) else if z = Str.ofString "place" then some pv else List.lookup z [(S "n", Value.int n t), (S "rows", Value.ref D)].reverse)
    (IL : s.heap.IsList la xs.toArray) (II : StrsAre xs ws)
    (hret : ∀ x tk tk', f ≤ n → n < f + ws.length → ws[n - f]? = some x → x ≠ S "-" → QQ (.ret (.str x tk)) { s with heap := h₄, toks := tk' })
    (hnext : ∀ tk, ¬ (f ≤ n ∧ n < f + ws.length ∧ ws[n - f]? ≠ some (S "-")) → QQ .next { s with heap := h₄, toks := tk }) :
    wpAny (model pw w) (Around.deeper ⟨none, dp, fr, gd, un⟩ (envOf (S "_law_seven") (fScope 13) s.heap.objs.size 109 (Value.ref 108)))
      (execs sevenBody (envOf (S "_law_seven") (fScope 13) s.heap.objs.size 109 (Value.ref 108))) QQ EE { s with heap := h₄, toks := tk₄ } := by
  obtain ⟨KX, GL, T⟩ := C
  have N : News s.heap s.heap.objs.size h₄ [] := News.nil
  have hl₄ : h₄.IsList la xs.toArray := IL.at fun o e => F₄.keep _ o e
  have hlen := StrsAre.len II
  conv in sevenBody => whnf
  repeat' (first | walk1 | (dsimp only; walk1))
  all_goals try dsimp only
  · have e' : ((n : Int) - f).toNat = n - f := by omega
    have e2 : ws[n - f]? = some (ws.getD (n - f) Str.empty) := by
      rw [List.getD_eq_getElem?_getD, List.getElem?_eq_getElem (by omega)]; rfl
    rw [e']
    refine hret _ _ _ (by omega) (by omega) e2 fun q => ?_
    have q' : (ws.getD ((n : Int) - f).toNat Str.empty != Str.ofString "-") = true := by assumption
    rw [e', q] at q'
    exact absurd q' (by decide +kernel)
  · have e' : ((n : Int) - f).toNat = n - f := by omega
    have e2 : ws[n - f]? = some (ws.getD (n - f) Str.empty) := by
      rw [List.getD_eq_getElem?_getD, List.getElem?_eq_getElem (by omega)]; rfl
    refine hnext _ fun q => q.2.2 ?_
    have q' : (ws.getD ((n : Int) - f).toNat Str.empty != Str.ofString "-") = false := by assumption
    rw [e'] at q'
    rw [e2]
    simp only [bne_eq_false_iff_eq] at q'
    rw [q']
  · exact hnext _ (by omega)
  · exact hnext _ (by omega)
set_option maxHeartbeats 4000000 in
theorem seven_for {w : World} {mean : ExcName → Option Value} {mg mb : Str → Option Value} {dp un : Nat} {fr : Option (List Env)} {gd : Option (List Code)} {s : Shared} {n : Nat} {t : Tok} {D : Addr} {pv : Value} {h' : Heap} {tk : Nat} {k : Nat} {p1 p2 p3 p4 p5 : Pos} {Q : Flow → Shared → Prop} {E : Value → Shared → Prop}
    (C : Cx w mean mg mb s.heap) (hd : dp + 10 < recursionLimit) (hu : un + 100 < cLine) (hn : n < 1114112) (hR : RowsAre rowTexts s.heap D)
    (F' : Fr s.heap s.heap.objs.size h' (fun y => if y = Str.ofString "place" then some pv else List.lookup y [(S "n", Value.int n t), (S "rows", Value.ref D)].reverse))
    (h1 : ∀ x tk s', rowsFind rowTexts n = some x → Keeps s s' → Q (.ret (.str x tk)) s') (h0 : ∀ s' , rowsFind rowTexts n = none → Keeps s s' → Q .next s') :
    wpAny (model pw w) (Around.deeper ⟨none, dp, fr, gd, un⟩ (envOf (S "_law_seven") (fScope 13) s.heap.objs.size 109 (Value.ref 108)))
      (exec (Stmt.For (.Tuple [.Name (Str.ofString "first") p1, .Name (Str.ofString "words") p2] k p3) (.Name (Str.ofString "rows") p4) sevenBody [] p5) (envOf (S "_law_seven") (fScope 13) s.heap.objs.size 109 (Value.ref 108)))
      Q E { s with heap := h', toks := tk } := by
  obtain ⟨ys, hD, hsz, hys⟩ := hR
  have V : EnvOk (envOf (S "_law_seven") (fScope 13) s.heap.objs.size 109 (Value.ref 108)) := envOk_of rfl
  refine wpAny_For (loc_name V (by rfl) F'.ns (by rfl) (by decide +kernel) ?_)
  have hD' : h'.IsList D ys := (hD.at fun o e => F'.keep _ o e).isList
  refine wpAny_pyIter_list hD' ?_
  dsimp only
  have hDo : ∃ o, s.heap.get? D = some o := by obtain ⟨_, e⟩ := hD; exact ⟨_, e⟩
  have hne : D ≠ h'.objs.size := by
    obtain ⟨o, ho⟩ := hDo
    exact Nat.ne_of_lt (Heap.lt_size (F'.keep _ _ ho))
  have hIL : s.heap.objs.size ≠ h'.objs.size := Nat.ne_of_lt F'.ns.lt
  have hI0 : ∀ b o, s.heap.get? b = some o → b ≠ h'.objs.size := fun b o e => Nat.ne_of_lt (Heap.lt_size (F'.keep b o e))
  have W := Walks.list (prog := pw) (w := w) (A := Around.deeper ⟨none, dp, fr, gd, un⟩ (envOf (S "_law_seven") (fScope 13) s.heap.objs.size 109 (Value.ref 108))) rfl h'.objs.size D hne ys
  have st0 : (h'.push { cls := .type "list_iterator", data := .fields #[.ref D, .int 0 0] }).IsListIter h'.objs.size D 0 ∧ (h'.push { cls := .type "list_iterator", data := .fields #[.ref D, .int 0 0] }).IsList D ys :=
    ⟨⟨_, Heap.get?_push_size _ rfl, rfl, rfl⟩, hD'.at fun o e => Heap.get?_push_of_some _ e⟩
  have F₀ := F'.pushS { cls := .type "list_iterator", data := .fields #[.ref D, .int 0 0] }
  generalize h'.push { cls := .type "list_iterator", data := .fields #[.ref D, .int 0 0] } = H at st0 F₀ ⊢
  generalize h'.objs.size = I at *
  refine codeAny_forLoop_any (fun k s' => ∃ h₂ tk₂ i m₂, s' = { s with heap := h₂, toks := tk₂ } ∧ i ≤ ys.size ∧ k = ys.size + 1 - i ∧ (h₂.IsListIter I D i ∧ h₂.IsList D ys) ∧ Fr s.heap s.heap.objs.size h₂ m₂ ∧
      (∀ z, z ≠ Str.ofString "first" → z ≠ Str.ofString "words" → m₂ z = if z = Str.ofString "place" then some pv else List.lookup z [(S "n", Value.int n t), (S "rows", Value.ref D)].reverse) ∧ rowsFind (rowTexts.drop i) n = rowsFind rowTexts n) ?_ (ys.size + 1)
    ⟨H, tk, 0, _, rfl, Nat.zero_le _, rfl, st0, F₀, fun _ _ _ => rfl, rfl⟩
  rintro k' s' ⟨h₂, tk₂, i, m₂, rfl, hi, rfl, hst, F₂, hm₂, hfind⟩
  by_cases hlt : i < ys.size
  · refine W.item i _ _ _ hlt hst fun v h₃ tk₃ hPv hst₃ hk₃ => ?_
    obtain ⟨fp, tt, la, p, tkf, vs, rfl, _, hp, ht, hla, hws⟩ := hys _ _ hPv
    have up₃ : ∀ b o, b ≠ I → h₂.get? b = some o → h₃.get? b = some o := fun b o hb e => hk₃ b o (by simpa using hb) e
    have ht₃ : h₃.IsTuple tt #[.int (p.1 : Int) tkf, .ref la] := by
      obtain ⟨o, ho, r⟩ := ht
      exact ⟨o, up₃ _ _ (hI0 _ _ ho) (F₂.keep _ _ ho), r⟩
    refine wpAny_letOwnedTupleGo_listiter hst₃.1 ?_
    refine kcp_assign (m := m₂) rfl ht₃ (by rfl) (by rfl) (by rfl) (F₂.ns.at' fun o e => up₃ _ o hIL e) fun h₄ tk₄ hn₄ hk₄ => ?_
    have e4 : (fun z => if z = Str.ofString "words" then some (Value.ref la) else if z = Str.ofString "first" then some (Value.int (p.1 : Int) tkf) else m₂ z) = fun z => if z = Str.ofString "words" then some (Value.ref la) else if z = Str.ofString "first" then some (Value.int (p.1 : Int) tkf) else if z = Str.ofString "place" then some pv else List.lookup z [(S "n", Value.int n t), (S "rows", Value.ref D)].reverse := by
      funext z
      by_cases q1 : z = Str.ofString "words"
      · rw [if_pos q1, if_pos q1]
      · rw [if_neg q1, if_neg q1]
        by_cases q2 : z = Str.ofString "first"
        · rw [if_pos q2, if_pos q2]
        · rw [if_neg q2, if_neg q2, hm₂ z q2 q1]
    rw [e4] at hn₄
    have F₄ : Fr s.heap s.heap.objs.size h₄ _ := ⟨hn₄, fun b o e => hk₄ b o (Nat.ne_of_lt (Heap.lt_size e)) (up₃ b o (hI0 b o e) (F₂.keep b o e)), Nat.le_refl _⟩
    have hst₄ : h₄.IsListIter I D (i + 1) ∧ h₄.IsList D ys := W.frame _ _ _ hst₃ fun b hb o e => hk₄ b o (fun q => by
      rcases List.mem_cons.mp hb with e' | hb
      · exact hIL (q.symm.trans e')
      · obtain ⟨o', ho'⟩ := hDo
        rw [show b = D from List.mem_singleton.mp hb] at q
        exact Nat.lt_irrefl _ (q ▸ Heap.lt_size ho')) e
    have N : News s.heap s.heap.objs.size h₄ [] := News.nil
    have hl₄ : h₄.IsList la vs := (hla.at fun o e => F₄.keep _ o e).isList
    obtain ⟨wl, hwl⟩ : ∃ wl, wl = Txt.words p.2 := ⟨_, rfl⟩
    have hdrop : rowTexts.drop i = p :: rowTexts.drop (i + 1) := by
      have hi' : i < rowTexts.length := by omega
      rw [List.drop_eq_getElem_cons hi']
      rw [List.getElem?_eq_getElem hi'] at hp
      injection hp with hp
      rw [hp]
    have hbound : (Txt.words p.2).length ≤ 1000 ∧ p.1 < 1114112 := by
      have := List.all_eq_true.mp (rows_small) p (List.mem_of_getElem? hp)
      simpa using this
    have hst4 := hst₄
    refine seven_body (xs := vs.toList) (ws := Txt.words p.2) (f := p.1) (la := la) (tkf := tkf) (t := t) (pv := pv) (D := D) C hn hbound.1 hbound.2 F₄ (by rw [Array.toArray_toList]; exact hla.isList) hws ?_ ?_
    · intro x tk tk' q1 q2 q3 q4
      refine h1 x tk _ ?_ ⟨_, _, rfl, F₄.keep⟩
      rw [← hfind, hdrop]
      show (if _ then _ else _) = _
      rw [if_pos ⟨q1, q2, by rw [q3]; intro q; injection q with q; exact q4 q⟩, q3]
    · intro tk q
      refine ⟨ys.size + 1 - (i + 1), by omega, h₄, tk, i + 1, _, rfl, by omega, rfl, hst4, F₄, fun z z1 z2 => by rw [if_neg z2, if_neg z1], ?_⟩
      rw [← hfind, hdrop]
      show _ = (if _ then _ else _)
      rw [if_neg q]
  · obtain rfl : i = ys.size := by omega
    refine W.done _ _ _ hst fun h₅ tk₅ hk₅ => ?_
    have F₅ : Fr s.heap s.heap.objs.size h₅ m₂ := ⟨F₂.ns.at' fun o e => hk₅ _ o (by simpa using hIL) e, fun b o e => hk₅ b o (by simpa using hI0 b o e) (F₂.keep b o e), F₂.above⟩
    dsimp only
    refine wpAny_execs_nil (h0 _ ?_ ⟨_, _, rfl, F₅.keep⟩)
    rw [← hfind, hsz, List.drop_length]
    rfl
set_option maxHeartbeats 4000000 in
theorem c_seven {w : World} {mean : ExcName → Option Value} {mg mb : Str → Option Value} {dp un : Nat} {fr : Option (List Env)} {gd : Option (List Code)} {s : Shared} {n : Nat} {t : Tok} {D : Addr} {R : Result → Shared → Prop} (C : Cx w mean mg mb s.heap) (hd : dp + 10 < recursionLimit) (hu : un + 100 < cLine)
    (hn : n < 1114112) (hR : RowsAre rowTexts s.heap D)
    (h : ∀ tk s', Keeps s s' → R (.ok (.ret (valOf (sevenOf n) tk))) s') :
    codeAny (model pw w) ⟨none, dp, fr, gd, un⟩ (.call (.ref 109) ⟨[.int n t, .ref D], []⟩) R s := by
  have C₀ := C
  obtain ⟨KX, GL, T⟩ := C
  have hobj := KX 109 _ rfl
  refine call_plain (name := S "_law_seven") (params := fPar 13) (body := fBody 13) (scope := fScope 13) (by show dp < recursionLimit; omega) hobj rfl T.nolimit (codeRec_of KX (cd := .ref 108) rfl) (binds := [(S "n", .int n t), (S "rows", .ref D)]) (by rfl) (locs (by rfl)) ?_ (by rfl) (by rfl) (by rfl) (by decide +kernel)
  intro h₁ F
  have N : News s.heap s.heap.objs.size h₁ [] := News.nil
  conv in fBody 13 => whnf
  repeat' (fail_if_success (with_reducible show wpAny _ _ (exec (Stmt.For _ _ _ _ _) _) _ _ _)); (first | walk1 | (dsimp only; walk1))
  all_goals try dsimp only
  all_goals clear hobj
  · rw [show sevenOf n = some _ from if_pos (Or.inl (by assumption))] at h
    exact h _ _ ⟨_, _, rfl, Fr.keep (by assumption)⟩
  · rw [show sevenOf n = some _ from if_pos (Or.inr ⟨by assumption, by assumption⟩)] at h
    exact h _ _ ⟨_, _, rfl, Fr.keep (by assumption)⟩
  all_goals
    have e0 : ¬ ((b1Five.any fun x => x == (n : Int)) = true ∨ (65024 ≤ (n : Int) ∧ (n : Int) ≤ 65039)) := by
      have q : (b1Five.any fun x => x == (n : Int)) = false := by assumption
      rintro (q' | q')
      · rw [q] at q'; cases q'
      · omega
  · rw [show sevenOf n = none from by unfold sevenOf; rw [if_neg e0, if_neg (by omega), if_pos ⟨by assumption, by assumption⟩, if_pos (Or.inl (by assumption))]] at h
    exact h 0 _ ⟨_, _, rfl, Fr.keep (by assumption)⟩
  · rw [show sevenOf n = none from by unfold sevenOf; rw [if_neg e0, if_neg (by omega), if_pos ⟨by assumption, by assumption⟩, if_pos (Or.inr (by assumption))]] at h
    exact h 0 _ ⟨_, _, rfl, Fr.keep (by assumption)⟩
  · rw [show sevenOf n = some _ from by
      unfold sevenOf
      rw [if_neg e0, if_neg (by omega), if_pos ⟨by assumption, by assumption⟩, if_neg (by
        have q : (mathOut.any fun x => x == (n : Int) - 119808) = false := by assumption
        rintro (q' | q')
        · omega
        · rw [q] at q'; cases q')]] at h
    exact h _ _ ⟨_, _, rfl, Fr.keep (by assumption)⟩
  rotate_left 2
  · rw [show sevenOf n = some _ from by unfold sevenOf; rw [if_neg e0, if_pos (by omega), if_pos ⟨by omega, by omega⟩]] at h
    exact h _ _ ⟨_, _, rfl, Fr.keep (by assumption)⟩
  · rw [show sevenOf n = some _ from by unfold sevenOf; rw [if_neg e0, if_pos (by omega), if_neg (by omega)]] at h
    exact h _ _ ⟨_, _, rfl, Fr.keep (by assumption)⟩
  · rw [show sevenOf n = some _ from by unfold sevenOf; rw [if_neg e0, if_pos (by omega), if_neg (by omega)]] at h
    exact h _ _ ⟨_, _, rfl, Fr.keep (by assumption)⟩
  all_goals
    have e1 : sevenOf n = rowsFind rowTexts n := by unfold sevenOf; rw [if_neg e0, if_neg (by omega), if_neg (by omega)]
    rw [e1] at h
    clear e0 e1
    rename Fr s.heap _ _ _ => F'
    refine seven_for C₀ hd hu hn hR F' ?_ ?_
    · intro x tk s' e k
      rw [e] at h
      exact h _ _ k
    · intro s' e k
      obtain ⟨h₂, tk₂, rfl, k₂⟩ := k
      rw [e] at h
      dsimp only
      iterate 3 (first | walk1 | (dsimp only; walk1))
      exact h 0 _ ⟨_, _, rfl, k₂⟩
end
end Mine
end
section
open PySem PySem.W PyProof.Rows
set_option maxRecDepth 100000
namespace Mine
section
variable {w : World} {A : Around} {E : Value → Shared → Prop} {R : Result → Shared → Prop} {s : Shared}
theorem turn_outer (elt t0 i0 t1 i1 : PySem.Expr) (ifs : List PySem.Expr) (scope : Scope) (pos : Pos) (it acc : Value) (env : Env) :
    compTurn (.ListComp elt [⟨t0, i0, [], 0⟩, ⟨t1, i1, ifs, 0⟩] scope pos) 0 it acc env = (do
      standAt i0.pos
      match ← pyNext it with
      | none => pure (.done .next)
      | some v =>
        letOwnedTupleGo t0 it v
        assign t0 env v
        let x ← eval i1 env
        standAt i1.pos
        let x ← foldedSetIterable i1 env x
        let _ ← runOwn (.compStart (.ListComp elt [⟨t0, i0, [], 0⟩, ⟨t1, i1, ifs, 0⟩] scope pos) 1 (← holding [x] (pyIter x)) acc env) env
        again (.compLoop (.ListComp elt [⟨t0, i0, [], 0⟩, ⟨t1, i1, ifs, 0⟩] scope pos) 0 it acc env)) := by rfl
theorem turn_inner (elt t0 i0 t1 i1 : PySem.Expr) (ifs : List PySem.Expr) (scope : Scope) (pos : Pos) (it acc : Value) (env : Env) :
    compTurn (.ListComp elt [⟨t0, i0, [], 0⟩, ⟨t1, i1, ifs, 0⟩] scope pos) 1 it acc env = (do
      standAt i1.pos
      match ← pyNext it with
      | none => pure (.done .next)
      | some v =>
        letOwnedTupleGo t1 it v
        assign t1 env v
        let mut ok := true
        for c in ifs do
          if ok then ok ← isTrue c env (eval c env)
        if ok then
          (do let _ ← call (.builtin "list.append") [acc, ← eval elt env])
        again (.compLoop (.ListComp elt [⟨t0, i0, [], 0⟩, ⟨t1, i1, ifs, 0⟩] scope pos) 1 it acc env)) := by rfl
theorem loop_inner {elt t0 i0 t1 i1 : PySem.Expr} {ifs : List PySem.Expr} {scope : Scope} {pos : Pos} {it acc : Value} {env : Env} (I : Nat → Shared → Prop)
    (turn : ∀ n s, I n s → wpAny (model pw w) A (pyNext it) (fun r s₁ => match r with
      | none => R (.ok .next) s₁
      | some v => wpAny (model pw w) A (assign t1 env v) (fun _ s₂ =>
          wpAny (model pw w) A (forIn ifs true fun c r => if r = true then do let ok ← isTrue c env (eval c env); pure (ForInStep.yield ok) else pure (ForInStep.yield r)) (fun ok s₃ =>
            if ok = true then wpAny (model pw w) A (eval elt env) (fun x s₄ =>
              wpAny (model pw w) A (call (.builtin "list.append") [acc, x]) (fun _ s₅ => ∃ m, m < n ∧ I m s₅) (notedBy (model pw w) A env fun e s' => R (.error e) s') s₄) (notedBy (model pw w) A env fun e s' => R (.error e) s') s₃
            else ∃ m, m < n ∧ I m s₃) (notedBy (model pw w) A env fun e s' => R (.error e) s') s₂) (notedBy (model pw w) A env fun e s' => R (.error e) s') s₁) (notedBy (model pw w) A env fun e s' => R (.error e) s') s)
    (n : Nat) (h : I n s) (ht : ∀ v, letOwnedTupleGo t1 it v = pure () := by intro _; rfl) :
    codeAny (model pw w) A (.compLoop (.ListComp elt [⟨t0, i0, [], 0⟩, ⟨t1, i1, ifs, 0⟩] scope pos) 1 it acc env) R s := by
  refine codeAny_loop rfl I (fun n s hI => ?_) n h
  show wpAny _ A ((compTurn (.ListComp elt [⟨t0, i0, [], 0⟩, ⟨t1, i1, ifs, 0⟩] scope pos) 1 it acc env).onRaise (fun x => do noteFrame x env; theTreesLotGoes x)) _ _ s
  refine wpAny_noted ?_
  rw [turn_inner]
  refine wpAny_bind (wpAny_standAt (wpAny_bind (wpAny_mono (turn n s hI) (fun r s₁ h₁ => ?_) fun _ _ h' => h')))
  cases r with
  | none => exact wpAny_pure h₁
  | some v =>
    refine wpAny_bind (wpAny_of_eq (ht v) ?_)
    refine wpAny_bind (wpAny_mono h₁ (fun _ s₂ h₂ => wpAny_bind (wpAny_mono h₂ (fun ok s₃ h₃ => ?_) fun _ _ h' => h')) fun _ _ h' => h')
    cases ok with
    | false => exact wpAny_pure ⟨rfl, h₃⟩
    | true =>
      exact wpAny_bind (wpAny_bind (wpAny_mono h₃ (fun x s₄ h₄ => wpAny_bind (wpAny_mono h₄ (fun _ s₅ h₅ => wpAny_pure (wpAny_pure ⟨rfl, h₅⟩)) fun _ _ h' => h')) fun _ _ h' => h'))
theorem start_inner {elt t0 i0 t1 i1 : PySem.Expr} {ifs : List PySem.Expr} {scope : Scope} {pos : Pos} {it acc : Value} {env : Env}
    (h0 : codeAny (model pw w) A (.compLoop (.ListComp elt [⟨t0, i0, [], 0⟩, ⟨t1, i1, ifs, 0⟩] scope pos) 1 it acc env) R s)
    (h : wpAny (model pw w) A (pyIter it) (fun it' s' => codeAny (model pw w) A (.compLoop (.ListComp elt [⟨t0, i0, [], 0⟩, ⟨t1, i1, ifs, 0⟩] scope pos) 1 it' acc env) R s')
      (notedBy (model pw w) A env fun x s' => R (.error x) s') s) :
    codeAny (model pw w) A (.compStart (.ListComp elt [⟨t0, i0, [], 0⟩, ⟨t1, i1, ifs, 0⟩] scope pos) 1 it acc env) R s := by
  refine codeAny_of_tree ?_
  show wpAny _ _ ((compStart (.ListComp elt [⟨t0, i0, [], 0⟩, ⟨t1, i1, ifs, 0⟩] scope pos) 1 it acc env).onRaise (fun x => do noteFrame x env; standAt theWindowsPlace)) _ _ s
  refine wpAny_notedAt ?_
  unfold compStart
  show wpAny _ _ (ask >>= _) _ _ s
  refine wpAny_bind (wpAny_askSetting (wpAny_ite ?_))
  split
  · first
      | exact wpAny_bind (wpAny_pure (wpAny_pure (And.intro rfl h0)))
      | exact wpAny_pure (And.intro rfl h0)
  · first
      | exact wpAny_bind (wpAny_rule (wpAny_bind (wpAny_standAt (wpAny_bind (wpAny_mono h (fun it' s' h' => wpAny_pure (And.intro rfl h')) fun _ _ x => x)))))
      | (refine wpAny_bind (wpAny_rule ?_); show wpAny _ _ (standAt i1.pos >>= _) _ _ s; exact wpAny_bind (wpAny_standAt (wpAny_bind (wpAny_mono h (fun it' s' h' => wpAny_pure (And.intro rfl h')) fun _ _ x => x))))
theorem loop_outer {elt t0 i0 t1 i1 : PySem.Expr} {ifs : List PySem.Expr} {scope : Scope} {pos : Pos} {it acc : Value} {env : Env} (I : Nat → Shared → Prop)
    (turn : ∀ n s, I n s → wpAny (model pw w) A (pyNext it) (fun r s₁ => match r with
      | none => R (.ok .next) s₁
      | some v => wpAny (model pw w) A (letOwnedTupleGo t0 it v) (fun _ s₁' => wpAny (model pw w) A (assign t0 env v) (fun _ s₂ =>
          wpAny (model pw w) A (eval i1 env) (fun x s₃ => wpAny (model pw w) A (pyIter x) (fun it₁ s₄ =>
            codeAny (model pw w) A (.compStart (.ListComp elt [⟨t0, i0, [], 0⟩, ⟨t1, i1, ifs, 0⟩] scope pos) 1 it₁ acc env) (fun r s₅ => r = .ok .next ∧ ∃ m, m < n ∧ I m s₅) s₄)
            (notedBy (model pw w) A env fun e s' => R (.error e) s') s₃) (notedBy (model pw w) A env fun e s' => R (.error e) s') s₂)
          (notedBy (model pw w) A env fun e s' => R (.error e) s') s₁') (notedBy (model pw w) A env fun e s' => R (.error e) s') s₁) (notedBy (model pw w) A env fun e s' => R (.error e) s') s)
    (hs : ∀ x, foldedSetIterable i1 env x = pure x) (n : Nat) (h : I n s) :
    codeAny (model pw w) A (.compLoop (.ListComp elt [⟨t0, i0, [], 0⟩, ⟨t1, i1, ifs, 0⟩] scope pos) 0 it acc env) R s := by
  refine codeAny_loop rfl I (fun n s hI => ?_) n h
  show wpAny _ A ((compTurn (.ListComp elt [⟨t0, i0, [], 0⟩, ⟨t1, i1, ifs, 0⟩] scope pos) 0 it acc env).onRaise (fun x => do noteFrame x env; theTreesLotGoes x)) _ _ s
  refine wpAny_noted ?_
  rw [turn_outer]
  refine wpAny_bind (wpAny_standAt (wpAny_bind (wpAny_mono (turn n s hI) (fun r s₁ h₁ => ?_) fun _ _ h' => h')))
  cases r with
  | none => exact wpAny_pure h₁
  | some v =>
    refine wpAny_bind (wpAny_mono h₁ (fun _ s₁' h₁' => ?_) fun _ _ h' => h')
    refine wpAny_bind (wpAny_mono h₁' (fun _ s₂ h₂ => ?_) fun _ _ h' => h')
    refine wpAny_bind (wpAny_mono h₂ (fun x s₃ h₃ => ?_) fun _ _ h' => h')
    refine wpAny_bind (wpAny_standAt (wpAny_bind (wpAny_of_eq (hs x) (wpAny_bind (wpAny_holding (wpAny_mono h₃ (fun it₁ s₄ h₄ => ?_) fun _ _ h' => h'))))))
    refine wpAny_bind (wpAny_runOwn (codeAny_mono h₄ fun r s₅ h₅ => ?_))
    obtain ⟨rfl, h₅⟩ := h₅
    exact wpAny_pure ⟨rfl, h₅⟩
theorem compG_to {elt target iter : PySem.Expr} {ifs : List PySem.Expr} {rest : List Comprehension} {scope : Scope} {cl : List (Str × Addr)} {pos spos py : Pos} {y : Str} {env : Env} {Q : Flow → Shared → Prop}
    (hsw : swapsWith (.ListComp elt (⟨target, iter, ifs, 0⟩ :: rest) scope pos) (some (.Name y py)) spos.line env = pure true)
    (hclos : closureFor scope env = pure cl) (hcell : ∀ y ∈ scope.names, y.2 ≠ .cell) (hkind : scope.kind = .function)
    (hnames : ∀ y ∈ scope.names, y.2 = .local → scope.names.lookup y.1 = some .local)
    (hy : env.kindOf y = some .local) (hp : (env.scope.kind == .class || (env.scope.kind == .module && env.locals != env.globals)) = false)
    (h : wpAny (model pw w) A (eval iter env) (fun xv s₁ => wpAny (model pw w) A (pyIter xv) (fun it s₂ =>
      (∃ o, s₂.heap.get? env.locals = some o) ∧
      (∀ (s' : Shared) (Q' : Value → Shared → Prop) (E' : Value → Shared → Prop), (∀ b o, s₂.heap.get? b = some o → s'.heap.get? b = some o) → Q' it s' → wpAny (model pw w) A (pyIter it) Q' E' s') ∧
      ∀ D C m (s₄ : Shared), Keeps s₂ s₄ → s₂.heap.get? D = none → s₂.heap.get? C = none → D ≠ C → s₄.heap.PlainList D #[] → s₄.heap.Ns C m →
        codeAny (model pw w) A (.compLoop (.ListComp elt (⟨target, iter, ifs, 0⟩ :: rest) scope pos) 0 it (.ref D) (compEnvC scope cl C env))
          (fun r s' => r = .ok .next ∧ ∃ m mL, s'.heap.Ns C m ∧ s'.heap.Ns env.locals mL ∧ ∀ h', h'.Ns env.locals (fun z => if z = y then some (.ref D) else mL z) →
            (∀ b o, b ≠ C → b ≠ env.locals → s'.heap.get? b = some o → h'.get? b = some o) → ∀ tk, Q .next { s' with heap := h', toks := tk }) s₄) E s₁) E s)
    (hs : ∀ x, foldedSetIterable iter env x = pure x := by intro _; rfl) :
    wpAny (model pw w) A (exec (.Assign [.Name y py] (.ListComp elt (⟨target, iter, ifs, 0⟩ :: rest) scope pos) spos) env) Q E s := by
  rw [exec_Assign_Name_used _ _ _ _ hsw]
  refine wpAny_bind (wpAny_standAt (wpAny_bind ?_))
  show wpAny _ A (do let _ ← comprehension (.ListComp elt (⟨target, iter, ifs, 0⟩ :: rest) scope pos) scope env _ (newList []) false (eval iter env) (some (assign (.Name y py) env))) _ _ s
  refine wpAny_bind (wpAny_mono (wpAny_comprehension_free (use := some (assign (.Name y py) env)) (Q := fun _ s' => Q .next s') rfl hs hclos hkind hnames
    (wpAny_mono h (fun xv s₁ h₁ => wpAny_mono h₁ (fun it s₂ h₂ => ?_) fun _ _ e => e) fun _ _ e => e)) (fun _ s' hq => wpAny_pure (wpAny_pure hq)) fun _ _ e => e)
  obtain ⟨⟨oL, hL⟩, hself, h₂⟩ := h₂
  refine wpAny_newObj_type (wpAny_newFunctionEnv hcell (by intro y hy; simp at hy) (fun h₁ hns₁ hsb₁ => ?_) hkind)
  dsimp only at hns₁ hsb₁ ⊢
  generalize hH2 : s₂.heap.push { cls := .type "list", dict := none, data := .seq ([] : List Value).toArray } = H2 at hns₁ hsb₁ ⊢
  have hC : H2.objs.size = s₂.heap.objs.size + 1 := by rw [← hH2, Heap.size_push]
  have hDC : s₂.heap.objs.size ≠ H2.objs.size := by rw [hC]; exact Nat.ne_of_lt (Nat.lt_succ_self _)
  have below : ∀ b, b < s₂.heap.objs.size → b ≠ H2.objs.size ∧ b ≠ s₂.heap.objs.size := fun b hb => ⟨by rw [hC]; exact Nat.ne_of_lt (Nat.lt_succ_of_lt hb), Nat.ne_of_lt hb⟩
  have old : ∀ b o, s₂.heap.get? b = some o → h₁.get? b = some o := fun b o e => hsb₁.extBut b o (below b (Heap.lt_size e)).1 (Heap.get?_push_of_some _ (hH2 ▸ Heap.get?_push_of_some _ e))
  have hacc : h₁.PlainList s₂.heap.objs.size #[] := ⟨_, hsb₁.extBut _ _ hDC (Heap.get?_push_of_some _ (hH2 ▸ Heap.get?_push_size _ rfl))⟩
  have hLC : env.locals ≠ H2.objs.size := (below _ (Heap.lt_size hL)).1
  have loop : ∀ s₃ : Shared, s₃ = { s₂ with heap := h₁, toks := s₂.toks + ([] : List (Str × Value)).length } →
      codeAny (model pw w) A (.compLoop (.ListComp elt (⟨target, iter, ifs, 0⟩ :: rest) scope pos) 0 it (.ref s₂.heap.objs.size) (compEnvC scope cl H2.objs.size env)) (compPost (model pw w) A E (some (assign (.Name y py) env)) (fun _ s' => Q .next s') (.ref s₂.heap.objs.size) H2.objs.size) s₃ := by
    rintro s₃ rfl
    refine codeAny_mono (h₂ s₂.heap.objs.size H2.objs.size _ _ ⟨h₁, _, rfl, old⟩ (Heap.get?_none_of_le (Nat.le_refl _)) (Heap.get?_none_of_le (by omega)) hDC hacc hns₁) fun r s' hr => ?_
    obtain ⟨rfl, m, mL, hm, hmL, hr⟩ := hr
    show wpAny _ A (assign (.Name y py) env (.ref s₂.heap.objs.size)) _ _ _
    refine wpAny_assign_Name (wpAny_storeName_local hy hmL (fun h₂ hn₂ hs₂ => ?_) hp)
    refine ⟨m, hm.sameBut hs₂ (Ne.symm hLC), fun h₃ hs₃ => hr h₃ (hn₂.sameBut hs₃ hLC) (fun b o b1 b2 e => hs₃.extBut b o b1 (hs₂.extBut b o b2 e)) _⟩
  exact codeAny_compStart_list (loop _ rfl) (hself _ _ _ old (loop _ rfl))
end
end Mine
end
section
open PySem PySem.W PyProof.Rows
set_option maxRecDepth 100000
namespace Mine
noncomputable section
def rowUp (f : Nat) (ws : List Str) (k : Nat) : List Int := ((List.range k).filter fun j => decide (ws[j]? ≠ some (S "-"))).map fun (j : Nat) => ((f : Int) + (j : Int))
def othersUp (i : Nat) : List Int := (rowTexts.take i).flatMap fun p => rowUp p.1 (Txt.words p.2) (Txt.words p.2).length
theorem othersUp_w (i : Nat) : othersUp i = (rowWords.take i).flatMap fun p => rowUp p.1 p.2 p.2.length := by
  unfold othersUp
  rw [← rowWords_is, ← List.map_take, List.flatMap_map]
theorem rowUp_succ (f : Nat) (ws : List Str) (k : Nat) : rowUp f ws (k + 1) = rowUp f ws k ++ (if ws[k]? ≠ some (S "-") then [((f : Int) + (k : Int))] else []) := by
  unfold rowUp
  rw [List.range_succ, List.filter_append, List.map_append]
  congr 1
  by_cases h : ws[k]? ≠ some (S "-")
  · rw [if_pos h]; simp [h]
  · rw [if_neg h]; simp at h; simp [h]
theorem othersUp_succ {i : Nat} {p : Nat × Str} (h : rowTexts[i]? = some p) : othersUp (i + 1) = othersUp i ++ rowUp p.1 (Txt.words p.2) (Txt.words p.2).length := by
  unfold othersUp
  rw [List.take_add_one, h]
  simp
def stAt (l : List Stmt) (i : Nat) : Stmt := l.getD i (.Pass ⟨0, 0, 0, 0⟩)
theorem ints_snoc {vs : List Value} {ns : List Int} {n : Int} {t : Tok} (h : IntsAre vs ns) : IntsAre (vs ++ [.int n t]) (ns ++ [n]) := by
  induction h with
  | nil => exact .cons _ _ .nil
  | cons a b _ ih => exact .cons _ _ ih
section
variable {w : World} {mean : ExcName → Option Value} {mg mb : Str → Option Value} {A : Around} {E : Value → Shared → Prop} {s : Shared} {env : Env}
/-- the body of the inner loop over one row -/
theorem others_inner {scope : Scope} {cl : List (Str × Addr)} {Ca D la I : Addr} {f : Nat} {tf : Tok} {xs : List Value} {ws : List Str} {pre : List Int} {ys : Array Value} {elt t0 i0 i1 tst : PySem.Expr} {pos pk : Pos} {m₀ : Str → Option Value} {R : Result → Shared → Prop}
    (V : EnvOk env) (hk : scope.kind = .function) (hkl : scope.names.lookup (S "k") = some .local) (hh : A.handled = none)
    (hw : ws.length ≤ 1000) (hpre : pre.length ≤ 100000)
    (hit : IsRangeIter s.heap I 0 ws.length 1) (hacc : s.heap.PlainList D ys) (hys : IntsAre ys.toList pre) (hn : s.heap.Ns Ca m₀) (hf : m₀ (S "first") = some (.int f tf)) (hwd : m₀ (S "words") = some (.ref la))
    (hla : s.heap.IsList la xs.toArray) (hxs : StrsAre xs ws) (hDC : D ≠ Ca) (hDI : D ≠ I) (hCI : Ca ≠ I) (hlC : la ≠ Ca) (hlD : la ≠ D) (hlI : la ≠ I)
    (htst : ∀ (s₃ : Shared) m₃ k t E', s₃.heap.Ns Ca m₃ → m₃ (S "k") = some (.int (k : Nat) t) → m₃ (S "words") = some (.ref la) → s₃.heap.IsList la xs.toArray → k < ws.length → wpAny (model pw w) A (isTrue tst (compEnvC scope cl Ca env) (eval tst (compEnvC scope cl Ca env))) (fun b s₄ => b = decide (ws[k]? ≠ some (S "-")) ∧ Keeps s₃ s₄) E' s₃)
    (helt : ∀ (s₃ : Shared) m₃ k t E', s₃.heap.Ns Ca m₃ → m₃ (S "k") = some (.int (k : Nat) t) → m₃ (S "first") = some (.int f tf) → k < ws.length → wpAny (model pw w) A (eval elt (compEnvC scope cl Ca env)) (fun v s₄ => (∃ t, v = .int ((f : Int) + (k : Int)) t) ∧ Keeps s₃ s₄) E' s₃)
    (hR : ∀ h' tk ys' m', h'.PlainList D ys' → IntsAre ys'.toList (pre ++ rowUp f ws ws.length) → h'.Ns Ca m' → (∀ z, z ≠ S "k" → m' z = m₀ z) → (∀ b o, b ≠ Ca → b ≠ D → b ≠ I → s.heap.get? b = some o → h'.get? b = some o) → R (.ok .next) { s with heap := h', toks := tk }) :
    codeAny (model pw w) A (.compLoop (.ListComp elt [⟨t0, i0, [], 0⟩, ⟨.Name (S "k") pk, i1, [tst], 0⟩] scope pos) 1 (.ref I) (.ref D) (compEnvC scope cl Ca env)) R s := by
  have W := Walks.range (prog := pw) (w := w) (A := A) hh I 0 1 ws.length
  refine loop_inner (fun n s' => ∃ h' tk i ys' m', s' = { s with heap := h', toks := tk } ∧ i ≤ ws.length ∧ n = ws.length + 1 - i ∧ IsRangeIter h' I (0 + (i : Nat) * 1) ((ws.length : Int) - (i : Nat)) 1 ∧ h'.PlainList D ys' ∧ IntsAre ys'.toList (pre ++ rowUp f ws i) ∧ h'.Ns Ca m' ∧ (∀ z, z ≠ S "k" → m' z = m₀ z) ∧
      (∀ b o, b ≠ Ca → b ≠ D → b ≠ I → s.heap.get? b = some o → h'.get? b = some o)) ?_ (ws.length + 1) ⟨s.heap, s.toks, 0, ys, m₀, rfl, Nat.zero_le _, rfl, by simpa using hit, hacc, by simpa [rowUp] using hys, hn, fun _ _ => rfl, fun _ _ _ _ _ e => e⟩
  rintro n s' ⟨h', tk, i, ys', m', rfl, hi, rfl, hst, hacc', hys', hn', hm', hkp⟩
  by_cases hlt : i < ws.length
  · refine W.item i _ _ _ hlt hst fun v h₅ tk₅ hPv hst₅ hk₅ => ?_
    obtain ⟨tv, rfl⟩ := hPv
    have up₅ : ∀ b o, b ≠ I → h'.get? b = some o → h₅.get? b = some o := fun b o hb e => hk₅ b o (by simpa using hb) e
    refine wpAny_assign_Name (wpAny_storeName_local (lookup_relabel_local hkl) (hn'.at' fun o e => up₅ _ o hCI e) (fun h₆ hn₆ hs₆ => ?_) (by simp [compEnvC, relabel, hk]))
    have up₆ : ∀ b o, b ≠ I → b ≠ Ca → h'.get? b = some o → h₆.get? b = some o := fun b o b1 b2 e => hs₆.extBut b o b2 (up₅ b o b1 e)
    have hla₆ : h₆.IsList la xs.toArray := hla.at fun o e => up₆ _ o hlI hlC (hkp _ o hlC hlD hlI e)
    have ekk : (0 + (i : Int) * 1) = ((i : Nat) : Int) := by omega
    rw [ekk] at hn₆
    refine wpAny_tests_one (wpAny_mono (htst _ _ i tv _ hn₆ (by simp) (by simp [hm' (S "words") (by decide +kernel), hwd, show S "words" ≠ S "k" by decide +kernel]) hla₆ hlt) (fun b s₇ h₇ => ?_) fun _ _ e => e)
    obtain ⟨rfl, h₇, tk₇, rfl, k₇⟩ := h₇
    have hst₇ : IsRangeIter h₇ I (0 + ((i + 1 : Nat) : Int) * 1) ((ws.length : Int) - ((i + 1 : Nat) : Int)) 1 := W.frame _ _ _ hst₅ fun b hb o e => k₇ b o (hs₆.extBut b o (fun q => hCI (q.symm.trans (List.mem_singleton.mp hb))) e)
    have hacc₇ : h₇.PlainList D ys' := hacc'.at fun o e => k₇ _ o (up₆ _ o hDI hDC e)
    have hmz : ∀ z, z ≠ S "k" → (fun y => if y = S "k" then some (Value.int (i : Int) tv) else m' y) z = m₀ z := fun z hz => by
      show (if z = S "k" then _ else m' z) = _
      rw [if_neg hz]; exact hm' z hz
    split
    · rename_i hb
      have hb' : ws[i]? ≠ some (S "-") := of_decide_eq_true hb
      refine wpAny_mono (helt _ _ i tv _ (hn₆.keeps k₇) (by simp) ((hmz (S "first") (by decide +kernel)).trans hf) hlt) (fun v s₈ h₈ => ?_) fun _ _ e => e
      obtain ⟨⟨tx, rfl⟩, h₈, tk₈, rfl, k₈⟩ := h₈
      have hysz : ys'.size ≤ sizeLine := by
        have e1 := hys'.length
        have e2 : (rowUp f ws i).length ≤ i := by
          unfold rowUp
          rw [List.length_map]
          exact Nat.le_trans (List.length_filter_le _ _) (by rw [List.length_range]; exact Nat.le_refl _)
        rw [List.length_append] at e1
        have e4 : ys'.toList.length = ys'.size := by simp
        rw [sizeLine_eq]
        omega
      refine wpAny_list_append_plain (hsz := hysz) (hacc₇.at fun o e => k₈ _ o e) fun h₉ hl₉ hs₉ => ?_
      refine ⟨ws.length + 1 - (i + 1), by omega, h₉, tk₈, i + 1, _, _, rfl, hlt, rfl, W.frame _ _ _ hst₇ fun b hb o e => hs₉.extBut b o (fun q => hDI (q.symm.trans (List.mem_singleton.mp hb))) (k₈ b o e), hl₉, ?_, ((hn₆.keeps k₇).keeps k₈).sameBut hs₉ (Ne.symm hDC), hmz, fun b o b1 b2 b3 e => hs₉.extBut b o b2 (k₈ b o (k₇ b o (up₆ b o b3 b1 (hkp b o b1 b2 b3 e))))⟩
      rw [rowUp_succ, if_pos hb', ← List.append_assoc, Array.toList_push]
      exact ints_snoc hys'
    · rename_i hb
      have hb' : ¬ ws[i]? ≠ some (S "-") := fun q => hb (decide_eq_true q)
      refine ⟨ws.length + 1 - (i + 1), by omega, h₇, tk₇, i + 1, ys', _, rfl, hlt, rfl, hst₇, hacc₇, ?_, hn₆.keeps k₇, hmz, fun b o b1 b2 b3 e => k₇ b o (up₆ b o b3 b1 (hkp b o b1 b2 b3 e))⟩
      rw [rowUp_succ, if_neg hb', List.append_nil]
      exact hys'
  · obtain rfl : i = ws.length := by omega
    refine W.done _ _ _ hst fun h₅ tk₅ hk₅ => ?_
    have up₅ : ∀ b o, b ≠ I → h'.get? b = some o → h₅.get? b = some o := fun b o hb e => hk₅ b o (by simpa using hb) e
    exact hR h₅ tk₅ ys' m' (hacc'.at fun o e => up₅ _ o hDI e) hys' (hn'.at' fun o e => up₅ _ o hCI e) hm' fun b o b1 b2 b3 e => up₅ b o b3 (hkp b o b1 b2 b3 e)
end
end
end Mine
end
section
open PySem PySem.W PyProof.Rows
set_option maxRecDepth 100000
namespace Mine
noncomputable section
theorem others_small : (List.range 6).all (fun i => decide ((othersUp i).length ≤ 100000)) = true := by
  simp only [othersUp_w]
  decide +kernel
theorem range_size (n : Nat) : Builtin.Range.rangeSize 0 (n : Int) 1 = (n : Int) := by
  unfold Builtin.Range.rangeSize
  by_cases h : (n : Int) ≤ 0
  · have : n = 0 := by omega
    subst this; rfl
  · simp; try omega
theorem range_small {n : Nat} (h : n ≤ 1000) : Builtin.Range.small 0 (n : Int) 1 = true := by
  unfold Builtin.Range.small
  rw [range_size]
  have fit : ∀ k : Int, 0 ≤ k → k ≤ 2000 → Builtin.Range.rangeFitsLong k = true := fun k h0 h1 => by
    unfold Builtin.Range.rangeFitsLong
    simp; omega
  rw [fit 0 (by omega) (by omega), fit n (by omega) (by omega), fit 1 (by omega) (by omega)]
  simp
  right
  exact fit _ (by omega) (by omega)
theorem start_range {w : World} {A : Around} {R : Result → Shared → Prop} {s : Shared} {elt t0 i0 t1 i1 : PySem.Expr} {ifs : List PySem.Expr} {scope : Scope} {pos : Pos} {I : Addr} {x left step : Int} {acc : Value} {env : Env} (hit : IsRangeIter s.heap I x left step)
    (h : codeAny (model pw w) A (.compLoop (.ListComp elt [⟨t0, i0, [], 0⟩, ⟨t1, i1, ifs, 0⟩] scope pos) 1 (.ref I) acc env) R s) :
    codeAny (model pw w) A (.compStart (.ListComp elt [⟨t0, i0, [], 0⟩, ⟨t1, i1, ifs, 0⟩] scope pos) 1 (.ref I) acc env) R s :=
  start_inner h (wpAny_pyIter_rangeiter hit h)
set_option maxHeartbeats 4000000 in
theorem others_to {w : World} {mean : ExcName → Option Value} {mg mb : Str → Option Value} {A : Around} {E : Value → Shared → Prop} {s : Shared} {g : Heap} {L fa D : Addr} {cdv : Value} {m : Str → Option Value} {Q : Flow → Shared → Prop} (hh : A.handled = none)
    (C : Cx w mean mg mb g) (F : Fr g L s.heap m) (hcell : s.heap.IsCell (L + 1) (some (.ref D))) (hR : RowsAre rowTexts s.heap D)
    (h : ∀ h' tk O ys, Fr g L h' (fun z => if z = S "others" then some (.ref O) else m z) → h'.PlainList O ys → IntsAre ys.toList (othersUp 6) → (∀ b o, b ≠ L → s.heap.get? b = some o → h'.get? b = some o) → s.heap.get? O = none → Q .next { s with heap := h', toks := tk }) :
    wpAny (model pw w) A (exec (stAt (fBody 17) 1) (envOfC lawD.name lawD.scope L fa cdv)) Q E s := by
  obtain ⟨ys, hD, hsz, hys⟩ := hR
  conv in stAt _ _ => whnf
  have V : EnvOk (envOfC lawD.name lawD.scope L fa cdv) := ⟨rfl, rfl, rfl⟩
  refine compG_to (cl := []) (by rfl) (by rfl) (by decide +kernel) (by rfl) (by decide +kernel) (by rfl) (by rfl) ?_
  refine wpAny_Name (wpAny_loadName_cell (by rfl) (by rfl) (by rfl) hcell ?_) (by decide +kernel)
  have hDl : s.heap.IsList D ys := hD.isList
  refine wpAny_pyIter_list hDl ?_
  obtain ⟨oL, esL, epL, hL, hLd, hLr⟩ := F.ns
  obtain ⟨nD, hDo⟩ := hD
  have hne : D ≠ s.heap.objs.size := Nat.ne_of_lt (Heap.lt_size hDo)
  have hLI : L ≠ s.heap.objs.size := Nat.ne_of_lt (Heap.lt_size hL)
  have hIn : s.heap.get? s.heap.objs.size = none := Heap.get?_none_of_le (Nat.le_refl _)
  have W := Walks.list (prog := pw) (w := w) (A := A) hh s.heap.objs.size D hne ys
  have st0 : (s.heap.push { cls := .type "list_iterator", data := .fields #[.ref D, .int 0 0] }).IsListIter s.heap.objs.size D 0 ∧ (s.heap.push { cls := .type "list_iterator", data := .fields #[.ref D, .int 0 0] }).IsList D ys :=
    ⟨⟨_, Heap.get?_push_size _ rfl, rfl, rfl⟩, hDl.at fun o e => Heap.get?_push_of_some _ e⟩
  have k₂ : ∀ b o, s.heap.get? b = some o → (s.heap.push { cls := .type "list_iterator", data := .fields #[.ref D, .int 0 0] }).get? b = some o := fun b o e => Heap.get?_push_of_some _ e
  generalize hH : s.heap.push { cls := .type "list_iterator", data := .fields #[.ref D, .int 0 0] } = H at st0 k₂ ⊢
  generalize hI : s.heap.objs.size = I at *
  clear hH
  refine ⟨⟨oL, k₂ _ _ hL⟩, fun s' Q' E' hk hq => W.self 0 _ _ _ (W.frame _ _ _ st0 fun b _ o e => hk b o e) hq, fun O Ca mC s₄ hk₄ hO hCa hOC hpl hns => ?_⟩
  obtain ⟨h₄, tk₄, rfl, k₄⟩ := hk₄
  dsimp only at hO hCa k₄ hpl hns
  have gone : ∀ b, H.get? b = none → s.heap.get? b = none := fun b e => by
    cases e' : s.heap.get? b with
    | none => rfl
    | some o => rw [k₂ b o e'] at e; cases e
  have sO := gone O hO
  have sC := gone Ca hCa
  have hCI : Ca ≠ I := fun q => by
    obtain ⟨o, ho, _⟩ := st0.1
    rw [← q, hCa] at ho; cases ho
  have hOI : O ≠ I := fun q => by
    obtain ⟨o, ho, _⟩ := st0.1
    rw [← q, hO] at ho; cases ho
  have ne3 : ∀ b o, s.heap.get? b = some o → b ≠ Ca ∧ b ≠ O ∧ b ≠ I := fun b o e =>
    ⟨(fun q => by rw [q, sC] at e; cases e), (fun q => by rw [q, sO] at e; cases e), (fun q => by rw [q, hIn] at e; cases e)⟩
  refine loop_outer
    (fun k s' => ∃ h' tk i ys' m', s' = { s with heap := h', toks := tk } ∧ i ≤ ys.size ∧ k = ys.size + 1 - i ∧ (h'.IsListIter I D i ∧ h'.IsList D ys) ∧ h'.PlainList O ys' ∧ IntsAre ys'.toList (othersUp i) ∧ h'.Ns Ca m' ∧
      (∀ b o, s.heap.get? b = some o → h'.get? b = some o)) ?_ (fun x => by rfl) (ys.size + 1)
    ⟨h₄, tk₄, 0, #[], mC, rfl, Nat.zero_le _, rfl, W.frame _ _ _ st0 (fun b _ o e => k₄ b o e), hpl, .nil, hns, fun b o e => k₄ b o (k₂ b o e)⟩
  rintro k s' ⟨h', tk, i, ys', m', rfl, hi, rfl, hst', hpl', hint, hn', hk'⟩
  by_cases hlt : i < ys.size
  · refine W.item i _ _ _ hlt hst' fun v h₅ tk₅ hPv hst₅ hk₅ => ?_
    obtain ⟨fp, t, la, p, tkf, vs, rfl, _, hp, ht, hla, hws⟩ := hys _ _ hPv
    have hbound : (Txt.words p.2).length ≤ 1000 ∧ p.1 < 1114112 := by
      have := List.all_eq_true.mp rows_small p (List.mem_of_getElem? hp)
      simpa using this
    have hpre : (othersUp i).length ≤ 100000 := by
      have hi' : i < 6 := by rw [hsz] at hlt; exact hlt
      have := List.all_eq_true.mp others_small i (List.mem_range.mpr hi')
      simpa using this
    have up₅ : ∀ b o, b ≠ I → h'.get? b = some o → h₅.get? b = some o := fun b o hb e => hk₅ b o (by simpa using hb) e
    have ht₅ : h₅.IsTuple t #[.int (p.1 : Int) tkf, .ref la] := by
      obtain ⟨o, ho, r⟩ := ht
      exact ⟨o, up₅ _ _ (ne3 _ _ ho).2.2 (hk' _ _ ho), r⟩
    refine wpAny_letOwnedTupleGo_listiter hst₅.1 ?_
    refine kcp_assign (m := m') hh ht₅ (by rfl) (by rfl) (by rfl) (hn'.at' fun o e => up₅ _ o hCI e) fun h₆ tk₆ hn₆ hk₆ => ?_
    replace hk₆ : ∀ c o, c ≠ Ca → h₅.get? c = some o → h₆.get? c = some o := hk₆
    have up₆ : ∀ b o, s.heap.get? b = some o → h₆.get? b = some o := fun b o e => hk₆ b o (ne3 b o e).1 (up₅ b o (ne3 b o e).2.2 (hk' b o e))
    have hst₆ : h₆.IsListIter I D (i + 1) ∧ h₆.IsList D ys := W.frame _ _ _ hst₅ fun b hb o e => hk₆ b o (fun q => by
      rcases List.mem_cons.mp hb with e' | hb
      · exact hCI (q.symm.trans e')
      · exact (ne3 _ _ hDo).1 ((List.mem_singleton.mp hb).symm.trans q)) e
    have hpl₆ : h₆.PlainList O ys' := hpl'.at fun o e => hk₆ _ o hOC (up₅ _ o hOI e)
    have C₆ : Cx w mean mg mb h₆ := (C.keeps F.keep).keeps up₆
    refine Call_ (Cx.built C₆ (envOk_comp V rfl) (by kernel_rfl) (v := .type "range") (by kernel_rfl) (by decide +kernel) (by rfl) (by decide +kernel) ?_)
    refine PyProof.Rows.callWith_type1 ?_
    refine args_cons (built1 C₆ (envOk_comp V rfl) (by kernel_rfl) boot_len (by decide +kernel) (by rfl) (by decide +kernel) ?_) rfl
    refine loc_name (envOk_comp V rfl) (by rfl) hn₆ (by rfl) (by decide +kernel) ?_
    have hla₆ : h₆.IsList la vs := (hla.at fun o e => up₆ _ o e).isList
    have hvl : vs.size = (Txt.words p.2).length := by rw [← StrsAre.len hws]; simp
    refine Calls.call_len_list hla₆ (by omega) ?_
    refine args_nil ?_
    refine call_range_1 ?_
    rw [hvl]
    have small : Builtin.Range.small 0 ((Txt.words p.2).length : Int) 1 = true := range_small hbound.1
    have size : Builtin.Range.rangeSize 0 ((Txt.words p.2).length : Int) 1 = ((Txt.words p.2).length : Int) := range_size _
    refine wpAny_pyIter_range (Heap.get?_push_size _ rfl) small ?_
    rw [size]
    dsimp only
    rw [Heap.size_push]
    have up₈ : ∀ b o, h₆.get? b = some o → ((h₆.push { cls := .type "range", data := .fields #[.int 0 (tk₆ + 1 + 1), .int ((Txt.words p.2).length : Int) (tk₆ + 1), .int 1 (tk₆ + 1 + 1 + 1)] }).push { cls := .type "range_iterator", data := .fields #[rawInt 0, rawInt ((Txt.words p.2).length : Int), rawInt 1] }).get? b = some o := fun b o e => Heap.get?_push_of_some _ (Heap.get?_push_of_some _ e)
    have hit₈ : IsRangeIter ((h₆.push { cls := .type "range", data := .fields #[.int 0 (tk₆ + 1 + 1), .int ((Txt.words p.2).length : Int) (tk₆ + 1), .int 1 (tk₆ + 1 + 1 + 1)] }).push { cls := .type "range_iterator", data := .fields #[rawInt 0, rawInt ((Txt.words p.2).length : Int), rawInt 1] }) (h₆.objs.size + 1) 0 ((Txt.words p.2).length : Int) 1 := Heap.get?_push_at (by rw [Heap.size_push]) rfl
    have fr8 : h₆.get? (h₆.objs.size + 1) = none := Heap.get?_none_of_le (Nat.le_succ _)
    generalize (h₆.push { cls := .type "range", data := .fields #[.int 0 (tk₆ + 1 + 1), .int ((Txt.words p.2).length : Int) (tk₆ + 1), .int 1 (tk₆ + 1 + 1 + 1)] }).push { cls := .type "range_iterator", data := .fields #[rawInt 0, rawInt ((Txt.words p.2).length : Int), rawInt 1] } = H₈ at up₈ hit₈ ⊢
    generalize h₆.objs.size + 1 = I₈ at hit₈ fr8 ⊢
    have o8 : O ≠ I₈ := fun q => by
      obtain ⟨n, e⟩ := hpl₆
      rw [q, fr8] at e; cases e
    have c8 : Ca ≠ I₈ := fun q => by
      obtain ⟨o, _, _, e, _⟩ := hn₆
      rw [show (compEnvC _ [] Ca (envOfC lawD.name lawD.scope L fa cdv)).locals = I₈ from q, fr8] at e; cases e
    obtain ⟨nla, hlao⟩ := hla
    have l8 : la ≠ I₈ := fun q => by
      have e := up₆ _ _ hlao
      rw [q, fr8] at e; cases e
    refine start_range hit₈ (others_inner (cl := []) (Ca := Ca) (D := O) (la := la) (I := I₈) (f := p.1) (tf := tkf) (xs := vs.toList) (ws := Txt.words p.2) (pre := othersUp i) (ys := ys') (env := envOfC lawD.name lawD.scope L fa cdv) V (by rfl) (by rfl) hh hbound.1 hpre hit₈ (hpl₆.at fun o e => up₈ _ o e) hint (hn₆.keeps up₈) (by rfl) (by rfl)
      (by rw [Array.toArray_toList]; exact hla₆.at fun o e => up₈ _ o e) hws hOC o8 c8 (ne3 _ _ hlao).1 (ne3 _ _ hlao).2.1 l8 ?_ ?_ ?_)
    · intro s₉ m₉ k₉ t₉ E' hn₉ hk9 hw9 hl9 hlt9
      obtain ⟨xw, hxw⟩ : ∃ xw, (Txt.words p.2)[k₉]? = some xw := ⟨_, List.getElem?_eq_getElem hlt9⟩
      obtain ⟨tw, htw⟩ := StrsAre.at hws _ _ hxw
      obtain ⟨H9, g9, d9, tk9, os9⟩ := s₉
      walk1
      refine wpAny_Subscript_Name slot_list_getitem.lookup (loc_name (envOk_comp V rfl) (by rfl) hn₉ hw9 (by decide +kernel) (loc_name (envOk_comp V rfl) (by rfl) hn₉ hk9 (by decide +kernel) ⟨hl9.typeIs, ?_⟩))
      refine wpAny_getItem_list hl9 (by omega) (by omega) (x := .str xw tw) (by rw [List.getElem?_toArray]; simpa using htw) ?_
      repeat' (first | walk1 | (dsimp only; walk1))
      · rw [hxw]
        by_cases q : xw = S "-"
        · subst q; decide +kernel
        · exact (bne_iff_ne.mpr q).trans (decide_eq_true (p := some xw ≠ some (S "-")) fun e => q (Option.some.inj e)).symm
      · exact ⟨_, _, rfl, fun _ _ e => e⟩
    · intro s₉ m₉ k₉ t₉ E' hn₉ hk9 hf9 hlt9
      obtain ⟨H9, g9, d9, tk9, os9⟩ := s₉
      walk1
      refine loc_name (envOk_comp V rfl) (by rfl) hn₉ hf9 (by decide +kernel) (loc_name (envOk_comp V rfl) (by rfl) hn₉ hk9 (by decide +kernel) ?_)
      repeat' (first | walk1 | (dsimp only; walk1))
      exact ⟨_, _, rfl, fun _ _ e => e⟩
    · intro h₉ tk₉ ys₉ m₉ hpl₉ hint₉ hn₉ hm₉ hk₉
      have up₉ : ∀ b o, b ≠ Ca → b ≠ O → h₆.get? b = some o → h₉.get? b = some o := fun b o b1 b2 e => hk₉ b o b1 b2 (fun q => by rw [q, fr8] at e; cases e) (up₈ b o e)
      refine ⟨rfl, ys.size + 1 - (i + 1), by omega, h₉, tk₉, i + 1, ys₉, m₉, rfl, hlt, rfl, W.frame _ _ _ hst₆ fun b hb o e => up₉ b o ?_ ?_ e, hpl₉, by rw [othersUp_succ hp]; exact hint₉, hn₉, fun b o e => up₉ b o (ne3 b o e).1 (ne3 b o e).2.1 (up₆ b o e)⟩
      · rcases List.mem_cons.mp hb with e' | hb
        · exact fun q => hCI (q.symm.trans e')
        · exact fun q => (ne3 _ _ hDo).1 ((List.mem_singleton.mp hb).symm.trans q)
      · rcases List.mem_cons.mp hb with e' | hb
        · exact fun q => hOI (q.symm.trans e')
        · exact fun q => (ne3 _ _ hDo).2.1 ((List.mem_singleton.mp hb).symm.trans q)
  · obtain rfl : i = ys.size := by omega
    refine W.done _ _ _ hst' fun h₅ tk₅ hk₅ => ?_
    have up₅ : ∀ b o, b ≠ I → h'.get? b = some o → h₅.get? b = some o := fun b o hb e => hk₅ b o (by simpa using hb) e
    have up : ∀ b o, s.heap.get? b = some o → h₅.get? b = some o := fun b o e => up₅ b o (ne3 b o e).2.2 (hk' b o e)
    refine ⟨rfl, m', m, hn'.at' fun o e => up₅ _ o hCI e, ⟨oL, esL, epL, up _ _ hL, hLd, hLr⟩, fun h₆ hn₆ hk₆ tk₆ => ?_⟩
    have hk6 : ∀ b o, b ≠ L → s.heap.get? b = some o → h₆.get? b = some o := fun b o hb e => hk₆ b o (ne3 b o e).1 hb (up b o e)
    have hOL : O ≠ L := Ne.symm (ne3 _ _ hL).2.1
    exact h h₆ tk₆ O ys' ⟨hn₆, fun b o e => hk6 b o (Nat.ne_of_lt (Nat.lt_of_lt_of_le (Heap.lt_size e) F.above)) (F.keep b o e), F.above⟩ ((hpl'.at fun o e => up₅ _ o hOI e).at fun o e => hk₆ _ o hOC hOL e) (by rw [hsz] at hint; exact hint) hk6 sO
end
end Mine
end
section
open PySem PySem.W PyProof.Rows
set_option maxRecDepth 100000
namespace Mine
noncomputable section
/-- the law's labels: a list of lists of code points; `Pr`: what else must stay -/
def LabOk (Pr : Addr → Prop) (h : Heap) (lab : Addr) (k : Nat) : Prop := ∃ as : List Addr, h.PlainList lab (as.map Value.ref).toArray ∧ (lab :: as).Nodup ∧ as ≠ [] ∧ as.length ≤ k + 1 ∧
  (∀ a ∈ as, ∃ vs ns, h.PlainList a vs ∧ IntsAre vs.toList ns ∧ (∀ n ∈ ns, (0 : Int) ≤ n ∧ n < 1114112) ∧ ns.length ≤ k) ∧ ∀ b, Pr b → b ∉ lab :: as ∧ ∃ o, h.get? b = some o
def labBody : List Stmt := forBody (some (stAt (fBody 17) 3))
theorem LabOk.keeps {Pr : Addr → Prop} {h h' : Heap} {lab : Addr} {k : Nat} (x : LabOk Pr h lab k) (kp : ∀ b o, h.get? b = some o → (∀ es ep, o.data ≠ .dict es ep) → h'.get? b = some o) (kq : ∀ b, Pr b → ∃ o, h'.get? b = some o) : LabOk Pr h' lab k := by
  obtain ⟨as, h1, h2, h3, h4, h5, h6⟩ := x
  have pl : ∀ {a vs}, h.PlainList a vs → h'.PlainList a vs := fun ⟨n, e⟩ => ⟨n, kp _ _ e fun _ _ q => by cases q⟩
  exact ⟨as, pl h1, h2, h3, h4, fun a ha => let ⟨vs, ns, q1, q2⟩ := h5 a ha; ⟨vs, ns, pl q1, q2⟩, fun b hb => ⟨(h6 b hb).1, kq b hb⟩⟩
set_option maxHeartbeats 4000000 in
theorem lab_body {w : World} {mean : ExcName → Option Value} {mg mb : Str → Option Value} {EE : Value → Shared → Prop} {s : Shared} {g : Heap} {L fa lab O : Addr} {cdv : Value} {m₀ : Str → Option Value} {x : Int} {t : Tok} {ys : Array Value} {Pr : Addr → Prop} {k : Nat} {QQ : Flow → Shared → Prop}
    (C : Cx w mean mg mb g)
    (F : Fr g L s.heap (fun z => if z = Str.ofString "x" then some (.int x t) else if z = Str.ofString "labels" then some (.ref lab) else if z = Str.ofString "others" then some (.ref O) else m₀ z))
    (hO : s.heap.PlainList O ys) (hys : IntsAre ys.toList (othersUp 6)) (PrO : Pr O) (PrL : Pr L) (hg : ∀ b o, g.get? b = some o → Pr b) (hk : k ≤ 100) (B : LabOk Pr s.heap lab k)
    (h : ∀ h' tk, Fr g L h' (fun z => if z = Str.ofString "x" then some (.int x t) else if z = Str.ofString "labels" then some (.ref lab) else if z = Str.ofString "others" then some (.ref O) else m₀ z) →
      LabOk Pr h' lab (k + 1) → (∀ b o, Pr b → s.heap.get? b = some o → h'.get? b = some o) → QQ .next { s with heap := h', toks := tk }) :
    wpAny (model pw w) (callerA.deeper (envOfC lawD.name lawD.scope L fa cdv)) (execs labBody (envOfC lawD.name lawD.scope L fa cdv)) QQ EE s := by
  have C₀ := C
  obtain ⟨KX, GL, T⟩ := C
  have N : News g L s.heap [] := News.nil
  conv in labBody => whnf
  repeat' (fail_if_success (with_reducible show wpAny _ _ (eval (Expr.Call (Expr.Attribute _ _ _) _ _ _) _) _ _ _)); (first | walk1 | (dsimp only; walk1))
  all_goals try dsimp only
  all_goals
    have V : EnvOk (envOfC lawD.name lawD.scope L fa cdv) := ⟨rfl, rfl, rfl⟩
    obtain ⟨as, hlab, hnd, hne, hal, has, hpr⟩ := B
    have fin : ∀ (h' : Heap) (tk : Nat), (∀ b o, Pr b → s.heap.get? b = some o → h'.get? b = some o) → LabOk Pr h' lab (k + 1) → QQ .next { s with heap := h', toks := tk } := fun h' tk pres L' =>
      h h' tk ⟨F.ns.at' fun o e => pres _ o PrL e, fun b o e => pres b o (hg b o e) (F.keep b o e), F.above⟩ L' pres
  · refine MethodCall_ (loc_name V (by rfl) F.ns (by rfl) (by decide +kernel) ?_) rfl
    refine getMethod_builtin hlab.isList.typeIs PySem.F.plainAttrs_list PySem.F.slot_list_append PySem.F.type_list_append (fun a e => by cases e; obtain ⟨n, e'⟩ := hlab; exact ⟨_, e', rfl⟩) ?_
    walk1
    refine args_cons (List_ (args_nil (wpAny_newObj_type ?_))) rfl
    refine args_nil ?_
    have hlab' := hlab.at (h' := s.heap.push { cls := .type "list", data := .seq ([] : List Value).toArray }) fun o e => Heap.get?_push_of_some _ e
    refine wpAny_list_append_plain (hsz := by simp only [List.size_toArray, List.length_map]; rw [sizeLine_eq]; omega) hlab' fun h₂ hl₂ hs₂ => ?_
    refine wpAny_execs_nil (wpAny_execs_nil ?_)
    have up : ∀ b o, b ≠ lab → s.heap.get? b = some o → h₂.get? b = some o := fun b o hb e => hs₂.extBut b o hb (Heap.get?_push_of_some _ e)
    have hnew : ∀ b o, s.heap.get? b = some o → b ≠ s.heap.objs.size := fun b o e => Nat.ne_of_lt (Heap.lt_size e)
    have hlabn : lab ≠ s.heap.objs.size := by obtain ⟨n, e⟩ := hlab; exact hnew _ _ e
    have hasn : ∀ a ∈ as, a ≠ s.heap.objs.size := fun a ha => by obtain ⟨vs, ns, ⟨n, e⟩, _⟩ := has a ha; exact hnew _ _ e
    refine fin h₂ _ (fun b o hb e => up b o (fun q => (hpr b hb).1 (by rw [q]; exact List.mem_cons_self ..)) e) ⟨as ++ [s.heap.objs.size], ?_, ?_, by simp, by simp; omega, ?_, ?_⟩
    · rw [List.map_append]
      simpa using hl₂
    · rw [← List.cons_append, List.nodup_append]
      refine ⟨hnd, by simp, fun a ha b hb q => ?_⟩
      rw [List.mem_singleton.mp hb] at q
      rcases List.mem_cons.mp ha with e | ha
      · exact hlabn (e.symm.trans q)
      · exact hasn a ha q
    · intro a ha
      rcases List.mem_append.mp ha with ha | ha
      · obtain ⟨vs, ns, q1, q2, q3, q4⟩ := has a ha
        exact ⟨vs, ns, q1.at fun o e => up _ o (fun q => (List.nodup_cons.mp hnd).1 (q ▸ ha)) e, q2, q3, by omega⟩
      · rw [List.mem_singleton.mp ha]
        refine ⟨#[], [], ⟨_, hs₂.extBut _ _ (Ne.symm hlabn) (Heap.get?_push_size _ rfl)⟩, .nil, (fun n hn => by cases hn), Nat.zero_le _⟩
    · intro b hb
      obtain ⟨h6, o, e⟩ := hpr b hb
      refine ⟨fun q => ?_, o, up b o (fun q => h6 (by rw [q]; exact List.mem_cons_self ..)) e⟩
      rw [← List.cons_append] at q
      rcases List.mem_append.mp q with q | q
      · exact h6 q
      · exact hnew _ _ e (List.mem_singleton.mp q)
  · refine MethodCall_ (Subscript_ (loc_name V (by rfl) F.ns (by rfl) (by decide +kernel) ?_)) rfl
    repeat' (first | walk1 | (dsimp only; walk1))
    obtain ⟨bs, a, rfl⟩ : ∃ bs a, as = bs ++ [a] := ⟨as.dropLast, as.getLast hne, (List.dropLast_concat_getLast hne).symm⟩
    refine subscriptTail_builtin hlab.isList.typeIs slot_list_getitem.lookup (wpAny_getItem_list_neg hlab.isList (by omega) ?_ (by omega) (x := .ref a) ?_ ?_)
    · simp; omega
    · simp only [List.map_append, List.map_cons, List.map_nil, List.size_toArray, List.length_append, List.length_map, List.length_cons, List.length_nil]
      rw [show ((-1 : Int) + ((bs.length + (0 + 1) : Nat) : Int)).toNat = (bs.map Value.ref).length by rw [List.length_map]; omega, List.getElem?_toArray, List.getElem?_concat_length]
    obtain ⟨va, na, hva, hia, hra, hla⟩ := has a (by simp)
    refine getMethod_builtin hva.isList.typeIs PySem.F.plainAttrs_list PySem.F.slot_list_append PySem.F.type_list_append (fun a e => by cases e; obtain ⟨n, e'⟩ := hva; exact ⟨_, e', rfl⟩) ?_
    walk1
    refine args_cons ?_ rfl
    have hs79 : (othersUp 6).length = 79 := by rw [othersUp_w]; decide +kernel
    have hsr : ∀ n ∈ othersUp 6, (0 : Int) ≤ n ∧ n < 1114112 := fun n hn => of_decide_eq_true (List.all_eq_true.mp (by rw [othersUp_w]; decide +kernel : ((othersUp 6).all fun n => decide ((0 : Int) ≤ n ∧ n < 1114112)) = true) n hn)
    refine fn2 (f := 116) (o := o116_5 w.params) (C₀.keeps F.keep) V (by kernel_rfl) (by kernel_rfl) rfl (by rfl) (by decide +kernel) ?_
    refine loc_name V (by rfl) F.ns (by rfl) (by decide +kernel) (loc_name V (by rfl) F.ns (by rfl) (by decide +kernel) ?_)
    refine ⟨⟨_, _, rfl, fun _ _ e => e⟩, wpAny_call ?_⟩
    refine c_code (ys := ys.toList) (ns := othersUp 6) (C₀.keeps F.keep) (by decide +kernel) (by decide +kernel) (by rw [Array.toArray_toList]; exact hO.isList) hys hs79 hsr ?_
    intro c tc s' hc0 hc1 kc
    obtain ⟨h₂, tk₂, rfl, k₂⟩ := kc
    dsimp only
    refine args_nil ?_
    have hsz : va.size ≤ sizeLine := by
      have e1 := hia.length
      have e2 : va.toList.length = va.size := by simp
      rw [sizeLine_eq]; omega
    refine wpAny_list_append_plain (hsz := hsz) (hva.at fun o e => k₂ _ o e) fun h₃ hl₃ hs₃ => ?_
    refine wpAny_execs_nil (wpAny_execs_nil ?_)
    have up : ∀ b o, b ≠ a → s.heap.get? b = some o → h₃.get? b = some o := fun b o hb e => hs₃.extBut b o hb (k₂ b o e)
    have hnd' := List.nodup_cons.mp hnd
    have hla' : lab ≠ a := fun q => hnd'.1 (by rw [q]; simp)
    have hbs : ∀ b ∈ bs, b ≠ a := fun b hb q => (List.nodup_append.mp hnd'.2).2.2 b hb a (by simp) q
    refine fin h₃ _ (fun b o hb e => up b o (fun q => (hpr b hb).1 (by rw [q]; simp)) e) ⟨bs ++ [a], hlab.at fun o e => up _ o hla' e, hnd, hne, by omega, ?_, ?_⟩
    · intro b hb
      rcases List.mem_append.mp hb with hb | hb
      · obtain ⟨vs, ns, q1, q2, q3, q4⟩ := has b (List.mem_append_left _ hb)
        exact ⟨vs, ns, q1.at fun o e => up _ o (hbs b hb) e, q2, q3, by omega⟩
      · rw [List.mem_singleton.mp hb]
        refine ⟨va.push (.int c tc), na ++ [c], hl₃, by rw [Array.toList_push]; exact ints_snoc hia, fun n hn => ?_, by simp; omega⟩
        rcases List.mem_append.mp hn with hn | hn
        · exact hra n hn
        · rw [List.mem_singleton.mp hn]; exact ⟨hc0, hc1⟩
    · intro b hb
      obtain ⟨h6, o, e⟩ := hpr b hb
      exact ⟨h6, o, up b o (fun q => h6 (by rw [q]; simp)) e⟩
end
end Mine
end
section
open PySem PySem.W PyProof.Rows
set_option maxRecDepth 100000
namespace Mine
noncomputable section
structure Kp (P : Prop) : Prop where
  p : P
theorem allLt_mem {d : Nat} : ∀ {l : List (Addr × Obj)}, AllLt d l → ∀ p ∈ l, p.1 < d
  | [], _, _, h => nomatch h
  | q :: r, h, p, hp => by
    rcases List.mem_cons.mp hp with rfl | hp
    · exact h.1
    · exact allLt_mem h.2 p hp
/-- all that lies beside the frame and the ground, as one ledger -/
theorem news_all {g h : Heap} {L : Addr} {m : Str → Option Value} (_F : Fr g L h m) : ∃ NL, News g L h NL ∧ ∀ b o, h.get? b = some o → b ≠ L → g.get? b = none → (b, o) ∈ NL := by
  refine ⟨(List.range h.objs.size).filterMap fun b => if b ≠ L ∧ g.get? b = none then (h.get? b).map fun o => (b, o) else none, ?_, ?_⟩
  · intro p hp
    obtain ⟨b, _, e⟩ := List.mem_filterMap.mp hp
    by_cases q : b ≠ L ∧ g.get? b = none
    · rw [if_pos q] at e
      cases e' : h.get? b with
      | none => rw [e'] at e; cases e
      | some o => rw [e'] at e; cases e; exact ⟨e', q.1, q.2⟩
    · rw [if_neg q] at e; cases e
  · intro b o e h1 h2
    refine List.mem_filterMap.mpr ⟨b, List.mem_range.mpr (Heap.lt_size e), ?_⟩
    rw [if_pos ⟨h1, h2⟩, e]
    rfl
theorem kept_all {g h h' : Heap} {L : Addr} {m m' : Str → Option Value} {NL NL' : List (Addr × Obj)} (F : Fr g L h m) (F' : Fr g L h' m') (N' : News g L h' NL') (hsub : ∀ p ∈ NL, p ∈ NL') (hN : ∀ b o, h.get? b = some o → b ≠ L → g.get? b = none → (b, o) ∈ NL) :
    ∀ b o, b ≠ L → h.get? b = some o → h'.get? b = some o := fun b o hb e => by
  cases q : g.get? b with
  | some o' =>
    have := F.keep b o' q
    rw [e] at this
    injection this with this
    subst this
    exact F'.keep b o q
  | none => exact (N' _ (hsub _ (hN b o e hb q))).1
theorem LabOk.more {Pr Pr' : Addr → Prop} {h : Heap} {lab : Addr} {k : Nat} (x : LabOk Pr h lab k) (hp : ∀ b, Pr' b → Pr b ∨ ((∃ o, h.get? b = some o) ∧ ∀ vs n, h.get? b ≠ some { cls := .type "list", data := .seq vs n } )) : LabOk Pr' h lab k := by
  obtain ⟨as, h1, h2, h3, h4, h5, h6⟩ := x
  refine ⟨as, h1, h2, h3, h4, h5, fun b hb => ?_⟩
  rcases hp b hb with q | ⟨q1, q2⟩
  · exact h6 b q
  · refine ⟨fun hm => ?_, q1⟩
    rcases List.mem_cons.mp hm with e | hm
    · obtain ⟨n, e'⟩ := h1
      exact q2 _ n (e ▸ e')
    · obtain ⟨vs, ns, ⟨n, e'⟩, _⟩ := h5 b hm
      exact q2 _ n e'
theorem LabOk.but {Pr : Addr → Prop} {h h' : Heap} {lab : Addr} {k : Nat} (x : LabOk Pr h lab k) (kp : ∀ b o, ¬ Pr b → h.get? b = some o → h'.get? b = some o) (kq : ∀ b, Pr b → ∃ o, h'.get? b = some o) : LabOk Pr h' lab k := by
  obtain ⟨as, h1, h2, h3, h4, h5, h6⟩ := x
  have pl : ∀ {a vs}, a ∈ lab :: as → h.PlainList a vs → h'.PlainList a vs := fun ha ⟨n, e⟩ => ⟨n, kp _ _ (fun q => (h6 _ q).1 ha) e⟩
  exact ⟨as, pl (List.mem_cons_self ..) h1, h2, h3, h4, fun a ha => let ⟨vs, ns, q1, q2⟩ := h5 a ha; ⟨vs, ns, pl (List.mem_cons_of_mem _ ha) q1, q2⟩, fun b hb => ⟨(h6 b hb).1, kq b hb⟩⟩
theorem LabOk.mono {Pr : Addr → Prop} {h : Heap} {lab : Addr} {k k' : Nat} (x : LabOk Pr h lab k) (hk : k ≤ k') : LabOk Pr h lab k' := by
  obtain ⟨as, h1, h2, h3, h4, h5, h6⟩ := x
  exact ⟨as, h1, h2, h3, by omega, fun a ha => let ⟨vs, ns, q1, q2, q3, q4⟩ := h5 a ha; ⟨vs, ns, q1, q2, q3, by omega⟩, h6⟩
theorem LabOk.there {Pr : Addr → Prop} {h : Heap} {lab : Addr} {k : Nat} (x : LabOk Pr h lab k) {b : Addr} (hb : Pr b) : ∃ o, h.get? b = some o := by
  obtain ⟨as, h1, h2, h3, h4, h5, h6⟩ := x
  exact (h6 b hb).2
set_option maxHeartbeats 4000000 in
theorem labels_loop {w : World} {mean : ExcName → Option Value} {mg mb : Str → Option Value} {E : Value → Shared → Prop} {s : Shared} {g : Heap} {L fa lab O X : Addr} {cdv : Value} {m₀ : Str → Option Value} {vs : List Value} {ns : List Int} {ys : Array Value} {Pr : Addr → Prop} {R : Result → Shared → Prop} {px : Pos}
    (C : Cx w mean mg mb g)
    (F : Fr g L s.heap (fun z => if z = Str.ofString "labels" then some (.ref lab) else if z = Str.ofString "others" then some (.ref O) else m₀ z))
    (hX : s.heap.IsList X vs.toArray) (hI : IntsAre vs ns) (hlen : ns.length ≤ 24)
    (hO : s.heap.PlainList O ys) (hys : IntsAre ys.toList (othersUp 6)) (PrO : Pr O) (PrL : Pr L) (PrX : Pr X) (hg : ∀ b o, g.get? b = some o → Pr b) (B : LabOk Pr s.heap lab 0) (hXL : X ≠ L) (hOL : O ≠ L)
    (h : ∀ h' tk m', Fr g L h' m' → LabOk Pr h' lab 24 → (∀ b o, Pr b → b ≠ L → s.heap.get? b = some o → h'.get? b = some o) → m' (Str.ofString "labels") = some (.ref lab) → R (.ok .next) { s with heap := h', toks := tk }) :
    wpAny (model pw w) (callerA.deeper (envOfC lawD.name lawD.scope L fa cdv)) (pyIter (.ref X)) (fun it s₂ => codeAny (model pw w) (callerA.deeper (envOfC lawD.name lawD.scope L fa cdv)) (.forLoop (.Name (Str.ofString "x") px) it labBody [] (envOfC lawD.name lawD.scope L fa cdv)) R s₂) E s := by
  refine wpAny_pyIter_list hX ?_
  have hXo : ∃ o, s.heap.get? X = some o := by obtain ⟨o, e, _⟩ := hX; exact ⟨o, e⟩
  have hne : X ≠ s.heap.objs.size := by obtain ⟨o, e⟩ := hXo; exact Nat.ne_of_lt (Heap.lt_size e)
  have hLI : L ≠ s.heap.objs.size := Nat.ne_of_lt F.ns.lt
  have hIn : ∀ b o, s.heap.get? b = some o → b ≠ s.heap.objs.size := fun b o e => Nat.ne_of_lt (Heap.lt_size e)
  have W := Walks.list (prog := pw) (w := w) (A := callerA.deeper (envOfC lawD.name lawD.scope L fa cdv)) rfl s.heap.objs.size X hne vs.toArray
  have st0 : (s.heap.push { cls := .type "list_iterator", data := .fields #[.ref X, .int 0 0] }).IsListIter s.heap.objs.size X 0 ∧ (s.heap.push { cls := .type "list_iterator", data := .fields #[.ref X, .int 0 0] }).IsList X vs.toArray :=
    ⟨⟨_, Heap.get?_push_size _ rfl, rfl, rfl⟩, hX.at fun o e => Heap.get?_push_of_some _ e⟩
  have k₂ : ∀ b o, s.heap.get? b = some o → (s.heap.push { cls := .type "list_iterator", data := .fields #[.ref X, .int 0 0] }).get? b = some o := fun b o e => Heap.get?_push_of_some _ e
  have F₀ := F.pushS { cls := .type "list_iterator", data := .fields #[.ref X, .int 0 0] }
  have B₀ : LabOk Pr (s.heap.push { cls := .type "list_iterator", data := .fields #[.ref X, .int 0 0] }) lab 0 := B.keeps (fun b o e _ => k₂ b o e) fun b hb => by
    obtain ⟨as, _, _, _, _, _, h6⟩ := B
    obtain ⟨o, e⟩ := (h6 b hb).2
    exact ⟨o, k₂ b o e⟩
  have hnl : ∀ b, b = s.heap.objs.size → ((∃ o, (s.heap.push { cls := .type "list_iterator", data := .fields #[.ref X, .int 0 0] }).get? b = some o) ∧ ∀ vs n, (s.heap.push { cls := .type "list_iterator", data := .fields #[.ref X, .int 0 0] }).get? b ≠ some { cls := .type "list", data := .seq vs n }) := fun b hb => by
    have e := Heap.get?_push_size s.heap (o := { cls := .type "list_iterator", data := .fields #[.ref X, .int 0 0] }) rfl
    rw [hb, e]
    exact ⟨⟨_, rfl⟩, fun vs n q => by have := congrArg (fun o : Option Obj => o.map (·.data)) q; simp at this⟩
  have B₁ : LabOk (fun b => Pr b ∨ b = s.heap.objs.size) (s.heap.push { cls := .type "list_iterator", data := .fields #[.ref X, .int 0 0] }) lab 0 := B₀.more fun b hb => hb.elim .inl fun q => .inr (hnl b q)
  clear B₀ hnl
  generalize s.heap.push { cls := .type "list_iterator", data := .fields #[.ref X, .int 0 0] } = H at st0 k₂ F₀ B₁ ⊢
  generalize s.heap.objs.size = I at *
  refine codeAny_forLoop (fun n s' => ∃ h' tk i m', s' = { s with heap := h', toks := tk } ∧ i ≤ vs.toArray.size ∧ n = vs.toArray.size + 1 - i ∧ (h'.IsListIter I X i ∧ h'.IsList X vs.toArray) ∧ Fr g L h' m' ∧ m' (Str.ofString "labels") = some (.ref lab) ∧ m' (Str.ofString "others") = some (.ref O) ∧
      LabOk (fun b => Pr b ∨ b = I) h' lab i ∧ ∀ b o, Pr b → b ≠ L → s.heap.get? b = some o → h'.get? b = some o) ?_ (vs.toArray.size + 1) ⟨H, s.toks, 0, _, rfl, Nat.zero_le _, rfl, st0, F₀, rfl, rfl, B₁, fun b o _ _ e => k₂ b o e⟩
  rintro n s' ⟨h', tk, i, m', rfl, hi, rfl, hst, F', hm1, hm2, B', hkp⟩
  have hvl : vs.toArray.size = ns.length := by rw [List.size_toArray]; exact hI.length
  by_cases hlt : i < vs.toArray.size
  · refine W.item i _ _ _ hlt hst fun v h₅ tk₅ hPv hst₅ hk₅ => ?_
    have up₅ : ∀ b o, b ≠ I → h'.get? b = some o → h₅.get? b = some o := fun b o hb e => hk₅ b o (by simpa using hb) e
    obtain ⟨nx, hnx⟩ : ∃ nx, ns[i]? = some nx := ⟨_, List.getElem?_eq_getElem (by omega)⟩
    obtain ⟨tv, htv⟩ := hI.get _ _ hnx
    rw [List.getElem?_toArray, htv] at hPv
    injection hPv with hPv
    subst hPv
    have hgI : ∀ b o, g.get? b = some o → b ≠ I := fun b o e => hIn b o (F.keep b o e)
    refine wpAny_assign_Name (wpAny_storeName_local (by rfl) (F'.ns.at' fun o e => up₅ _ o hLI e) (fun h₆ hn₆ hs₆ => ?_) (by rfl))
    have up₆ : ∀ b o, b ≠ I → b ≠ L → h'.get? b = some o → h₆.get? b = some o := fun b o b1 b2 e => hs₆.extBut b o b2 (up₅ b o b1 e)
    have hst₆ : h₆.IsListIter I X (i + 1) ∧ h₆.IsList X vs.toArray := W.frame _ _ _ hst₅ fun b hb o e => hs₆.extBut b o (fun q => by
      rcases List.mem_cons.mp hb with e' | hb
      · exact hLI (q.symm.trans e')
      · exact hXL ((List.mem_singleton.mp hb).symm.trans q)) e
    have em : (fun z => if z = Str.ofString "x" then some (Value.int nx tv) else m' z) = fun z => if z = Str.ofString "x" then some (Value.int nx tv) else if z = Str.ofString "labels" then some (.ref lab) else if z = Str.ofString "others" then some (.ref O) else m' z := by
      funext z
      by_cases q1 : z = Str.ofString "x"
      · rw [if_pos q1, if_pos q1]
      · rw [if_neg q1, if_neg q1]
        by_cases q2 : z = Str.ofString "labels"
        · rw [if_pos q2, q2, hm1]
        · rw [if_neg q2]
          by_cases q3 : z = Str.ofString "others"
          · rw [if_pos q3, q3, hm2]
          · rw [if_neg q3]
    rw [em] at hn₆
    have F₆ : Fr g L h₆ _ := ⟨hn₆, fun b o e => up₆ b o (hgI b o e) (Nat.ne_of_lt (Nat.lt_of_lt_of_le (Heap.lt_size e) F.above)) (F'.keep b o e), F.above⟩
    have B₆ : LabOk (fun b => Pr b ∨ b = I) h₆ lab i := B'.but (fun b o hb e => up₆ b o (fun q => hb (.inr q)) (fun q => hb (.inl (q ▸ PrL))) e) fun b hb => by
      by_cases q : b = L
      · obtain ⟨o, _, _, e, _⟩ := hn₆
        exact ⟨o, q ▸ e⟩
      · by_cases q' : b = I
        · obtain ⟨o, e, _⟩ := hst₆.1
          exact ⟨o, q' ▸ e⟩
        · obtain ⟨o, e⟩ := B'.there hb
          exact ⟨o, up₆ b o q' q e⟩
    obtain ⟨nO, hOo⟩ := hO
    have hOI : O ≠ I := hIn _ _ hOo
    have hO₆ : h₆.PlainList O ys := ⟨nO, up₆ _ _ hOI hOL (hkp _ _ PrO hOL hOo)⟩
    refine lab_body (m₀ := m') C F₆ hO₆ hys (.inl PrO) (.inl PrL) (fun b o e => .inl (hg b o e)) (by omega) B₆ fun h₇ tk₇ F₇ B₇ k₇ => ?_
    refine ⟨vs.toArray.size + 1 - (i + 1), by omega, h₇, tk₇, i + 1, _, rfl, hlt, rfl, W.frame _ _ _ hst₆ fun b hb o e => k₇ b o ?_ e, F₇, rfl, rfl, B₇, fun b o b1 b2 e => k₇ b o (.inl b1) (up₆ b o (hIn b o e) b2 (hkp b o b1 b2 e))⟩
    rcases List.mem_cons.mp hb with e' | hb
    · exact .inr e'
    · rw [List.mem_singleton.mp hb]; exact .inl PrX
  · obtain rfl : i = vs.toArray.size := by omega
    refine W.done _ _ _ hst fun h₅ tk₅ hk₅ => ?_
    have up₅ : ∀ b o, b ≠ I → h'.get? b = some o → h₅.get? b = some o := fun b o hb e => hk₅ b o (by simpa using hb) e
    refine wpAny_execs_nil (h h₅ tk₅ m' ⟨F'.ns.at' fun o e => up₅ _ o hLI e, fun b o e => up₅ b o (hIn b o (F.keep b o e)) (F'.keep b o e), F.above⟩ ?_ (fun b o b1 b2 e => up₅ b o (hIn b o e) (hkp b o b1 b2 e)) hm1)
    have B₅ : LabOk Pr h' lab 24 := (B'.mono (by omega)).more fun b hb => .inl (.inl hb)
    obtain ⟨as, h1, h2, h3, h4, h5, h6⟩ := B'
    have hIas : ∀ a ∈ lab :: as, a ≠ I := fun a ha q => (h6 I (.inr rfl)).1 (q ▸ ha)
    refine ⟨as, h1.at fun o e => up₅ _ o (hIas _ (List.mem_cons_self ..)) e, h2, h3, by omega, fun a ha => ?_, fun b hb => ⟨(h6 b (.inl hb)).1, ?_⟩⟩
    · obtain ⟨vs', ns', q1, q2, q3, q4⟩ := h5 a ha
      exact ⟨vs', ns', q1.at fun o e => up₅ _ o (hIas _ (List.mem_cons_of_mem _ ha)) e, q2, q3, by omega⟩
    · obtain ⟨o, e⟩ := B.there hb
      obtain ⟨o', e'⟩ := (h6 b (.inl hb)).2
      exact ⟨o', up₅ b o' (hIn b o e) e'⟩
set_option maxHeartbeats 4000000 in
theorem labels_at {w : World} {mean : ExcName → Option Value} {mg mb : Str → Option Value} {E : Value → Shared → Prop} {s : Shared} {g h' : Heap} {tk : Nat} {L fa lab O X : Addr} {cdv : Value} {m m₀ : Str → Option Value} {vs : List Value} {ns : List Int} {ys : Array Value} {Pr : Addr → Prop} {R : Result → Shared → Prop} {px : Pos} {NL NL' : List (Addr × Obj)}
    (C : Cx w mean mg mb g) (F : Fr g L s.heap m) (hNL : ∀ b o, s.heap.get? b = some o → b ≠ L → g.get? b = none → (b, o) ∈ NL)
    (F' : Fr g L h' (fun z => if z = Str.ofString "labels" then some (.ref lab) else if z = Str.ofString "others" then some (.ref O) else m₀ z)) (N' : News g L h' NL') (hsub : ∀ p ∈ NL, p ∈ NL') (hX : (X, W.listOf vs.toArray 0) ∈ NL') (hXl : ∀ p ∈ NL, p.1 < X)
    (hI : IntsAre vs ns) (hlen : ns.length ≤ 24)
    (hO : s.heap.PlainList O ys) (hys : IntsAre ys.toList (othersUp 6)) (PrO : Pr O) (PrL : Pr L) (hg : ∀ b o, g.get? b = some o → Pr b) (B : LabOk Pr s.heap lab 0)
    (h : ∀ h' tk m', Fr g L h' m' → LabOk Pr h' lab 24 → (∀ b o, Pr b → b ≠ L → s.heap.get? b = some o → h'.get? b = some o) → m' (Str.ofString "labels") = some (.ref lab) → R (.ok .next) { s with heap := h', toks := tk }) :
    wpAny (model pw w) (callerA.deeper (envOfC lawD.name lawD.scope L fa cdv)) (pyIter (.ref X)) (fun it s₂ => codeAny (model pw w) (callerA.deeper (envOfC lawD.name lawD.scope L fa cdv)) (.forLoop (.Name (Str.ofString "x") px) it labBody [] (envOfC lawD.name lawD.scope L fa cdv)) R s₂) E { s with heap := h', toks := tk } := by
  have up := kept_all F F' N' hsub hNL
  have hXo := N' _ hX
  obtain ⟨as, h1, h2, h3, h4, h5, h6⟩ := B
  have hLas : L ∉ lab :: as := (h6 L PrL).1
  have hgas : ∀ a ∈ lab :: as, g.get? a = none := fun a ha => by
    cases e : g.get? a with
    | none => rfl
    | some o => exact absurd ha (h6 a (hg a o e)).1
  have lt : ∀ b o, s.heap.get? b = some o → b ≠ L → g.get? b = none → b ≠ X := fun b o e b1 b2 => Nat.ne_of_lt (hXl _ (hNL b o e b1 b2))
  have hlX : ∀ a ∈ lab :: as, a ≠ X := fun a ha => by
    have hne : a ≠ L := fun q => hLas (q ▸ ha)
    rcases List.mem_cons.mp ha with e | ha'
    · obtain ⟨n, e'⟩ := h1
      exact lt a _ (e ▸ e') hne (hgas a ha)
    · obtain ⟨vs, ns, ⟨n, e'⟩, _⟩ := h5 a ha'
      exact lt a _ e' hne (hgas a ha)
  have upa : ∀ {a vs}, a ∈ lab :: as → s.heap.PlainList a vs → h'.PlainList a vs := fun ha x => x.at fun o e => up _ o (fun q => hLas (q ▸ ha)) e
  have B' : LabOk (fun b => Pr b ∨ b = X) h' lab 0 := ⟨as, upa (List.mem_cons_self ..) h1, h2, h3, h4, fun a ha => let ⟨vs, ns, q1, q2⟩ := h5 a ha; ⟨vs, ns, upa (List.mem_cons_of_mem _ ha) q1, q2⟩, fun b hb => by
    rcases hb with hb | rfl
    · refine ⟨(h6 b hb).1, ?_⟩
      by_cases q : b = L
      · obtain ⟨o, _, _, e, _⟩ := F'.ns
        exact ⟨o, q ▸ e⟩
      · obtain ⟨o, e⟩ := (h6 b hb).2
        exact ⟨o, up b o q e⟩
    · exact ⟨fun q => hlX _ q rfl, _, hXo.1⟩⟩
  have hOL : O ≠ L := fun q => by
    obtain ⟨n, e⟩ := hO
    obtain ⟨o, es, ep, e', hd, _⟩ := F.ns
    rw [q, e'] at e
    injection e with e
    rw [e] at hd
    cases hd
  refine labels_loop (s := { s with heap := h', toks := tk }) (Pr := fun b => Pr b ∨ b = X) C F' ⟨_, hXo.1, rfl, _, rfl⟩ hI hlen (hO.at fun o e => up _ o hOL e) hys (.inl PrO) (.inl PrL) (.inr rfl) (fun b o e => .inl (hg b o e)) B' hXo.2.1 hOL fun h₂ tk₂ m₂ F₂ B₂ k₂ hm => ?_
  exact h h₂ tk₂ m₂ F₂ (B₂.more fun b hb => .inl (.inl hb)) (fun b o b1 b2 e => k₂ b o (.inl b1) b2 (up b o b2 e)) hm
set_option maxHeartbeats 4000000 in
theorem labels_for {w : World} {mean : ExcName → Option Value} {mg mb : Str → Option Value} {E : Value → Shared → Prop} {s : Shared} {g : Heap} {L fa lab O sc : Addr} {cdv : Value} {m₀ : Str → Option Value} {xs : List Value} {ns : List Int} {ys : Array Value} {Pr : Addr → Prop} {Q : Flow → Shared → Prop}
    (C : Cx w mean mg mb g)
    (F : Fr g L s.heap (fun z => if z = Str.ofString "labels" then some (.ref lab) else if z = Str.ofString "others" then some (.ref O) else if z = Str.ofString "script" then some (.ref sc) else m₀ z))
    (hL : g.IsList sc xs.toArray) (hI : IntsAre xs ns) (hlen : ¬ (63 : Int) < (ns.length : Int))
    (hO : s.heap.PlainList O ys) (hys : IntsAre ys.toList (othersUp 6)) (PrO : Pr O) (PrL : Pr L) (hg : ∀ b o, g.get? b = some o → Pr b) (B : LabOk Pr s.heap lab 0)
    (h : ∀ h' tk m', Fr g L h' m' → LabOk Pr h' lab 24 → (∀ b o, Pr b → b ≠ L → s.heap.get? b = some o → h'.get? b = some o) → m' (S "labels") = some (.ref lab) → Q .next { s with heap := h', toks := tk }) :
    wpAny (model pw w) (callerA.deeper (envOfC lawD.name lawD.scope L fa cdv)) (exec (stAt (fBody 17) 3) (envOfC lawD.name lawD.scope L fa cdv)) Q E s := by
  have C₀ := C
  obtain ⟨KX, GL, T⟩ := C
  obtain ⟨NL, N, hNL⟩ := news_all F
  have F0 : Kp (Fr g L s.heap _) := ⟨F⟩
  conv in stAt _ _ => whnf
  refine wpAny_For ?_
  repeat' (fail_if_success (with_reducible show wpAny _ _ (pyIter _) _ _ _)); (first | walk1 | (dsimp only; walk1))
  all_goals try dsimp only
  all_goals
    rename Fr g L _ _ => F'
    rename News g L _ _ => N'
  · refine labels_at (NL := NL) C₀ F0.p hNL F' N' (fun p hp => List.mem_cons_of_mem _ hp) (List.mem_cons_self ..) (by assumption) (ns := List.take 24 ns) (by assumption) (by rw [List.length_take]; omega) hO hys PrO PrL hg B ?_
    intro h₂ tk₂ m₂ F₂ B₂ k₂ hm
    exact h h₂ tk₂ m₂ F₂ B₂ k₂ hm
  · rename _ ∧ AllLt _ NL => l1
    refine labels_at (NL := NL) C₀ F0.p hNL F' N' (fun p hp => List.mem_cons_of_mem _ (List.mem_cons_of_mem _ hp)) (List.mem_cons_self ..) (fun p hp => allLt_mem l1.2 p hp) (ns := [3, 6, 4, 5]) (by repeat constructor) (by decide) hO hys PrO PrL hg B ?_
    intro h₂ tk₂ m₂ F₂ B₂ k₂ hm
    exact h h₂ tk₂ m₂ F₂ B₂ k₂ hm
end
end Mine
end
section
open PySem PySem.W PyProof.Rows
set_option maxRecDepth 100000
namespace Mine
noncomputable section
def bigBody : List Stmt := forBody (some (stAt (fBody 17) 4))
def foldOf (n : Nat) : Str := if b1L.contains (n : Int) then Str.ofString "" else b3Of n
/-- one label: a list of code points -/
structure CodesOk (h : Heap) (cd : Addr) (vs : Array Value) (ks : List Nat) : Prop where
  pl : h.PlainList cd vs
  isI : IntsAre vs.toList (ks.map fun (k : Nat) => (k : Int))
  rng : ∀ k ∈ ks, k < 1114112
  len : ks.length ≤ 24
theorem CodesOk.mem {h : Heap} {cd : Addr} {vs : Array Value} {ks : List Nat} (x : CodesOk h cd vs ks) : ∀ v ∈ vs.toList, ∃ k t, v = .int (k : Nat) t ∧ k ∈ ks := by
  have : ∀ (l : List Value) (ks : List Nat), IntsAre l (ks.map fun (k : Nat) => (k : Int)) → ∀ v ∈ l, ∃ k t, v = .int (k : Nat) t ∧ k ∈ ks := by
    intro l
    induction l with
    | nil => intro _ _ v hv; cases hv
    | cons a l ih =>
      intro ks hi v hv
      cases ks with
      | nil => cases hi
      | cons k ks =>
        cases hi with
        | cons _ _ hr =>
          rcases List.mem_cons.mp hv with rfl | hv
          · exact ⟨k, _, rfl, List.mem_cons_self ..⟩
          · obtain ⟨k', t', e, hm⟩ := ih ks hr v hv
            exact ⟨k', t', e, List.mem_cons_of_mem _ hm⟩
  exact this _ _ x.isI
theorem paired_strs {f : Nat → Str} : ∀ (vs ys : List Value) (ks : List Nat), IntsAre vs (ks.map fun (k : Nat) => (k : Int)) → Paired (fun v y => ∃ k t t', v = Value.int (k : Nat) t ∧ y = Value.str (f k) t') vs ys → StrsAre ys (ks.map f)
  | _, _, [], .nil, .nil => .nil
  | _, _, k :: ks, .cons _ _ hr, .cons ⟨k', t, t', e, e'⟩ hp => by
    injection e with e
    obtain rfl : k = k' := Int.ofNat_inj.mp e
    subst e'
    exact .cons _ _ (paired_strs _ _ ks hr hp)
set_option maxHeartbeats 4000000 in
theorem folds_to {w : World} {mean : ExcName → Option Value} {mg mb : Str → Option Value} {E : Value → Shared → Prop} {s : Shared} {g : Heap} {L fa cd : Addr} {cdv : Value} {m : Str → Option Value} {vs : Array Value} {ks : List Nat} {Q : Flow → Shared → Prop}
    (C : Cx w mean mg mb g) (F : Fr g L s.heap m) (hm : m (Str.ofString "codes") = some (.ref cd)) (K : CodesOk s.heap cd vs ks)
    (h : ∀ h' tk D ys, Fr g L h' (fun z => if z = Str.ofString "folds" then some (.ref D) else m z) → h'.PlainList D ys → StrsAre ys.toList (ks.map foldOf) → (∀ b o, b ≠ L → s.heap.get? b = some o → h'.get? b = some o) → s.heap.get? D = none → Q .next { s with heap := h', toks := tk }) :
    wpAny (model pw w) (callerA.deeper (envOfC lawD.name lawD.scope L fa cdv)) (exec (stAt bigBody 0) (envOfC lawD.name lawD.scope L fa cdv)) Q E s := by
  conv in stAt _ _ => whnf
  have V : EnvOk (envOfC lawD.name lawD.scope L fa cdv) := ⟨rfl, rfl, rfl⟩
  have hvl : vs.size = ks.length := by
    have := K.isI.length
    simpa using this
  have hlen := K.len
  refine comp_list_to (cl := []) (m := m) (ax := cd) (items := vs) (fun _ => true) (fun v y => ∃ k t t', v = Value.int (k : Nat) t ∧ y = Value.str (foldOf k) t') rfl (by rfl) (by rfl) (by decide +kernel) (by rfl) (by decide +kernel) (by rfl) (by rfl) (by rfl) (by rw [hvl, sizeLine_eq]; omega) F.ns ?_ ?_ ?_ ?_
  · exact loc_name V (by rfl) F.ns hm (by decide +kernel) ⟨rfl, Keeps.refl _, K.pl.isList⟩
  · intro Ca v s₃ m₃ E' hv hk hn hm'
    exact wpAny_pure ⟨rfl, Keeps.refl _⟩
  · intro Ca v s₃ m₃ E' hv _ hk hn hm'
    obtain ⟨k, t, rfl, hks⟩ := K.mem v hv
    have hkr := K.rng k hks
    have C₃ : Cx w mean mg mb s₃.heap := (C.keeps F.keep).keeps hk
    obtain ⟨H3, g3, d3, tk3, os3⟩ := s₃
    walk1
    walk1
    refine fn1 (f := 51) (o := o51_3 w.params) C₃ (envOk_comp V rfl) (by kernel_rfl) (by kernel_rfl) rfl (by rfl) (by decide +kernel) ?_
    refine built1 C₃ (envOk_comp V rfl) (by kernel_rfl) boot_chr (by decide +kernel) (by rfl) (by decide +kernel) ?_
    refine loc_name (envOk_comp V rfl) (by rfl) hn hm' (by decide +kernel) ?_
    refine chr_of_range (by omega) (by omega) ?_
    rw [show ((k : Nat) : Int).toNat = k from Int.toNat_natCast k]
    refine ⟨⟨_, _, rfl, fun _ _ e => e⟩, wpAny_call (c_b1 C₃ (by decide +kernel) (by decide +kernel) hkr ?_)⟩
    intro s₄ k₄
    have C₄ := C₃.keeps (Keeps.heap k₄)
    have hn₄ := hn.keeps (Keeps.heap k₄)
    obtain ⟨H4, tk4, rfl, k₄⟩ := k₄
    dsimp only
    walk1
    split
    · rename_i hb
      walk1
      exact ⟨⟨k, t, _, rfl, by unfold foldOf; rw [if_pos hb]⟩, ⟨_, _, rfl, k₄⟩⟩
    · rename_i hb
      refine fn1 (f := 97) (o := o97_5 w.params) C₄ (envOk_comp V rfl) (by kernel_rfl) (by kernel_rfl) rfl (by rfl) (by decide +kernel) ?_
      refine built1 C₄ (envOk_comp V rfl) (by kernel_rfl) boot_chr (by decide +kernel) (by rfl) (by decide +kernel) ?_
      refine loc_name (envOk_comp V rfl) (by rfl) hn₄ hm' (by decide +kernel) ?_
      refine chr_of_range (by omega) (by omega) ?_
      rw [show ((k : Nat) : Int).toNat = k from Int.toNat_natCast k]
      refine ⟨⟨_, _, rfl, fun _ _ e => e⟩, wpAny_call (c_b3 C₄ (by decide +kernel) (by decide +kernel) hkr ?_)⟩
      intro tk₅ s₅ k₅
      obtain ⟨H5, tk5, rfl, k₅⟩ := k₅
      exact ⟨⟨k, t, tk₅, rfl, by unfold foldOf; rw [if_neg hb]⟩, ⟨_, _, rfl, fun b o e => k₅ b o (k₄ b o e)⟩⟩
  · intro D h' tk ys hD hpl hp hN hk
    rw [List.filter_eq_self.mpr (fun _ _ => rfl)] at hp
    exact h h' tk D ys ⟨hN, fun b o e => hk b o (Nat.ne_of_lt (Nat.lt_of_lt_of_le (Heap.lt_size e) F.above)) (F.keep b o e), F.above⟩ hpl (paired_strs _ _ _ K.isI hp) hk hD
end
end Mine
end
section
open PySem PySem.W PyProof.Rows
set_option maxRecDepth 100000
namespace Mine
noncomputable section
def toldOf (x : Str) : Option Str := if x.cps.toList.all (fun c => decide (c ≤ 127)) then some x else none
inductive OptsAre : List Value → List (Option Str) → Prop
  | nil : OptsAre [] []
  | cons (o : Option Str) (t : Tok) {vs os} : OptsAre vs os → OptsAre (valOf o t :: vs) (o :: os)
theorem paired_opts {f : Str → Option Str} : ∀ (vs ys : List Value) (xs : List Str), StrsAre vs xs → Paired (fun v y => ∃ x t t', v = Value.str x t ∧ y = valOf (f x) t') vs ys → OptsAre ys (xs.map f)
  | _, _, [], .nil, .nil => .nil
  | _, _, x :: xs, .cons _ _ hr, .cons ⟨x', t, t', e, e'⟩ hp => by
    injection e with e
    subst e
    subst e'
    exact .cons _ _ (paired_opts _ _ xs hr hp)
theorem StrsAre.mem {vs : List Value} {xs : List Str} (h : StrsAre vs xs) : ∀ v ∈ vs, ∃ x t, v = .str x t ∧ x ∈ xs := by
  induction h with
  | nil => intro v hv; cases hv
  | cons y t _ ih =>
    intro v hv
    rcases List.mem_cons.mp hv with rfl | hv
    · exact ⟨y, t, rfl, List.mem_cons_self ..⟩
    · obtain ⟨x, t', e, hm⟩ := ih v hv
      exact ⟨x, t', e, List.mem_cons_of_mem _ hm⟩
def hiSign (v : Value) : Bool := match v with | .str x _ => decide (127 < x.cps.getD 0 0) | _ => false
theorem hiSign_is (c : Nat) (u : Tok) : hiSign (.str ⟨#[c]⟩ u) = decide (127 < c) := rfl
theorem told_signs {x : Str} {us ys : List Value} {F : Value → Value → Prop} (hul : us.length = x.length) (hus : ∀ j v, us[j]? = some v → SignAt x j v) (hp : Paired F (us.filter hiSign) ys) :
    ys.length = 0 ↔ x.cps.toList.all (fun c => decide (c ≤ 127)) = true := by
  have e1 := hp.length
  rw [← e1, List.length_eq_zero_iff, List.filter_eq_nil_iff]
  constructor
  · intro q
    rw [List.all_eq_true]
    intro c hc
    obtain ⟨j, hj, rfl⟩ := List.mem_iff_getElem.mp hc
    have hj' : j < us.length := by rw [hul]; simpa [Str.length] using hj
    obtain ⟨c', u, h1, h2⟩ := hus j us[j] (List.getElem?_eq_getElem hj')
    have := q us[j] (List.getElem_mem hj')
    rw [h2] at this
    have h3 : c' = x.cps.toList[j] := by
      rw [← Array.getElem?_toList, List.getElem?_eq_getElem hj] at h1
      exact (Option.some.inj h1).symm
    rw [← h3]
    rw [hiSign_is] at this
    simp only [decide_eq_true_eq, Nat.not_lt] at this
    exact decide_eq_true this
  · intro q v hv
    obtain ⟨j, hj, rfl⟩ := List.mem_iff_getElem.mp hv
    obtain ⟨c', u, h1, h2⟩ := hus j us[j] (List.getElem?_eq_getElem hj)
    rw [h2]
    have hc : c' ∈ x.cps.toList := by rw [← Array.getElem?_toList] at h1; exact List.mem_of_getElem? h1
    have := of_decide_eq_true (List.all_eq_true.mp q c' hc)
    rw [hiSign_is]
    simp only [decide_eq_true_eq, Nat.not_lt]
    exact this
set_option maxHeartbeats 4000000 in
theorem told_to {w : World} {mean : ExcName → Option Value} {mg mb : Str → Option Value} {E : Value → Shared → Prop} {s : Shared} {g : Heap} {L fa fd : Addr} {cdv : Value} {m : Str → Option Value} {vs : Array Value} {xs : List Str} {Q : Flow → Shared → Prop}
    (C : Cx w mean mg mb g) (F : Fr g L s.heap m) (hm : m (Str.ofString "folds") = some (.ref fd)) (hpl : s.heap.PlainList fd vs) (hxs : StrsAre vs.toList xs) (hlen : xs.length ≤ 24) (hxl : ∀ x ∈ xs, x.length ≤ 1000)
    (h : ∀ h' tk D ys, Fr g L h' (fun z => if z = Str.ofString "told" then some (.ref D) else m z) → h'.PlainList D ys → OptsAre ys.toList (xs.map toldOf) → (∀ b o, b ≠ L → s.heap.get? b = some o → h'.get? b = some o) → s.heap.get? D = none → Q .next { s with heap := h', toks := tk }) :
    wpAny (model pw w) (callerA.deeper (envOfC lawD.name lawD.scope L fa cdv)) (exec (stAt bigBody 1) (envOfC lawD.name lawD.scope L fa cdv)) Q E s := by
  conv in stAt _ _ => whnf
  have V : EnvOk (envOfC lawD.name lawD.scope L fa cdv) := ⟨rfl, rfl, rfl⟩
  have hvl : vs.size = xs.length := by
    have := StrsAre.len hxs
    simpa using this
  refine comp_list_to (cl := []) (m := m) (ax := fd) (items := vs) (fun _ => true) (fun v y => ∃ x t t', v = Value.str x t ∧ y = valOf (toldOf x) t') rfl (by rfl) (by rfl) (by decide +kernel) (by rfl) (by decide +kernel) (by rfl) (by rfl) (by rfl) (by rw [hvl, sizeLine_eq]; omega) F.ns ?_ ?_ ?_ ?_
  · exact loc_name V (by rfl) F.ns hm (by decide +kernel) ⟨rfl, Keeps.refl _, hpl.isList⟩
  · intro Ca v s₃ m₃ E' hv hk hn hm'
    exact wpAny_pure ⟨rfl, Keeps.refl _⟩
  · intro Ca v s₃ m₃ E' hv _ hk hn hm'
    obtain ⟨x, t, rfl, hx⟩ := StrsAre.mem hxs v hv
    have hxl' := hxl x hx
    have C₃ : Cx w mean mg mb s₃.heap := (C.keeps F.keep).keeps hk
    obtain ⟨H3, g3, d3, tk3, os3⟩ := s₃
    walk1
    walk1
    refine comp_str (cl := []) (xs := x) hiSign (fun v y => True) rfl (by rfl) (by decide +kernel) rfl (by decide +kernel) (by rfl) (by rw [sizeLine_eq]; omega) ?_ ?_ ?_ ?_
    · exact loc_name (envOk_comp V rfl) (by rfl) hn hm' (by decide +kernel) ⟨⟨_, rfl⟩, Keeps.refl _⟩
    · intro Cb c u s₄ m₄ E'' hc hk₄ hn₄ hm₄
      refine wpAny_tests_one ?_
      have C₄ : Cx w mean mg mb s₄.heap := C₃.keeps hk₄
      obtain ⟨H4, g4, d4, tk4, os4⟩ := s₄
      walk1
      refine built1 C₄ (envOk_comp (envOk_comp V rfl) rfl) (by kernel_rfl) boot_ord (by decide +kernel) (by rfl) (by decide +kernel) ?_
      refine loc_name (envOk_comp (envOk_comp V rfl) rfl) (by rfl) hn₄ hm₄ (by decide +kernel) ?_
      refine P.ord_of_char ?_
      repeat' (first | walk1 | (dsimp only; walk1))
      · show decide ((127 : Int) < (c : Int)) = decide (127 < c)
        by_cases q : 127 < c
        · rw [decide_eq_true q, decide_eq_true (by omega)]
        · rw [decide_eq_false q, decide_eq_false (by omega)]
      · exact ⟨_, _, rfl, fun _ _ e => e⟩
    · intro Cb c u s₄ m₄ E'' hc _ hk₄ hn₄ hm₄
      exact loc_name (envOk_comp (envOk_comp V rfl) rfl) (by rfl) hn₄ hm₄ (by decide +kernel) ⟨trivial, Keeps.refl _⟩
    · intro D h' tk ys us hD hpl' hul hus hp hk'
      refine List_ (args_nil (wpAny_newObj_type ?_))
      have hD' : (h'.push { cls := .type "list", data := .seq ([] : List Value).toArray }).IsList D ys := (hpl'.at fun o e => Heap.get?_push_of_some _ e).isList
      have hE' : (h'.push { cls := .type "list", data := .seq ([] : List Value).toArray }).IsList h'.objs.size #[] := ⟨_, Heap.get?_push_size _ rfl, rfl, _, rfl⟩
      have told : (ys.size = 0) ↔ x.cps.toList.all (fun c => decide (c ≤ 127)) = true := by rw [← told_signs hul hus hp]; simp
      have hmn : (h'.push { cls := .type "list", data := .seq ([] : List Value).toArray }).Ns Ca m₃ := hn.keeps fun b o e => Heap.get?_push_of_some _ (hk' b o e)
      by_cases hy : ys.size = 0
      · refine PySem.SeqAt.eq_listAt (e := fun _ => true) hD' hE' hy (by show 4 + 3 < cLine; decide +kernel) (fun j h1 _ => by omega) ?_
        rw [hy]
        refine wpAny_truthy_bool ?_
        rw [if_pos (by rfl)]
        refine loc_name (envOk_comp V rfl) (by rfl) hmn hm' (by decide +kernel) ?_
        exact ⟨⟨x, t, t, rfl, by unfold toldOf; rw [if_pos (told.mp hy)]; rfl⟩, ⟨_, _, rfl, fun b o e => Heap.get?_push_of_some _ (hk' b o e)⟩⟩
      · refine PySem.SeqAt.eq_list_lengthsAt hD' hE' (by simpa using hy) (by show 4 + 3 < cLine; decide +kernel) ?_
        refine wpAny_truthy_bool ?_
        rw [if_neg (by decide)]
        walk1
        exact ⟨⟨x, t, t, rfl, by unfold toldOf; rw [if_neg (fun q => hy (told.mpr q))]; rfl⟩, ⟨_, _, rfl, fun b o e => Heap.get?_push_of_some _ (hk' b o e)⟩⟩
  · intro D h' tk ys hD hpl' hp hN hk
    rw [List.filter_eq_self.mpr (fun _ _ => rfl)] at hp
    exact h h' tk D ys ⟨hN, fun b o e => hk b o (Nat.ne_of_lt (Nat.lt_of_lt_of_le (Heap.lt_size e) F.above)) (F.keep b o e), F.above⟩ hpl' (paired_opts _ _ _ hxs hp) hk hD
end
end Mine
end
section
open PySem PySem.W PyProof.Rows
set_option maxRecDepth 100000
namespace Mine
noncomputable section
theorem paired_nopts {f : Nat → Option Str} : ∀ (vs ys : List Value) (ks : List Nat), IntsAre vs (ks.map fun (k : Nat) => (k : Int)) → Paired (fun v y => ∃ k t t', v = Value.int (k : Nat) t ∧ y = valOf (f k) t') vs ys → OptsAre ys (ks.map f)
  | _, _, [], .nil, .nil => .nil
  | _, _, k :: ks, .cons _ _ hr, .cons ⟨k', t, t', e, e'⟩ hp => by
    injection e with e
    obtain rfl : k = k' := Int.ofNat_inj.mp e
    subst e'
    exact .cons _ _ (paired_nopts _ _ ks hr hp)
theorem OptsAre.len {vs : List Value} {os : List (Option Str)} (h : OptsAre vs os) : vs.length = os.length := by
  induction h with
  | nil => rfl
  | cons o t _ ih => simp [ih]
theorem OptsAre.at {vs : List Value} {os : List (Option Str)} (h : OptsAre vs os) : ∀ (i : Nat) (v : Value), vs[i]? = some v → ∃ o t, os[i]? = some o ∧ v = valOf o t := by
  induction h with
  | nil => intro i v e; simp at e
  | cons o t _ ih =>
    intro i v e
    cases i with
    | zero => simp at e; subst e; exact ⟨o, t, rfl, rfl⟩
    | succ i => simp at e; simpa using ih i v e
theorem eq_vals {A : Around} {s : Shared} (o : Option Str) (t u : Tok) : SeqAt.EqAt A s (valOf o t) (valOf o u) true := by
  cases o with
  | none => exact SeqAt.EqAt.same _
  | some x =>
    have := SeqAt.EqAt.str_str (A := A) (s := s) x t x u
    rw [beq_self_eq_true] at this
    exact this
theorem rcne {w : World} {A : Around} {E : Value → Shared → Prop} {s : Shared} {Q : Value → Shared → Prop} {a b : Value} {k : Bool} (h : SeqAt.RcNeAt A s a b k) (hq : Q (.bool k) s) : wpAny (model pw w) A (compareOp .NotEq a b) Q E s := h pw w E Q hq
set_option maxHeartbeats 4000000 in
theorem cmp_ok {w : World} {mean : ExcName → Option Value} {mg mb : Str → Option Value} {E : Value → Shared → Prop} {s : Shared} {g : Heap} {L fa cd td D : Addr} {cdv : Value} {m : Str → Option Value} {vs ts : Array Value} {ks : List Nat} {Q : Flow → Shared → Prop}
    (C : Cx w mean mg mb g) (F : Fr g L s.heap m) (hm : m (Str.ofString "codes") = some (.ref cd)) (hm2 : m (Str.ofString "told") = some (.ref td)) (K : CodesOk s.heap cd vs ks) (hts : s.heap.PlainList td ts) (hto : OptsAre ts.toList (ks.map sevenOf))
    (hcell : s.heap.IsCell (L + 1) (some (.ref D))) (hR : RowsAre rowTexts s.heap D)
    (h : ∀ h' tk, Fr g L h' m → (∀ b o, s.heap.get? b = some o → h'.get? b = some o) → Q .next { s with heap := h', toks := tk }) :
    wpAny (model pw w) (callerA.deeper (envOfC lawD.name lawD.scope L fa cdv)) (exec (stAt bigBody 2) (envOfC lawD.name lawD.scope L fa cdv)) Q E s := by
  conv in stAt _ _ => whnf
  have V : EnvOk (envOfC lawD.name lawD.scope L fa cdv) := ⟨rfl, rfl, rfl⟩
  have hvl : vs.size = ks.length := by
    have := K.isI.length
    simpa using this
  have hlen := K.len
  obtain ⟨H0, g0, d0, tk0, os0⟩ := s
  walk1
  walk1
  refine loc_name V (by rfl) F.ns hm2 (by decide +kernel) ?_
  refine comp_list (cl := [(Str.ofString "rows", L + 1)]) (ax := cd) (items := vs) (fun _ => true) (fun v y => ∃ k t t', v = Value.int (k : Nat) t ∧ y = valOf (sevenOf k) t') rfl (by rfl) (by decide +kernel) (by rfl) (by decide +kernel) (by rfl) (by rw [hvl, sizeLine_eq]; omega) ?_ ?_ ?_ ?_
  · exact loc_name V (by rfl) F.ns hm (by decide +kernel) ⟨rfl, Keeps.refl _, K.pl.isList⟩
  · intro Ca v s₃ m₃ E' hv hk hn hm'
    exact wpAny_pure ⟨rfl, Keeps.refl _⟩
  · intro Ca v s₃ m₃ E' hv _ hk hn hm'
    obtain ⟨k, t, rfl, hks⟩ := K.mem v hv
    have hkr := K.rng k hks
    have C₃ : Cx w mean mg mb s₃.heap := (C.keeps F.keep).keeps hk
    refine fn2 (f := 109) (o := o109_5 w.params) C₃ (envOk_comp V rfl) (by kernel_rfl) (by kernel_rfl) rfl (by rfl) (by decide +kernel) ?_
    refine loc_name (envOk_comp V rfl) (by rfl) hn hm' (by decide +kernel) ?_
    refine wpAny_Name (wpAny_loadName_cell (by rfl) (by rfl) (by rfl) (hcell.keeps hk) ?_) (by decide +kernel)
    refine ⟨Keeps.refl _, wpAny_call (c_seven C₃ (by decide +kernel) (by decide +kernel) hkr (hR.keeps hk) ?_)⟩
    intro tk₅ s₅ k₅
    exact ⟨⟨k, t, tk₅, rfl, rfl⟩, k₅⟩
  · intro D' h' tk ys hD hpl' hp hk
    rw [List.filter_eq_self.mpr (fun _ _ => rfl)] at hp
    have ho := paired_nopts _ _ _ K.isI hp
    have hl1 : ts.size = ys.size := by
      have e1 := hto.len
      have e2 := ho.len
      simpa using e1.trans e2.symm
    refine rcne (SeqAt.RcNeAt.lists (e := fun _ => true) ((hts.at fun o e => hk _ o e).isList) hpl'.isList hl1 (by show 4 + 3 < cLine; decide +kernel) (fun j h1 h2 => ?_)) ?_
    · obtain ⟨o1, t1, q1, q2⟩ := hto.at j ts[j] (by rw [Array.getElem?_toList, Array.getElem?_eq_getElem h1])
      obtain ⟨o2, t2, q3, q4⟩ := ho.at j ys[j] (by rw [Array.getElem?_toList, Array.getElem?_eq_getElem h2])
      rw [q1] at q3
      injection q3 with q3
      subst q3
      rw [q2, q4]
      exact eq_vals _ _ _
    · have : (!(List.range ts.size).all fun _ => true) = false := by simp
      rw [this]
      refine wpAny_truthy_bool ?_
      rw [if_neg (by decide)]
      refine wpAny_execs_nil ?_
      exact h h' tk ⟨F.ns.keeps hk, fun b o e => hk b o (F.keep b o e), F.above⟩ hk
end
end Mine
end
section
open PySem PySem.W PyProof.Rows
set_option maxRecDepth 100000
namespace Mine
theorem fold_cps : ∀ (rest : List Str) (x : Array Nat), (rest.foldl (fun acc p => acc ++ (Str.ofString "").cps ++ p.cps) x).toList = x.toList ++ rest.flatMap (fun p => p.cps.toList)
  | [], x => by simp
  | p :: r, x => by
    rw [List.foldl_cons, fold_cps r]
    have : (Str.ofString "").cps = #[] := by decide +kernel
    rw [this]
    simp
theorem join_cps (xs : List Str) : (Txt.join (Str.ofString "") xs).cps.toList = xs.flatMap (fun p => p.cps.toList) := by
  cases xs with
  | nil => decide +kernel
  | cons x r =>
    show (Str.cps (Builtin.Str.glued _ (x :: r))).toList = _
    have := fold_cps r x.cps
    rw [List.flatMap_cons]
    rw [← this]
    rfl
end Mine
end
section
open PySem PySem.W PyProof.Rows
set_option maxRecDepth 100000
namespace Mine
open PySem.Builtin
theorem slot_blower : Slot "bytes" "lower" "bytes.lower" :=
  .of (owner := "bytes") (n := "lower") (by rw [typeLookup_type, builtinLookup_eq_fast]; kernel_rfl) (by decide +kernel) (by decide +kernel) (by decide +kernel)
    (by first | exact .inl (by decide +kernel) | exact .inr (by decide +kernel)) (by rw [isSubtype_type]; kernel_rfl)
theorem type_blower : typeOf (.builtin "bytes.lower") = pure (.type "method_descriptor") := by show builtinType _ = _; rw [builtinType_eq_fast]; kernel_rfl
theorem entry_blower : entryFor table "bytes.lower" = some Builtin.«bytes.lower» := entryFor_of_tree (by kernel_rfl)
theorem args_blower (a : Value) : argsOk "bytes.lower" ⟨[a], []⟩ := by
  unfold argsOk; rw [signature?_of (id := "bytes.lower") (n := ['r', 'e', 'w', 'o', 'l']) (o := ['s', 'e', 't', 'y', 'b']) (by kernel_rfl) PySem.W.FB.owner_bytes]; kernel_rfl
section
variable {w : World} {A : Around} {E : Value → Shared → Prop} {s : Shared}
theorem call_blower {b : Array UInt8} {t : Tok} {Q : Value → Shared → Prop} (hz : b.size ≤ 1000) (hQ : ∀ t' k, Q (.bytes (b.toList.map Bytes.toLower).toArray t') { s with toks := k }) :
    wpAny (model pw w) A (call (.builtin "bytes.lower") [.bytes b t]) Q E s := by
  refine wpAny_call_entry slot_blower (typeIs_bytes _ _ _) entry_blower ?_ (args_blower _)
  show wpAny _ _ (do ret (← mkBytes (b.toList.map Bytes.toLower).toArray)) _ _ _
  unfold mkBytes
  rw [if_neg (by simp only [List.size_toArray, List.length_map, Array.length_toList]; show ¬ _ > _; rw [sizeLine_eq]; omega)]
  refine wpAny_bind (wpAny_bind (wpAny_fresh (wpAny_pure (wpAny_pure ⟨_, rfl, hQ _ _⟩))))
end
theorem lower_byte : ∀ c, c < 128 → Bytes.toLower (Nat.toUInt8 c) = Nat.toUInt8 (lo1 c) := by decide +kernel
theorem octs_lower (x : Str) (h : ∀ c ∈ x.cps.toList, c < 128) : ((octs x).toList.map Bytes.toLower).toArray = octs ⟨x.cps.map lo1⟩ := by
  rw [octs_is, octs_is]
  simp only [Array.toList_map, List.map_map]
  congr 1
  exact List.map_congr_left fun c hc => lower_byte c (h c hc)
end Mine
end
section
open PySem PySem.W PyProof.Rows
set_option maxRecDepth 100000
namespace Mine
noncomputable section
theorem KeepsS.other {L : Addr} {s s' : Shared} (k : KeepsS L s s') : ∀ b o, b ≠ L → s.heap.get? b = some o → s'.heap.get? b = some o := by
  obtain ⟨h', tk, rfl, k1, k2⟩ := k
  exact fun b o hb e => k1 b o e hb
theorem KeepsS.ns {L : Addr} {s s' : Shared} {m : Str → Option Value} (k : KeepsS L s s') (n : s.heap.Ns L m) : s'.heap.Ns L m := by
  obtain ⟨h', tk, rfl, k1, k2⟩ := k
  obtain ⟨o, es, ep, q1, q2, q3⟩ := n
  obtain ⟨sl, e⟩ := k2 o q1
  exact ⟨_, es, ep, e, q2, q3⟩
theorem KeepsS.fr {g : Heap} {L : Addr} {s s' : Shared} {m : Str → Option Value} (k : KeepsS L s s') (F : Fr g L s.heap m) : Fr g L s'.heap m :=
  ⟨k.ns F.ns, fun b o e => k.other b o (Nat.ne_of_lt (Nat.lt_of_lt_of_le (Heap.lt_size e) F.above)) (F.keep b o e), F.above⟩
theorem KeepsS.trans {L : Addr} {s s' s'' : Shared} (a : KeepsS L s s') (b : KeepsS L s' s'') : KeepsS L s s'' := by
  obtain ⟨h, tk, rfl, k1, k2⟩ := a
  obtain ⟨h', tk', rfl, k1', k2'⟩ := b
  refine ⟨h', tk', rfl, fun b o e hb => k1' b o (k1 b o e hb) hb, fun o e => ?_⟩
  obtain ⟨sl, e1⟩ := k2 o e
  obtain ⟨sl', e2⟩ := k2' _ e1
  exact ⟨sl', e2⟩
theorem KeepsS.refl (L : Addr) (s : Shared) : KeepsS L s s := Keeps.toS (Keeps.refl s)
section
variable {w : World} {mean : ExcName → Option Value} {mg mb : Str → Option Value} {E : Value → Shared → Prop} {s : Shared} {g : Heap} {L fa : Addr} {cdv : Value} {m : Str → Option Value} {Q : Value → Shared → Prop}
theorem envL : EnvOk (envOfC lawD.name lawD.scope L fa cdv) := ⟨rfl, rfl, rfl⟩
theorem asc_eval {a : PySem.Expr} {np pos : Pos} {x : Str} (C : Cx w mean mg mb g) (F : Fr g L s.heap m) (hx : ∀ c ∈ x.cps.toList, c < 128) (hl : x.length ≤ 1048576)
    (ha : wpAny (model pw w) (callerA.deeper (envOfC lawD.name lawD.scope L fa cdv)) (eval a (envOfC lawD.name lawD.scope L fa cdv)) (fun v s₁ => (∃ t, v = .str x t) ∧ Keeps s s₁) E s)
    (h : ∀ tk s', KeepsS L s s' → Q (dueOf x tk) s')
    (he : starEach [a] (envOfC lawD.name lawD.scope L fa cdv) = [(false, eval a (envOfC lawD.name lawD.scope L fa cdv))] := by rfl) :
    wpAny (model pw w) (callerA.deeper (envOfC lawD.name lawD.scope L fa cdv)) (eval (.Call (.Name (Str.ofString "_law_ascii") np) [a] [] pos) (envOfC lawD.name lawD.scope L fa cdv)) Q E s := by
  refine fn1 (f := 123) (o := o123_5 w.params) (C.keeps F.keep) envL (by kernel_rfl) (by kernel_rfl) rfl (by rfl) (by decide +kernel) (wpAny_mono ha (fun v s₁ h₁ => ?_) fun _ _ e => e) he
  obtain ⟨⟨t, rfl⟩, k⟩ := h₁
  have kS : KeepsS L s s₁ := Keeps.toS k
  have F₁ := kS.fr F
  obtain ⟨oL, es, ep, q1, q2, q3⟩ := F₁.ns
  refine ⟨k, wpAny_call (c_asc (g₀ := g) C F₁.keep F₁.above (by decide +kernel) (by decide +kernel) (by show lawD.scope.kind ≠ .module; decide +kernel) rfl q1 q2 hx hl fun tk s' k' => ?_)⟩
  exact h tk s' (kS.trans k')
theorem due_eval {a : PySem.Expr} {np pos : Pos} {x : Str} (C : Cx w mean mg mb g) (F : Fr g L s.heap m) (hx : ∀ c ∈ x.cps.toList, c < 128) (hl : x.length ≤ 1048576)
    (ha : wpAny (model pw w) (callerA.deeper (envOfC lawD.name lawD.scope L fa cdv)) (eval a (envOfC lawD.name lawD.scope L fa cdv)) (fun v s₁ => (∃ t, v = .str x t) ∧ Keeps s s₁) E s)
    (h : ∀ tk s', KeepsS L s s' → Q (dueOf x tk) s')
    (he : starEach [a] (envOfC lawD.name lawD.scope L fa cdv) = [(false, eval a (envOfC lawD.name lawD.scope L fa cdv))] := by rfl) :
    wpAny (model pw w) (callerA.deeper (envOfC lawD.name lawD.scope L fa cdv)) (eval (.Call (.Name (Str.ofString "_law_due") np) [a] [] pos) (envOfC lawD.name lawD.scope L fa cdv)) Q E s := by
  refine fn1 (f := 128) (o := o128_5 w.params) (C.keeps F.keep) envL (by kernel_rfl) (by kernel_rfl) rfl (by rfl) (by decide +kernel) (wpAny_mono ha (fun v s₁ h₁ => ?_) fun _ _ e => e) he
  obtain ⟨⟨t, rfl⟩, k⟩ := h₁
  have kS : KeepsS L s s₁ := Keeps.toS k
  have F₁ := kS.fr F
  refine ⟨k, wpAny_call (c_due (C.keeps F₁.keep) (by decide +kernel) (by decide +kernel) hx hl fun tk s' k' => ?_)⟩
  exact h tk s' (kS.trans (Keeps.toS k'))
end
end
end Mine
end
section
open PySem PySem.W PyProof.Rows
set_option maxRecDepth 100000
namespace Mine
noncomputable section
def wFind : List (Nat × List Str) → Nat → Option Str
  | [], _ => none
  | p :: r, n => if p.1 ≤ n ∧ n < p.1 + p.2.length ∧ p.2[n - p.1]? ≠ some (S "-") then p.2[n - p.1]? else wFind r n
theorem rowsFind_w : ∀ (L : List (Nat × Str)) (n : Nat), rowsFind L n = wFind (L.map fun p => (p.1, Txt.words p.2)) n
  | [], _ => rfl
  | p :: r, n => by
    show (if _ then _ else _) = (if _ then _ else _)
    rw [rowsFind_w r n]
theorem rowsFind_is (n : Nat) : rowsFind rowTexts n = wFind rowWords n := by rw [rowsFind_w, rowWords_is]
def sevenW (n : Nat) : Option Str :=
  if (n : Int) < 128 then some (if 65 ≤ (n : Int) ∧ (n : Int) ≤ 90 then ⟨#[((n : Int) + 32).toNat]⟩ else ⟨#[(n : Int).toNat]⟩)
  else if 0 ≤ (n : Int) - 119808 ∧ (n : Int) - 119808 < 676 then
    (if 25 < ((n : Int) - 119808).fmod 52 ∨ (mathOut.any fun x => x == (n : Int) - 119808) = true then none else some ⟨#[(97 + ((n : Int) - 119808).fmod 52).toNat]⟩)
  else wFind rowWords n
theorem b1_iff (n : Nat) : (b1L.contains (n : Int)) = true ↔ ((b1Five.any fun x => x == (n : Int)) = true ∨ (65024 ≤ (n : Int) ∧ (n : Int) ≤ 65039)) := by
  constructor
  · intro h
    have := List.all_eq_true.mp (by decide +kernel : (b1L.all fun k => (b1Five.any fun x => x == k) || decide (65024 ≤ k ∧ k ≤ 65039)) = true) _ (List.contains_iff_mem.mp h)
    simpa using this
  · rintro (h | ⟨h1, h2⟩)
    · obtain ⟨x, hx, e⟩ := List.any_eq_true.mp h
      have e : x = (n : Int) := by simpa using e
      subst e
      exact List.all_eq_true.mp (by decide +kernel : (b1Five.all fun k => b1L.contains k) = true) _ hx
    · have := List.all_eq_true.mp (by decide +kernel : ((List.range 16).all fun j => b1L.contains ((65024 : Int) + (j : Int))) = true) (n - 65024) (List.mem_range.mpr (by omega))
      rw [show (65024 : Int) + ((n - 65024 : Nat) : Int) = (n : Int) by omega] at this
      exact this
theorem seven_b1 {n : Nat} (h : b1L.contains (n : Int) = true) : sevenOf n = some (Str.ofString "") := by
  unfold sevenOf
  rw [if_pos ((b1_iff n).mp h)]
theorem seven_w {n : Nat} (h : ¬ b1L.contains (n : Int) = true) : sevenOf n = sevenW n := by
  unfold sevenOf sevenW
  rw [if_neg (fun q => h ((b1_iff n).mpr q)), rowsFind_is]
theorem lookup_mem {β : Type} {k : Int} {v : β} : ∀ {l : List (Int × β)}, l.lookup k = some v → (k, v) ∈ l
  | [], h => by cases h
  | (k', v') :: r, h => by
    rw [List.lookup_cons] at h
    by_cases e : k = k'
    · subst e
      simp at h
      subst h
      exact List.mem_cons_self ..
    · rw [show (k == k') = false by simpa using e] at h
      exact List.mem_cons_of_mem _ (lookup_mem h)
theorem lookup_has {β : Type} {k : Int} : ∀ {l : List (Int × β)}, l.lookup k = none → k ∉ l.map (·.1)
  | [], _ => by simp
  | (k', v') :: r, h => by
    rw [List.lookup_cons] at h
    by_cases e : k = k'
    · subst e
      simp at h
    · rw [show (k == k') = false by simpa using e] at h
      rw [List.map_cons, List.mem_cons]
      rintro (q | q)
      · exact e q
      · exact lookup_has h q
theorem b3_check : (b3all.all fun p => decide (128 ≤ p.1) && decide (toldOf p.2 = sevenW p.1.toNat)) = true := by decide +kernel
theorem b3_some {n : Nat} {v : Str} (h : b3all.lookup (n : Int) = some v) : 128 ≤ n ∧ toldOf v = sevenW n := by
  have := List.all_eq_true.mp b3_check _ (lookup_mem h)
  simp only [Bool.and_eq_true, decide_eq_true_eq, Int.toNat_natCast] at this
  exact ⟨by omega, this.2⟩
/-- lower of a sign beyond ASCII -/
theorem shifted_hi : ∀ (l : List (Nat × Nat × Nat)), (l.all fun r => decide (128 ≤ r.2.2 ∨ r.2.1 < 128 ∨ (r.1 = 8490 ∧ r.2.1 = 8490))) = true → ∀ {c : Nat}, 128 ≤ c → c ≠ 8490 → 128 ≤ (Unicode.shifted l c).getD c
  | [], _, c, h, _ => h
  | (a, b, t) :: r, hl, c, h, hne => by
    rw [List.all_cons, Bool.and_eq_true] at hl
    have h1 := of_decide_eq_true hl.1
    dsimp only at h1
    unfold Unicode.shifted
    split
    · exact h
    · split
      · show 128 ≤ t + (c - a)
        omega
      · exact shifted_hi r hl.2 h hne
theorem one_check : (UnicodeData.oneLower.all fun r => decide (128 ≤ r.2.2 ∨ r.2.1 < 128 ∨ (r.1 = 8490 ∧ r.2.1 = 8490))) = true := by decide +kernel
theorem lowerOf_hi {c : Nat} (h : 128 ≤ c) (h1 : c ≠ 8490) : ∃ d ∈ Unicode.lowerOf c, 127 < d := by
  unfold Unicode.lowerOf Unicode.image
  split
  · rename_i cs e
    have : UnicodeData.severalLower.lookup c = (if c == 304 then some [105, 775] else none) := by
      show List.lookup c [(304, [105, 775])] = _
      rw [List.lookup_cons]
      cases c == 304 <;> rfl
    rw [this] at e
    split at e
    · injection e with e
      subst e
      exact ⟨775, by simp, by omega⟩
    · cases e
  · exact ⟨_, List.mem_singleton.mpr rfl, shifted_hi _ one_check h h1⟩
theorem lower_one (n : Nat) : (Txt.lower ⟨#[n]⟩).cps.toList = Unicode.lowerAt #[n] 0 := by
  unfold Txt.lower placed
  simp
theorem lower_hi {n : Nat} (h : 128 ≤ n) (h1 : n ≠ 8490) : toldOf (Txt.lower ⟨#[n]⟩) = none := by
  unfold toldOf
  rw [lower_one, if_neg]
  intro q
  have key : ∃ d ∈ Unicode.lowerAt #[n] 0, 127 < d := by
    show ∃ d ∈ (if (n == 0x3A3 && Unicode.endsWord #[n] 0) = true then [0x3C2] else Unicode.lowerOf n), 127 < d
    split
    · exact ⟨_, List.mem_singleton.mpr rfl, by omega⟩
    · exact lowerOf_hi h h1
  obtain ⟨d, hd, hlt⟩ := key
  have := of_decide_eq_true (List.all_eq_true.mp q d hd)
  omega
theorem wFind_in (x : Str) (n : Nat) : ∀ (L : List (Nat × List Str)), wFind L n = some x → (n : Int) ∈ L.flatMap fun p => rowUp p.1 p.2 p.2.length
  | [], h => by cases h
  | p :: r, h => by
    rw [List.flatMap_cons, List.mem_append]
    by_cases q : p.1 ≤ n ∧ n < p.1 + p.2.length ∧ p.2[n - p.1]? ≠ some (S "-")
    · refine .inl ?_
      unfold rowUp
      refine List.mem_map.mpr ⟨n - p.1, List.mem_filter.mpr ⟨List.mem_range.mpr (by omega), decide_eq_true q.2.2⟩, by omega⟩
    · refine .inr (wFind_in x n r ?_)
      unfold wFind at h
      rw [if_neg q] at h
      exact h
def mathIn : List Int := ((List.range 676).filter fun (j : Nat) => decide (¬ (25 < (j : Int).fmod 52 ∨ (mathOut.any fun x => x == (j : Int)) = true))).map fun (j : Nat) => (119808 : Int) + (j : Int)
theorem math_check : List.isSublist mathIn (b3all.map (·.1)) = true := by decide +kernel
theorem rows_check : ((rowWords.flatMap fun p => rowUp p.1 p.2 p.2.length).all fun k => decide (k = 8490) || (b3all.map (·.1)).contains k) = true := by decide +kernel
theorem seven_none {n : Nat} (h : 128 ≤ n) (h1 : n ≠ 8490) (hl : b3all.lookup (n : Int) = none) : sevenW n = none := by
  have hk := lookup_has hl
  unfold sevenW
  rw [if_neg (by omega)]
  split
  · rename_i hm
    split
    · rfl
    · rename_i ho
      refine absurd ((List.isSublist_iff_sublist.mp math_check).subset (List.mem_map.mpr ⟨n - 119808, List.mem_filter.mpr ⟨List.mem_range.mpr (by omega), decide_eq_true ?_⟩, by omega⟩)) hk
      rw [show ((n - 119808 : Nat) : Int) = (n : Int) - 119808 by omega]
      exact ho
  · cases e : wFind rowWords n with
    | none => rfl
    | some x =>
      have := List.all_eq_true.mp rows_check _ (wFind_in _ _ _ e)
      simp only [Bool.or_eq_true, decide_eq_true_eq, List.contains_iff_mem] at this
      rcases this with q | q
      · omega
      · exact absurd q hk
theorem b3Of_ascii {n : Nat} (h : n < 128) : b3Of n = ⟨#[lo1 n]⟩ := by
  unfold b3Of
  split
  · rename_i v e
    have := (b3_some e).1
    omega
  · rw [lower_ascii (fun c hc => by have : c = n := by simpa using hc
                                    omega)]
    simp
theorem b1_hi {n : Nat} (h : n < 128) : ¬ b1L.contains (n : Int) = true := by
  intro q
  have := of_decide_eq_true (List.all_eq_true.mp (by decide +kernel : (b1L.all fun k => decide (128 ≤ k)) = true) _ (List.contains_iff_mem.mp q))
  omega
theorem seven_law (n : Nat) : toldOf (foldOf n) = sevenOf n := by
  by_cases hb : b1L.contains (n : Int) = true
  · rw [seven_b1 hb]
    unfold foldOf
    rw [if_pos hb]
    decide +kernel
  · rw [seven_w hb]
    unfold foldOf
    rw [if_neg hb]
    by_cases h : n < 128
    · rw [b3Of_ascii h]
      have h2 : lo1 n < 128 := by unfold lo1; split <;> omega
      unfold toldOf sevenW
      rw [if_pos (by simpa using (by omega : lo1 n ≤ 127)), if_pos (by omega)]
      unfold lo1
      by_cases q : 65 ≤ n ∧ n ≤ 90
      · rw [if_pos q, if_pos (by omega)]
        congr
      · rw [if_neg q, if_neg (by omega)]
        congr
    · unfold b3Of
      split
      · rename_i v e
        exact (b3_some e).2
      · rename_i e
        by_cases h1 : n = 8490
        · subst h1
          decide +kernel
        · rw [lower_hi (by omega) h1, seven_none (by omega) h1 e]
end
end Mine
end
section
open PySem PySem.W PyProof.Rows
set_option maxRecDepth 100000
namespace Mine
noncomputable section
def isSomeV (v : Value) : Bool := match v with | .none => false | _ => true
theorem opts_strs : ∀ (vs ys : List Value) (os : List (Option Str)), OptsAre vs os → Paired (fun v y => y = v) (vs.filter isSomeV) ys → StrsAre ys (os.filterMap id)
  | _, _, [], .nil, .nil => .nil
  | _, _, none :: os, .cons _ _ hr, hp => by
    exact opts_strs _ _ os hr hp
  | _, _, some x :: os, .cons _ t hr, hp => by
    have : ∀ vs, List.filter isSomeV (valOf (some x) t :: vs) = valOf (some x) t :: List.filter isSomeV vs := fun vs => List.filter_cons_of_pos rfl
    rw [this] at hp
    cases hp with
    | cons e hp =>
      subst e
      exact .cons _ _ (opts_strs _ _ os hr hp)
theorem sum_le : ∀ (xs : List Str), (∀ x ∈ xs, x.length ≤ 1000) → (xs.map (·.length)).sum ≤ 1000 * xs.length
  | [], _ => by simp
  | x :: r, h => by
    have e1 := h x (List.mem_cons_self ..)
    have e2 := sum_le r fun y hy => h y (List.mem_cons_of_mem _ hy)
    rw [List.map_cons, List.sum_cons, List.length_cons]
    omega
set_option maxHeartbeats 4000000 in
theorem name_to {w : World} {mean : ExcName → Option Value} {mg mb : Str → Option Value} {E : Value → Shared → Prop} {s : Shared} {g : Heap} {L fa td : Addr} {cdv : Value} {m : Str → Option Value} {ts : Array Value} {os : List (Option Str)} {Q : Flow → Shared → Prop}
    (C : Cx w mean mg mb g) (F : Fr g L s.heap m) (hm : m (Str.ofString "told") = some (.ref td)) (hts : s.heap.PlainList td ts) (hto : OptsAre ts.toList os) (hlen : os.length ≤ 24) (hxl : ∀ x ∈ os.filterMap id, x.length ≤ 1000)
    (h : ∀ h' tk t', Fr g L h' (fun z => if z = Str.ofString "name" then some (.str (Txt.join (Str.ofString "") (os.filterMap id)) t') else m z) → (∀ b o, b ≠ L → s.heap.get? b = some o → h'.get? b = some o) → Q .next { s with heap := h', toks := tk }) :
    wpAny (model pw w) (callerA.deeper (envOfC lawD.name lawD.scope L fa cdv)) (exec (stAt bigBody 3) (envOfC lawD.name lawD.scope L fa cdv)) Q E s := by
  conv in stAt _ _ => whnf
  have V : EnvOk (envOfC lawD.name lawD.scope L fa cdv) := ⟨rfl, rfl, rfl⟩
  have hvl : ts.size = os.length := by
    have := hto.len
    simpa using this
  obtain ⟨H0, g0, d0, tk0, os0⟩ := s
  walk1
  refine MethodCall_ ?_ rfl
  walk1
  refine getMethod_builtin (typeIs_str _ _ _) PySem.F.plainAttrs_str PySem.F.slot_str_join PySem.F.type_str_join (fun a e => by cases e) ?_
  walk1
  refine args_cons ?_ rfl
  refine comp_list (cl := []) (ax := td) (items := ts) isSomeV (fun v y => y = v) rfl (by rfl) (by decide +kernel) (by rfl) (by decide +kernel) (by rfl) (by rw [hvl, sizeLine_eq]; omega) ?_ ?_ ?_ ?_
  · exact loc_name V (by rfl) F.ns hm (by decide +kernel) ⟨rfl, ⟨_, _, rfl, fun _ _ e => e⟩, hts.isList⟩
  · intro Ca v s₃ m₃ E' hv hk hn hm'
    refine wpAny_tests_one ?_
    obtain ⟨i, hi⟩ := List.mem_iff_getElem?.mp hv
    obtain ⟨o, t, _, rfl⟩ := hto.at i v hi
    obtain ⟨H3, g3, d3, tk3, os3⟩ := s₃
    walk1
    refine loc_name (envOk_comp V rfl) (by rfl) hn hm' (by decide +kernel) ?_
    cases o with
    | none =>
      walk1
      show wpAny _ _ (compareOp .IsNot Value.none Value.none) _ _ _
      repeat' (first | walk1 | (dsimp only; walk1))
      exact ⟨_, _, rfl, fun _ _ e => e⟩
    | some x =>
      walk1
      show wpAny _ _ (compareOp .IsNot (Value.str x t) Value.none) _ _ _
      repeat' (first | walk1 | (dsimp only; walk1))
      exact ⟨_, _, rfl, fun _ _ e => e⟩
  · intro Ca v s₃ m₃ E' hv _ hk hn hm'
    exact loc_name (envOk_comp V rfl) (by rfl) hn hm' (by decide +kernel) ⟨rfl, Keeps.refl _⟩
  · intro D h' tk ys hD hpl' hp hk
    refine args_nil ?_
    have hS := opts_strs _ _ _ hto hp
    refine join_list hpl'.isList hS ?_ ?_
    · have e0 : (Str.ofString "").length = 0 := by decide +kernel
      have e1 := sum_le (os.filterMap id) hxl
      have e2 := List.length_filterMap_le id os
      rw [e0, Nat.mul_zero]
      omega
    · intro t' k'
      refine wpAny_storeName_local (by rfl) (F.ns.keeps hk) (fun h₂ hn₂ hs₂ => ?_) (by rfl)
      exact h h₂ _ t' ⟨hn₂, fun b o e => hs₂.extBut b o (Nat.ne_of_lt (Nat.lt_of_lt_of_le (Heap.lt_size e) F.above)) (hk b o (F.keep b o e)), F.above⟩ fun b o hb e => hs₂.extBut b o hb (hk b o e)
end
end Mine
end
section
open PySem PySem.W PyProof.Rows
set_option maxRecDepth 100000
namespace Mine
noncomputable section
def isLow (v : Value) : Bool := match v with | .int n _ => decide (n < 128) | _ => false
def lowStrs (ks : List Nat) : List Str := (ks.filter fun k => decide (k < 128)).map fun k => ⟨#[k]⟩
theorem low_strs : ∀ (vs ys : List Value) (ks : List Nat), IntsAre vs (ks.map fun (k : Nat) => (k : Int)) → Paired (fun v y => ∃ k t t', v = Value.int (k : Nat) t ∧ y = Value.str ⟨#[k]⟩ t') (vs.filter isLow) ys → StrsAre ys (lowStrs ks)
  | _, _, [], .nil, .nil => .nil
  | _, _, k :: ks, .cons _ t hr, hp => by
    by_cases hk : k < 128
    · have e1 : ∀ vs, List.filter isLow (Value.int (k : Int) t :: vs) = Value.int (k : Int) t :: List.filter isLow vs := fun vs => List.filter_cons_of_pos (decide_eq_true (by omega))
      have e2 : lowStrs (k :: ks) = ⟨#[k]⟩ :: lowStrs ks := by unfold lowStrs; rw [List.filter_cons_of_pos (p := fun k => decide (k < 128)) (decide_eq_true hk)]; rfl
      rw [e1] at hp
      rw [e2]
      cases hp with
      | cons e hp =>
        obtain ⟨k', t', t'', e, e'⟩ := e
        injection e with e
        obtain rfl : k = k' := Int.ofNat_inj.mp e
        subst e'
        exact .cons _ _ (low_strs _ _ ks hr hp)
    · have e1 : ∀ vs, List.filter isLow (Value.int (k : Int) t :: vs) = List.filter isLow vs := fun vs => List.filter_cons_of_neg (by show ¬ decide ((k : Int) < 128) = true; rw [decide_eq_true_eq]; omega)
      have e2 : lowStrs (k :: ks) = lowStrs ks := by unfold lowStrs; rw [List.filter_cons_of_neg (p := fun k => decide (k < 128)) (by rw [decide_eq_true_eq]; exact hk)]
      rw [e1] at hp
      rw [e2]
      exact low_strs _ _ ks hr hp
theorem lowStrs_len (ks : List Nat) : (lowStrs ks).length ≤ ks.length := by
  unfold lowStrs
  rw [List.length_map]
  exact List.length_filter_le ..
theorem lowStrs_one (ks : List Nat) : ∀ x ∈ lowStrs ks, x.length ≤ 1000 := by
  intro x hx
  obtain ⟨k, _, rfl⟩ := List.mem_map.mp hx
  show 1 ≤ 1000
  omega
def typedOf (ks : List Nat) : Str := Txt.join (Str.ofString "") (lowStrs ks)
set_option maxHeartbeats 4000000 in
theorem typed_to {w : World} {mean : ExcName → Option Value} {mg mb : Str → Option Value} {E : Value → Shared → Prop} {s : Shared} {g : Heap} {L fa cd : Addr} {cdv : Value} {m : Str → Option Value} {vs : Array Value} {ks : List Nat} {Q : Flow → Shared → Prop}
    (C : Cx w mean mg mb g) (F : Fr g L s.heap m) (hm : m (Str.ofString "codes") = some (.ref cd)) (K : CodesOk s.heap cd vs ks)
    (h : ∀ h' tk t', Fr g L h' (fun z => if z = Str.ofString "typed" then some (.str (typedOf ks) t') else m z) → (∀ b o, b ≠ L → s.heap.get? b = some o → h'.get? b = some o) → Q .next { s with heap := h', toks := tk }) :
    wpAny (model pw w) (callerA.deeper (envOfC lawD.name lawD.scope L fa cdv)) (exec (stAt bigBody 4) (envOfC lawD.name lawD.scope L fa cdv)) Q E s := by
  conv in stAt _ _ => whnf
  have V : EnvOk (envOfC lawD.name lawD.scope L fa cdv) := ⟨rfl, rfl, rfl⟩
  have hvl : vs.size = ks.length := by
    have := K.isI.length
    simpa using this
  have hlen := K.len
  obtain ⟨H0, g0, d0, tk0, os0⟩ := s
  walk1
  refine MethodCall_ ?_ rfl
  walk1
  refine getMethod_builtin (typeIs_str _ _ _) PySem.F.plainAttrs_str PySem.F.slot_str_join PySem.F.type_str_join (fun a e => by cases e) ?_
  walk1
  refine args_cons ?_ rfl
  refine comp_list (cl := []) (ax := cd) (items := vs) isLow (fun v y => ∃ k t t', v = Value.int (k : Nat) t ∧ y = Value.str ⟨#[k]⟩ t') rfl (by rfl) (by decide +kernel) (by rfl) (by decide +kernel) (by rfl) (by rw [hvl, sizeLine_eq]; omega) ?_ ?_ ?_ ?_
  · exact loc_name V (by rfl) F.ns hm (by decide +kernel) ⟨rfl, ⟨_, _, rfl, fun _ _ e => e⟩, K.pl.isList⟩
  · intro Ca v s₃ m₃ E' hv hk hn hm'
    refine wpAny_tests_one ?_
    obtain ⟨k, t, rfl, hks⟩ := K.mem v hv
    obtain ⟨H3, g3, d3, tk3, os3⟩ := s₃
    walk1
    refine loc_name (envOk_comp V rfl) (by rfl) hn hm' (by decide +kernel) ?_
    repeat' (first | walk1 | (dsimp only; walk1))
    exact ⟨_, _, rfl, fun _ _ e => e⟩
  · intro Ca v s₃ m₃ E' hv _ hk hn hm'
    obtain ⟨k, t, rfl, hks⟩ := K.mem v hv
    have hkr := K.rng k hks
    have C₃ : Cx w mean mg mb s₃.heap := (C.keeps F.keep).keeps hk
    refine built1 C₃ (envOk_comp V rfl) (by kernel_rfl) boot_chr (by decide +kernel) (by rfl) (by decide +kernel) ?_
    refine loc_name (envOk_comp V rfl) (by rfl) hn hm' (by decide +kernel) ?_
    refine chr_of_range (by omega) (by omega) ?_
    rw [show ((k : Nat) : Int).toNat = k from Int.toNat_natCast k]
    exact ⟨⟨k, t, _, rfl, rfl⟩, ⟨_, _, rfl, fun _ _ e => e⟩⟩
  · intro D h' tk ys hD hpl' hp hk
    refine args_nil ?_
    have hS := low_strs _ _ _ K.isI hp
    refine join_list hpl'.isList hS ?_ ?_
    · have e0 : (Str.ofString "").length = 0 := by decide +kernel
      have e1 := sum_le (lowStrs ks) (lowStrs_one ks)
      have e2 := lowStrs_len ks
      rw [e0, Nat.mul_zero]
      omega
    · intro t' k'
      refine wpAny_storeName_local (by rfl) (F.ns.keeps hk) (fun h₂ hn₂ hs₂ => ?_) (by rfl)
      exact h h₂ _ t' ⟨hn₂, fun b o e => hs₂.extBut b o (Nat.ne_of_lt (Nat.lt_of_lt_of_le (Heap.lt_size e) F.above)) (hk b o (F.keep b o e)), F.above⟩ fun b o hb e => hs₂.extBut b o hb (hk b o e)
end
end Mine
end
section
open PySem PySem.W PyProof.Rows
set_option maxRecDepth 100000
namespace Mine
noncomputable section
def Asc (x : Str) : Prop := ∀ c ∈ x.cps.toList, c < 128
theorem foldl_rep (a : Array Nat) : ∀ (k : Nat) (acc : Array Nat), ((List.replicate k a).foldl (· ++ ·) acc).size = acc.size + a.size * k ∧ ∀ c ∈ ((List.replicate k a).foldl (· ++ ·) acc).toList, c ∈ acc.toList ∨ c ∈ a.toList
  | 0, acc => ⟨by simp, fun c h => .inl h⟩
  | k + 1, acc => by
    obtain ⟨h1, h2⟩ := foldl_rep a k (acc ++ a)
    rw [List.replicate_succ, List.foldl_cons]
    refine ⟨by rw [h1, Array.size_append, Nat.mul_succ]; omega, fun c hc => ?_⟩
    rcases h2 c hc with h | h
    · rw [Array.toList_append, List.mem_append] at h
      exact h
    · exact .inr h
theorem slice_asc {x : Str} (l u : Option Int) (h : Asc x) : Asc (Txt.slice x l u) := by
  unfold Txt.slice
  split
  · exact h
  · intro c hc
    obtain ⟨i, _, e⟩ := List.mem_filterMap.mp (by simpa using hc : c ∈ List.filterMap _ _)
    exact h c (by rw [Array.mem_toList_iff]; exact Array.mem_of_getElem? e)
theorem app_asc {x y : Str} (hx : Asc x) (hy : Asc y) : Asc (x ++ y) := by
  intro c hc
  have : c ∈ (x.cps ++ y.cps).toList := hc
  rw [Array.toList_append, List.mem_append] at this
  exact this.elim (hx c) (hy c)
theorem app_len (x y : Str) : (x ++ y).length = x.length + y.length := by
  show (x.cps ++ y.cps).size = _
  rw [Array.size_append]
  rfl
section
variable {w : World} {A : Around} {E : Value → Shared → Prop} {s : Shared} {env : Env}
theorem mul_k {x : Str} {n : Int} {t u : Tok} {Q : Value → Shared → Prop} (h1 : 1 ≤ n) (h65 : n ≤ 65) (hl : x.length * n.toNat ≤ 1000000) (hx : x.length ≤ 300000) (ha : Asc x) (h : ∀ y t' k, y.length ≤ 1000000 → Asc y → Q (.str y t') { s with toks := k }) :
    wpAny (model pw w) A (binaryOp .Mult (.str x t) (.int n u)) Q E s := by
  refine P.mul_str (by rw [decide_eq_false (by omega), decide_eq_false (by omega)]; rfl) (fun _ _ => ?_) (fun _ _ => short24 (by omega)) ?_
  · have : (x.length : Int) ≤ (2 ^ 63 - 1) / n := Int.le_ediv_of_mul_le (by omega) (by
      have : (x.length : Int) * n ≤ 300000 * 65 := Int.mul_le_mul (by omega) h65 (by omega) (by omega)
      omega)
    omega
  · rw [if_neg (by omega)]
    obtain ⟨e1, e2⟩ := foldl_rep x.cps n.toNat #[]
    have e3 : (⟨(List.replicate n.toNat x.cps).foldl (· ++ ·) #[]⟩ : Str).length ≤ 1000000 := by
      show Array.size _ ≤ _
      rw [e1]
      show 0 + x.length * n.toNat ≤ _
      omega
    have e4 : Asc ⟨(List.replicate n.toNat x.cps).foldl (· ++ ·) #[]⟩ := fun c hc => (e2 c hc).elim (fun q => by simp at q) (ha c)
    refine post_val_or_made (fun _ => by rw [sizeLine_eq]; omega) fun t' k => ?_
    split
    · exact h _ _ _ (by omega) ha
    · exact h _ _ _ e3 e4
theorem slice_k {value : PySem.Expr} {j : Int} {p pc pos : Pos} {kk : Nat} {Q : Value → Shared → Prop}
    (h : wpAny (model pw w) A (eval value env) (fun o s₁ => ∃ x t, o = .str x t ∧ x.length ≤ 1000000 ∧ ∀ h' t' k, (∀ b o, s₁.heap.get? b = some o → h'.get? b = some o) → Q (.str (Txt.slice x none (some j)) t') { s₁ with heap := h', toks := k }) E s) :
    wpAny (model pw w) A (eval (.Subscript value (.Slice none (some (.Constant (.int j) kk pc)) none p) pos) env) Q E s := by
  refine Subscript_ (wpAny_mono h (fun o s₁ h₁ => ?_) fun _ _ e => e)
  obtain ⟨x, t, rfl, hx, hq⟩ := h₁
  obtain ⟨H1, g1, d1, tk1, os1⟩ := s₁
  iterate 5 (first | walk1 | (dsimp only; walk1))
  obtain ⟨T, id, hl, hT, hg⟩ := SBH.sliceItem_ns (prog := pw) (w := w) (A := A) (E := E) (Q := Q) (x := x) (t := t) (j := j) (uj := tk1) (s := ⟨H1, g1, d1, tk1 + 1, os1⟩) (P := fun h => ∀ b o, H1.get? b = some o → h.get? b = some o) (fun _ _ k b o e => Heap.get?_push_of_some _ (k b o e)) (fun _ _ e => e) (fun h' t' k hk => hq h' t' k hk) (by rw [sizeLine_eq]; omega)
  exact tail_any hT hl hg (by with_unfolding_all rfl)
end
set_option maxHeartbeats 4000000 in
theorem seed_to {w : World} {E : Value → Shared → Prop} {s : Shared} {g : Heap} {L fa : Addr} {cdv : Value} {m : Str → Option Value} {x y : Str} {tx ty : Tok} {Q : Flow → Shared → Prop}
    (F : Fr g L s.heap m) (hm : m (Str.ofString "typed") = some (.str x tx)) (hm2 : m (Str.ofString "name") = some (.str y ty)) (hx : x.length ≤ 100000) (hy : y.length ≤ 100000)
    (h : ∀ h' tk t', Fr g L h' (fun z => if z = Str.ofString "seed" then some (.str (Str.ofString "0" ++ x ++ y) t') else m z) → (∀ b o, b ≠ L → s.heap.get? b = some o → h'.get? b = some o) → Q .next { s with heap := h', toks := tk }) :
    wpAny (model pw w) (callerA.deeper (envOfC lawD.name lawD.scope L fa cdv)) (exec (stAt bigBody 5) (envOfC lawD.name lawD.scope L fa cdv)) Q E s := by
  conv in stAt _ _ => whnf
  have V : EnvOk (envOfC lawD.name lawD.scope L fa cdv) := ⟨rfl, rfl, rfl⟩
  have e0 : (Str.ofString "0").length = 1 := by decide +kernel
  obtain ⟨H0, g0, d0, tk0, os0⟩ := s
  iterate 4 walk1
  refine loc_name V (by rfl) F.ns hm (by decide +kernel) ?_
  refine add_str (fun t1 k1 => ?_) (by rw [e0, sizeLine_eq]; omega)
  refine loc_name V (by rfl) F.ns hm2 (by decide +kernel) ?_
  refine add_str (fun t2 k2 => ?_) (by rw [app_len, e0, sizeLine_eq]; omega)
  refine wpAny_storeName_local (by rfl) F.ns (fun h₂ hn₂ hs₂ => ?_) (by rfl)
  exact h h₂ _ t2 ⟨hn₂, fun b o e => hs₂.extBut b o (Nat.ne_of_lt (Nat.lt_of_lt_of_le (Heap.lt_size e) F.above)) (F.keep b o e), F.above⟩ fun b o hb e => hs₂.extBut b o hb e
set_option maxHeartbeats 4000000 in
theorem near_to {w : World} {mean : ExcName → Option Value} {mg mb : Str → Option Value} {E : Value → Shared → Prop} {s : Shared} {g : Heap} {L fa : Addr} {cdv : Value} {m : Str → Option Value} {x : Str} {tx : Tok} {Q : Flow → Shared → Prop}
    (C : Cx w mean mg mb g) (F : Fr g L s.heap m) (hm : m (Str.ofString "seed") = some (.str x tx)) (hx : x.length ≤ 300000) (hx0 : 0 < x.length) (hxa : Asc x)
    (h : ∀ h' tk t' y, y.length ≤ 1000000 → Asc y → Fr g L h' (fun z => if z = Str.ofString "near" then some (.str y t') else m z) → (∀ b o, b ≠ L → s.heap.get? b = some o → h'.get? b = some o) → Q .next { s with heap := h', toks := tk }) :
    wpAny (model pw w) (callerA.deeper (envOfC lawD.name lawD.scope L fa cdv)) (exec (stAt bigBody 6) (envOfC lawD.name lawD.scope L fa cdv)) Q E s := by
  conv in stAt _ _ => whnf
  have V : EnvOk (envOfC lawD.name lawD.scope L fa cdv) := ⟨rfl, rfl, rfl⟩
  obtain ⟨H0, g0, d0, tk0, os0⟩ := s
  walk1
  refine slice_k ?_
  walk1
  refine loc_name V (by rfl) F.ns hm (by decide +kernel) ?_
  iterate 3 walk1
  refine built1 (C.keeps F.keep) V (by kernel_rfl) boot_len (by decide +kernel) (by rfl) (by decide +kernel) ?_
  refine loc_name V (by rfl) F.ns hm (by decide +kernel) ?_
  refine P.len_str (by omega) ?_
  have hq : (64 : Int).fdiv (x.length : Int) = ((64 / x.length : Nat) : Int) := by
    rw [Int.fdiv_eq_ediv_of_nonneg _ (by omega)]
    rfl
  have hq1 : 64 / x.length ≤ 64 := Nat.div_le_self ..
  have hq2 : 64 / x.length * x.length ≤ 64 := Nat.div_mul_le_self ..
  generalize 64 / x.length = q at hq hq1 hq2
  iterate 3 walk1
  rw [hq]
  refine mul_k (by omega) (by omega) ?_ hx hxa fun y t' k hy ha => ?_
  · rw [show ((q : Int) + 1).toNat = q + 1 by omega, Nat.mul_succ, Nat.mul_comm]
    omega
  refine ⟨y, t', rfl, hy, fun h' t'' k' hk => ?_⟩
  refine wpAny_storeName_local (by rfl) (F.ns.keeps hk) (fun h₂ hn₂ hs₂ => ?_) (by rfl)
  exact h h₂ _ t'' _ (Nat.le_trans (Txt.slice_le _ _ _) hy) (slice_asc _ _ ha) ⟨hn₂, fun b o e => hs₂.extBut b o (Nat.ne_of_lt (Nat.lt_of_lt_of_le (Heap.lt_size e) F.above)) (hk b o (F.keep b o e)), F.above⟩ fun b o hb e => hs₂.extBut b o hb (hk b o e)
end
end Mine
end
section
open PySem PySem.W PyProof.Rows
set_option maxRecDepth 100000
namespace Mine
noncomputable section
def fourBody : List Stmt := forBody (some (stAt bigBody 7))
theorem ne_due {w : World} {A : Around} {E : Value → Shared → Prop} {s : Shared} {Q : Value → Shared → Prop} (x : Str) (t u : Tok) (h : Q (.bool false) s) : wpAny (model pw w) A (compareOp .NotEq (dueOf x t) (dueOf x u)) Q E s := by
  unfold dueOf
  split
  · refine ne_bytes ?_
    rw [bne_self_eq_false]
    exact h
  · walk1
    exact h
set_option maxHeartbeats 4000000 in
theorem four_body {w : World} {mean : ExcName → Option Value} {mg mb : Str → Option Value} {EE : Value → Shared → Prop} {s : Shared} {g : Heap} {L fa : Addr} {cdv : Value} {m : Str → Option Value} {x : Str} {t : Tok} {QQ : Flow → Shared → Prop}
    (C : Cx w mean mg mb g) (F : Fr g L s.heap m) (hm : m (Str.ofString "label") = some (.str x t)) (ha : Asc x) (hl : x.length ≤ 1048576)
    (h : ∀ s', KeepsS L s s' → QQ .next s') :
    wpAny (model pw w) (callerA.deeper (envOfC lawD.name lawD.scope L fa cdv)) (execs fourBody (envOfC lawD.name lawD.scope L fa cdv)) QQ EE s := by
  conv in fourBody => whnf
  have V : EnvOk (envOfC lawD.name lawD.scope L fa cdv) := ⟨rfl, rfl, rfl⟩
  obtain ⟨H0, g0, d0, tk0, os0⟩ := s
  iterate 3 walk1
  refine asc_eval C F ha hl (loc_name V (by rfl) F.ns hm (by decide +kernel) ⟨⟨_, rfl⟩, Keeps.refl _⟩) fun tk1 s1 k1 => ?_
  have F1 := k1.fr F
  refine due_eval C F1 ha hl (loc_name V (by rfl) F1.ns hm (by decide +kernel) ⟨⟨_, rfl⟩, Keeps.refl _⟩) fun tk2 s2 k2 => ?_
  refine ne_due x tk1 tk2 ?_
  refine wpAny_truthy_bool ?_
  rw [if_neg (by decide)]
  exact wpAny_execs_nil (wpAny_execs_nil (h _ (k1.trans k2)))
set_option maxHeartbeats 4000000 in
theorem four_loop {w : World} {mean : ExcName → Option Value} {mg mb : Str → Option Value} {E : Value → Shared → Prop} {s : Shared} {g : Heap} {L fa T : Addr} {cdv : Value} {m : Str → Option Value} {vs : Array Value} {R : Result → Shared → Prop} {px : Pos}
    (C : Cx w mean mg mb g) (F : Fr g L s.heap m) (hT : s.heap.IsTuple T vs) (hTL : T ≠ L)
    (hvs : ∀ (i : Nat) (v : Value), vs[i]? = some v → ∃ x t, v = .str x t ∧ Asc x ∧ x.length ≤ 1048576)
    (h : ∀ h' tk m', Fr g L h' m' → (∀ z, z ≠ Str.ofString "label" → m' z = m z) → (∀ b o, b ≠ L → s.heap.get? b = some o → h'.get? b = some o) → R (.ok .next) { s with heap := h', toks := tk }) :
    wpAny (model pw w) (callerA.deeper (envOfC lawD.name lawD.scope L fa cdv)) (pyIter (.ref T)) (fun it s₂ => codeAny (model pw w) (callerA.deeper (envOfC lawD.name lawD.scope L fa cdv)) (.forLoop (.Name (Str.ofString "label") px) it fourBody [] (envOfC lawD.name lawD.scope L fa cdv)) R s₂) E s := by
  refine wpAny_pyIter_tuple hT ?_
  have hTo : ∃ o, s.heap.get? T = some o := by obtain ⟨o, e, _⟩ := hT; exact ⟨o, e⟩
  have hne : T ≠ s.heap.objs.size := by obtain ⟨o, e⟩ := hTo; exact Nat.ne_of_lt (Heap.lt_size e)
  have hLI : L ≠ s.heap.objs.size := Nat.ne_of_lt F.ns.lt
  have hIn : ∀ b o, s.heap.get? b = some o → b ≠ s.heap.objs.size := fun b o e => Nat.ne_of_lt (Heap.lt_size e)
  have W := Walks.tuple (prog := pw) (w := w) (A := callerA.deeper (envOfC lawD.name lawD.scope L fa cdv)) rfl s.heap.objs.size T hne vs
  have st0 : (s.heap.push { cls := .type "tuple_iterator", data := .fields #[.ref T, .int 0 0] }).IsTupleIter s.heap.objs.size T 0 ∧ (s.heap.push { cls := .type "tuple_iterator", data := .fields #[.ref T, .int 0 0] }).IsTuple T vs :=
    ⟨⟨_, Heap.get?_push_size _ rfl, rfl, rfl⟩, by obtain ⟨o, e, r⟩ := hT; exact ⟨o, Heap.get?_push_of_some _ e, r⟩⟩
  have k₂ : ∀ b o, s.heap.get? b = some o → (s.heap.push { cls := .type "tuple_iterator", data := .fields #[.ref T, .int 0 0] }).get? b = some o := fun b o e => Heap.get?_push_of_some _ e
  have F₀ := F.pushS { cls := .type "tuple_iterator", data := .fields #[.ref T, .int 0 0] }
  generalize s.heap.push { cls := .type "tuple_iterator", data := .fields #[.ref T, .int 0 0] } = H at st0 k₂ F₀ ⊢
  generalize s.heap.objs.size = I at *
  refine codeAny_forLoop (fun n s' => ∃ h' tk i m', s' = { s with heap := h', toks := tk } ∧ i ≤ vs.size ∧ n = vs.size + 1 - i ∧ (h'.IsTupleIter I T i ∧ h'.IsTuple T vs) ∧ Fr g L h' m' ∧ (∀ z, z ≠ Str.ofString "label" → m' z = m z) ∧
      ∀ b o, b ≠ L → s.heap.get? b = some o → h'.get? b = some o) ?_ (vs.size + 1) ⟨H, s.toks, 0, _, rfl, Nat.zero_le _, rfl, st0, F₀, fun _ _ => rfl, fun b o _ e => k₂ b o e⟩
  rintro n s' ⟨h', tk, i, m', rfl, hi, rfl, hst, F', hm', hkp⟩
  by_cases hlt : i < vs.size
  · refine W.item i _ _ _ hlt hst fun v h₅ tk₅ hPv hst₅ hk₅ => ?_
    have up₅ : ∀ b o, b ≠ I → h'.get? b = some o → h₅.get? b = some o := fun b o hb e => hk₅ b o (by simpa using hb) e
    obtain ⟨x, t, rfl, ha, hl⟩ := hvs _ _ hPv
    have hgI : ∀ b o, g.get? b = some o → b ≠ I := fun b o e => hIn b o (F.keep b o e)
    refine wpAny_assign_Name (wpAny_storeName_local (by rfl) (F'.ns.at' fun o e => up₅ _ o hLI e) (fun h₆ hn₆ hs₆ => ?_) (by rfl))
    have up₆ : ∀ b o, b ≠ I → b ≠ L → h'.get? b = some o → h₆.get? b = some o := fun b o b1 b2 e => hs₆.extBut b o b2 (up₅ b o b1 e)
    have hst₆ : h₆.IsTupleIter I T (i + 1) ∧ h₆.IsTuple T vs := W.frame _ _ _ hst₅ fun b hb o e => hs₆.extBut b o (fun q => by
      rcases List.mem_cons.mp hb with e' | hb
      · exact hLI (q.symm.trans e')
      · exact hTL ((List.mem_singleton.mp hb).symm.trans q)) e
    have F₆ : Fr g L h₆ _ := ⟨hn₆, fun b o e => up₆ b o (hgI b o e) (Nat.ne_of_lt (Nat.lt_of_lt_of_le (Heap.lt_size e) F.above)) (F'.keep b o e), F.above⟩
    refine four_body C F₆ (by rfl) ha hl fun s₇ k₇ => ?_
    have F₇ := k₇.fr F₆
    have o₇ := k₇.other
    obtain ⟨h₇, tk₇, rfl, _, _⟩ := k₇
    refine ⟨vs.size + 1 - (i + 1), by omega, h₇, tk₇, i + 1, _, rfl, hlt, rfl, W.frame _ _ _ hst₆ fun b hb o e => o₇ b o ?_ e, F₇, fun z hz => ?_, fun b o b2 e => o₇ b o b2 (up₆ b o (hIn b o e) b2 (hkp b o b2 e))⟩
    · rcases List.mem_cons.mp hb with e' | hb
      · exact fun q => hLI (q.symm.trans e')
      · exact fun q => hTL ((List.mem_singleton.mp hb).symm.trans q)
    · rw [if_neg hz]
      exact hm' z hz
  · obtain rfl : i = vs.size := by omega
    refine W.done _ _ _ hst fun h₅ tk₅ hk₅ => ?_
    have up₅ : ∀ b o, b ≠ I → h'.get? b = some o → h₅.get? b = some o := fun b o hb e => hk₅ b o (by simpa using hb) e
    exact wpAny_execs_nil (h h₅ tk₅ m' ⟨F'.ns.at' fun o e => up₅ _ o hLI e, fun b o e => up₅ b o (hIn b o (F.keep b o e)) (F'.keep b o e), F.above⟩ hm' fun b o b2 e => up₅ b o (hIn b o e) (hkp b o b2 e))
set_option maxHeartbeats 4000000 in
theorem four_for {w : World} {mean : ExcName → Option Value} {mg mb : Str → Option Value} {E : Value → Shared → Prop} {s : Shared} {g : Heap} {L fa : Addr} {cdv : Value} {m : Str → Option Value} {x y z : Str} {tx ty tz : Tok} {Q : Flow → Shared → Prop}
    (C : Cx w mean mg mb g) (F : Fr g L s.heap m) (hm1 : m (Str.ofString "name") = some (.str x tx)) (hm2 : m (Str.ofString "typed") = some (.str y ty)) (hm3 : m (Str.ofString "near") = some (.str z tz))
    (ax : Asc x) (ay : Asc y) (az : Asc z) (lx : x.length ≤ 1000000) (ly : y.length ≤ 1000000) (lz : z.length ≤ 1000000)
    (h : ∀ h' tk m', Fr g L h' m' → (∀ z, z ≠ Str.ofString "label" → m' z = m z) → (∀ b o, b ≠ L → s.heap.get? b = some o → h'.get? b = some o) → Q .next { s with heap := h', toks := tk }) :
    wpAny (model pw w) (callerA.deeper (envOfC lawD.name lawD.scope L fa cdv)) (exec (stAt bigBody 7) (envOfC lawD.name lawD.scope L fa cdv)) Q E s := by
  conv in stAt _ _ => whnf
  have V : EnvOk (envOfC lawD.name lawD.scope L fa cdv) := ⟨rfl, rfl, rfl⟩
  refine wpAny_For ?_
  refine Tuple_ ?_
  refine args_cons (loc_name V (by rfl) F.ns hm1 (by decide +kernel) ?_) rfl
  refine args_cons (loc_name V (by rfl) F.ns hm2 (by decide +kernel) ?_) rfl
  refine args_cons (slice_k (loc_name V (by rfl) F.ns hm3 (by decide +kernel) ⟨z, tz, rfl, lz, fun h1 t1 k1 hk1 => ?_⟩)) rfl
  refine args_cons (loc_name V (by rfl) (F.ns.keeps hk1) hm3 (by decide +kernel) ?_) rfl
  refine args_nil ?_
  refine wpAny_newTuple ?_ (by show 4 ≤ _; rw [sizeLine_eq]; omega)
  dsimp only
  have F1 : Fr g L h1 m := ⟨F.ns.keeps hk1, fun b o e => hk1 b o (F.keep b o e), F.above⟩
  have F2 := F1.pushS { cls := .type "tuple", data := .seq [Value.str x tx, Value.str y ty, Value.str (Txt.slice z none (some 63)) t1, Value.str z tz].toArray }
  refine four_loop C (s := { s with heap := h1.push _, toks := k1 }) (vs := #[Value.str x tx, Value.str y ty, Value.str (Txt.slice z none (some 63)) t1, Value.str z tz]) F2 ⟨_, Heap.get?_push_size _ rfl, rfl, _, rfl⟩ (Nat.ne_of_gt F1.ns.lt) (fun i v hv => ?_) fun h' tk m' F' hm' hk' => ?_
  · have hi := (Array.getElem?_eq_some_iff.mp hv).1
    match i, hi, hv with
    | 0, _, hv => cases hv; exact ⟨_, _, rfl, ax, by omega⟩
    | 1, _, hv => cases hv; exact ⟨_, _, rfl, ay, by omega⟩
    | 2, _, hv => cases hv; exact ⟨_, _, rfl, slice_asc _ _ az, Nat.le_trans (Txt.slice_le _ _ _) (by omega)⟩
    | 3, _, hv => cases hv; exact ⟨_, _, rfl, az, by omega⟩
  · exact h h' tk m' F' hm' fun b o b2 e => hk' b o b2 (Heap.get?_push_of_some _ (hk1 b o e))
end
end Mine
end
section
open PySem PySem.W PyProof.Rows
set_option maxRecDepth 100000
namespace Mine
noncomputable section
def loOf (x : Str) : Str := ⟨x.cps.map lo1⟩
theorem loOf_asc {x : Str} (h : Asc x) : Asc (loOf x) := by
  intro c hc
  have : c ∈ x.cps.toList.map lo1 := by rw [← Array.toList_map]; exact hc
  obtain ⟨d, hd, rfl⟩ := List.mem_map.mp this
  have := h d hd
  unfold lo1
  split <;> omega
theorem loOf_len (x : Str) : (loOf x).length = x.length := by
  show (x.cps.map lo1).size = x.cps.size
  rw [Array.size_map]
theorem signs_strs (f : Nat → Str) : ∀ (vs ys : List Value) (cs : List Nat), vs.length = cs.length → (∀ (j : Nat) (v : Value), vs[j]? = some v → ∃ c u, cs[j]? = some c ∧ v = Value.str ⟨#[c]⟩ u) → Paired (fun v y => ∃ c u u', v = Value.str ⟨#[c]⟩ u ∧ y = Value.str (f c) u') vs ys → StrsAre ys (cs.map f)
  | [], _, [], _, _, .nil => .nil
  | v :: vs, _, c :: cs, hl, hv, .cons ⟨c', u, u', e, e'⟩ hp => by
    obtain ⟨c₀, u₀, h1, h2⟩ := hv 0 v rfl
    obtain rfl : c = c₀ := by simpa using h1
    subst e'
    rw [e] at h2
    obtain ⟨rfl, _⟩ : c' = c ∧ u = u₀ := by simpa using h2
    exact .cons _ _ (signs_strs f vs _ cs (by simpa using hl) (fun j v' h => hv (j + 1) v' (by simpa using h)) hp)
theorem lo_join {x : Str} (h : Asc x) : Txt.join (Str.ofString "") (x.cps.toList.map b3Of) = loOf x := by
  have e := join_cps (x.cps.toList.map b3Of)
  have e2 : (x.cps.toList.map b3Of).flatMap (fun p => p.cps.toList) = x.cps.toList.map lo1 := by
    have : ∀ l : List Nat, (∀ c ∈ l, c < 128) → (l.map b3Of).flatMap (fun p => p.cps.toList) = l.map lo1 := by
      intro l
      induction l with
      | nil => intro _; rfl
      | cons c r ih =>
        intro hl
        rw [List.map_cons, List.flatMap_cons, List.map_cons, ih fun d hd => hl d (List.mem_cons_of_mem _ hd), b3Of_ascii (hl c (List.mem_cons_self ..))]
        rfl
    exact this _ h
  rw [e2] at e
  have e3 : (Txt.join (Str.ofString "") (x.cps.toList.map b3Of)).cps = x.cps.map lo1 := by
    apply Array.toList_inj.mp
    rw [e, Array.toList_map]
  exact congrArg Str.mk e3
set_option maxHeartbeats 4000000 in
theorem octets_to {w : World} {mean : ExcName → Option Value} {mg mb : Str → Option Value} {E : Value → Shared → Prop} {s : Shared} {g : Heap} {L fa : Addr} {cdv : Value} {m : Str → Option Value} {y : Str} {ty : Tok} {Q : Flow → Shared → Prop}
    (C : Cx w mean mg mb g) (F : Fr g L s.heap m) (hm2 : m (Str.ofString "typed") = some (.str y ty)) (ay : Asc y) (ly : y.length ≤ 1000000)
    (h : ∀ h' tk t', Fr g L h' (fun z => if z = Str.ofString "octets" then some (dueOf y t') else m z) → (∀ b o, b ≠ L → s.heap.get? b = some o → h'.get? b = some o) → Q .next { s with heap := h', toks := tk }) :
    wpAny (model pw w) (callerA.deeper (envOfC lawD.name lawD.scope L fa cdv)) (exec (stAt bigBody 8) (envOfC lawD.name lawD.scope L fa cdv)) Q E s := by
  conv in stAt _ _ => whnf
  have V : EnvOk (envOfC lawD.name lawD.scope L fa cdv) := ⟨rfl, rfl, rfl⟩
  obtain ⟨H0, g0, d0, tk0, os0⟩ := s
  walk1
  refine asc_eval C F ay (by omega) (loc_name V (by rfl) F.ns hm2 (by decide +kernel) ⟨⟨_, rfl⟩, Keeps.refl _⟩) fun tk1 s1 k1 => ?_
  have F1 := k1.fr F
  have o1 := k1.other
  obtain ⟨h1, tk1', rfl, _, _⟩ := k1
  refine wpAny_storeName_local (by rfl) F1.ns (fun h₂ hn₂ hs₂ => ?_) (by rfl)
  exact h h₂ _ tk1 ⟨hn₂, fun b o e => hs₂.extBut b o (Nat.ne_of_lt (Nat.lt_of_lt_of_le (Heap.lt_size e) F.above)) (F1.keep b o e), F.above⟩ fun b o hb e => hs₂.extBut b o hb (o1 b o hb e)
set_option maxHeartbeats 4000000 in
theorem small_to {w : World} {mean : ExcName → Option Value} {mg mb : Str → Option Value} {E : Value → Shared → Prop} {s : Shared} {g : Heap} {L fa : Addr} {cdv : Value} {m : Str → Option Value} {y : Str} {ty : Tok} {Q : Flow → Shared → Prop}
    (C : Cx w mean mg mb g) (F : Fr g L s.heap m) (hm2 : m (Str.ofString "typed") = some (.str y ty)) (ay : Asc y) (ly : y.length ≤ 1000)
    (h : ∀ h' tk t', Fr g L h' (fun z => if z = Str.ofString "small" then some (dueOf (loOf y) t') else m z) → (∀ b o, b ≠ L → s.heap.get? b = some o → h'.get? b = some o) → Q .next { s with heap := h', toks := tk }) :
    wpAny (model pw w) (callerA.deeper (envOfC lawD.name lawD.scope L fa cdv)) (exec (stAt bigBody 9) (envOfC lawD.name lawD.scope L fa cdv)) Q E s := by
  conv in stAt _ _ => whnf
  have V : EnvOk (envOfC lawD.name lawD.scope L fa cdv) := ⟨rfl, rfl, rfl⟩
  obtain ⟨H0, g0, d0, tk0, os0⟩ := s
  walk1
  refine asc_eval (x := loOf y) C F (loOf_asc ay) (by rw [loOf_len]; omega) ?_ fun tk1 s1 k1 => ?_
  rotate_left
  · have F1 := k1.fr F
    have o1 := k1.other
    obtain ⟨h1, tk1', rfl, _, _⟩ := k1
    refine wpAny_storeName_local (by rfl) F1.ns (fun h₂ hn₂ hs₂ => ?_) (by rfl)
    exact h h₂ _ tk1 ⟨hn₂, fun b o e => hs₂.extBut b o (Nat.ne_of_lt (Nat.lt_of_lt_of_le (Heap.lt_size e) F.above)) (F1.keep b o e), F.above⟩ fun b o hb e => hs₂.extBut b o hb (o1 b o hb e)
  refine MethodCall_ ?_ rfl
  walk1
  refine getMethod_builtin (typeIs_str _ _ _) PySem.F.plainAttrs_str PySem.F.slot_str_join PySem.F.type_str_join (fun a e => by cases e) ?_
  walk1
  refine args_cons ?_ rfl
  refine comp_str (cl := []) (xs := y) (fun _ => true) (fun v y => ∃ c u u', v = .str ⟨#[c]⟩ u ∧ y = .str (b3Of c) u') rfl (by rfl) (by decide +kernel) rfl (by decide +kernel) (by rfl) (by rw [sizeLine_eq]; omega) ?_ ?_ ?_ ?_
  · exact loc_name V (by rfl) F.ns hm2 (by decide +kernel) ⟨⟨_, rfl⟩, ⟨_, _, rfl, fun _ _ e => e⟩⟩
  · intro Ca c u s₃ m₃ E' hc hk hn hm
    exact wpAny_pure ⟨rfl, Keeps.refl _⟩
  · intro Ca c u s₃ m₃ E' hc _ hk hn hm
    have hc' := ay c hc
    have C₃ : Cx w mean mg mb s₃.heap := (C.keeps F.keep).keeps hk
    refine fn1 (f := 97) (o := o97_5 w.params) C₃ (envOk_comp V rfl) (by kernel_rfl) (by kernel_rfl) rfl (by rfl) (by decide +kernel) ?_
    refine loc_name (envOk_comp V rfl) (by rfl) hn hm (by decide +kernel) ?_
    refine ⟨Keeps.refl _, wpAny_call (c_b3 C₃ (by decide +kernel) (by decide +kernel) (by omega) ?_)⟩
    intro tk₅ s₅ k₅
    exact ⟨⟨c, u, tk₅, rfl, rfl⟩, k₅⟩
  · intro D h' tk ys vs hD hpl hvl hvs hF hk
    rw [List.filter_eq_self.mpr (fun _ _ => rfl)] at hF
    have hS : StrsAre ys.toList (y.cps.toList.map b3Of) := signs_strs b3Of vs ys.toList y.cps.toList (by rw [hvl]; simp [Str.length]) (fun j v hj => by obtain ⟨c, u, h1, h2⟩ := hvs j v hj; exact ⟨c, u, by rw [Array.getElem?_toList]; exact h1, h2⟩) hF
    refine args_nil ?_
    have hle : ∀ x ∈ y.cps.toList.map b3Of, x.length ≤ 1000 := by
      intro x hx
      obtain ⟨c, hc, rfl⟩ := List.mem_map.mp hx
      rw [b3Of_ascii (ay c hc)]
      show 1 ≤ 1000
      omega
    refine join_list hpl.isList hS ?_ ?_
    · have e0 : (Str.ofString "").length = 0 := by decide +kernel
      have e1 := sum_le (y.cps.toList.map b3Of) hle
      have e2 : (y.cps.toList.map b3Of).length = y.length := by rw [List.length_map]; simp [Str.length]
      rw [e0, Nat.mul_zero]
      omega
    · intro t' k'
      rw [lo_join ay]
      exact ⟨⟨t', rfl⟩, ⟨_, _, rfl, hk⟩⟩
set_option maxHeartbeats 4000000 in
theorem cmp_small {w : World} {E : Value → Shared → Prop} {s : Shared} {g : Heap} {L fa : Addr} {cdv : Value} {m : Str → Option Value} {y : Str} {t1 t2 : Tok} {Q : Flow → Shared → Prop}
    (F : Fr g L s.heap m) (hm1 : m (Str.ofString "octets") = some (dueOf y t1)) (hm2 : m (Str.ofString "small") = some (dueOf (loOf y) t2)) (ay : Asc y)
    (h : ∀ tk, Q .next { s with toks := tk }) :
    wpAny (model pw w) (callerA.deeper (envOfC lawD.name lawD.scope L fa cdv)) (exec (stAt bigBody 10) (envOfC lawD.name lawD.scope L fa cdv)) Q E s := by
  conv in stAt _ _ => whnf
  have V : EnvOk (envOfC lawD.name lawD.scope L fa cdv) := ⟨rfl, rfl, rfl⟩
  obtain ⟨H0, g0, d0, tk0, os0⟩ := s
  iterate 2 walk1
  refine loc_name V (by rfl) F.ns hm2 (by decide +kernel) ?_
  unfold dueOf at *
  rw [loOf_len] at *
  by_cases hl : 0 < y.length ∧ y.length < 64
  · rw [if_pos hl] at *
    iterate 2 walk1
    refine loc_name V (by rfl) F.ns hm1 (by decide +kernel) ?_
    iterate 3 (first | walk1 | (dsimp only; walk1))
    rw [if_neg (by decide)]
    refine MethodCall_ (loc_name V (by rfl) F.ns hm1 (by decide +kernel) ?_) rfl
    refine getMethod_builtin (typeIs_bytes _ _ _) PySem.W.FB.plainAttrs_bytes slot_blower type_blower (fun a e => by cases e) ?_
    walk1
    have hz : (octs y).size ≤ 1000 := by
      rw [octs_is]
      have : y.cps.toList.length = y.length := by simp [Str.length]
      simp only [List.size_toArray, List.length_map]
      omega
    refine call_blower hz fun t' k => ?_
    refine ne_bytes ?_
    rw [octs_lower y ay]
    rw [show ((octs (loOf y)).toList != (octs ⟨y.cps.map lo1⟩).toList) = false from bne_self_eq_false _]
    refine wpAny_truthy_bool ?_
    rw [if_neg (by decide)]
    exact wpAny_execs_nil (h _)
  · rw [if_neg hl] at *
    iterate 2 walk1
    refine loc_name V (by rfl) F.ns hm1 (by decide +kernel) ?_
    iterate 5 (first | walk1 | (dsimp only; walk1))
    walk1
    refine wpAny_truthy_bool ?_
    rw [if_neg (by decide)]
    exact wpAny_execs_nil (h tk0)
end
end Mine
end
section
open PySem PySem.W PyProof.Rows
set_option maxRecDepth 100000
namespace Mine
noncomputable section
theorem seq_ne {h : Heap} {L b : Addr} {m : Str → Option Value} {o : Obj} {vs : Array Value} {n : Nat} (N : h.Ns L m) (e : h.get? b = some o) (hd : o.data = .seq vs n) : b ≠ L := fun q => by
  obtain ⟨oL, es, ep, e', hd', _⟩ := N
  rw [q, e'] at e
  injection e with e
  rw [← e, hd'] at hd
  cases hd
theorem plain_ne {h : Heap} {L b : Addr} {m : Str → Option Value} {vs : Array Value} (N : h.Ns L m) (p : h.PlainList b vs) : b ≠ L := by
  obtain ⟨n, e⟩ := p
  exact seq_ne N e rfl
theorem RowsAre.but {T : List (Nat × Str)} {h h' : Heap} {L D : Addr} {m : Str → Option Value} (x : RowsAre T h D) (N : h.Ns L m) (k : ∀ b o, b ≠ L → h.get? b = some o → h'.get? b = some o) : RowsAre T h' D := by
  obtain ⟨ys, h1, h2, h3⟩ := x
  refine ⟨ys, h1.at fun o e => k _ o (plain_ne N h1) e, h2, fun j y e => ?_⟩
  obtain ⟨fp, g⟩ := h3 j y e
  refine ⟨fp, rowG_own T _ _ _ _ _ (fun b hb o e => k b o ?_ e) g⟩
  obtain ⟨t, l, p, tk, vs, rfl, rfl, hp, ⟨ot, ho, hc, n, hd⟩, hl, hs⟩ := g
  rcases List.mem_cons.mp hb with rfl | hb
  · exact seq_ne N ho hd
  · rw [List.mem_singleton.mp hb]
    exact plain_ne N hl
theorem CodesOk.but {h h' : Heap} {L cd : Addr} {m : Str → Option Value} {vs : Array Value} {ks : List Nat} (x : CodesOk h cd vs ks) (N : h.Ns L m) (k : ∀ b o, b ≠ L → h.get? b = some o → h'.get? b = some o) : CodesOk h' cd vs ks :=
  ⟨x.pl.at fun o e => k _ o (plain_ne N x.pl) e, x.isI, x.rng, x.len⟩
theorem cell_but {h h' : Heap} {L : Addr} {v : Option Value} (x : h.IsCell (L + 1) v) (k : ∀ b o, b ≠ L → h.get? b = some o → h'.get? b = some o) : h'.IsCell (L + 1) v := by
  obtain ⟨o, e, r⟩ := x
  exact ⟨o, k _ o (Nat.ne_of_gt (Nat.lt_succ_self _)) e, r⟩
theorem b3_short : (b3all.all fun p => decide (p.2.length ≤ 1000)) = true := by decide +kernel
theorem fold_short (n : Nat) : (foldOf n).length ≤ 1000 := by
  unfold foldOf
  split
  · have : (Str.ofString "").length = 0 := by decide +kernel
    omega
  · unfold b3Of
    split
    · rename_i v e
      exact of_decide_eq_true (List.all_eq_true.mp b3_short _ (lookup_mem e))
    · have := len_lower ⟨#[n]⟩
      have e : (⟨#[n]⟩ : Str).length = 1 := rfl
      omega
theorem told_some {x y : Str} (h : toldOf x = some y) : y = x ∧ Asc x := by
  unfold toldOf at h
  split at h
  · rename_i q
    injection h with h
    refine ⟨h.symm, fun c hc => ?_⟩
    have := of_decide_eq_true (List.all_eq_true.mp q c hc)
    omega
  · cases h
theorem seven_some {ks : List Nat} : ∀ x ∈ (ks.map sevenOf).filterMap id, x.length ≤ 1000 ∧ Asc x := by
  intro x hx
  obtain ⟨o, ho, e⟩ := List.mem_filterMap.mp hx
  obtain ⟨k, _, rfl⟩ := List.mem_map.mp ho
  have e : sevenOf k = some x := e
  rw [← seven_law k] at e
  obtain ⟨rfl, ha⟩ := told_some e
  exact ⟨fold_short k, ha⟩
theorem join_len (xs : List Str) : (Txt.join (Str.ofString "") xs).length = (xs.map (·.length)).sum := by
  have e := congrArg List.length (join_cps xs)
  rw [List.length_flatMap] at e
  have e1 : (Txt.join (Str.ofString "") xs).cps.toList.length = (Txt.join (Str.ofString "") xs).length := by simp [Str.length]
  rw [← e1, e]
  congr 1
theorem join_asc {xs : List Str} (h : ∀ x ∈ xs, Asc x) : Asc (Txt.join (Str.ofString "") xs) := by
  intro c hc
  rw [join_cps] at hc
  obtain ⟨x, hx, hc⟩ := List.mem_flatMap.mp hc
  exact h x hx c hc
def nameOf (ks : List Nat) : Str := Txt.join (Str.ofString "") ((ks.map sevenOf).filterMap id)
theorem name_asc (ks : List Nat) : Asc (nameOf ks) := join_asc fun x hx => (seven_some x hx).2
theorem name_len {ks : List Nat} (h : ks.length ≤ 24) : (nameOf ks).length ≤ 24000 := by
  unfold nameOf
  rw [join_len]
  have e1 := sum_le ((ks.map sevenOf).filterMap id) fun x hx => (seven_some x hx).1
  have e2 := List.length_filterMap_le id (ks.map sevenOf)
  rw [List.length_map] at e2
  omega
theorem typed_asc (ks : List Nat) : Asc (typedOf ks) := join_asc fun x hx => by
  obtain ⟨k, hk, rfl⟩ := List.mem_map.mp hx
  have := of_decide_eq_true (List.mem_filter.mp hk).2
  intro c hc
  have : c = k := by simpa using hc
  omega
theorem ones_len : ∀ l : List Nat, ((l.map fun k => (⟨#[k]⟩ : Str)).map (·.length)).sum = l.length
  | [] => rfl
  | k :: r => by
    rw [List.map_cons, List.map_cons, List.sum_cons, ones_len r, List.length_cons]
    show 1 + _ = _
    omega
theorem typed_len {ks : List Nat} (h : ks.length ≤ 24) : (typedOf ks).length ≤ 24 := by
  unfold typedOf
  rw [join_len]
  unfold lowStrs
  rw [ones_len]
  exact Nat.le_trans (List.length_filter_le ..) h
theorem bigBody_is : bigBody = [stAt bigBody 0, stAt bigBody 1, stAt bigBody 2, stAt bigBody 3, stAt bigBody 4, stAt bigBody 5, stAt bigBody 6, stAt bigBody 7, stAt bigBody 8, stAt bigBody 9, stAt bigBody 10] := by kernel_rfl
set_option maxHeartbeats 4000000 in
theorem big_body {w : World} {mean : ExcName → Option Value} {mg mb : Str → Option Value} {E : Value → Shared → Prop} {s : Shared} {g : Heap} {L fa cd D : Addr} {cdv : Value} {m : Str → Option Value} {vs : Array Value} {ks : List Nat} {Q : Flow → Shared → Prop}
    (C : Cx w mean mg mb g) (F : Fr g L s.heap m) (hm : m (Str.ofString "codes") = some (.ref cd)) (K : CodesOk s.heap cd vs ks)
    (hcell : s.heap.IsCell (L + 1) (some (.ref D))) (hR : RowsAre rowTexts s.heap D)
    (h : ∀ h' tk m', Fr g L h' m' → (∀ b o, b ≠ L → s.heap.get? b = some o → h'.get? b = some o) → Q .next { s with heap := h', toks := tk }) :
    wpAny (model pw w) (callerA.deeper (envOfC lawD.name lawD.scope L fa cdv)) (execs bigBody (envOfC lawD.name lawD.scope L fa cdv)) Q E s := by
  rw [bigBody_is]
  have hlen := K.len
  have e0 : (Str.ofString "0").length = 1 := by decide +kernel
  have a0 : Asc (Str.ofString "0") := by
    have : ((Str.ofString "0").cps.toList.all fun c => decide (c < 128)) = true := by decide +kernel
    exact fun c hc => of_decide_eq_true (List.all_eq_true.mp this c hc)
  have ln := name_len hlen
  have lt := typed_len hlen
  refine wpAny_execs_cons (folds_to C F hm K fun h1 tk1 D1 ys1 F1 p1 o1 k1 _ => ?_)
  have m1 := (if_neg (by decide +kernel) : (if Str.ofString "codes" = Str.ofString "folds" then some (Value.ref D1) else m (Str.ofString "codes")) = _).trans hm
  have K1 := K.but F.ns k1
  refine wpAny_execs_cons (told_to (s := { s with heap := h1, toks := tk1 }) (xs := ks.map foldOf) C F1 (if_pos rfl) p1 o1 (by rw [List.length_map]; exact hlen) (fun x hx => by obtain ⟨n, _, rfl⟩ := List.mem_map.mp hx; exact fold_short n) fun h2 tk2 D2 ys2 F2 p2 o2 k2 _ => ?_)
  have m2 := (if_neg (by decide +kernel) : (if Str.ofString "codes" = Str.ofString "told" then some (Value.ref D2) else (if Str.ofString "codes" = Str.ofString "folds" then some (Value.ref D1) else m (Str.ofString "codes"))) = _).trans m1
  have K2 := K1.but F1.ns k2
  have k12 : ∀ b o, b ≠ L → s.heap.get? b = some o → h2.get? b = some o := fun b o hb e => k2 b o hb (k1 b o hb e)
  have o2' : OptsAre ys2.toList (ks.map sevenOf) := by
    rw [List.map_map] at o2
    rw [show ks.map sevenOf = ks.map (toldOf ∘ foldOf) from List.map_congr_left fun n _ => (seven_law n).symm]
    exact o2
  have t2 : (fun z => if z = Str.ofString "told" then some (Value.ref D2) else (if z = Str.ofString "folds" then some (Value.ref D1) else m z)) (Str.ofString "told") = some (Value.ref D2) := if_pos rfl
  refine wpAny_execs_cons (cmp_ok (s := { s with heap := h2, toks := tk2 }) C F2 m2 t2 K2 p2 o2' (cell_but hcell k12) (hR.but F.ns k12) fun h3 tk3 F3 k3 => ?_)
  refine wpAny_execs_cons (name_to (s := { s with heap := h3, toks := tk3 }) (os := ks.map sevenOf) C F3 t2 (p2.at fun o e => k3 _ o e) o2' (by rw [List.length_map]; exact hlen) (fun x hx => (seven_some x hx).1) fun h4 tk4 t4 F4 k4 => ?_)
  have K4 := (K2.but F2.ns fun b o _ e => k3 b o e).but F3.ns k4
  generalize (fun z => if z = Str.ofString "told" then some (Value.ref D2) else (if z = Str.ofString "folds" then some (Value.ref D1) else m z)) = M2 at m2 F4
  refine wpAny_execs_cons (typed_to (s := { s with heap := h4, toks := tk4 }) C F4 ((if_neg (by decide +kernel)).trans m2) K4 fun h5 tk5 t5 F5 k5 => ?_)
  refine wpAny_execs_cons (seed_to (s := { s with heap := h5, toks := tk5 }) (x := typedOf ks) (y := nameOf ks) F5 (if_pos rfl) ((if_neg (by decide +kernel)).trans (if_pos rfl)) (by omega) (by omega) fun h6 tk6 t6 F6 k6 => ?_)
  refine wpAny_execs_cons (near_to (s := { s with heap := h6, toks := tk6 }) C F6 (if_pos rfl) (by rw [app_len, app_len]; omega) (by rw [app_len, app_len]; omega) (app_asc (app_asc a0 (typed_asc ks)) (name_asc ks)) fun h7 tk7 t7 y7 l7 a7 F7 k7 => ?_)
  refine wpAny_execs_cons (four_for (s := { s with heap := h7, toks := tk7 }) (x := nameOf ks) (y := typedOf ks) (z := y7) (tx := t4) (ty := t5) C F7 ?_ ?_ (if_pos rfl) (name_asc ks) (typed_asc ks) a7 (by omega) (by omega) l7 fun h8 tk8 m8 F8 hm8 k8 => ?_)
  · exact (if_neg (by decide +kernel)).trans ((if_neg (by decide +kernel)).trans ((if_neg (by decide +kernel)).trans (if_pos rfl)))
  · exact (if_neg (by decide +kernel)).trans ((if_neg (by decide +kernel)).trans (if_pos rfl))
  have ht8 : m8 (Str.ofString "typed") = some (.str (typedOf ks) t5) := (hm8 _ (by decide +kernel)).trans ((if_neg (by decide +kernel)).trans ((if_neg (by decide +kernel)).trans (if_pos rfl)))
  refine wpAny_execs_cons (octets_to (s := { s with heap := h8, toks := tk8 }) C F8 ht8 (typed_asc ks) (by omega) fun h9 tk9 t9 F9 k9 => ?_)
  refine wpAny_execs_cons (small_to (s := { s with heap := h9, toks := tk9 }) C F9 ((if_neg (by decide +kernel)).trans ht8) (typed_asc ks) (by omega) fun h10 tk10 t10 F10 k10 => ?_)
  refine wpAny_execs_cons (cmp_small (s := { s with heap := h10, toks := tk10 }) F10 ((if_neg (by decide +kernel)).trans (if_pos rfl)) (if_pos rfl) (typed_asc ks) fun tk11 => ?_)
  refine wpAny_execs_nil (h h10 tk11 _ F10 fun b o hb e => k10 b o hb (k9 b o hb (k8 b o hb (k7 b o hb (k6 b o hb (k5 b o hb (k4 b o hb (k3 b o (k12 b o hb e)))))))))
end
end Mine
end
section
open PySem PySem.W PyProof.Rows
set_option maxRecDepth 100000
namespace Mine
noncomputable section
theorem codesFrom {h : Heap} {a : Addr} {vs : Array Value} {ns : List Int} (p : h.PlainList a vs) (hi : IntsAre vs.toList ns) (hr : ∀ n ∈ ns, (0 : Int) ≤ n ∧ n < 1114112) (hl : ns.length ≤ 24) : CodesOk h a vs (ns.map Int.toNat) := by
  have e : (ns.map Int.toNat).map (fun (k : Nat) => (k : Int)) = ns := by
    rw [List.map_map]
    have : ∀ l : List Int, (∀ n ∈ l, (0 : Int) ≤ n ∧ n < 1114112) → l.map ((fun (k : Nat) => (k : Int)) ∘ Int.toNat) = l := by
      intro l
      induction l with
      | nil => intro _; rfl
      | cons n r ih =>
        intro hn
        rw [List.map_cons, ih fun k hk => hn k (List.mem_cons_of_mem _ hk)]
        have := hn n (List.mem_cons_self ..)
        congr 1
        show ((n.toNat : Nat) : Int) = n
        omega
    exact this ns hr
  refine ⟨p, by rw [e]; exact hi, fun k hk => ?_, by rw [List.length_map]; exact hl⟩
  obtain ⟨n, hn, rfl⟩ := List.mem_map.mp hk
  have := hr n hn
  omega
set_option maxHeartbeats 4000000 in
theorem big_for {w : World} {mean : ExcName → Option Value} {mg mb : Str → Option Value} {E : Value → Shared → Prop} {s : Shared} {g : Heap} {L fa lab D : Addr} {cdv : Value} {m : Str → Option Value} {Pr : Addr → Prop} {Q : Flow → Shared → Prop}
    (C : Cx w mean mg mb g) (F : Fr g L s.heap m) (hm : m (Str.ofString "labels") = some (.ref lab)) (B : LabOk Pr s.heap lab 24)
    (hcell : s.heap.IsCell (L + 1) (some (.ref D))) (hR : RowsAre rowTexts s.heap D)
    (h : ∀ h' tk m', Fr g L h' m' → Q .next { s with heap := h', toks := tk }) :
    wpAny (model pw w) (callerA.deeper (envOfC lawD.name lawD.scope L fa cdv)) (exec (stAt (fBody 17) 4) (envOfC lawD.name lawD.scope L fa cdv)) Q E s := by
  conv in stAt _ _ => whnf
  have V : EnvOk (envOfC lawD.name lawD.scope L fa cdv) := ⟨rfl, rfl, rfl⟩
  obtain ⟨as, h1, h2, h3, h4, h5, h6⟩ := B
  refine wpAny_For (loc_name V (by rfl) F.ns hm (by decide +kernel) ?_)
  have hX : s.heap.IsList lab (as.map Value.ref).toArray := h1.isList
  refine wpAny_pyIter_list hX ?_
  have hXL : lab ≠ L := plain_ne F.ns h1
  have hXo : ∃ o, s.heap.get? lab = some o := by obtain ⟨n, e⟩ := h1; exact ⟨_, e⟩
  have hne : lab ≠ s.heap.objs.size := by obtain ⟨o, e⟩ := hXo; exact Nat.ne_of_lt (Heap.lt_size e)
  have hLI : L ≠ s.heap.objs.size := Nat.ne_of_lt F.ns.lt
  have hIn : ∀ b o, s.heap.get? b = some o → b ≠ s.heap.objs.size := fun b o e => Nat.ne_of_lt (Heap.lt_size e)
  have W := Walks.list (prog := pw) (w := w) (A := callerA.deeper (envOfC lawD.name lawD.scope L fa cdv)) rfl s.heap.objs.size lab hne (as.map Value.ref).toArray
  have st0 : (s.heap.push { cls := .type "list_iterator", data := .fields #[.ref lab, .int 0 0] }).IsListIter s.heap.objs.size lab 0 ∧ (s.heap.push { cls := .type "list_iterator", data := .fields #[.ref lab, .int 0 0] }).IsList lab (as.map Value.ref).toArray :=
    ⟨⟨_, Heap.get?_push_size _ rfl, rfl, rfl⟩, hX.at fun o e => Heap.get?_push_of_some _ e⟩
  have k₂ : ∀ b o, s.heap.get? b = some o → (s.heap.push { cls := .type "list_iterator", data := .fields #[.ref lab, .int 0 0] }).get? b = some o := fun b o e => Heap.get?_push_of_some _ e
  have F₀ := F.pushS { cls := .type "list_iterator", data := .fields #[.ref lab, .int 0 0] }
  generalize s.heap.push { cls := .type "list_iterator", data := .fields #[.ref lab, .int 0 0] } = H at st0 k₂ F₀ ⊢
  generalize s.heap.objs.size = I at *
  have hsz : (as.map Value.ref).toArray.size = as.length := by simp
  refine codeAny_forLoop (fun n s' => ∃ h' tk i m', s' = { s with heap := h', toks := tk } ∧ i ≤ (as.map Value.ref).toArray.size ∧ n = (as.map Value.ref).toArray.size + 1 - i ∧ (h'.IsListIter I lab i ∧ h'.IsList lab (as.map Value.ref).toArray) ∧ Fr g L h' m' ∧
      ∀ b o, b ≠ L → s.heap.get? b = some o → h'.get? b = some o) ?_ ((as.map Value.ref).toArray.size + 1) ⟨H, s.toks, 0, _, rfl, Nat.zero_le _, rfl, st0, F₀, fun b o _ e => k₂ b o e⟩
  rintro n s' ⟨h', tk, i, m', rfl, hi, rfl, hst, F', hkp⟩
  by_cases hlt : i < (as.map Value.ref).toArray.size
  · refine W.item i _ _ _ hlt hst fun v h₅ tk₅ hPv hst₅ hk₅ => ?_
    have up₅ : ∀ b o, b ≠ I → h'.get? b = some o → h₅.get? b = some o := fun b o hb e => hk₅ b o (by simpa using hb) e
    obtain ⟨a, ha, rfl⟩ : ∃ a ∈ as, v = Value.ref a := by
      rw [List.getElem?_toArray, List.getElem?_map] at hPv
      cases e : as[i]? with
      | none => rw [e] at hPv; cases hPv
      | some a =>
        rw [e] at hPv
        injection hPv with hPv
        exact ⟨a, List.mem_of_getElem? e, hPv.symm⟩
    obtain ⟨va, na, pa, ia, ra, la⟩ := h5 a ha
    have hgI : ∀ b o, g.get? b = some o → b ≠ I := fun b o e => hIn b o (F.keep b o e)
    refine wpAny_assign_Name (wpAny_storeName_local (by rfl) (F'.ns.at' fun o e => up₅ _ o hLI e) (fun h₆ hn₆ hs₆ => ?_) (by rfl))
    have up₆ : ∀ b o, b ≠ I → b ≠ L → h'.get? b = some o → h₆.get? b = some o := fun b o b1 b2 e => hs₆.extBut b o b2 (up₅ b o b1 e)
    have hst₆ : h₆.IsListIter I lab (i + 1) ∧ h₆.IsList lab (as.map Value.ref).toArray := W.frame _ _ _ hst₅ fun b hb o e => hs₆.extBut b o (fun q => by
      rcases List.mem_cons.mp hb with e' | hb
      · exact hLI (q.symm.trans e')
      · exact hXL ((List.mem_singleton.mp hb).symm.trans q)) e
    have F₆ : Fr g L h₆ _ := ⟨hn₆, fun b o e => up₆ b o (hgI b o e) (Nat.ne_of_lt (Nat.lt_of_lt_of_le (Heap.lt_size e) F.above)) (F'.keep b o e), F.above⟩
    have all₆ : ∀ b o, b ≠ L → s.heap.get? b = some o → h₆.get? b = some o := fun b o b2 e => up₆ b o (hIn b o e) b2 (hkp b o b2 e)
    have K₆ := (codesFrom pa ia ra la).but F.ns all₆
    refine big_body (s := { s with heap := h₆, toks := _ }) (D := D) C F₆ (if_pos rfl) K₆ (cell_but hcell all₆) (hR.but F.ns all₆) fun h₇ tk₇ m₇ F₇ o₇ => ?_
    refine ⟨(as.map Value.ref).toArray.size + 1 - (i + 1), by omega, h₇, tk₇, i + 1, _, rfl, hlt, rfl, W.frame _ _ _ hst₆ fun b hb o e => o₇ b o ?_ e, F₇, fun b o b2 e => o₇ b o b2 (all₆ b o b2 e)⟩
    rcases List.mem_cons.mp hb with e' | hb
    · exact fun q => hLI (q.symm.trans e')
    · exact fun q => hXL ((List.mem_singleton.mp hb).symm.trans q)
  · obtain rfl : i = (as.map Value.ref).toArray.size := by omega
    refine W.done _ _ _ hst fun h₅ tk₅ hk₅ => ?_
    have up₅ : ∀ b o, b ≠ I → h'.get? b = some o → h₅.get? b = some o := fun b o hb e => hk₅ b o (by simpa using hb) e
    exact wpAny_execs_nil (h h₅ tk₅ m' ⟨F'.ns.at' fun o e => up₅ _ o hLI e, fun b o e => up₅ b o (hIn b o (F.keep b o e)) (F'.keep b o e), F.above⟩)
end
end Mine
end
section
open PySem PySem.W PyProof.Rows
set_option maxRecDepth 100000
namespace Mine
noncomputable section
set_option maxHeartbeats 4000000 in
theorem rows_to {w : World} {mean : ExcName → Option Value} {mg mb : Str → Option Value} {E : Value → Shared → Prop} {s : Shared} {g : Heap} {L fa : Addr} {cdv : Value} {m : Str → Option Value} {v₀ : Option Value} {Q : Flow → Shared → Prop}
    (C : Cx w mean mg mb g) (F : Fr g L s.heap m) (hcell : s.heap.IsCell (L + 1) v₀)
    (h : ∀ h' tk D, Fr g L h' m → h'.IsCell (L + 1) (some (.ref D)) → RowsAre rowTexts h' D → Q .next { s with heap := h', toks := tk }) :
    wpAny (model pw w) (callerA.deeper (envOfC lawD.name lawD.scope L fa cdv)) (exec (stAt (fBody 17) 0) (envOfC lawD.name lawD.scope L fa cdv)) Q E s := by
  conv in stAt _ _ => whnf
  have V : EnvOk (envOfC lawD.name lawD.scope L fa cdv) := ⟨rfl, rfl, rfl⟩
  obtain ⟨H0, g0, d0, tk0, os0⟩ := s
  walk1
  have C0 := C.keeps F.keep
  have hrow := C0.KX 102 _ rfl
  refine Call_ (C0.glob V (v := .ref 102) (by kernel_rfl) (by rfl) (by decide +kernel) ?_)
  refine Calls.callWith_function (o := o102_5 w.params) (fd := _) (evalArgs_nil3 ⟨⟨hrow, rfl⟩, wpAny_call (c_rows C0 (by decide +kernel) (by decide +kernel) fun D s' hR k => ?_)⟩)
  obtain ⟨h1, tk1, rfl, k1⟩ := k
  dsimp only at hR k1 ⊢
  refine wpAny_storeName_cell (by rfl) (by rfl) (by rfl) (hcell.keeps k1) fun h2 hc2 hs2 => ?_
  have hLc : L ≠ L + 1 := Nat.ne_of_lt (Nat.lt_succ_self _)
  have up : ∀ b o, b ≠ L + 1 → h1.get? b = some o → h2.get? b = some o := fun b o hb e => hs2.extBut b o hb e
  refine h h2 _ D ⟨(F.ns.keeps k1).sameBut hs2 hLc, fun b o e => up b o (Nat.ne_of_lt (Nat.lt_succ_of_lt (Nat.lt_of_lt_of_le (Heap.lt_size e) F.above))) (k1 b o (F.keep b o e)), F.above⟩ hc2 ?_
  obtain ⟨oc, ec, dc⟩ := hcell.keeps k1
  have sne : ∀ b o vs n, h1.get? b = some o → o.data = .seq vs n → b ≠ L + 1 := fun b o vs n e d q => by
    rw [q, ec] at e
    injection e with e
    rw [← e, dc] at d
    cases d
  obtain ⟨ys, q1, q2, q3⟩ := hR
  refine ⟨ys, q1.at fun o e => up _ o (by obtain ⟨n, e'⟩ := q1; exact sne _ _ _ _ e' rfl) e, q2, fun j y e => ?_⟩
  obtain ⟨fp, G⟩ := q3 j y e
  refine ⟨fp, rowG_own rowTexts _ _ _ _ _ (fun b hb o e => up b o ?_ e) G⟩
  obtain ⟨t, l, p, tk, vs, rfl, rfl, hp, ⟨ot, ho, hc, n, hd⟩, ⟨nl, hl⟩, hs⟩ := G
  rcases List.mem_cons.mp hb with rfl | hb
  · exact sne _ _ _ _ ho hd
  · rw [List.mem_singleton.mp hb]
    exact sne _ _ _ _ hl rfl
set_option maxHeartbeats 4000000 in
theorem labels_to {w : World} {E : Value → Shared → Prop} {s : Shared} {g : Heap} {L fa : Addr} {cdv : Value} {m : Str → Option Value} {Q : Flow → Shared → Prop}
    (F : Fr g L s.heap m)
    (h : ∀ h' tk lab, Fr g L h' (fun z => if z = Str.ofString "labels" then some (.ref lab) else m z) → LabOk (fun b => ∃ o, s.heap.get? b = some o) h' lab 0 → (∀ b o, b ≠ L → s.heap.get? b = some o → h'.get? b = some o) → Q .next { s with heap := h', toks := tk }) :
    wpAny (model pw w) (callerA.deeper (envOfC lawD.name lawD.scope L fa cdv)) (exec (stAt (fBody 17) 2) (envOfC lawD.name lawD.scope L fa cdv)) Q E s := by
  conv in stAt _ _ => whnf
  obtain ⟨H0, g0, d0, tk0, os0⟩ := s
  walk1
  refine List_ (args_cons (List_ (args_nil (wpAny_newObj_type ?_))) rfl)
  refine args_nil (wpAny_newObj_type ?_)
  dsimp only
  have k2 : ∀ b o, H0.get? b = some o → ((H0.push { cls := Value.type "list", data := Data.seq #[] }).push { cls := Value.type "list", data := Data.seq #[Value.ref H0.objs.size] }).get? b = some o := fun b o e => Heap.get?_push_of_some _ (Heap.get?_push_of_some _ e)
  have ea : ((H0.push { cls := Value.type "list", data := Data.seq #[] }).push { cls := Value.type "list", data := Data.seq #[Value.ref H0.objs.size] }).PlainList H0.objs.size #[] := ⟨_, Heap.get?_push_of_some _ (Heap.get?_push_size _ rfl)⟩
  have el : ((H0.push { cls := Value.type "list", data := Data.seq #[] }).push { cls := Value.type "list", data := Data.seq #[Value.ref H0.objs.size] }).PlainList (H0.objs.size + 1) #[Value.ref H0.objs.size] := ⟨_, Heap.get?_push_at (by rw [Heap.size_push]) rfl⟩
  rw [Heap.size_push]
  generalize (H0.push { cls := Value.type "list", data := Data.seq #[] }).push { cls := Value.type "list", data := Data.seq #[Value.ref H0.objs.size] } = H at k2 ea el ⊢
  have hLt : L < H0.objs.size := F.ns.lt
  refine wpAny_storeName_local (by rfl) (F.ns.keeps k2) (fun h₂ hn₂ hs₂ => ?_) (by rfl)
  have up : ∀ b o, b ≠ L → H.get? b = some o → h₂.get? b = some o := fun b o hb e => hs₂.extBut b o hb e
  refine h h₂ _ (H0.objs.size + 1) ⟨hn₂, fun b o e => up b o (Nat.ne_of_lt (Nat.lt_of_lt_of_le (Heap.lt_size e) F.above)) (k2 b o (F.keep b o e)), F.above⟩ ⟨[H0.objs.size], el.at fun o e => up _ o (Nat.ne_of_gt (Nat.lt_succ_of_lt hLt)) e, ?_, by simp, by simp, ?_, ?_⟩ fun b o hb e => up b o hb (k2 b o e)
  · refine List.nodup_cons.mpr ⟨fun q => ?_, by simp⟩
    exact absurd (List.mem_singleton.mp q) (Nat.succ_ne_self _)
  · intro a ha
    rw [List.mem_singleton.mp ha]
    exact ⟨#[], [], ea.at fun o e => up _ o (Nat.ne_of_gt hLt) e, .nil, (fun n hn => by cases hn), Nat.zero_le _⟩
  · rintro b ⟨o, e⟩
    have hb : b < H0.objs.size := Heap.lt_size e
    refine ⟨fun q => ?_, ?_⟩
    · rcases List.mem_cons.mp q with q | q
      · exact Nat.lt_irrefl _ (Nat.lt_of_succ_lt (q ▸ hb))
      · exact Nat.lt_irrefl _ (List.mem_singleton.mp q ▸ hb)
    · by_cases q : b = L
      · subst q
        obtain ⟨oL, _, _, eL, _⟩ := hn₂
        exact ⟨oL, eL⟩
      · exact ⟨o, up b o q (k2 b o e)⟩
end
end Mine
end
section
open PySem PySem.W PyProof.Rows
set_option maxRecDepth 100000
namespace Mine
noncomputable section
theorem fBody17_is : fBody 17 = [stAt (fBody 17) 0, stAt (fBody 17) 1, stAt (fBody 17) 2, stAt (fBody 17) 3, stAt (fBody 17) 4, stAt (fBody 17) 5] := by kernel_rfl
set_option maxHeartbeats 4000000 in
theorem law_body {w : World} {mean : ExcName → Option Value} {mg mb : Str → Option Value} {E : Value → Shared → Prop} {s : Shared} {g : Heap} {L fa sc : Addr} {cdv : Value} {m : Str → Option Value} {v₀ : Option Value} {xs : List Value} {ns : List Int} {Q : Flow → Shared → Prop}
    (C : Cx w mean mg mb g) (F : Fr g L s.heap m) (hms : m (Str.ofString "script") = some (.ref sc)) (hcell : s.heap.IsCell (L + 1) v₀)
    (hL : g.IsList sc xs.toArray) (hI : IntsAre xs ns) (hlen : ¬ (63 : Int) < (ns.length : Int))
    (h : ∀ h' tk, (∀ b o, g.get? b = some o → h'.get? b = some o) → Q (.ret (.bool true)) { s with heap := h', toks := tk }) :
    wpAny (model pw w) (callerA.deeper (envOfC lawD.name lawD.scope L fa cdv)) (execs (fBody 17) (envOfC lawD.name lawD.scope L fa cdv)) Q E s := by
  rw [fBody17_is]
  refine wpAny_execs_cons (rows_to C F hcell fun h1 tk1 D F1 hc1 R1 => ?_)
  refine wpAny_execs_cons (others_to (s := { s with heap := h1, toks := tk1 }) rfl C F1 hc1 R1 fun h2 tk2 O ys F2 hO hys k2 _ => ?_)
  have hc2 := cell_but hc1 k2
  have R2 := R1.but F1.ns k2
  refine wpAny_execs_cons (labels_to (s := { s with heap := h2, toks := tk2 }) F2 fun h3 tk3 lab F3 B3 k3 => ?_)
  have em : m = fun z => if z = Str.ofString "script" then some (.ref sc) else m z := by
    funext z
    by_cases q : z = Str.ofString "script"
    · rw [if_pos q, q, hms]
    · rw [if_neg q]
  have F3' : Fr g L h3 (fun z => if z = Str.ofString "labels" then some (.ref lab) else if z = Str.ofString "others" then some (.ref O) else if z = Str.ofString "script" then some (.ref sc) else m z) := by
    have q := F3
    rw [em] at q
    exact q
  have hOL : O ≠ L := plain_ne F2.ns hO
  have PrL : ∃ o, h2.get? L = some o := by obtain ⟨o, _, _, e, _⟩ := F2.ns; exact ⟨o, e⟩
  have PrO : ∃ o, h2.get? O = some o := by obtain ⟨n, e⟩ := hO; exact ⟨_, e⟩
  refine wpAny_execs_cons (labels_for (s := { s with heap := h3, toks := tk3 }) (Pr := fun b => ∃ o, h2.get? b = some o) C F3' hL hI hlen (hO.at fun o e => k3 _ o hOL e) hys PrO PrL (fun b o e => ⟨o, F2.keep b o e⟩) B3 fun h4 tk4 m4 F4 B4 k4 hm4 => ?_)
  have k24 : ∀ b o, b ≠ L → h2.get? b = some o → h4.get? b = some o := fun b o hb e => k4 b o ⟨o, e⟩ hb (k3 b o hb e)
  refine wpAny_execs_cons (big_for (s := { s with heap := h4, toks := tk4 }) C F4 hm4 B4 (cell_but hc2 k24) (R2.but F2.ns k24) fun h5 tk5 m5 F5 => ?_)
  refine wpAny_execs_cons ?_
  conv in stAt _ _ => whnf
  repeat' (first | walk1 | (dsimp only; walk1))
  exact h h5 _ F5.keep
end
end Mine
end
section
open PySem PySem.W PyProof.Rows
set_option maxRecDepth 100000
set_option maxHeartbeats 8000000
namespace Mine
noncomputable section
theorem walkT : WalkO qv looseL (XL qv []) (InK KF) PySem.Challenge.rw_mq0336_01.row.toRowW lawD [] fun f vs => PySem.call f vs := by
  intro w s₀ s₁ mg mb G Y fa o pm cd doc dV kV ho hd hcd hD hmg hg args vals as hpre hlay hrd hwl hlo
  have KX : (KF w.params).In s₁.heap := Y
  k_behind G ho hd hcd hD hmg hpre hlay hrd hwl hlo cd
  rename Fr s₁.heap _ _ _ => F
  rename News _ _ _ _ => N
  rename Glob _ _ _ _ _ _ _ _ => GL
  rename Top _ _ _ _ _ _ => T
  rename IntsAre _ _ => hI
  rename Heap.IsList _ _ _ => hL
  rename Obj.data _ = _ => hdc
  rename ¬ (_ : Int) < _ => hlen
  have C : Cx w (ExcName.means s₀.heap) mg mb s₁.heap := ⟨KX, GL, T⟩
  refine law_body C F (by rfl) ⟨_, (N _ (List.mem_cons_self ..)).1, hdc⟩ hL hI hlen fun h' tk keep => ?_
  exact ⟨.inl ⟨.bool true, .bool true, [], rfl, fun _ => by rfl, (.bool true), by wrow_post, fun _ => ⟨List.nodup_nil, fun a ha => by cases ha⟩⟩, keep, rfl, hg⟩
end
end Mine
end
open PySem PySem.W PyProof.Rows
theorem PySem.Challenge.cw_mq0336_01_holds : PySem.Challenge.rw_mq0336_01.Holds :=
  Mine.headT Mine.walkT
