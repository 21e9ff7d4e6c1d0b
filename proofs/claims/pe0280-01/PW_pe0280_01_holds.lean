import PyProof.Rows.All
import KE.KParD
import KE.KxPercentT
import Wide.All
import OpenK.AllK
import Wide.FinOn
import Lean
import PySem.Challenge.RW_pe0280_01
set_option Elab.async false
set_option maxRecDepth 100000
set_option maxHeartbeats 0
set_option linter.unusedVariables false
local macro_rules | `(tactic| omega) => `(tactic| lia)
section
open PySem PySem.W PyProof.Rows
namespace Mine
section
variable {tb : String → Option Builtin} {p : Program} {w : World} {n₀ : Nat} {ann : Option Value}
theorem segGo_add : ∀ {n m : Nat} {s s' s'' : Shared} {t t' t'' : Thread}, segGo tb p w n₀ ann 1 n s t = some (s', t') → segGo tb p w n₀ ann 1 m s' t' = some (s'', t'') →
  segGo tb p w n₀ ann 1 (n + m) s t = some (s'', t'')
 | 0, m, s, s', s'', t, t', t'', h, k => by
  obtain ⟨rfl, rfl⟩ : s = s' ∧ t = t' := by simpa [segGo] using h
  rw [Nat.zero_add]; exact k
 | n + 1, m, s, s', s'', t, t', t'', h, k => by
  rw [show n + 1 + m = n + m + 1 by omega]
  unfold segGo at h ⊢
  cases he : endAt 1 t with
  | some f => rw [he] at h; cases h
  | none =>
   rw [he] at h
   cases hk : stepOk n₀ ann t with
   | false => rw [hk] at h; cases h
   | true =>
    rw [hk] at h
    cases hs : step (denote tb) p w s t with
    | halt o s₂ => rw [hs] at h; cases h
    | go s₂ t₂ => rw [hs] at h; exact segGo_add h k
theorem segGo_step {n : Nat} {s s' : Shared} {t t' : Thread} {r : Option (Shared × Thread)} (he : endAt 1 t = none) (hk : stepOk n₀ ann t = true) (hs : step (denote tb) p w s t = .go s' t') (h : segGo tb p w n₀ ann 1 n s' t' = r) :
  segGo tb p w n₀ ann 1 (n + 1) s t = r := by
 unfold segGo; rw [he, hk, hs]; exact h
noncomputable def Goes (tb : String → Option Builtin) (p : Program) (w : World) (n₀ : Nat) (ann : Option Value) {α : Type} (x : Sem α) (n : Nat) (s : Shared) (q : Pos) (a : α) (s' : Shared) (q' : Pos) : Prop :=
 ∀ (K : α → Sem Fin) (H : Value → Sem Fin) (gd : Bool → Bool) (lv : List Value → List Value) (code : Code) (st : List Frame), 1 ≤ st.length →
  segGo tb p w n₀ ann 1 n s ⟨x.wrap K H gd lv, code, q, st⟩ = some (s', ⟨K a, code, q', st⟩)
theorem Goes.pure {α : Type} (a : α) (s : Shared) (q : Pos) : Goes tb p w n₀ ann (Pure.pure a : Sem α) 0 s q a s q := fun _ _ _ _ _ _ _ => rfl
theorem Goes.bind {α β : Type} {x : Sem α} {f : α → Sem β} {n m : Nat} {s s' s'' : Shared} {q q' q'' : Pos} {a : α} {b : β} (h : Goes tb p w n₀ ann x n s q a s' q') (k : Goes tb p w n₀ ann (f a) m s' q' b s'' q'') :
  Goes tb p w n₀ ann (x >>= f) (n + m) s q b s'' q'' := fun K H gd lv code st hl => by
 have e : (x >>= f).wrap K H gd lv = x.wrap (fun a => (f a).wrap K H gd lv) H gd lv := by
  show (Sem.bind x f).wrap K H gd lv = _
  rw [Sem.bind_eq_wrap, Sem.wrap_wrap]; rfl
 rw [e]
 exact segGo_add (h _ H gd lv code st hl) (k K H gd lv code st hl)
theorem Goes.one {α : Type} {x : Sem α} {y : Sem α} {n : Nat} {s s₁ s' : Shared} {q q₁ q' : Pos} {a : α}
  (h1 : ∀ (K : α → Sem Fin) (H : Value → Sem Fin) (gd : Bool → Bool) (lv : List Value → List Value) (code : Code) (st : List Frame),
   endAt 1 ⟨x.wrap K H gd lv, code, q, st⟩ = none ∧ stepOk n₀ ann ⟨x.wrap K H gd lv, code, q, st⟩ = true ∧ step (denote tb) p w s ⟨x.wrap K H gd lv, code, q, st⟩ = .go s₁ ⟨y.wrap K H gd lv, code, q₁, st⟩)
  (h : Goes tb p w n₀ ann y n s₁ q₁ a s' q') : Goes tb p w n₀ ann x (n + 1) s q a s' q' := fun K H gd lv code st hl => by
 obtain ⟨e1, e2, e3⟩ := h1 K H gd lv code st
 exact segGo_step e1 e2 e3 (h K H gd lv code st hl)
theorem endAt_np {cur : Sem Fin} {code : Code} {q : Pos} {st : List Frame} (h : ∀ f, cur ≠ .pure f) : endAt 1 ⟨cur, code, q, st⟩ = none := by
 unfold endAt
 dsimp only
 generalize (st.length == 1) = b
 cases b <;> cases cur <;> first | rfl | exact (h _ rfl).elim
theorem Goes.rule {α : Type} {t : String} {k : Unit → Sem α} {n : Nat} {s s' : Shared} {q q' : Pos} {a : α} (h : Goes tb p w n₀ ann (k ()) n s q a s' q') : Goes tb p w n₀ ann (.rule t k) (n + 1) s q a s' q' :=
 Goes.one (fun K H gd lv code st => ⟨endAt_np (fun f e => nomatch e), rfl, rfl⟩) h
theorem Goes.at' {α : Type} {t : Pos} {k : Unit → Sem α} {n : Nat} {s s' : Shared} {q q' : Pos} {a : α} (h : Goes tb p w n₀ ann (k ()) n s t a s' q') : Goes tb p w n₀ ann (.at t k) (n + 1) s q a s' q' :=
 Goes.one (fun K H gd lv code st => ⟨endAt_np (fun f e => nomatch e), rfl, rfl⟩) h
theorem Goes.point' {α : Type} {l : List Value} {k : Unit → Sem α} {n : Nat} {s s' : Shared} {q q' : Pos} {a : α} (h : Goes tb p w n₀ ann (k ()) n s q a s' q') : Goes tb p w n₀ ann (.point l k) (n + 1) s q a s' q' :=
 Goes.one (fun K H gd lv code st => ⟨endAt_np (fun f e => nomatch e), rfl, rfl⟩) h
theorem Goes.fresh' {α : Type} {k : Tok → Sem α} {n : Nat} {s s' : Shared} {q q' : Pos} {a : α} (h : Goes tb p w n₀ ann (k s.toks) n { s with toks := s.toks + 1 } q a s' q') : Goes tb p w n₀ ann (.fresh k) (n + 1) s q a s' q' :=
 Goes.one (fun K H gd lv code st => ⟨endAt_np (fun f e => nomatch e), rfl, rfl⟩) h
theorem Goes.ask' {α : Type} {k : Setting → Sem α} {n : Nat} {s s' : Shared} {q q' : Pos} {a : α} (h : Goes tb p w n₀ ann (k ⟨p, w.params⟩) n s q a s' q') : Goes tb p w n₀ ann (.ask k) (n + 1) s q a s' q' :=
 Goes.one (fun K H gd lv code st => ⟨endAt_np (fun f e => nomatch e), rfl, rfl⟩) h
theorem Goes.load' {α : Type} {b : Addr} {pt : Option Value} {k : Obj → Sem α} {n : Nat} {s s' : Shared} {q q' : Pos} {a : α} {o : Obj} (ho : s.heap.get? b = some o) (h : Goes tb p w n₀ ann (k o) n s q a s' q') : Goes tb p w n₀ ann (.load b pt k) (n + 1) s q a s' q' :=
 Goes.one (fun K H gd lv code st => ⟨endAt_np (fun f e => nomatch e), rfl, by simp only [Sem.wrap, step, ho]⟩) h
theorem Goes.update' {α : Type} {b : Addr} {pt : Option Value} {f : Obj → Obj} {k : Unit → Sem α} {n : Nat} {s s' : Shared} {q q' : Pos} {a : α} {o : Obj} (hb : n₀ ≤ b) (ho : s.heap.get? b = some o) (h : Goes tb p w n₀ ann (k ()) n { s with heap := s.heap.update b f } q a s' q') :
  Goes tb p w n₀ ann (.update b pt f k) (n + 1) s q a s' q' :=
 Goes.one (fun K H gd lv code st => ⟨endAt_np (fun f e => nomatch e), by
  have : Nat.ble n₀ b = true := Nat.ble_eq_true_of_le hb
  simp [stepOk, Sem.wrap, Thread.calm, Thread.atCollectorCode, Thread.yieldsInsideHandler, this], by simp only [Sem.wrap, step, ho, Option.isSome_some, if_true]⟩) h
theorem Goes.alloc' {α : Type} {o : Obj} {k : Addr → Sem α} {n : Nat} {s s' : Shared} {q q' : Pos} {a : α} (h : Goes tb p w n₀ ann (k s.heap.objs.size) n { s with heap := s.heap.push o } q a s' q') : Goes tb p w n₀ ann (.alloc o k) (n + 1) s q a s' q' :=
 Goes.one (fun K H gd lv code st => ⟨endAt_np (fun f e => nomatch e), rfl, rfl⟩) h
noncomputable def notLife : Code → Bool
 | .builtin id _ => !id.startsWith "lifetime."
 | _ => true
theorem okAgain {c c' : Code} {q : Pos} {st : List Frame} (hq : notLife c' = true) : stepOk n₀ ann ⟨.pure (.again c'), c, q, st⟩ = true := by
 cases c' <;> simp_all [stepOk, Thread.calm, Thread.atCollectorCode, Thread.yieldsInsideHandler, notLife]
theorem endAt_deep {cur : Sem Fin} {code : Code} {q : Pos} {fr : Frame} {st : List Frame} (h : 1 ≤ st.length) : endAt 1 ⟨cur, code, q, fr :: st⟩ = none := by
 unfold endAt
 have : ((fr :: st).length == 1) = false := beq_eq_false_iff_ne.mpr (by rw [List.length_cons]; omega)
 simp only [this]
theorem Goes.callB {α : Type} {c c' : Code} {hd : Option Value} {g : Bool} {l : List Value} {k : Result → Sem α} {v : Nat → Value} {n : Nat} {s s' : Shared} {q q' : Pos} {a : α}
  (e1 : denote tb c = .pure (.again c')) (hq : notLife c' = true) (e2 : denote tb c' = .fresh fun t => .pure (.done (.ret (v t))))
  (h : Goes tb p w n₀ ann (k (.ok (.ret (v s.toks)))) n { s with toks := s.toks + 1 } q a s' q') : Goes tb p w n₀ ann (.call c hd g l k) (n + 4) s q a s' q' := fun K H gd lv code st hl => by
 obtain ⟨heap, gens, drawn, toks, os⟩ := s
 refine segGo_step (n := n + 3) (endAt_np (fun f e => nomatch e)) rfl rfl ?_
 rw [e1]
 refine segGo_step (n := n + 2) (endAt_deep hl) (okAgain hq) PySem.W.step_again ?_
 rw [e2]
 refine segGo_step (n := n + 1) (endAt_deep hl) rfl rfl ?_
 refine segGo_step (n := n) (endAt_deep hl) rfl rfl ?_
 exact h K H gd lv code st hl
theorem Goes.ite {α : Type} {c : Prop} [Decidable c] {x y : Sem α} {n : Nat} {s s' : Shared} {q q' : Pos} {a : α} (h1 : c → Goes tb p w n₀ ann x n s q a s' q') (h2 : ¬ c → Goes tb p w n₀ ann y n s q a s' q') : Goes tb p w n₀ ann (if c then x else y) n s q a s' q' := by
 split
 ·rename_i h; exact h1 h
 ·rename_i h; exact h2 h
theorem Goes.of_eq {α : Type} {x y : Sem α} {n m : Nat} {s s' : Shared} {q q' : Pos} {a : α} (e : x = y) (en : n = m) (h : Goes tb p w n₀ ann y m s q a s' q') : Goes tb p w n₀ ann x n s q a s' q' := by rw [e, en]; exact h
theorem Goes.keep {α : Type} {x : Sem α} {vs : List Value} {n : Nat} {s s' : Shared} {q q' : Pos} {a : α} (h : Goes tb p w n₀ ann x n s q a s' q') : Goes tb p w n₀ ann (x.keep vs) n s q a s' q' := fun K H gd lv code st hl => by
 rw [Sem.keep_eq_wrap, Sem.wrap_wrap]; exact h _ _ _ _ code st hl
theorem Goes.holding {α : Type} {x : Sem α} {vs : List Value} {n : Nat} {s s' : Shared} {q q' : Pos} {a : α} (h : Goes tb p w n₀ ann x n s q a s' q') : Goes tb p w n₀ ann (holding vs x) n s q a s' q' := by
 rw [holding_eq_keep]; exact h.keep
theorem Goes.tryCatch {α : Type} {x : Sem α} {k : Value → Sem α} {n : Nat} {s s' : Shared} {q q' : Pos} {a : α} (h : Goes tb p w n₀ ann x n s q a s' q') : Goes tb p w n₀ ann (x.tryCatch k) n s q a s' q' := fun K H gd lv code st hl => by
 rw [Sem.tryCatch_eq_wrap, Sem.wrap_wrap]
 exact h _ _ _ _ code st hl
theorem Goes.onRaise {α : Type} {x : Sem α} {k : Value → Sem Unit} {n : Nat} {s s' : Shared} {q q' : Pos} {a : α} (h : Goes tb p w n₀ ann x n s q a s' q') : Goes tb p w n₀ ann (x.onRaise k) n s q a s' q' := fun K H gd lv code st hl => by
 rw [Sem.onRaise_eq_wrap, Sem.wrap_wrap]
 exact h _ _ _ _ code st hl
end
end Mine
end
section
open PySem PySem.W PyProof.Rows
set_option profiler true
set_option profiler.threshold 500
namespace Mine
theorem chk_hash (k : Int) (t : Tok) : checkBuiltinCall "int.__hash__" ⟨[.int k t], []⟩ = pure () := by kernel_rfl
theorem den_builtin (tb : String → Option Builtin) (id : String) (args : Args) {b : Builtin} (h : entryFor tb id = some b) : denote tb (.builtin id args) = b args := by
 show (match entryFor tb id with | some b => b args | none => unsupported ((withoutEnding? id "#data").getD id)) = _
 rw [h]
theorem den_hash (k : Int) (t : Tok) : denote table (.builtin "int.__hash__" ⟨[.int k t], []⟩) = .fresh fun t' => .pure (.done (.ret (.int (rawHash k) t'))) :=
 (den_builtin table "int.__hash__" _ entry_int_hash).trans rfl
section
variable {p : Program} {w : World} {n₀ : Nat} {ann : Option Value}
theorem goes_pure {α : Type} {a b : α} {s : Shared} {q : Pos} (e : a = b) : Goes table p w n₀ ann (Pure.pure a : Sem α) 0 s q b s q := e ▸ Goes.pure a s q
theorem goes_eqpure {α : Type} {x : Sem α} {a : α} {s : Shared} {q : Pos} (e : x = pure a) : Goes table p w n₀ ann x 0 s q a s q := by rw [e]; exact Goes.pure a s q
theorem goes_special (k : Int) (t : Tok) (s : Shared) (q : Pos) : Goes table p w n₀ ann (specialOf (.int k t) "__hash__") 0 s q (some (.builtin "int.__hash__")) s q := by
 apply goes_eqpure
 show (typeOf (.int k t) >>= fun v => typeLookup v "__hash__") = _
 show (pure (Value.type "int") >>= fun v => typeLookup v "__hash__") = _
 exact slot_int_hash.lookup
theorem goes_hash (k : Int) (t : Tok) (s : Shared) (q : Pos) : Goes table p w n₀ ann (pyHash (.int k t)) 5 s q (hashInt k) { s with toks := s.toks + 1 } q := by
 have hr := rawHash_range k
 unfold pyHash
 show Goes _ _ _ _ _ (pyHashByItsType (.int k t)) _ _ _ _ _ _
 unfold pyHashByItsType
 have hv : [Value.int k t].any Value.onHeap = false := rfl
 refine Goes.bind (n := 0) (m := 5) (s' := s) (q' := q) (a := ()) ?_ ?_
 ·rw [cRoomFor, if_neg (by rw [hv]; exact Bool.false_ne_true)]; exact Goes.pure _ _ _
 refine Goes.bind (n := 0) (m := 5) (goes_special k t s q) ?_
 show Goes _ _ _ _ _ (if (some (Value.builtin "int.__hash__") == some Value.none) = true then _ else _) _ _ _ _ _ _
 rw [if_neg (by rw [beq_builtin_none]; exact Bool.false_ne_true)]
 refine Goes.bind (n := 0) (m := 5) (goes_special k t s q) ?_
 show Goes _ _ _ _ _ (callSpecialIfBoundUnlessNone? (.int k t) "__hash__" _ >>= _) _ _ _ _ _ _
 refine Goes.bind (n := 5) (m := 0) (s' := { s with toks := s.toks + 1 }) (q' := q) (a := some (.int (rawHash k) s.toks)) ?_ ?_
 ·simp only [callSpecialIfBoundUnlessNone?, bindSpecialIfBound?]
  refine Goes.holding ?_
  refine Goes.bind (n := 1) (m := 4) (s' := s) (q' := q) (a := some (.builtin "int.__hash__", [.int k t])) ?_ ?_
  ·refine Goes.bind (n := 0) (m := 1) (goes_special k t s q) ?_
   simp only [slot_int_hash.bind]
   refine Goes.bind (n := 1) (m := 0) (Goes.ask' (n := 0) (Goes.pure _ _ _)) ?_
   show Goes _ _ _ _ _ (if w.params.followText "special-get-raises" = true then _ else _) _ _ _ _ _ _
   refine Goes.ite (fun _ => ?_) fun _ => ?_
   ·exact Goes.pure _ _ _
   ·exact Goes.tryCatch (Goes.pure _ _ _)
  ·have e : ∀ (x y : Sem (Option Value)), (if (Value.builtin "int.__hash__" == Value.none) = true then x else y) = y := fun x y => by simp only [builtin_beq_none, Bool.false_eq_true, if_false]
   show Goes _ _ _ _ _ (if (Value.builtin "int.__hash__" == Value.none) = true then _ else _) _ _ _ _ _ _
   rw [e]
   refine Goes.bind (n := 4) (m := 0) (s' := { s with toks := s.toks + 1 }) (q' := q) (a := .int (rawHash k) s.toks) ?_ (Goes.pure _ _ _)
   show Goes _ _ _ _ _ (Sem.call (.call (.builtin "int.__hash__") ⟨[.int k t], []⟩) none false [] _) _ _ _ _ _ _
   refine Goes.callB (n := 0) (c' := .builtin "int.__hash__" ⟨[.int k t], []⟩) (v := fun t' => .int (rawHash k) t') ?_ (by show (!("int.__hash__".startsWith "lifetime.")) = true; decide +kernel) ?_ ?_
   ·show callAny (.builtin "int.__hash__") ⟨[.int k t], []⟩ = _
    unfold callAny
    show (checkBuiltinCall "int.__hash__" ⟨[.int k t], []⟩ >>= fun _ => again (.builtin "int.__hash__" ⟨[.int k t], []⟩)) = _
    rw [chk_hash]; rfl
   ·exact den_hash k t
   ·exact Goes.pure _ _ _
 ·show Goes _ _ _ _ _ (if (decide (-(2 : Int) ^ 63 ≤ rawHash k) && decide (rawHash k < 2 ^ 63)) = true then _ else _) _ _ _ _ _ _
  rw [if_pos (by rw [decide_eq_true hr.1, decide_eq_true hr.2]; rfl)]
  exact Goes.pure _ _ _
theorem goes_loadPart {a : Addr} {pt : Option Value} {o : Obj} {s : Shared} {q : Pos} (ho : s.heap.get? a = some o) : Goes table p w n₀ ann (loadPart a pt) 1 s q o s q := Goes.load' (n := 0) ho (Goes.pure _ _ _)
theorem goes_updPart {a : Addr} {pt : Option Value} {f : Obj → Obj} {o : Obj} {s : Shared} {q : Pos} (hb : n₀ ≤ a) (ho : s.heap.get? a = some o) : Goes table p w n₀ ann (updatePart a pt f) 1 s q () { s with heap := s.heap.update a f } q := Goes.update' (n := 0) hb ho (Goes.pure _ _ _)
theorem goes_rule {t : String} {s : Shared} {q : Pos} : Goes table p w n₀ ann (PySem.rule t) 1 s q () s q := Goes.rule (n := 0) (Goes.pure _ _ _)
theorem goes_dictEntries {a : Addr} {pt : Option Value} {o : Obj} {es ep} {s : Shared} {q : Pos} (ho : s.heap.get? a = some o) (hd : o.data = .dict es ep) : Goes table p w n₀ ann (dictEntries a pt) 1 s q es s q := by
 unfold dictEntries
 refine Goes.bind (n := 1) (m := 0) (goes_loadPart ho) ?_
 rw [hd]; exact Goes.pure _ _ _
theorem goes_dictEpoch {a : Addr} {pt : Option Value} {o : Obj} {es ep} {s : Shared} {q : Pos} (ho : s.heap.get? a = some o) (hd : o.data = .dict es ep) : Goes table p w n₀ ann (dictEpoch a pt) 1 s q ep s q := by
 unfold dictEpoch
 refine Goes.bind (n := 1) (m := 0) (goes_loadPart ho) ?_
 rw [hd]; exact Goes.pure _ _ _
noncomputable def Lone (es : Array DictEntry) (h : Int) : Prop := ∀ e ∈ es, e.hash ≠ h
theorem places_none {es : Array DictEntry} {h : Int} (l : Lone es h) : placesWithHash es.size (fun i => es[i]?.map (·.hash)) h = [] := by
 unfold placesWithHash
 rw [List.filter_eq_nil_iff]
 intro i _ e
 simp only [beq_iff_eq, Option.map_eq_some_iff] at e
 obtain ⟨d, h1, h2⟩ := e
 exact l d (Array.mem_of_getElem? h1) h2
theorem goes_findNone {d : Addr} {k : Int} {t : Tok} {h : Int} {o : Obj} {es ep} {s : Shared} {q : Pos} (ho : s.heap.get? d = some o) (hd : o.data = .dict es ep) (l : Lone es h) :
  Goes table p w n₀ ann (dictFind d (.int k t) h) 1 s q none s q := by
 unfold dictFind
 refine Goes.holding ?_
 refine Goes.bind (n := 1) (m := 0) (goes_dictEntries ho hd) ?_
 simp only [places_none l]
 exact goes_eqpure rfl
theorem past_dict {es : Array DictEntry} {n : Nat} (h : es.size ≤ sizeLine + 1) : (Data.dict es n).pastItsLine = none := pastItsLine_dict h
theorem goes_updKeys {d : Addr} {pt : Option Value} {f} {c : Value} {dd : Option Addr} {sl : Array (Option Value)} {es ep} {s : Shared} {q : Pos} (hb : n₀ ≤ d) (ho : s.heap.get? d = some ⟨c, dd, .dict es ep, sl⟩)
  (hz : (f es).size ≤ sizeLine) : Goes table p w n₀ ann (updateDictKeys d f pt) 3 s q () { s with heap := s.heap.update d (Obj.mapDictKeys f) } q := by
 unfold updateDictKeys
 refine Goes.bind (n := 1) (m := 2) (goes_loadPart ho) ?_
 refine Goes.bind (n := 1) (m := 1) (goes_updPart hb ho) ?_
 unfold lookBehind
 refine Goes.bind (n := 1) (m := 0) (goes_loadPart (s := { s with heap := s.heap.update d (Obj.mapDictKeys f) }) (o := ⟨c, dd, .dict (f es) (ep + 1), sl⟩) (Heap.get?_update_self _ ho rfl)) ?_
 have e : (⟨c, dd, .dict (f es) (ep + 1), sl⟩ : Obj).data.pastItsLine = none := past_dict (by omega)
 rw [e]
 exact Goes.pure _ _ _
theorem goes_dictSet {d : Addr} {k : Int} {t : Tok} {v : Value} {c : Value} {dd : Option Addr} {sl : Array (Option Value)} {es ep} {s : Shared} {q : Pos} (hb : n₀ ≤ d) (ho : s.heap.get? d = some ⟨c, dd, .dict es ep, sl⟩)
  (hz : es.size < sizeLine) (l : Lone es (hashInt k)) : Goes table p w n₀ ann (dictSet d (.int k t) v) 10 s q () { s with toks := s.toks + 1, heap := s.heap.update d (Obj.mapDictKeys (·.push ⟨hashInt k, .int k t, v⟩)) } q := by
 unfold dictSet
 refine Goes.holding ?_
 refine Goes.bind (n := 5) (m := 5) (goes_hash k t s q) ?_
 unfold dictSetHashed
 refine Goes.holding ?_
 refine Goes.bind (n := 1) (m := 4) (goes_findNone (s := { s with toks := s.toks + 1 }) ho rfl l) ?_
 refine Goes.bind (n := 1) (m := 3) goes_rule ?_
 exact goes_updKeys (s := { s with toks := s.toks + 1 }) hb ho (by rw [Array.size_push]; omega)
theorem goes_dictPut {d : Addr} {k : Int} {t : Tok} {h : Int} {v : Value} {c : Value} {dd : Option Addr} {sl : Array (Option Value)} {es ep} {s : Shared} {q : Pos} (hb : n₀ ≤ d) (ho : s.heap.get? d = some ⟨c, dd, .dict es ep, sl⟩)
  (hz : es.size < sizeLine) (l : Lone es h) : Goes table p w n₀ ann (dictPut d h (.int k t) v) 4 s q () { s with heap := s.heap.update d (Obj.mapDictKeys (·.push ⟨h, .int k t, v⟩)) } q := by
 unfold dictPut
 refine Goes.bind (n := 1) (m := 3) (goes_findNone ho rfl l) ?_
 exact goes_updKeys hb ho (by rw [Array.size_push]; omega)
end
noncomputable def Hp (h₀ : Heap) (l : List Obj) : Heap := ⟨h₀.objs ++ l.toArray, h₀.life⟩
theorem Hp.nil (h₀ : Heap) : Hp h₀ [] = h₀ := by obtain ⟨o, l⟩ := h₀; simp [Hp]
theorem Hp.size (h₀ : Heap) (l : List Obj) : (Hp h₀ l).objs.size = h₀.objs.size + l.length := by simp [Hp]
theorem Hp.push (h₀ : Heap) (l : List Obj) (o : Obj) : (Hp h₀ l).push o = Hp h₀ (l ++ [o]) := by
 obtain ⟨os, lf⟩ := h₀
 simp [Hp, Heap.push]
theorem Hp.get (h₀ : Heap) (l : List Obj) (j : Nat) (o : Obj) (h : l[j]? = some o) (hf : o.isFreed = false) : (Hp h₀ l).get? (h₀.objs.size + j) = some o := by
 have e : (Hp h₀ l).objs[h₀.objs.size + j]? = some o := by
  simp only [Hp, Array.getElem?_append_right (Nat.le_add_right _ _), Nat.add_sub_cancel_left, List.getElem?_toArray, h]
 unfold Heap.get?
 rw [e]
 obtain ⟨c, d, dt, sl⟩ := o
 cases dt <;> first | rfl | (simp [Obj.isFreed] at hf)
theorem Hp.upd (h₀ : Heap) (l : List Obj) (j : Nat) (f : Obj → Obj) : (Hp h₀ l).update (h₀.objs.size + j) f = Hp h₀ (l.modify j f) := by
 obtain ⟨os, lf⟩ := h₀
 simp only [Hp, Heap.update, Heap.mk.injEq, and_true]
 apply Array.ext_getElem?
 intro i
 rw [Array.getElem?_modify]
 by_cases hi : i < os.size
 ·have : ¬ os.size + j = i := by omega
  rw [if_neg this, Array.getElem?_append_left hi, Array.getElem?_append_left hi]
 ·rw [Array.getElem?_append_right (by omega), Array.getElem?_append_right (by omega), List.getElem?_toArray, List.getElem?_toArray, List.getElem?_modify]
  by_cases e : os.size + j = i
  ·have h2 : j = i - os.size := by omega
   rw [if_pos e]; simp only [if_pos h2]; rfl
  ·have h2 : ¬ j = i - os.size := by omega
   rw [if_neg e]; simp only [if_neg h2]; simp
noncomputable def dobj (es : List DictEntry) (ep : Nat) : Obj := ⟨.type "dict", none, .dict es.toArray ep, #[]⟩
theorem dobj_push (es : List DictEntry) (ep : Nat) (e : DictEntry) : Obj.mapDictKeys (·.push e) (dobj es ep) = dobj (es ++ [e]) (ep + 1) := by simp [dobj, Obj.mapDictKeys]
noncomputable def ents : List (Int × Str) → Nat → List DictEntry
 | [], _ => []
 | (i, s) :: r, t => ⟨hashInt i, .int i t, .str s (t + 1)⟩ :: ents r (t + 3)
theorem ents_app : ∀ (a b : List (Int × Str)) (t : Nat), ents (a ++ b) t = ents a t ++ ents b (t + 3 * a.length)
 | [], b, t => by simp [ents]
 | (i, s) :: r, b, t => by
  show _ :: ents (r ++ b) (t + 3) = _ :: (ents r (t + 3) ++ _)
  rw [ents_app r b (t + 3), List.length_cons]
  congr 3
  omega
theorem ents_len : ∀ (a : List (Int × Str)) (t : Nat), (ents a t).length = a.length
 | [], _ => rfl
 | (i, s) :: r, t => by show (_ :: ents r (t + 3)).length = _; rw [List.length_cons, List.length_cons, ents_len]
noncomputable def Up : Int → List (Int × Str) → Prop
 | _, [] => True
 | b, (i, _) :: r => b < i ∧ 0 ≤ i ∧ i < 2 ^ 60 ∧ Up i r
noncomputable def upB : Int → List (Int × Str) → Bool
 | _, [] => true
 | b, (i, _) :: r => decide (b < i) && decide (0 ≤ i) && decide (i < 2 ^ 60) && upB i r
theorem up_of : ∀ {b : Int} {l : List (Int × Str)}, upB b l = true → Up b l
 | _, [], _ => trivial
 | b, (i, s) :: r, h => by
  simp only [upB, Bool.and_eq_true, decide_eq_true_eq] at h
  exact ⟨h.1.1.1, h.1.1.2, h.1.2, up_of h.2⟩
noncomputable def Bel (b : Int) (es : List DictEntry) : Prop := ∀ e ∈ es, e.hash ≤ b
theorem hash_small {i : Int} (h0 : 0 ≤ i) (h : i < 2 ^ 60) : hashInt i = i := by
 have hr : rawHash i = i := by
  simp only [rawHash]
  have e : (i.natAbs : Int) = i := by omega
  have m : ((i.natAbs : Int) % ((2 ^ 61 - 1 : Nat) : Int)) = i := by
   rw [e]; exact Int.emod_eq_of_lt h0 (by have : ((2 ^ 61 - 1 : Nat) : Int) = 2305843009213693951 := (by decide); omega)
  rw [m]
  have h1 : ¬ i < 0 := by omega
  have h2 : ¬ (i == -1) = true := by simp; omega
  rw [if_neg h1, if_neg h2]
 unfold hashInt
 rw [hr]
 have h2 : ¬ (i == -1) = true := by simp; omega
 rw [if_neg h2]
noncomputable def lastK : Int → List (Int × Str) → Int
 | b, [] => b
 | _, (i, _) :: r => lastK i r
theorem lastK_app : ∀ (b : Int) (l r : List (Int × Str)), lastK b (l ++ r) = lastK (lastK b l) r
 | _, [], _ => rfl
 | _, (i, _) :: l, r => lastK_app i l r
theorem Up.split : ∀ {b : Int} {l r : List (Int × Str)}, Up b (l ++ r) → Up b l ∧ Up (lastK b l) r
 | _, [], _, h => ⟨trivial, h⟩
 | _, (i, _) :: l, r, h => ⟨⟨h.1, h.2.1, h.2.2.1, h.2.2.2.split.1⟩, h.2.2.2.split.2⟩
theorem Up.le_last : ∀ {b : Int} {l : List (Int × Str)}, Up b l → b ≤ lastK b l
 | _, [], _ => Int.le_refl _
 | _, (i, _) :: l, h => by have := Up.le_last h.2.2.2; have := h.1; show _ ≤ lastK i l; omega
theorem ents_bel : ∀ {b : Int} {l : List (Int × Str)} (t : Nat), Up b l → Bel (lastK b l) (ents l t)
 | _, [], _, _ => fun _ h => nomatch h
 | b, (i, s) :: r, t, h => fun e he => by
  rcases List.mem_cons.mp he with rfl | he
  ·show hashInt i ≤ lastK i r
   rw [hash_small h.2.1 h.2.2.1]
   exact h.2.2.2.le_last
  ·exact ents_bel (t + 3) h.2.2.2 e he
theorem Bel.app {b : Int} {x y : List DictEntry} (h : Bel b x) (k : Bel b y) : Bel b (x ++ y) := fun e he => (List.mem_append.mp he).elim (h e) (k e)
theorem Bel.mono {b c : Int} {x : List DictEntry} (h : Bel b x) (k : b ≤ c) : Bel c x := fun e he => Int.le_trans (h e he) k
theorem Bel.lone {b i : Int} {x : List DictEntry} (h : Bel b x) (k : b < i) : Lone x.toArray i := fun e he => by
 have := h e (by simpa using he); omega
section
variable {p : Program} {w : World} {n₀ : Nat} {ann : Option Value} {dp : Pos}
noncomputable def vtree (dp : Pos) (s : Str) : Sem Value := do let x ← mkText s; standAt dp; pure x
noncomputable def pr (dp : Pos) (x : Int × Str) : Sem Value × Sem Value := (mkInt x.1, vtree dp x.2)
noncomputable def itm (dp : Pos) (x : Int × Str) : Option (Sem Value) × Sem Value := (some (mkInt x.1), vtree dp x.2)
theorem goes_key (i : Int) (s : Shared) (q : Pos) : Goes table p w n₀ ann (mkInt i) 1 s q (.int i s.toks) { s with toks := s.toks + 1 } q :=
 Goes.bind (n := 1) (m := 0) (Goes.fresh' (n := 0) (Goes.pure _ _ _)) (Goes.pure _ _ _)
theorem goes_val (x : Str) (s : Shared) (q : Pos) : Goes table p w n₀ ann (vtree dp x) 2 s q (.str x s.toks) { s with toks := s.toks + 1 } dp :=
 Goes.bind (n := 1) (m := 1) (Goes.bind (n := 1) (m := 0) (Goes.fresh' (n := 0) (Goes.pure _ _ _)) (Goes.pure _ _ _)) (Goes.bind (n := 1) (m := 0) (Goes.at' (n := 0) (Goes.pure _ _ _)) (Goes.pure _ _ _))
theorem forIn_cons' {α β : Type} (a : α) (as : List α) (b : β) (f : α → β → Sem (ForInStep β)) : forIn (a :: as) b f = (f a b >>= fun r => match r with | .done b => pure b | .yield b => forIn as b f)  := by
 rw [List.forIn_cons]; congr 1
theorem mod_last (o : Obj) (f : Obj → Obj) : ∀ l : List Obj, (l ++ [o]).modify l.length f = l ++ [f o]
 | [] => rfl
 | a :: l => by rw [List.cons_append, List.length_cons, List.modify_succ_cons, mod_last o f l]; rfl
theorem goes_setOne {h₀ : Heap} {l : List Obj} {es : List DictEntry} {ep : Nat} {i : Int} {b : Int} {t tk : Nat} {v : Value} {s : Shared} {q : Pos} (hn : n₀ ≤ h₀.objs.size) (hs : s = { s with heap := Hp h₀ (l ++ [dobj es ep]), toks := tk })
  (hb : Bel b es) (hi : b < i) (h0 : 0 ≤ i) (h1 : i < 2 ^ 60) (hz : es.length < 100000) :
  Goes table p w n₀ ann (dictSet (h₀.objs.size + l.length) (.int i t) v) 10 s q () { s with heap := Hp h₀ (l ++ [dobj (es ++ [⟨hashInt i, .int i t, v⟩]) (ep + 1)]), toks := tk + 1 } q := by
 have hg : s.heap.get? (h₀.objs.size + l.length) = some (dobj es ep) := by rw [hs]; exact Hp.get _ _ _ _ (by simp) rfl
 have e : ({ s with heap := Hp h₀ (l ++ [dobj (es ++ [⟨hashInt i, .int i t, v⟩]) (ep + 1)]), toks := tk + 1 } : Shared) = { s with toks := s.toks + 1, heap := s.heap.update (h₀.objs.size + l.length) (Obj.mapDictKeys (·.push ⟨hashInt i, .int i t, v⟩)) } := by
  have a : s.toks = tk := by rw [hs]
  have c : s.heap = Hp h₀ (l ++ [dobj es ep]) := by rw [hs]
  rw [a, c, Hp.upd]
  rw [mod_last, dobj_push]
 rw [e]
 exact goes_dictSet (by omega) hg (by show es.toArray.size < 2 ^ 24; rw [List.size_toArray]; omega) (by rw [hash_small h0 h1]; exact hb.lone hi)
theorem goes_setAll {h₀ : Heap} {l : List Obj} : ∀ (C : List (Int × Str)) {es : List DictEntry} {ep : Nat} {b : Int} {tk : Nat} {s : Shared}, n₀ ≤ h₀.objs.size → s = { s with heap := Hp h₀ (l ++ [dobj es ep]), toks := tk } →
  Bel b es → Up b C → es.length + C.length < 100000 →
  Goes table p w n₀ ann (forIn (C.map (pr dp)) PUnit.unit fun x _ => match x with
   | (k, v) => do
    let kv ← k
    let vv ← holding [kv] v
    holding [kv, vv] (dictSet (h₀.objs.size + l.length) kv vv)
    pure (ForInStep.yield PUnit.unit)) (13 * C.length) s dp PUnit.unit { s with heap := Hp h₀ (l ++ [dobj (es ++ ents C tk) (ep + C.length)]), toks := tk + 3 * C.length } dp
 | [], es, ep, b, tk, s, hn, hs, hb, hu, hz => by
  have e : ({ s with heap := Hp h₀ (l ++ [dobj (es ++ ents [] tk) (ep + 0)]), toks := tk + 3 * 0 } : Shared) = s := by
   rw [hs]; simp [ents]
  show Goes _ _ _ _ _ _ _ _ _ _ { s with heap := Hp h₀ (l ++ [dobj (es ++ ents [] tk) (ep + 0)]), toks := tk + 3 * 0 } _
  rw [e]; exact Goes.pure _ _ _
 | (i, x) :: r, es, ep, b, tk, s, hn, hs, hb, hu, hz => by
  rw [List.map_cons, forIn_cons']
  have ht : s.toks = tk := by rw [hs]
  have hh : s.heap = Hp h₀ (l ++ [dobj es ep]) := by rw [hs]
  refine Goes.of_eq rfl (m := 13 + 13 * r.length) (by rw [List.length_cons]; omega) ?_
  refine Goes.bind (n := 13) (m := 13 * r.length) (a := ForInStep.yield PUnit.unit) (s' := { s with heap := Hp h₀ (l ++ [dobj (es ++ [⟨hashInt i, .int i tk, .str x (tk + 1)⟩]) (ep + 1)]), toks := tk + 3 }) (q' := dp) ?_ ?_
  ·refine Goes.bind (n := 1) (m := 12) (goes_key i s dp) ?_
   refine Goes.bind (n := 2) (m := 10) (Goes.holding (goes_val x _ dp)) ?_
   refine Goes.bind (n := 10) (m := 0) (a := ()) (Goes.holding ?_) (Goes.pure _ _ _)
   rw [ht]
   exact goes_setOne (s := { s with toks := tk + 1 + 1 }) (tk := tk + 2) hn (by rw [hh]) hb hu.1 hu.2.1 hu.2.2.1 (by simp only [List.length_cons] at hz; omega)
  ·have := goes_setAll r (es := es ++ [⟨hashInt i, .int i tk, .str x (tk + 1)⟩]) (ep := ep + 1) (b := i) (tk := tk + 3)
    (s := { s with heap := Hp h₀ (l ++ [dobj (es ++ [⟨hashInt i, .int i tk, .str x (tk + 1)⟩]) (ep + 1)]), toks := tk + 3 }) hn rfl
    ((hb.mono (Int.le_of_lt hu.1)).app (fun e he => by rw [List.mem_singleton.mp he]; show hashInt i ≤ i; rw [hash_small hu.2.1 hu.2.2.1]; exact Int.le_refl _)) hu.2.2.2 (by simp only [List.length_append, List.length_cons, List.length_nil] at hz ⊢; omega)
   have e : ({ s with heap := Hp h₀ (l ++ [dobj (es ++ ents ((i, x) :: r) tk) (ep + ((i, x) :: r).length)]), toks := tk + 3 * ((i, x) :: r).length } : Shared) =
     {s with heap := Hp h₀ (l ++ [dobj (es ++ [⟨hashInt i, .int i tk, .str x (tk + 1)⟩] ++ ents r (tk + 3)) (ep + 1 + r.length)]), toks := tk + 3 + 3 * r.length } := by
    rw [List.append_assoc, List.length_cons, show tk + 3 * (r.length + 1) = tk + 3 + 3 * r.length by omega, show ep + (r.length + 1) = ep + 1 + r.length by omega]; rfl
   rw [e]; exact this
theorem goes_subLong {h₀ : Heap} {l : List Obj} {C : List (Int × Str)} {b : Int} {tk : Nat} {s : Shared} (hn : n₀ ≤ h₀.objs.size) (hs : s = { s with heap := Hp h₀ l, toks := tk }) (hu : Up b C) (hC : 15 < C.length) (hz : C.length < 100000) :
  Goes table p w n₀ ann (subDict (C.map (pr dp))) (2 + 13 * C.length) s dp (h₀.objs.size + l.length) { s with heap := Hp h₀ (l ++ [dobj (ents C tk) C.length]), toks := tk + 3 * C.length } dp := by
 have ht : s.toks = tk := by rw [hs]
 have hh : s.heap = Hp h₀ l := by rw [hs]
 unfold subDict
 refine Goes.of_eq rfl (m := 1 + (1 + 13 * C.length)) (by omega) ?_
 refine Goes.bind (n := 1) (m := 1 + 13 * C.length) (a := h₀.objs.size + l.length) (s' := { s with heap := Hp h₀ (l ++ [dobj [] 0]) }) (q' := dp) ?_ ?_
 ·refine Goes.alloc' (n := 0) ?_
  rw [hh, Hp.push, Hp.size]
  exact Goes.pure _ _ _
 ·rw [if_neg (by rw [List.length_map]; omega)]
  refine Goes.bind (n := 1 + 13 * C.length) (m := 0) (a := ()) (Goes.holding ?_) (Goes.pure _ _ _)
  refine Goes.bind (n := 1) (m := 13 * C.length) goes_rule ?_
  refine Goes.bind (n := 13 * C.length) (m := 0) (a := PUnit.unit) (q' := dp) ?_ (Goes.pure _ _ _)
  have := goes_setAll (p := p) (w := w) (ann := ann) (dp := dp) (l := l) C (es := []) (ep := 0) (b := b) (tk := tk) (s := { s with heap := Hp h₀ (l ++ [dobj [] 0]) }) hn (by rw [← ht]) (fun _ h => nomatch h) hu (by simpa using hz)
  rw [List.nil_append, Nat.zero_add] at this
  exact this
noncomputable def pvs : List (Int × Str) → Nat → List (Value × Value)
 | [], _ => []
 | (i, x) :: r, t => (.int i t, .str x (t + 1)) :: pvs r (t + 2)
theorem goes_pairs : ∀ (C : List (Int × Str)) {s : Shared}, Goes table p w n₀ ann (evalPairs (C.map (pr dp))) (3 * C.length) s dp (pvs C s.toks) { s with toks := s.toks + 2 * C.length } dp
 | [], s => Goes.pure _ _ _
 | (i, x) :: r, s => by
  rw [List.map_cons]
  show Goes _ _ _ _ _ (evalPairs ((mkInt i, vtree dp x) :: r.map (pr dp))) _ _ _ _ _ _
  unfold evalPairs
  refine Goes.of_eq rfl (m := 1 + (2 + (3 * r.length + 0))) (by rw [List.length_cons]; omega) ?_
  refine Goes.bind (goes_key i s dp) ?_
  refine Goes.bind (Goes.holding (goes_val x _ dp)) ?_
  refine Goes.bind (a := pvs r (s.toks + 2)) (s' := { s with toks := s.toks + 2 + 2 * r.length }) (q' := dp) (Goes.holding ?_) ?_
  ·exact goes_pairs r (s := { s with toks := s.toks + 2 })
  ·have e : ({ s with toks := s.toks + 2 * ((i, x) :: r).length } : Shared) = { s with toks := s.toks + 2 + 2 * r.length } := by rw [List.length_cons, show s.toks + 2 * (r.length + 1) = s.toks + 2 + 2 * r.length by omega]
   rw [e]; exact Goes.pure _ _ _
noncomputable def entsS : List (Int × Str) → Nat → List DictEntry
 | [], _ => []
 | (i, x) :: r, t => ⟨hashInt i, .int i t, .str x (t + 1)⟩ :: entsS r (t + 2)
theorem entsS_len : ∀ (a : List (Int × Str)) (t : Nat), (entsS a t).length = a.length
 | [], _ => rfl
 | (i, s) :: r, t => by show (_ :: entsS r (t + 2)).length = _; rw [List.length_cons, List.length_cons, entsS_len]
theorem entsS_bel : ∀ {b : Int} {l : List (Int × Str)} (t : Nat), Up b l → Bel (lastK b l) (entsS l t)
 | _, [], _, _ => fun _ h => nomatch h
 | b, (i, s) :: r, t, h => fun e he => by
  rcases List.mem_cons.mp he with rfl | he
  ·show hashInt i ≤ lastK i r
   rw [hash_small h.2.1 h.2.2.1]
   exact h.2.2.2.le_last
  ·exact entsS_bel (t + 2) h.2.2.2 e he
theorem goes_setVs {h₀ : Heap} {l : List Obj} : ∀ (C : List (Int × Str)) {es : List DictEntry} {ep : Nat} {b : Int} {t tk : Nat} {s : Shared}, n₀ ≤ h₀.objs.size → s = { s with heap := Hp h₀ (l ++ [dobj es ep]), toks := tk } →
  Bel b es → Up b C → es.length + C.length < 100000 →
  Goes table p w n₀ ann (forIn (pvs C t) PUnit.unit fun x _ => match x with
   | (k, v) => do
    dictSet (h₀.objs.size + l.length) k v
    pure (ForInStep.yield PUnit.unit)) (10 * C.length) s dp PUnit.unit { s with heap := Hp h₀ (l ++ [dobj (es ++ entsS C t) (ep + C.length)]), toks := tk + C.length } dp
 | [], es, ep, b, t, tk, s, hn, hs, hb, hu, hz => by
  have e : ({ s with heap := Hp h₀ (l ++ [dobj (es ++ entsS [] t) (ep + 0)]), toks := tk + 0 } : Shared) = s := by
   rw [hs]; simp [entsS]
  show Goes _ _ _ _ _ _ _ _ _ _ { s with heap := Hp h₀ (l ++ [dobj (es ++ entsS [] t) (ep + 0)]), toks := tk + 0 } _
  rw [e]; exact Goes.pure _ _ _
 | (i, x) :: r, es, ep, b, t, tk, s, hn, hs, hb, hu, hz => by
  show Goes _ _ _ _ _ (forIn ((.int i t, .str x (t + 1)) :: pvs r (t + 2)) PUnit.unit _) _ _ _ _ _ _
  rw [forIn_cons']
  have ht : s.toks = tk := by rw [hs]
  have hh : s.heap = Hp h₀ (l ++ [dobj es ep]) := by rw [hs]
  refine Goes.of_eq rfl (m := 10 + 10 * r.length) (by rw [List.length_cons]; omega) ?_
  refine Goes.bind (n := 10) (m := 10 * r.length) (a := ForInStep.yield PUnit.unit) (s' := { s with heap := Hp h₀ (l ++ [dobj (es ++ [⟨hashInt i, .int i t, .str x (t + 1)⟩]) (ep + 1)]), toks := tk + 1 }) (q' := dp) ?_ ?_
  ·refine Goes.bind (n := 10) (m := 0) (a := ()) ?_ (Goes.pure _ _ _)
   exact goes_setOne (s := s) (tk := tk) hn hs hb hu.1 hu.2.1 hu.2.2.1 (by simp only [List.length_cons] at hz; omega)
  ·have := goes_setVs r (es := es ++ [⟨hashInt i, .int i t, .str x (t + 1)⟩]) (ep := ep + 1) (b := i) (t := t + 2) (tk := tk + 1)
    (s := { s with heap := Hp h₀ (l ++ [dobj (es ++ [⟨hashInt i, .int i t, .str x (t + 1)⟩]) (ep + 1)]), toks := tk + 1 }) hn rfl
    ((hb.mono (Int.le_of_lt hu.1)).app (fun e he => by rw [List.mem_singleton.mp he]; show hashInt i ≤ i; rw [hash_small hu.2.1 hu.2.2.1]; exact Int.le_refl _)) hu.2.2.2 (by simp only [List.length_append, List.length_cons, List.length_nil] at hz ⊢; omega)
   have e : ({ s with heap := Hp h₀ (l ++ [dobj (es ++ entsS ((i, x) :: r) t) (ep + ((i, x) :: r).length)]), toks := tk + ((i, x) :: r).length } : Shared) =
     {s with heap := Hp h₀ (l ++ [dobj (es ++ [⟨hashInt i, .int i t, .str x (t + 1)⟩] ++ entsS r (t + 2)) (ep + 1 + r.length)]), toks := tk + 1 + r.length } := by
    rw [List.append_assoc, List.length_cons, show tk + (r.length + 1) = tk + 1 + r.length by omega, show ep + (r.length + 1) = ep + 1 + r.length by omega]; rfl
   rw [e]; exact this
theorem goes_subShort {h₀ : Heap} {l : List Obj} {C : List (Int × Str)} {b : Int} {tk : Nat} {s : Shared} (hn : n₀ ≤ h₀.objs.size) (hs : s = { s with heap := Hp h₀ l, toks := tk }) (hu : Up b C) (hC : C.length ≤ 15) :
  Goes table p w n₀ ann (subDict (C.map (pr dp))) (1 + 13 * C.length) s dp (h₀.objs.size + l.length) { s with heap := Hp h₀ (l ++ [dobj (entsS C tk) C.length]), toks := tk + 3 * C.length } dp := by
 have ht : s.toks = tk := by rw [hs]
 have hh : s.heap = Hp h₀ l := by rw [hs]
 unfold subDict
 refine Goes.of_eq rfl (m := 1 + (3 * C.length + 10 * C.length)) (by omega) ?_
 refine Goes.bind (n := 1) (a := h₀.objs.size + l.length) (s' := { s with heap := Hp h₀ (l ++ [dobj [] 0]) }) (q' := dp) ?_ ?_
 ·refine Goes.alloc' (n := 0) ?_
  rw [hh, Hp.push, Hp.size]
  exact Goes.pure _ _ _
 ·rw [if_pos (by rw [List.length_map]; omega)]
  refine Goes.bind (n := 3 * C.length + 10 * C.length) (m := 0) (a := ()) (Goes.holding ?_) (Goes.pure _ _ _)
  refine Goes.bind (n := 3 * C.length) (m := 10 * C.length) (goes_pairs C) (Goes.holding ?_)
  refine Goes.bind (n := 10 * C.length) (m := 0) (a := PUnit.unit) (q' := dp) ?_ (Goes.pure _ _ _)
  have := goes_setVs (p := p) (w := w) (ann := ann) (dp := dp) (l := l) C (es := []) (ep := 0) (b := b) (t := tk) (tk := tk + 2 * C.length) (s := { s with heap := Hp h₀ (l ++ [dobj [] 0]), toks := tk + 2 * C.length }) hn rfl (fun _ h => nomatch h) hu (by simp; omega)
  rw [List.nil_append, Nat.zero_add, show tk + 2 * C.length + C.length = tk + 3 * C.length by omega] at this
  show Goes _ _ _ _ _ (forIn (pvs C s.toks) _ _) _ _ _ _ _ _
  rw [ht]
  exact this
end
noncomputable def UpE : Int → List DictEntry → Prop
 | _, [] => True
 | b, e :: r => b < e.hash ∧ (∃ k t, e.key = .int k t) ∧ UpE e.hash r
theorem upE_ents : ∀ {b : Int} {l : List (Int × Str)} (t : Nat), Up b l → UpE b (ents l t)
 | _, [], _, _ => trivial
 | b, (i, s) :: r, t, h => by
  show b < hashInt i ∧ (∃ k t', Value.int i t = .int k t') ∧ UpE (hashInt i) (ents r (t + 3))
  rw [hash_small h.2.1 h.2.2.1]
  exact ⟨h.1, ⟨_, _, rfl⟩, upE_ents (t + 3) h.2.2.2⟩
theorem upE_entsS : ∀ {b : Int} {l : List (Int × Str)} (t : Nat), Up b l → UpE b (entsS l t)
 | _, [], _, _ => trivial
 | b, (i, s) :: r, t, h => by
  show b < hashInt i ∧ (∃ k t', Value.int i t = .int k t') ∧ UpE (hashInt i) (entsS r (t + 2))
  rw [hash_small h.2.1 h.2.2.1]
  exact ⟨h.1, ⟨_, _, rfl⟩, upE_entsS (t + 2) h.2.2.2⟩
section
variable {p : Program} {w : World} {n₀ : Nat} {ann : Option Value} {dp : Pos}
theorem goes_loadHead {a : Addr} {o : Obj} {s : Shared} {q : Pos} (ho : s.heap.get? a = some o) : Goes table p w n₀ ann (typeOf (.ref a)) 1 s q o.cls s q := by
 unfold typeOf
 exact Goes.bind (n := 1) (m := 0) (goes_loadPart ho) (Goes.pure _ _ _)
theorem goes_mergeLoop {h₀ : Heap} {mid : List Obj} {all : List DictEntry} {ep2 : Nat} {s₀ : Shared} {q : Pos} (hn : n₀ ≤ h₀.objs.size) : ∀ (rest done : List DictEntry) {es : List DictEntry} {ep : Nat} {b : Int} {s : Shared},
  all = done ++ rest → s = { s₀ with heap := Hp h₀ (dobj es ep :: (mid ++ [dobj all ep2])) } → Bel b es → UpE b rest → es.length + rest.length < 100000 →
  Goes table p w n₀ ann (forIn (List.range' done.length rest.length) PUnit.unit fun i _ => do
    let es ← dictEntries (h₀.objs.size + (mid.length + 1))
    match es[i]? with
     | some e => do
      holding [e.key, e.val] (dictPut h₀.objs.size e.hash e.key e.val)
      let ep ← dictEpoch (h₀.objs.size + (mid.length + 1))
      if (ep != ep2) = true then do
       unsupported "dict.changed-during-merge"
       pure (ForInStep.yield PUnit.unit)
      else pure (ForInStep.yield PUnit.unit)
     | x => do
      unsupported "dict.changed-during-merge"
      pure (ForInStep.yield PUnit.unit)) (6 * rest.length) s q PUnit.unit { s₀ with heap := Hp h₀ (dobj (es ++ rest) (ep + rest.length) :: (mid ++ [dobj all ep2])) } q
 | [], done, es, ep, b, s, ha, hs, hb, hu, hz => by
  have e : ({ s₀ with heap := Hp h₀ (dobj (es ++ []) (ep + 0) :: (mid ++ [dobj all ep2])) } : Shared) = s := by rw [hs]; simp
  show Goes _ _ _ _ _ _ _ _ _ _ { s₀ with heap := Hp h₀ (dobj (es ++ []) (ep + 0) :: (mid ++ [dobj all ep2])) } _
  rw [e]; exact Goes.pure _ _ _
 | d :: r, done, es, ep, b, s, ha, hs, hb, hu, hz => by
  rw [List.length_cons, List.range'_succ, forIn_cons']
  obtain ⟨h1, ⟨k, t, hk⟩, h3⟩ := hu
  have hh : s.heap = Hp h₀ (dobj es ep :: (mid ++ [dobj all ep2])) := by rw [hs]
  have gA : ∀ es' ep', (Hp h₀ (dobj es' ep' :: (mid ++ [dobj all ep2]))).get? (h₀.objs.size + (mid.length + 1)) = some (dobj all ep2) := fun es' ep' => Hp.get _ _ _ _ (by simp) rfl
  have gD : s.heap.get? h₀.objs.size = some (dobj es ep) := by rw [hh]; exact Hp.get h₀ _ 0 _ rfl rfl
  have hi : all.toArray[done.length]? = some d := by rw [ha]; simp
  refine Goes.of_eq rfl (m := 6 + 6 * r.length) (by omega) ?_
  refine Goes.bind (n := 6) (a := ForInStep.yield PUnit.unit) (s' := { s₀ with heap := Hp h₀ (dobj (es ++ [d]) (ep + 1) :: (mid ++ [dobj all ep2])) }) (q' := q) ?_ ?_
  ·refine Goes.bind (n := 1) (m := 5) (goes_dictEntries (o := dobj all ep2) (by rw [hh]; exact gA _ _) rfl) ?_
   rw [hi]
   dsimp only
   have e1 : ({ s₀ with heap := Hp h₀ (dobj (es ++ [d]) (ep + 1) :: (mid ++ [dobj all ep2])) } : Shared) = { s with heap := s.heap.update h₀.objs.size (Obj.mapDictKeys (·.push ⟨d.hash, .int k t, d.val⟩)) } := by
    have : (⟨d.hash, .int k t, d.val⟩ : DictEntry) = d := by rw [← hk]
    rw [this, hh, ← Nat.add_zero h₀.objs.size, Hp.upd, hs]
    simp only [List.modify_zero_cons, dobj_push]
   refine Goes.bind (n := 4) (m := 1) (a := ()) (s' := { s₀ with heap := Hp h₀ (dobj (es ++ [d]) (ep + 1) :: (mid ++ [dobj all ep2])) }) (q' := q) (Goes.holding ?_) ?_
   ·rw [hk, e1]
    exact goes_dictPut (by omega) gD (by show es.toArray.size < 2 ^ 24; rw [List.size_toArray]; simp only [List.length_cons] at hz; omega) (hb.lone h1)
   ·refine Goes.bind (n := 1) (m := 0) (goes_dictEpoch (o := dobj all ep2) (gA _ _) rfl) ?_
    rw [if_neg (by simp)]
    exact Goes.pure _ _ _
  ·have := goes_mergeLoop (q := q) hn r (done ++ [d]) (es := es ++ [d]) (ep := ep + 1) (b := d.hash) (s := { s₀ with heap := Hp h₀ (dobj (es ++ [d]) (ep + 1) :: (mid ++ [dobj all ep2])) }) (by rw [ha]; simp) rfl
    ((hb.mono (Int.le_of_lt h1)).app fun e he => by rw [List.mem_singleton.mp he]; exact Int.le_refl _) h3 (by simp only [List.length_append, List.length_cons, List.length_nil] at hz ⊢; omega)
   rw [List.length_append, List.append_assoc, show ep + 1 + r.length = ep + (r.length + 1) by omega] at this
   exact this
theorem goes_merge {h₀ : Heap} {mid : List Obj} {es es2 : List DictEntry} {ep ep2 : Nat} {b : Int} {s : Shared} {q : Pos} (hn : n₀ ≤ h₀.objs.size) (hh : s.heap = Hp h₀ (dobj es ep :: (mid ++ [dobj es2 ep2]))) (hb : Bel b es) (hu : UpE b es2)
  (hne : es ≠ []) (hz : es.length + es2.length < 100000) (hsys : (h₀.objs.size + (mid.length + 1) == sysModules) = false) :
  Goes table p w n₀ ann (mergeMapping h₀.objs.size (.ref (h₀.objs.size + (mid.length + 1))) false) (5 + 6 * es2.length) s q () { s with heap := Hp h₀ (dobj (es ++ es2) (ep + es2.length) :: (mid ++ [dobj es2 ep2])) } q := by
 have gA : s.heap.get? (h₀.objs.size + (mid.length + 1)) = some (dobj es2 ep2) := by rw [hh]; exact Hp.get _ _ _ _ (by simp) rfl
 have gD : s.heap.get? h₀.objs.size = some (dobj es ep) := by rw [hh]; exact Hp.get h₀ _ 0 _ rfl rfl
 unfold mergeMapping
 refine Goes.of_eq rfl (m := 1 + (1 + (1 + (1 + (1 + 6 * es2.length))))) (by omega) ?_
 refine Goes.bind (n := 1) (a := true) (s' := s) (q' := q) ?_ ?_
 ·unfold isInstance
  refine Goes.bind (n := 1) (m := 0) (goes_loadHead gA) ?_
  exact goes_eqpure isSubtype_dict_dict
 ·dsimp only
  rw [if_pos rfl]
  refine Goes.bind (n := 1) (a := some (.builtin "dict.__iter__")) (s' := s) (q' := q) ?_ ?_
  ·unfold specialOf
   refine Goes.bind (n := 1) (m := 0) (goes_loadHead gA) ?_
   exact goes_eqpure PySem.F.slot_dict_iter.lookup
  ·have hbeq : (some (Value.builtin "dict.__iter__") == some (Value.builtin "dict.__iter__")) = true := by decide +kernel
   rw [hbeq]
   refine Goes.of_eq (pure_bind _ _) rfl ?_
   dsimp only
   rw [if_neg (by rw [hsys]; exact Bool.false_ne_true)]
   refine Goes.bind (n := 1) (goes_dictEntries gD rfl) ?_
   rw [if_neg (by cases es with | nil => exact absurd rfl hne | cons a l => simp)]
   refine Goes.bind (n := 1) (goes_dictEntries gA rfl) ?_
   refine Goes.bind (n := 1) (goes_dictEpoch gA rfl) ?_
   refine Goes.bind (n := 6 * es2.length) (m := 0) (a := PUnit.unit) (q' := q) ?_ (Goes.pure _ _ _)
   have := goes_mergeLoop (p := p) (w := w) (ann := ann) (mid := mid) (all := es2) (ep2 := ep2) (s₀ := s) (q := q) hn es2 [] (es := es) (ep := ep) (b := b) (s := s) rfl (by rw [← hh]) hb hu hz
   rw [List.size_toArray, List.range_eq_range']
   exact this
end
noncomputable def flushS (run : List (Sem Value × Sem Value)) (main : Option Addr) : Sem (Option Addr) :=
 match main with
 | none => do let x ← subDict run; pure (some x)
 | some d => do
  let sub ← holding [.ref d] (subDict run)
  (holding [.ref d, .ref sub] (mergeMapping d (.ref sub) false)).onRaise fun x => do
   let _ ← holding [.ref d, x] (runValue (.builtin "proto.let_go" {}))
   pure ()
  pure (some d)
section
variable {p : Program} {w : World} {n₀ : Nat} {ann : Option Value} {dp : Pos}
variable {B : (Option (Sem Value) × Sem Value) → (Option Addr × List (Sem Value × Sem Value)) → Sem (ForInStep (Option Addr × List (Sem Value × Sem Value)))}
theorem acc_full (h1 : ∀ main run k v, run.length ≠ 16 → B (some k, v) (main, run) = pure (.yield (main, run ++ [(k, v)])))
  (h2 : ∀ main run k v, run.length = 16 → B (some k, v) (main, run) = flushS (run ++ [(k, v)]) main >>= fun m => pure (.yield (m, []))) (main : Option Addr) (rest : List (Int × Str)) :
  ∀ (C R : List (Int × Str)), R.length + C.length = 17 → C ≠ [] → forIn ((C ++ rest).map (itm dp)) (main, R.map (pr dp)) B = flushS ((R ++ C).map (pr dp)) main >>= fun m => forIn (rest.map (itm dp)) (m, []) B
 | [], R, _, h => absurd rfl h
 | [c], R, hl, _ => by
  rw [List.cons_append, List.map_cons, forIn_cons']
  show (B (some (mkInt c.1), vtree dp c.2) (main, R.map (pr dp)) >>= _) = _
  have e2 : (R ++ [c]).map (pr dp) = R.map (pr dp) ++ [(mkInt c.1, vtree dp c.2)] := by rw [List.map_append]; rfl
  rw [h2 _ _ _ _ (by simp at hl ⊢; omega), bind_assoc, e2]
  congr 1
 | c :: c' :: C, R, hl, _ => by
  rw [List.cons_append, List.map_cons, forIn_cons']
  show (B (some (mkInt c.1), vtree dp c.2) (main, R.map (pr dp)) >>= _) = _
  rw [h1 _ _ _ _ (by simp at hl ⊢; omega), pure_bind]
  have := acc_full h1 h2 main rest (c' :: C) (R ++ [c]) (by simp at hl ⊢; omega) (by simp)
  have e2 : (R ++ [c]).map (pr dp) = R.map (pr dp) ++ [(mkInt c.1, vtree dp c.2)] := by rw [List.map_append]; rfl
  rw [e2, List.append_assoc] at this
  exact this
theorem acc_part (h1 : ∀ main run k v, run.length ≠ 16 → B (some k, v) (main, run) = pure (.yield (main, run ++ [(k, v)]))) (main : Option Addr) :
  ∀ (C R : List (Int × Str)), R.length + C.length < 17 → forIn (C.map (itm dp)) (main, R.map (pr dp)) B = pure (main, (R ++ C).map (pr dp))
 | [], R, _ => by rw [List.map_nil, List.append_nil]; rfl
 | c :: C, R, hl => by
  rw [List.map_cons, forIn_cons']
  show (B (some (mkInt c.1), vtree dp c.2) (main, R.map (pr dp)) >>= _) = _
  rw [h1 _ _ _ _ (by simp at hl ⊢; omega), pure_bind]
  have := acc_part h1 main C (R ++ [c]) (by simp at hl ⊢; omega)
  have e2 : (R ++ [c]).map (pr dp) = R.map (pr dp) ++ [(mkInt c.1, vtree dp c.2)] := by rw [List.map_append]; rfl
  rw [e2, List.append_assoc] at this
  exact this
noncomputable def subsOf : List (List (Int × Str)) → Nat → List Obj
 | [], _ => []
 | C :: r, t => dobj (ents C t) C.length :: subsOf r (t + 3 * C.length)
noncomputable def allOf : List (List (Int × Str)) → Nat → List DictEntry
 | [], _ => []
 | C :: r, t => ents C t ++ allOf r (t + 3 * C.length)
noncomputable def cLong : Nat := (2 + 13 * 17) + (5 + 6 * 17)
theorem goes_flushSome {h₀ : Heap} {mid : List Obj} {C : List (Int × Str)} {es : List DictEntry} {ep tk : Nat} {b : Int} {s : Shared} (hn : n₀ ≤ h₀.objs.size) (hs : s = { s with heap := Hp h₀ (dobj es ep :: mid), toks := tk }) (hb : Bel b es) (hu : Up b C)
  (hC : 15 < C.length) (hne : es ≠ []) (hz : es.length + C.length < 100000) (hsys : @LT.lt Nat _ sysModules h₀.objs.size) :
  Goes table p w n₀ ann (flushS (C.map (pr dp)) (some h₀.objs.size)) ((2 + 13 * C.length) + (5 + 6 * C.length)) s dp (some h₀.objs.size)
   {s with heap := Hp h₀ (dobj (es ++ ents C tk) (ep + C.length) :: (mid ++ [dobj (ents C tk) C.length])), toks := tk + 3 * C.length } dp := by
 unfold flushS
 refine Goes.bind (Goes.holding (goes_subLong (l := dobj es ep :: mid) hn hs hu hC (by omega))) ?_
 refine Goes.of_eq rfl (m := 5 + 6 * C.length + 0) rfl ?_
 refine Goes.bind (a := ()) (q' := dp) (Goes.onRaise (Goes.holding ?_)) (Goes.pure _ _ _)
 have := goes_merge (p := p) (w := w) (ann := ann) (q := dp) (mid := mid) (es := es) (es2 := ents C tk) (ep := ep) (ep2 := C.length) (b := b) (h₀ := h₀) (s := { s with heap := Hp h₀ (dobj es ep :: mid ++ [dobj (ents C tk) C.length]), toks := tk + 3 * C.length }) hn rfl hb (upE_ents tk hu) hne
  (by rw [ents_len]; exact hz) (beq_eq_false_iff_ne.mpr (by omega))
 rw [ents_len] at this
 exact this
theorem goes_flushShort {h₀ : Heap} {mid : List Obj} {C : List (Int × Str)} {es : List DictEntry} {ep tk : Nat} {b : Int} {s : Shared} (hn : n₀ ≤ h₀.objs.size) (hs : s = { s with heap := Hp h₀ (dobj es ep :: mid), toks := tk }) (hb : Bel b es) (hu : Up b C)
  (hC : C.length ≤ 15) (hne : es ≠ []) (hz : es.length + C.length < 100000) (hsys : @LT.lt Nat _ sysModules h₀.objs.size) :
  Goes table p w n₀ ann (flushS (C.map (pr dp)) (some h₀.objs.size)) ((1 + 13 * C.length) + (5 + 6 * C.length)) s dp (some h₀.objs.size)
   {s with heap := Hp h₀ (dobj (es ++ entsS C tk) (ep + C.length) :: (mid ++ [dobj (entsS C tk) C.length])), toks := tk + 3 * C.length } dp := by
 unfold flushS
 refine Goes.bind (Goes.holding (goes_subShort (l := dobj es ep :: mid) hn hs hu hC)) ?_
 refine Goes.of_eq rfl (m := 5 + 6 * C.length + 0) rfl ?_
 refine Goes.bind (a := ()) (q' := dp) (Goes.onRaise (Goes.holding ?_)) (Goes.pure _ _ _)
 have := goes_merge (p := p) (w := w) (ann := ann) (q := dp) (mid := mid) (es := es) (es2 := entsS C tk) (ep := ep) (ep2 := C.length) (b := b) (h₀ := h₀) (s := { s with heap := Hp h₀ (dobj es ep :: mid ++ [dobj (entsS C tk) C.length]), toks := tk + 3 * C.length }) hn rfl hb (upE_entsS tk hu) hne
  (by rw [entsS_len]; exact hz) (beq_eq_false_iff_ne.mpr (by omega))
 rw [entsS_len] at this
 exact this
theorem goes_rows (h1 : ∀ main run k v, run.length ≠ 16 → B (some k, v) (main, run) = pure (.yield (main, run ++ [(k, v)])))
  (h2 : ∀ main run k v, run.length = 16 → B (some k, v) (main, run) = flushS (run ++ [(k, v)]) main >>= fun m => pure (.yield (m, []))) {h₀ : Heap} (hn : n₀ ≤ h₀.objs.size) (hsys : @LT.lt Nat _ sysModules h₀.objs.size) (R : List (Int × Str)) (hR : R.length ≤ 15) (hR0 : R ≠ []) {G : (Option Addr × List (Sem Value × Sem Value)) → Sem (Option Addr)} (hG : ∀ main run, run ≠ [] → G (main, run) = flushS run main) :
  ∀ (Cs : List (List (Int × Str))) {mid : List Obj} {es : List DictEntry} {ep tk : Nat} {b : Int} {s : Shared}, (∀ C ∈ Cs, C.length = 17) → s = { s with heap := Hp h₀ (dobj es ep :: mid), toks := tk } → Bel b es → Up b (Cs.flatten ++ R) → es ≠ [] →
   es.length + Cs.flatten.length + R.length < 100000 →
   Goes table p w n₀ ann (forIn ((Cs.flatten ++ R).map (itm dp)) (some h₀.objs.size, []) B >>= G) (Cs.length * cLong + ((1 + 13 * R.length) + (5 + 6 * R.length))) s dp (some h₀.objs.size)
    {s with heap := Hp h₀ (dobj (es ++ allOf Cs tk ++ entsS R (tk + 3 * Cs.flatten.length)) (ep + Cs.flatten.length + R.length) :: (mid ++ subsOf Cs tk ++ [dobj (entsS R (tk + 3 * Cs.flatten.length)) R.length])), toks := tk + 3 * Cs.flatten.length + 3 * R.length } dp
 | [], mid, es, ep, tk, b, s, hCs, hs, hb, hu, hne, hz => by
  have e := acc_part (dp := dp) h1 (some h₀.objs.size) R [] (by simp; omega)
  rw [List.map_nil] at e
  show Goes _ _ _ _ _ (forIn (R.map (itm dp)) (some h₀.objs.size, []) B >>= _) _ _ _ _ _ _
  rw [e, pure_bind, List.nil_append, hG _ _ (by cases R with | nil => exact absurd rfl hR0 | cons a l => intro h; cases h)]
  have := goes_flushShort (p := p) (w := w) (ann := ann) (dp := dp) (C := R) hn hs hb hu hR hne (by simp at hz; omega) hsys
  simp only [List.flatten_nil, List.length_nil, Nat.mul_zero, Nat.add_zero, Nat.zero_mul, Nat.zero_add, allOf, subsOf, List.append_nil]
  exact this
 | C :: Cs, mid, es, ep, tk, b, s, hCs, hs, hb, hu, hne, hz => by
  have hC := hCs C (.head _)
  have e := acc_full (dp := dp) h1 h2 (some h₀.objs.size) (Cs.flatten ++ R) C [] (by simp; omega) (by intro h; rw [h] at hC; cases hC)
  rw [List.map_nil, List.nil_append] at e
  rw [List.flatten_cons, List.append_assoc, e, bind_assoc]
  rw [List.flatten_cons, List.append_assoc] at hu
  obtain ⟨u1, u2⟩ := hu.split
  have hz' : es.length + C.length < 100000 := by simp only [List.flatten_cons, List.length_append] at hz; omega
  have f := goes_flushSome (p := p) (w := w) (ann := ann) (dp := dp) (C := C) hn hs hb u1 (by omega) hne hz' hsys
  have g := goes_rows h1 h2 hn hsys R hR hR0 hG Cs (mid := mid ++ [dobj (ents C tk) C.length]) (es := es ++ ents C tk) (ep := ep + C.length) (tk := tk + 3 * C.length) (b := lastK b C)
   (s := { s with heap := Hp h₀ (dobj (es ++ ents C tk) (ep + C.length) :: (mid ++ [dobj (ents C tk) C.length])), toks := tk + 3 * C.length }) (fun C' h => hCs C' (.tail _ h)) rfl ((hb.mono u1.le_last).app (ents_bel tk u1)) u2
   (by intro h; exact hne (List.append_eq_nil_iff.mp h).1) (by simp only [List.flatten_cons, List.length_append, ents_len] at hz ⊢; omega)
  have k := f.bind (f := fun m => forIn ((Cs.flatten ++ R).map (itm dp)) (m, []) B >>= G) g
  have en : (C :: Cs).length * cLong + ((1 + 13 * R.length) + (5 + 6 * R.length)) = ((2 + 13 * C.length) + (5 + 6 * C.length)) + (Cs.length * cLong + ((1 + 13 * R.length) + (5 + 6 * R.length))) := by
   rw [hC, List.length_cons, Nat.succ_mul]; unfold cLong; omega
  have es1 : ({ s with heap := Hp h₀ (dobj (es ++ allOf (C :: Cs) tk ++ entsS R (tk + 3 * (C ++ Cs.flatten).length)) (ep + (C ++ Cs.flatten).length + R.length) :: (mid ++ subsOf (C :: Cs) tk ++ [dobj (entsS R (tk + 3 * (C ++ Cs.flatten).length)) R.length])), toks := tk + 3 * (C ++ Cs.flatten).length + 3 * R.length } : Shared) =
   {s with heap := Hp h₀ (dobj (es ++ ents C tk ++ allOf Cs (tk + 3 * C.length) ++ entsS R (tk + 3 * C.length + 3 * Cs.flatten.length)) (ep + C.length + Cs.flatten.length + R.length) :: (mid ++ [dobj (ents C tk) C.length] ++ subsOf Cs (tk + 3 * C.length) ++ [dobj (entsS R (tk + 3 * C.length + 3 * Cs.flatten.length)) R.length])), toks := tk + 3 * C.length + 3 * Cs.flatten.length + 3 * R.length } := by
   rw [List.length_append, show tk + 3 * (C.length + Cs.flatten.length) = tk + 3 * C.length + 3 * Cs.flatten.length by omega, show ep + (C.length + Cs.flatten.length) = ep + C.length + Cs.flatten.length by omega]
   simp only [allOf, subsOf, List.append_assoc, List.cons_append, List.nil_append]
  rw [en, es1]
  exact k
end
noncomputable def kI : Option Expr → Option Int
 | some (.Constant (.int i) _ _) => some i
 | _ => none
noncomputable def vS : Expr → Option Str
 | .Constant (.str s) _ _ => some s
 | _ => none
noncomputable def cPairs : List (Option Expr) → List Expr → Option (List (Int × Str))
 | [], [] => some []
 | k :: ks, v :: vs => (kI k).bind fun i => (vS v).bind fun s => (cPairs ks vs).map ((i, s) :: ·)
 | [], _ :: _ => none
 | _ :: _, [] => none
theorem kI_some {k : Option Expr} {i : Int} (h : kI k = some i) : ∃ a b, k = some (.Constant (.int i) a b) := by
 rcases k with _ | e
 ·cases h
 ·cases e <;> first | (cases h; done) | (rename_i c a b; cases c <;> first | (cases h; done) | (cases h; exact ⟨_, _, rfl⟩))
theorem vS_some {e : Expr} {s : Str} (h : vS e = some s) : ∃ a b, e = .Constant (.str s) a b := by
 cases e <;> first | (cases h; done) | (rename_i c a b; cases c <;> first | (cases h; done) | (cases h; exact ⟨_, _, rfl⟩))
theorem items_of (dp : Pos) (env : Env) : ∀ (ks : List (Option Expr)) (vs : List Expr) (L : List (Int × Str)), cPairs ks vs = some L →
  (evalEachOpt ks env).zip ((evalEach vs env).map fun v => do let x ← v; standAt dp; pure x) = L.map (itm dp) := by
 intro ks
 induction ks with
 | nil =>
  intro vs L h
  cases vs with
  | nil => cases (show some [] = some L from h); rfl
  | cons v vs => cases (show none = some L from h)
 | cons k ks ih =>
  intro vs L h
  cases vs with
  | nil => cases (show none = some L from h)
  | cons v vs =>
   obtain ⟨i, h1, h⟩ := Option.bind_eq_some_iff.mp (show ((kI k).bind fun i => (vS v).bind fun s => (cPairs ks vs).map ((i, s) :: ·)) = some L from h)
   obtain ⟨s, h2, h⟩ := Option.bind_eq_some_iff.mp h
   obtain ⟨L', e1, e2⟩ := Option.map_eq_some_iff.mp h
   obtain ⟨_, _, rfl⟩ := kI_some h1
   obtain ⟨_, _, rfl⟩ := vS_some h2
   subst e2
   have := ih vs L' e1
   show (_ :: evalEachOpt ks env).zip (_ :: (evalEach vs env).map _) = _
   rw [List.zip_cons_cons, this]
   rfl
noncomputable def rows17 {α : Type} : Nat → List α → List (List α)
 | 0, _ => []
 | n + 1, l => l.take 17 :: rows17 n (l.drop 17)
theorem rows17_len {α : Type} : ∀ (n : Nat) (l : List α), 17 * n ≤ l.length → ∀ C ∈ rows17 n l, C.length = 17
 | 0, _, _, _, h => nomatch h
 | n + 1, l, hl, C, h => by
  rcases List.mem_cons.mp h with rfl | h
  ·rw [List.length_take]; omega
  ·exact rows17_len n (l.drop 17) (by rw [List.length_drop]; omega) C h
theorem rows17_flat {α : Type} : ∀ (n : Nat) (l : List α), (rows17 n l).flatten ++ l.drop (17 * n) = l
 | 0, l => rfl
 | n + 1, l => by
  have := rows17_flat n (l.drop 17)
  rw [List.drop_drop] at this
  show (l.take 17 :: rows17 n (l.drop 17)).flatten ++ _ = l
  rw [List.flatten_cons, List.append_assoc, show 17 * (n + 1) = 17 + 17 * n by omega, this, List.take_append_drop]
theorem rows17_num {α : Type} : ∀ (n : Nat) (l : List α), (rows17 n l).length = n
 | 0, _ => rfl
 | n + 1, l => by show (_ :: rows17 n _).length = _; rw [List.length_cons, rows17_num]
noncomputable def dictObjs (n : Nat) (L : List (Int × Str)) (t : Nat) : List Obj :=
 let C := L.take 17
 let Cs := rows17 n (L.drop 17)
 let R := (L.drop 17).drop (17 * n)
 dobj (ents C t ++ allOf Cs (t + 51) ++ entsS R (t + 51 + 51 * n)) L.length :: (subsOf Cs (t + 51) ++ [dobj (entsS R (t + 51 + 51 * n)) R.length])
noncomputable def dictSteps (n : Nat) (r : Nat) : Nat := (2 + 13 * 17) + (n * cLong + ((1 + 13 * r) + (5 + 6 * r)))
section
variable {p : Program} {w : World} {n₀ : Nat} {ann : Option Value} {dp : Pos}
theorem goes_display {n : Nat} {L : List (Int × Str)} {s : Shared} (hn : n₀ ≤ s.heap.objs.size) (hsys : @LT.lt Nat _ sysModules s.heap.objs.size) (hu : Up (-1) L) (hlo : 17 + 17 * n < L.length) (hhi : L.length ≤ 17 + 17 * n + 15) (hz : L.length < 90000) :
  Goes table p w n₀ ann (dictDisplay (L.map (itm dp))) (dictSteps n (L.length - (17 + 17 * n))) s dp (.ref s.heap.objs.size) { s with heap := Hp s.heap (dictObjs n L s.toks), toks := s.toks + 3 * L.length } dp := by
 unfold dictDisplay
 dsimp only
 have hC : (L.take 17).length = 17 := by rw [List.length_take]; omega
 have hL : L = L.take 17 ++ ((rows17 n (L.drop 17)).flatten ++ (L.drop 17).drop (17 * n)) := by rw [rows17_flat, List.take_append_drop]
 have hfl : (rows17 n (L.drop 17)).flatten.length = 17 * n := by
  have e := congrArg List.length (rows17_flat n (L.drop 17))
  rw [List.length_append, List.length_drop, List.length_drop] at e
  omega
 have hR : ((L.drop 17).drop (17 * n)).length = L.length - (17 + 17 * n) := by rw [List.length_drop, List.length_drop]; omega
 have hu' := hu
 rw [hL] at hu'
 obtain ⟨u1, u2⟩ := hu'.split
 have hR0 : (L.drop 17).drop (17 * n) ≠ [] := by intro h; rw [h] at hR; simp at hR; omega
 rw [← bind_assoc]
 refine Goes.bind (m := 0) (a := some s.heap.objs.size) (s' := { s with heap := Hp s.heap (dictObjs n L s.toks), toks := s.toks + 3 * L.length }) (q' := dp) ?_ (Goes.pure _ _ _)
 have hLm : L.map (itm dp) = (L.take 17 ++ ((rows17 n (L.drop 17)).flatten ++ (L.drop 17).drop (17 * n))).map (itm dp) := congrArg (List.map (itm dp)) hL
 rw [hLm]
 have hf : ∀ {B}, _ := fun {B} h1 h2 => acc_full (dp := dp) (B := B) h1 h2 none ((rows17 n (L.drop 17)).flatten ++ (L.drop 17).drop (17 * n)) (L.take 17) [] (by simp [hC]) (by intro h; rw [h] at hC; cases hC)
 rw [List.map_nil] at hf
 rw [hf ?h1 ?h2]
 case h1 =>
  intro main run k v h
  show (if ((run ++ [(k, v)]).length == 17) = true then _ else _) = _
  rw [if_neg (by simp; omega)]
 case h2 =>
  intro main run k v h
  show (if ((run ++ [(k, v)]).length == 17) = true then _ else _) = _
  rw [if_pos (by simp [h]), if_neg (by simp)]
  cases main <;> rfl
 rw [bind_assoc, List.nil_append]
 have hs : s = { s with heap := Hp s.heap [], toks := s.toks } := by rw [Hp.nil]
 have f := goes_subLong (p := p) (w := w) (ann := ann) (dp := dp) (n₀ := n₀) (h₀ := s.heap) (l := []) (C := L.take 17) (tk := s.toks) hn hs u1 (by omega) (by omega)
 rw [List.length_nil, Nat.add_zero, List.nil_append, hC] at f
 refine Goes.of_eq rfl (m := (2 + 13 * 17) + (n * cLong + ((1 + 13 * (L.length - (17 + 17 * n))) + (5 + 6 * (L.length - (17 + 17 * n)))))) rfl ?_
 refine Goes.bind (a := some s.heap.objs.size) (q' := dp) (Goes.of_eq (y := subDict ((L.take 17).map (pr dp)) >>= fun x => pure (some x)) rfl (m := 2 + 13 * 17 + 0) rfl (Goes.bind f (Goes.pure _ _ _))) ?_
 have g : ∀ {B} {G}, _ := fun {B} {G} h1 h2 hG => goes_rows (p := p) (w := w) (ann := ann) (dp := dp) (n₀ := n₀) (B := B) (G := G) h1 h2 (h₀ := s.heap) hn hsys ((L.drop 17).drop (17 * n)) (by rw [hR]; omega) hR0 hG (rows17 n (L.drop 17)) (mid := []) (es := ents (L.take 17) s.toks) (ep := 17) (tk := s.toks + 51)
  (b := lastK (-1) (L.take 17)) (s := { s with heap := Hp s.heap [dobj (ents (L.take 17) s.toks) 17], toks := s.toks + 3 * 17 }) (rows17_len n (L.drop 17) (by rw [List.length_drop]; omega)) rfl (ents_bel s.toks u1) u2
  (by intro h; have := congrArg List.length h; rw [ents_len, hC] at this; cases this) (by rw [ents_len, hC, hfl, hR]; omega)
 rw [rows17_num, hfl, hR] at g
 have e1 : 17 + 17 * n + (L.length - (17 + 17 * n)) = L.length := by omega
 have e2 : s.toks + 51 + 3 * (17 * n) = s.toks + 51 + 51 * n := by omega
 have e3 : s.toks + 51 + 51 * n + 3 * (L.length - (17 + 17 * n)) = s.toks + 3 * L.length := by omega
 rw [e2, e1, e3] at g
 have e4 : dictObjs n L s.toks = dobj (ents (L.take 17) s.toks ++ allOf (rows17 n (L.drop 17)) (s.toks + 51) ++ entsS ((L.drop 17).drop (17 * n)) (s.toks + 51 + 51 * n)) L.length ::
   ([] ++ subsOf (rows17 n (L.drop 17)) (s.toks + 51) ++ [dobj (entsS ((L.drop 17).drop (17 * n)) (s.toks + 51 + 51 * n)) (L.length - (17 + 17 * n))]) := by
  unfold dictObjs; rw [← hR]; rfl
 rw [e4]
 refine g ?_ ?_ ?_
 ·intro main run k v h
  show (if ((run ++ [(k, v)]).length == 17) = true then _ else _) = _
  rw [if_neg (by simp; omega)]
 ·intro main run k v h
  show (if ((run ++ [(k, v)]).length == 17) = true then _ else _) = _
  rw [if_pos (by simp [h]), if_neg (by simp)]
  cases main <;> rfl
 ·intro main run h
  show (if run.isEmpty = true then _ else _) = _
  rw [if_neg (by cases run with | nil => exact absurd rfl h | cons a l => simp)]
  cases main <;> rfl
end
noncomputable def tailD (x : Str) (pos' : Pos) (env : Env) (v : Value) : Sem Flow := standAt pos' >>= fun _ => bindName env x v >>= fun _ => pure .next
theorem exec_dict (x : Str) (pos' : Pos) (ks : List (Option Expr)) (vs : List Expr) (dp pos : Pos) (env : Env) :
  execs [.Assign [.Name x pos'] (.Dict ks vs dp) pos] env = (standAt pos >>= fun _ => standAt dp >>= fun _ => dictDisplay ((evalEachOpt ks env).zip ((evalEach vs env).map fun v => do let x ← v; standAt dp; pure x))) >>= tailD x pos' env := by
 have hs : swapsWith (.Dict ks vs dp) (some (.Name x pos')) pos.line env = pure false := rfl
 have e := exec_Assign_Name env x pos' (.Dict ks vs dp) pos hs
 rw [execs_cons]
 refine (congrArg (fun t : Sem Flow => t >>= fun f => (match f with | Flow.next => execs [] env | f => pure f : Sem Flow)) e).trans ?_
 rw [arm_eval_Dict]
 simp only [bind_assoc, tailD]
 rfl
noncomputable def dKs : Stmt → List (Option Expr)
 | .Assign _ (.Dict ks _ _) _ => ks
 | _ => []
noncomputable def dVs : Stmt → List Expr
 | .Assign _ (.Dict _ vs _) _ => vs
 | _ => []
section
variable {p : Program} {w : World} {n₀ : Nat} {ann : Option Value}
theorem seg_dict {x : Str} {pos' : Pos} {ks : List (Option Expr)} {vs : List Expr} {dp pos : Pos} {env : Env} {c : Code} {q : Pos} {fr : Frame} {n : Nat} {L : List (Int × Str)} {s : Shared} {N : Nat} {r : Flow × Shared × Code × Pos}
  (hL : cPairs ks vs = some L) (hn : n₀ ≤ s.heap.objs.size) (hsys : @LT.lt Nat _ sysModules s.heap.objs.size) (hu : upB (-1) L = true) (hlo : 17 + 17 * n < L.length) (hhi : L.length ≤ 17 + 17 * n + 15) (hz : L.length < 90000)
  (h : segRun table p w n₀ ann 1 N { s with heap := Hp s.heap (dictObjs n L s.toks), toks := s.toks + 3 * L.length } ⟨(tailD x pos' env (.ref s.heap.objs.size)).wrap doneF deadEnd id id, c, dp, [fr]⟩ = some r) :
  segRun table p w n₀ ann 1 ((1 + (1 + dictSteps n (L.length - (17 + 17 * n)))) + N) s (piecesOf [.Assign [.Name x pos'] (.Dict ks vs dp) pos] env c q [fr]) = some r := by
 have g : Goes table p w n₀ ann (standAt pos >>= fun _ => standAt dp >>= fun _ => dictDisplay ((evalEachOpt ks env).zip ((evalEach vs env).map fun v => do let x ← v; standAt dp; pure x))) (1 + (1 + dictSteps n (L.length - (17 + 17 * n)))) s q (.ref s.heap.objs.size)
   {s with heap := Hp s.heap (dictObjs n L s.toks), toks := s.toks + 3 * L.length } dp := by
  rw [items_of dp env ks vs L hL]
  exact Goes.bind (Goes.at' (n := 0) (Goes.pure _ _ _)) (Goes.bind (Goes.at' (n := 0) (Goes.pure _ _ _)) (goes_display hn hsys (up_of hu) hlo hhi hz))
 have k := g (fun v => (tailD x pos' env v).wrap doneF deadEnd id id) deadEnd id id c [fr] (Nat.le_refl 1)
 have e : (execs [.Assign [.Name x pos'] (.Dict ks vs dp) pos] env).wrap doneF deadEnd id id =
   (standAt pos >>= fun _ => standAt dp >>= fun _ => dictDisplay ((evalEachOpt ks env).zip ((evalEach vs env).map fun v => do let x ← v; standAt dp; pure x))).wrap (fun v => (tailD x pos' env v).wrap doneF deadEnd id id) deadEnd id id := by
  rw [exec_dict]
  generalize (standAt pos >>= fun _ => standAt dp >>= fun _ => dictDisplay ((evalEachOpt ks env).zip ((evalEach vs env).map fun v => do let x ← v; standAt dp; pure x))) = X
  show (Sem.bind X (tailD x pos' env)).wrap _ _ _ _ = _
  rw [Sem.bind_eq_wrap, Sem.wrap_wrap]; rfl
 rw [← e] at k
 exact seg_go k h
end
open PySem.W.SL
noncomputable def ei (k t : Nat) (z : Str) : DictEntry := ⟨Int.ofNat k, .int (Int.ofNat k) t, .str z (Nat.add t 1)⟩
noncomputable def en (P : Params) (z : Str) (n : Nat) (v : Value) : DictEntry := ⟨PyData.keyHash P z, .str z n, v⟩
noncomputable def y0 : String := s14018661285674007319x4
noncomputable def y1 : String := s9222952809800978799x4
noncomputable def y2 : String := s2742458400755230247x6
noncomputable def y3 : String := s1438033511350832697x5
noncomputable def y4 : String := s3642769012341782148x3
noncomputable def y5 : String := s4290257624100764138x5
noncomputable def y6 : String := s2766695959194262286x5
noncomputable def y7 : String := s17162191345867700912x4
noncomputable def y8 : String := s10852414792293593619x7
noncomputable def y9 : String := s5991306692159431302x13
noncomputable def y10 : String := s7097527257260152453x26
noncomputable def y11 : String := s6658869562736209489x6
noncomputable def y12 : String := s5856160107412720595x4
noncomputable def y13 : String := s658472552662922059x5
noncomputable def y14 : String := s14755015743595814543x17
noncomputable def y15 : String := s6511155373996960695x17
noncomputable def y16 : String := s12411053484034534018x21
noncomputable def y17 : String := s10220274742760427390x26
noncomputable def y18 : String := s7174869446012820540x8
noncomputable def y19 : String := s12171344214640291687x10
noncomputable def y20 : String := s11030030927630378310x26
noncomputable def sn (b n : Nat) : Str := ⟨(Nat.rec (motive := fun _ => Nat → List Nat) (fun _ => []) (fun _ ih n => cond (Nat.beq n 0) [] (Nat.pred (n % b) :: ih (n / b))) 400 n).toArray⟩
noncomputable def z0 : Str := sn 128 0xc18336ec5bf060
noncomputable def z1 : Str := sn 128 0xe9bf575dbabb63
noncomputable def z2 : Str := sn 128 0x183064e197060
noncomputable def z3 : Str := sn 128 0x183066d18b664c5c7060
noncomputable def z4 : Str := sn 128 0x3060e79b2e2e1b7060
noncomputable def z5 : Str := sn 128 0xc183266e3d3060
noncomputable def z6 : Str := sn 128 0x183074e98b6e4c1976eaed8f060
noncomputable def z7 : Str := sn 128 0x3060ebcf871ddab060
noncomputable def z8 : Str := sn 128 0x1d31e2
noncomputable def z9 : Str := sn 128 0x1b76e2
noncomputable def z10 : Str := sn 128 0x1eb7e2
noncomputable def z11 : Str := sn 128 0x6ad593a62
noncomputable def z12 : Str := sn 128 0x1bf563
noncomputable def z13 : Str := sn 128 0x3aefd5c38ecc59b9e3
noncomputable def z14 : Str := sn 128 0xcdb71e2dbb7164
noncomputable def z15 : Str := sn 128 0x1cf4e4
noncomputable def z16 : Str := sn 128 0x19b6eae3bb864
noncomputable def z17 : Str := sn 128 0x1cfaf5c5b7365
noncomputable def z18 : Str := sn 128 0x1cf565
noncomputable def z19 : Str := sn 128 0x32f0dddf565
noncomputable def z20 : Str := sn 128 0xdb8bbe6
noncomputable def z21 : Str := sn 128 0xc99bce6
noncomputable def z22 : Str := sn 128 0x3ae2ddcf867
noncomputable def z23 : Str := sn 128 0x1cfaf5c5d7368
noncomputable def z24 : Str := sn 128 0x1d36e2c7c36e8
noncomputable def z25 : Str := sn 128 0x1cfaf5c5d3169
noncomputable def z26 : Str := sn 128 0xd3d3169
noncomputable def z27 : Str := sn 128 0x1e7369
noncomputable def z28 : Str := sn 128 0x32ea
noncomputable def z29 : Str := sn 128 0x75edc77ea
noncomputable def z30 : Str := sn 128 0x3364df8baf4dfaba6a
noncomputable def z31 : Str := sn 128 0x3a74c5b7263edd3a6a
noncomputable def z32 : Str := sn 128 0xe79baea
noncomputable def z33 : Str := sn 128 0x73cdd7562
noncomputable def z34 : Str := sn 128 0x1bf36d
noncomputable def z35 : Str := sn 128 0x3a6dc59386d
noncomputable def z36 : Str := sn 128 0x1e716e
noncomputable def z37 : Str := sn 128 0x1bf56e
noncomputable def z38 : Str := sn 128 0xebe736f
noncomputable def z39 : Str := sn 128 0x75f39b7e2
noncomputable def z40 : Str := sn 128 0x1d7270
noncomputable def z41 : Str := sn 128 0x1979f0
noncomputable def z42 : Str := sn 128 0x1e3871
noncomputable def z43 : Str := sn 128 0x75dfab9f1
noncomputable def z44 : Str := sn 128 0xe7c7373
noncomputable def z45 : Str := sn 128 0x65dfdb873
noncomputable def z46 : Str := sn 128 0x1cfaf5c5d7374
noncomputable def z47 : Str := sn 128 0x32e6ebcf874
noncomputable def z48 : Str := sn 128 0x1bbb74
noncomputable def z49 : Str := sn 128 0xe9cf177
noncomputable def z50 : Str := sn 128 0xcdbf84f
noncomputable def z51 : Str := sn 128 0xe9aba71d5b76c6
noncomputable def z52 : Str := sn 128 0x32e6ebbf36ecdb78ee95d784f
noncomputable def z53 : Str := sn 128 0x66e9b7147
noncomputable def z54 : Str := sn 128 0xcddb9d5
noncomputable def z55 : Str := sn 128 0xdbc3863
noncomputable def z56 : Str := sn 128 0x3c66d5dfd73e1bb36e
noncomputable def z57 : Str := sn 128 0x7ac5cf9e2cdd7d63
noncomputable def z58 : Str := sn 128 0x74cdd7d63
noncomputable def z59 : Str := sn 128 0x197869eb9b774e98b6e4
noncomputable def z60 : Str := sn 128 0x1e736de3bb864
noncomputable def z61 : Str := sn 128 0xeb93565
noncomputable def z62 : Str := sn 128 0x66eb8b9e6dddb7e6
noncomputable def z63 : Str := sn 128 0x39e6ebb7567
noncomputable def z64 : Str := sn 128 0x75c5c36e7
noncomputable def z65 : Str := sn 128 0x75cdd37e6f7c39e7
noncomputable def z66 : Str := sn 128 0xf5d79e6e3c39f1
noncomputable def z67 : Str := sn 128 0x1d77ea
noncomputable def z68 : Str := sn 128 0xebd356d
noncomputable def z69 : Str := sn 128 0x1c716e
noncomputable def z70 : Str := sn 128 0x3ae4cdaf1f0
noncomputable def z71 : Str := sn 128 0x66d1bf173
noncomputable def z72 : Str := sn 128 0xcb9ba73cddf373
noncomputable def z73 : Str := sn 128 0x1d7374
noncomputable def z74 : Str := sn 128 0x66c9ab6f4
noncomputable def z75 : Str := sn 128 0xcbc34f5cdbb26aeb8baf4
noncomputable def z76 : Str := sn 128 0x1cfaf4
noncomputable def z77 : Str := sn 128 0x73cdc7b74
noncomputable def z78 : Str := sn 128 0x66dbc7b75
noncomputable def z79 : Str := sn 128 0xcdc7d75
noncomputable def z80 : Str := sn 128 0x1c757b
noncomputable def z81 : Str := sn 128 0x60c1a3b63cd97060
noncomputable def z82 : Str := sn 128 0x6fe1abaf1cd93cc6cdd3143
noncomputable def z83 : Str := sn 128 0x38f6e1ce46fe1abaf1cd93cc6cdd3143
noncomputable def z84 : Str := sn 128 0x6fe1abaf1cd93cc6
noncomputable def z85 : Str := sn 128 0x75d5e6373e1d7173cdbf348
noncomputable def z86 : Str := sn 128 0x75e3db9f3cdd77cacbcf170c7eb34c
noncomputable def z87 : Str := sn 128 0x3aeaf31b766ebd3d54
noncomputable def z88 : Str := sn 128 0x1cf873e71b26aeb9b769ebab9c2
noncomputable def z89 : Str := sn 128 0x39f0e7ce36fe1abaf3cdd3a42
noncomputable def z90 : Str := sn 128 0x39f0e7ce366ebdb1eae7d7ac2
noncomputable def z91 : Str := sn 128 0x1cf873e71b9e6cf9fb43
noncomputable def z92 : Str := sn 128 0xe7c39f38d1e846
noncomputable def z93 : Str := sn 128 0x1cf873e71baf3e1c774a
noncomputable def z94 : Str := sn 128 0x1cf873e71b8f6d9c384d
noncomputable def z95 : Str := sn 128 0x1cf873e71bd73e1bb34e
noncomputable def z96 : Str := sn 128 0x73e1cf9c6cdbb14f
noncomputable def z97 : Str := sn 128 0x1cf873e71aa50
noncomputable def z98 : Str := sn 128 0x39f0e7ce366c9bf373cd9f353
noncomputable def z99 : Str := sn 128 0xe7c39f38d9b76aebbfb53
noncomputable def z100 : Str := sn 128 0x37f0d5d7173cdd6564dfeba42e3c3ad4
noncomputable def z101 : Str := sn 128 0x6fe1abae2e79bacae3c3ad4
noncomputable def z102 : Str := sn 128 0x1cf873e71bce2ebbfd54
noncomputable def z103 : Str := sn 128 0x1cf873e71b766ebd3d54
noncomputable def z104 : Str := sn 128 0x73e1cf9c6cdc7d55
noncomputable def z105 : Str := sn 128 0x39f0e7ce366edb7157
noncomputable def z106 : Str := sn 128 0x1a37eadfcf158
noncomputable def z107 : Str := sn 128 0x39f0e7ce375dfab851d1bf575c5c36c7
noncomputable def z108 : Str := sn 128 0x73e1cf9c6f1c36e7e79bbd0
noncomputable def z109 : Str := sn 128 0x73e1cf9c6dfc3574d5df545e1cf35b
noncomputable def z110 : Str := sn 128 0xd1bf56fe78ac74cdd7d43
noncomputable def z111 : Str := sn 128 0x346fd5bf9e2b1bf86aeb8b266e7c7345
noncomputable def z112 : Str := sn 128 0x1a37eadfcf158d1bf565e1937c6
noncomputable def z113 : Str := sn 128 0x68dfab7f3c563373edd7b47
noncomputable def z114 : Str := sn 128 0x68dfab7f3c563af3e1c774a
noncomputable def z115 : Str := sn 128 0x68dfab7f3c5637f0d5d7164cdcf8e68ba37eacbbf351
noncomputable def z116 : Str := sn 128 0x1a37eadfcf158cd939f6e1d3353
noncomputable def z117 : Str := sn 128 0x346fd5bf9e2b19b76aebbfb53
noncomputable def z118 : Str := sn 128 0x68dfab7f3c563ce2ebbfd54
noncomputable def z119 : Str := sn 128 0x346fd5bf9e2b19b2f0c9ab7d6
noncomputable def z120 : Str := sn 128 0x1a37eadfcf158e79ba56
noncomputable def z121 : Str := sn 128 0x1cf873e71a84ad1bf56cc9c36c3
noncomputable def z122 : Str := sn 128 0x73e1cf9c6e9d3364e1ce8e5dbab4c4
noncomputable def z123 : Str := sn 128 0x1cf873e71b7f0d5d7266dfbf844
noncomputable def z124 : Str := sn 128 0x1cf873e71ba75e9abcc6cdb7547
noncomputable def z125 : Str := sn 128 0x73e1cf9c6cbbfb708fd784fcdb7547
noncomputable def z126 : Str := sn 128 0xe7c39f38d97375e3db9f3cdd77ca
noncomputable def z127 : Str := sn 128 0x73e1cf9c6f5cf875c99b9ea8b0ba4a
noncomputable def z128 : Str := sn 128 0x39f0e7ce37ae7c3ae4cdcf54585d784f
noncomputable def z129 : Str := sn 128 0x1cf873e71b7f0d5d3a6addcf351
noncomputable def z130 : Str := sn 128 0x39f0e7ce371edb38709bd3a66c9c39d1
noncomputable def z131 : Str := sn 128 0xe7c39f38dd7b70cdbb555
noncomputable def z132 : Str := sn 128 0xe7c39f38dbf86aeb8baefcd977ca
noncomputable def z133 : Str := sn 128 0x73e1cf9c6ebdb8ef959bae6dbc7770c9be560
noncomputable def z134 : Str := sn 128 0x39f0e7ce379cd977ca
noncomputable def z135 : Str := sn 128 0xe7c39f38deb34c
noncomputable def z136 : Str := sn 128 0x1cf873e71b2efedc23f5e13f36ded9784e
noncomputable def z137 : Str := sn 128 0x1cf873e71b2e6ebbf36ecdb78ee95d784f
noncomputable def z138 : Str := sn 128 0x1cf873e71b7f0d5d717bd5b716fd51f7f0d3d7d51
noncomputable def z139 : Str := sn 128 0x39f0e7ce36fe1aba73ed93353
noncomputable def z140 : Str := sn 128 0x73e1cf9c6db8b2709b977f6e18f7d6
noncomputable def z141 : Str := sn 128 0xe7c39f38d9b2f0c9ab7d6
noncomputable def z142 : Str := sn 128 0x1cf873e71b371d5477e6d9c39c3
noncomputable def z143 : Str := sn 128 0x39f0e7ce365cdd79f0c70b7f0d5d7266dfbf844
noncomputable def z144 : Str := sn 128 0x39f0e7ce365cdd3b67cd4f7f0d5d7266dfbf844
noncomputable def z145 : Str := sn 128 0xe7c39f38dd7374cd4f7f0d5d7266dfbf844
noncomputable def z146 : Str := sn 128 0xe7c39f38d8f155
noncomputable def z147 : Str := sn 128 0x39f0e7ce366cbc32668b9b2f0c9ab7d6
noncomputable def z148 : Str := sn 128 0x39f0e7ce366cbc326f8d9b2f0c9ab7d6
noncomputable def z149 : Str := sn 128 0x73e1cf9c6cdd716de9bf173ab9b2f0c9ab7d6
noncomputable def z150 : Str := sn 128 0x38f6e1ce46fe1abaf1cd93cc6
noncomputable def z151 : Str := sn 128 0xe7c39f38dd77e6ddbf873d5df7c6
noncomputable def z152 : Str := sn 128 0x1cf873e71a84a
noncomputable def z153 : Str := sn 128 0xdf9b8f0
noncomputable def z154 : Str := sn 128 0xebabb72
noncomputable def z155 : Str := sn 128 0xebabce6
noncomputable def z156 : Str := sn 128 0x75d3a3573f5c7864
noncomputable def z157 : Str := sn 128 0x1d3aeacb9b9e4
noncomputable def z158 : Str := sn 128 0x19ba6fcd9356d
noncomputable def z159 : Str := sn 128 0xe3b7369
noncomputable def z160 : Str := sn 128 0xc1837eac5bb060
noncomputable def z161 : Str := sn 128 0xcdcfa60
noncomputable def z162 : Str := sn 128 0x3373e9817e5cd97170dabfaf3e1c776a
noncomputable def z163 : Str := sn 128 0x1cf375e7c38ee95bf575dbabb435f8f56debcf871ddab06fcdef873cf817f4e98b6e4
noncomputable def z164 : Str := sn 128 0x3af3e1c776a5f97369c9d7178
noncomputable def z165 : Str := sn 128 0x3266e35336ded9784e5f8f56debcf871ddab06fcdef873cf817f4e98b6e4
noncomputable def z166 : Str := sn 128 0xd393871ccbb2e6d9c38635fd336ded9786e5fd3d74
noncomputable def z167 : Str := sn 128 0x3373e9817e5d58b6aee79bae2dabfaf3e1c776a
noncomputable def z168 : Str := sn 128 0x1eb9e2e78f56d5f97369c9d7178
noncomputable def z169 : Str := sn 128 0x1d3ae4cdaf1f05deb9e2e78f56d5f97369c9d7178
noncomputable def z170 : Str := sn 128 0x66e7d302fe39b3655deb9e2e78f56d5f97369c9d7178
noncomputable def z171 : Str := sn 128 0x183074dfc3575c5d786fdf8b060
noncomputable def z172 : Str := sn 128 0xc183a6fd5d76eaed8f060
noncomputable def z173 : Str := sn 128 0xc18336dd59f060
noncomputable def z174 : Str := sn 128 0x7ae2bfaf6c8c376ac5b7230
noncomputable def z175 : Str := sn 128 0x3060cb9b4e4c593060
noncomputable def z176 : Str := sn 128 0x7f9b6f6cbc373d
noncomputable def z177 : Str := sn 128 0
noncomputable def z178 : Str := sn 128 0xcdd716de3bb375
noncomputable def z179 : Str := sn 128 0x19bdeae99b2f0c9d7368
noncomputable def z180 : Str := sn 128 0x65cdd3164e9ab06ad593a62
noncomputable def z181 : Str := sn 128 0x197374c593a6ac19b2f0c9ab7f6
noncomputable def z182 : Str := sn 128 0x73cde386de1d706ad593a62
noncomputable def z183 : Str := sn 128 0x1cf378e1b7875c19b2f0c9ab7f6
noncomputable def z184 : Str := sn 128 0x44952214e
noncomputable def z185 : Str := sn 128 0x8d6e5548d16844
noncomputable def z186 : Str := sn 128 0x55851a8c6a76614e
noncomputable def z187 : Str := sn 128 0x54a35a853916614e
noncomputable def z188 : Str := sn 128 0x2187090f4c78a6a1eb9b9e4cd510fac6859b162cd73874e992155914a1eba746ae7eb8f088859af66bd9a18d4ea21
noncomputable def z189 : Str := sn 128 0x3060cdb7b65e1bb060
noncomputable def z190 : Str := sn 128 0x63d5b7af3e1c776ac1bf37be1cf3e0
noncomputable def z191 : Str := sn 128 0x183070df9b7eadbd7a73d59f060
noncomputable def z192 : Str := sn 128 0x13e548954e860
noncomputable def z193 : Str := sn 128 0xdfa9775dbabb63
noncomputable def z194 : Str := sn 128 0x64cdc7a60cbbf567
noncomputable def z195 : Str := sn 128 0x66dbdb2f0dd83375c59b9e4
noncomputable def z196 : Str := sn 128 0x19b6f6cbc3760c99bce6
noncomputable def z197 : Str := sn 128 0xcd97864c1d7368
noncomputable def z198 : Str := sn 128 0x3364e7db874c1d7368
noncomputable def z199 : Str := sn 128 0x3368c5b3262e383a6a
noncomputable def z200 : Str := sn 128 0x19b6f6cbc3760cb8b86d
noncomputable def z201 : Str := sn 128 0x60c1d3375ed8f573ebd7160c9abae2ebd3060
noncomputable def z202 : Str := sn 128 0xc183ae4d597060
noncomputable def z203 : Str := sn 128 0x183067cdcf662cde3060
noncomputable def z204 : Str := sn 128 0x1cf375e7c38ee95bf575dbabb43
noncomputable def z205 : Str := sn 128 0xcdbb16f
noncomputable def z206 : Str := sn 128 0x39e6cb8b86d
noncomputable def z207 : Str := sn 128 0x37ead1ab9f0
noncomputable def z208 : Str := sn 128 0xcdd7175e9839e6cb8b86d
noncomputable def z209 : Str := sn 128 0x3a6fe1abae2c9c36e0d3939e2cdd3066dbdb2f0dd8fb74
noncomputable def z210 : Str := sn 128 0x74cdb7b65e1bb1f6e9832e6f7ab6e2d5d756fd5bfb60
noncomputable def z211 : Str := sn 128 0x73ebd7166dbab3e0eb9ba60
noncomputable def z212 : Str := sn 128 0x197369c98b260
noncomputable def z213 : Str := sn 128 0x68dfabdeadb8b575d5bf560
noncomputable def z214 : Str := sn 128 0xc183aeadfab060
noncomputable def z215 : Str := sn 128 0xc1839f1cdcf060
noncomputable def z216 : Str := sn 128 0x3060e59b060
noncomputable def z217 : Str := sn 128 0x32e6d393164
noncomputable def z218 : Str := sn 128 0x3aefcdcf171
noncomputable def z219 : Str := sn 128 0xdfc3575c59386dc1d3169
noncomputable def z220 : Str := sn 128 0xc1834f4c5a7060
noncomputable def z221 : Str := sn 128 0x3266e35336ded9784e
noncomputable def z222 : Str := sn 128 0x71cdcf8e8dfab9f5e8bda3269eb8e4
noncomputable def z223 : Str := sn 128 0x6ddb8bc60
noncomputable def z224 : Str := sn 128 0x74db8b564cdc7a75
noncomputable def z225 : Str := sn 128 0x19b9e0cb9bc70dbb7174d597066dd8b7e0
noncomputable def z226 : Str := sn 128 0xcdcf065cde386ddb8ba6acb83376db8bbe0
noncomputable def z227 : Str := sn 128 0xdd8b9e2e3d716ee7c33e0
noncomputable def z228 : Str := sn 128 0x1d39e6cb8b349
noncomputable def z229 : Str := sn 128 0x3ae6e981963
noncomputable def z230 : Str := sn 128 0xcb1e0cdb71e2eb837ea
noncomputable def z231 : Str := sn 128 108
noncomputable def z232 : Str := sn 128 0xbcfa05dbd76e5d608eedd76f16c17ef555d53750dc
noncomputable def z233 : Str := sn 128 0x17a3b8f3763b2f37573163e6edc
noncomputable def z234 : Str := sn 128 0xbd1dc79bb1d979baba131f375cb1f37573163e6edc
noncomputable def z235 : Str := sn 128 0x6ec5cf171
noncomputable def z236 : Str := sn 128 0x66edb7177
noncomputable def z237 : Str := sn 128 0x66ebc3b72
noncomputable def z238 : Str := sn 128 0x3a73cd97166d2bf3e6e7ab474f0bda3269eb8e4
noncomputable def z239 : Str := sn 128 0xc18336ec5bf6e2edcb060
noncomputable def z240 : Str := sn 128 0xcdc7d75c1a37eae7d7a60ebcf377dfc3260
noncomputable def z241 : Str := sn 128 0x18306fcdb7060
noncomputable def z242 : Str := sn 128 0x18306ecdd7575cdd3060
noncomputable def z243 : Str := sn 128 0x18306ecdd756dcd97060
noncomputable def z244 : Str := sn 128 0x18306ecdd7575cda3060
noncomputable def z245 : Str := sn 128 0xc183a6fd58baefe193060
noncomputable def z246 : Str := sn 128 0x1b76e2c1d7368
noncomputable def z247 : Str := sn 128 0x1d7368
noncomputable def z248 : Str := sn 128 0xe9eb36c
noncomputable def z249 : Str := sn 128 0x3a66edb7177
noncomputable def z250 : Str := sn 128 0x74dd9baea
noncomputable def z251 : Str := sn 128 0x183073ebd3060
noncomputable def z252 : Str := sn 128 0x60c1d3375f58f060
noncomputable def z253 : Str := sn 128 0x3aeded8b3e6cbd7374
noncomputable def z254 : Str := sn 128 0x39e6cb8b369c1972e2
noncomputable def z255 : Str := sn 128 0xcfb7374
noncomputable def z256 : Str := sn 128 0x1d39e6cb8b369
noncomputable def z257 : Str := sn 128 119
noncomputable def z258 : Str := sn 128 0xc183aeadfab0605fd39e6cb8b349
noncomputable def z259 : Str := sn 128 0x79cda3373
noncomputable def z260 : Str := sn 128 0xcdc7d75c1a37eae7d7a60ebcf377dfc32605fd39e6cb8b349
noncomputable def z261 : Str := sn 128 0x18306fcdb70605fd39e6cb8b349
noncomputable def z262 : Str := sn 128 0x1b7177
noncomputable def z263 : Str := sn 128 0x18306ecdd7575cdd30605fd39e6cb8b349
noncomputable def z264 : Str := sn 128 0x18306ecdd756dcd970605fd39e6cb8b349
noncomputable def z265 : Str := sn 128 0x18306ecdd7575cda30605fd39e6cb8b349
noncomputable def z266 : Str := sn 128 0xc183a6fd58baefe1930605fd39e6cb8b349
noncomputable def z267 : Str := sn 128 0x1b76e2c1d73685fd39e6cb8b349
noncomputable def z268 : Str := sn 128 0x1d76f6c59f365
noncomputable def z269 : Str := sn 128 0x1d73685fd39e6cb8b349
noncomputable def z270 : Str := sn 128 0xe9eb36c5fd39e6cb8b349
noncomputable def z271 : Str := sn 128 0x3a66edb71775fd39e6cb8b349
noncomputable def z272 : Str := sn 128 0x74dd9baea5fd39e6cb8b349
noncomputable def z273 : Str := sn 128 0xc1839f1cdcf0605fd39e6cb8b349
noncomputable def z274 : Str := sn 128 0x183073ebd30605fd39e6cb8b349
noncomputable def z275 : Str := sn 128 0x60c1d3375f58f0605fd39e6cb8b349
noncomputable def z276 : Str := sn 128 0x3aeded8b3e6cbd73745fd39e6cb8b349
noncomputable def z277 : Str := sn 128 0x66dd8b7e0
noncomputable def z278 : Str := sn 128 0x3376db8bbe0
noncomputable def z279 : Str := sn 128 0x1d3762e78b8e0
noncomputable def z280 : Str := sn 128 0x74ebcf171
noncomputable def z281 : Str := sn 128 0x39e6cb8b369c1972e25fd39e6cb8b349
noncomputable def z282 : Str := sn 128 0xe9cf365c59b4e0
noncomputable def z283 : Str := sn 128 0xcd97864
noncomputable def z284 : Str := sn 128 0x74dfc3575e39b279cd81a63
noncomputable def z285 : Str := sn 2097152 957
noncomputable def z286 : Str := sn 128 0x3a74
noncomputable def z287 : Str := sn 2097152 0x6100006a
noncomputable def z288 : Str := sn 2097152 0xde002bd
noncomputable def z289 : Str := sn 128 116
noncomputable def z290 : Str := sn 2097152 0x61a0006b
noncomputable def z291 : Str := sn 2097152 954
noncomputable def z292 : Str := sn 2097152 0x77400021
noncomputable def z293 : Str := sn 2097152 0xc0800612003ba
noncomputable def z294 : Str := sn 2097152 0xc0800612003c6
noncomputable def z295 : Str := sn 2097152 964
noncomputable def z296 : Str := sn 2097152 947
noncomputable def z297 : Str := sn 2097152 953
noncomputable def z298 : Str := sn 2097152 966
noncomputable def z299 : Str := sn 2097152 974
noncomputable def z300 : Str := sn 2097152 972
noncomputable def z301 : Str := sn 2097152 967
noncomputable def z302 : Str := sn 2097152 961
noncomputable def z303 : Str := sn 2097152 955
noncomputable def z304 : Str := sn 2097152 962
noncomputable def z305 : Str := sn 2097152 950
noncomputable def z306 : Str := sn 2097152 0xb0600566
noncomputable def z307 : Str := sn 2097152 0x66400069
noncomputable def z308 : Str := sn 2097152 0x61200075
noncomputable def z309 : Str := sn 2097152 0x61600078
noncomputable def z310 : Str := sn 2097152 0x6160007a
noncomputable def z311 : Str := sn 2097152 0x57e00062
noncomputable def z312 : Str := sn 2097152 7778
noncomputable def z313 : Str := sn 2097152 0x628003c6
noncomputable def z314 : Str := sn 2097152 0xc0400628003c6
noncomputable def z315 : Str := sn 2097152 0xc0800628003c6
noncomputable def z316 : Str := sn 2097152 0xd0c00628003c6
noncomputable def z317 : Str := sn 2097152 0x77401f01
noncomputable def z318 : Str := sn 2097152 0x77401f02
noncomputable def z319 : Str := sn 2097152 0x77401f03
noncomputable def z320 : Str := sn 2097152 0x77401f04
noncomputable def z321 : Str := sn 2097152 0x77401f05
noncomputable def z322 : Str := sn 2097152 0x77401f06
noncomputable def z323 : Str := sn 2097152 0x77401f07
noncomputable def z324 : Str := sn 2097152 0x77401f08
noncomputable def z325 : Str := sn 2097152 0x77401f21
noncomputable def z326 : Str := sn 2097152 0x77401f22
noncomputable def z327 : Str := sn 2097152 0x77401f23
noncomputable def z328 : Str := sn 2097152 0x77401f24
noncomputable def z329 : Str := sn 2097152 0x77401f25
noncomputable def z330 : Str := sn 2097152 0x77401f26
noncomputable def z331 : Str := sn 2097152 0x77401f27
noncomputable def z332 : Str := sn 2097152 0x77401f28
noncomputable def z333 : Str := sn 2097152 0x77401f61
noncomputable def z334 : Str := sn 2097152 0x77401f62
noncomputable def z335 : Str := sn 2097152 0x77401f63
noncomputable def z336 : Str := sn 2097152 0x77401f64
noncomputable def z337 : Str := sn 2097152 0x77401f65
noncomputable def z338 : Str := sn 2097152 0x77401f66
noncomputable def z339 : Str := sn 2097152 0x77401f67
noncomputable def z340 : Str := sn 2097152 0x77401f68
noncomputable def z341 : Str := sn 2097152 0x77401f71
noncomputable def z342 : Str := sn 2097152 0x774003b2
noncomputable def z343 : Str := sn 2097152 0x774003ad
noncomputable def z344 : Str := sn 2097152 0x686003b2
noncomputable def z345 : Str := sn 2097152 0xee800686003b2
noncomputable def z346 : Str := sn 2097152 0x77401f75
noncomputable def z347 : Str := sn 2097152 0x774003b8
noncomputable def z348 : Str := sn 2097152 0x774003af
noncomputable def z349 : Str := sn 2097152 0x686003b8
noncomputable def z350 : Str := sn 2097152 0xee800686003b8
noncomputable def z351 : Str := sn 2097152 0xc0400612003ba
noncomputable def z352 : Str := sn 2097152 0x686003ba
noncomputable def z353 : Str := sn 2097152 0xd0c00612003ba
noncomputable def z354 : Str := sn 2097152 0xc0400612003c6
noncomputable def z355 : Str := sn 2097152 0x628003c2
noncomputable def z356 : Str := sn 2097152 0x686003c6
noncomputable def z357 : Str := sn 2097152 0xd0c00612003c6
noncomputable def z358 : Str := sn 2097152 0x77401f7d
noncomputable def z359 : Str := sn 2097152 0x774003ca
noncomputable def z360 : Str := sn 2097152 0x774003cf
noncomputable def z361 : Str := sn 2097152 0x686003ca
noncomputable def z362 : Str := sn 2097152 0xee800686003ca
noncomputable def z363 : Str := sn 128 0x3a73
noncomputable def z364 : Str := sn 128 100
noncomputable def z365 : Str := sn 2097152 0xc8000b1
noncomputable def z366 : Str := sn 2097152 604
noncomputable def z367 : Str := sn 2097152 0xce000b1
noncomputable def z368 : Str := sn 128 105
noncomputable def z369 : Str := sn 128 106
noncomputable def z370 : Str := sn 128 109
noncomputable def z371 : Str := sn 128 111
noncomputable def z372 : Str := sn 128 0x386f
noncomputable def z373 : Str := sn 128 113
noncomputable def z374 : Str := sn 128 114
noncomputable def z375 : Str := sn 128 115
noncomputable def z376 : Str := sn 128 0x3774
noncomputable def z377 : Str := sn 128 0x1b7375
noncomputable def z378 : Str := sn 128 0x3775
noncomputable def z379 : Str := sn 128 123
noncomputable def z380 : Str := sn 128 99
noncomputable def z381 : Str := sn 128 102
noncomputable def z382 : Str := sn 128 103
noncomputable def z383 : Str := sn 128 110
noncomputable def z384 : Str := sn 2097152 948
noncomputable def z385 : Str := sn 128 101
noncomputable def z386 : Str := sn 128 0x18b8e9
noncomputable def z387 : Str := sn 128 0x3b62
noncomputable def z388 : Str := sn 128 0x3bf0
noncomputable def z389 : Str := sn 128 0x3171
noncomputable def z390 : Str := sn 128 0x316f
noncomputable def z391 : Str := sn 2097152 0xc4003bd
noncomputable def z392 : Str := sn 128 0x316e
noncomputable def z393 : Str := sn 128 0x316c
noncomputable def z394 : Str := sn 128 0x31ec
noncomputable def z395 : Str := sn 128 0x31ee
noncomputable def z396 : Str := sn 128 0x31e8
noncomputable def z397 : Str := sn 128 0x33f1
noncomputable def z398 : Str := sn 128 0x33ef
noncomputable def z399 : Str := sn 2097152 0xce003bd
noncomputable def z400 : Str := sn 128 0x3de9
noncomputable def z401 : Str := sn 128 0x1ef4ec
noncomputable def z402 : Str := sn 128 0x1ef4ee
noncomputable def z403 : Str := sn 128 0x1ef4e8
noncomputable def z404 : Str := sn 128 0x1ef4f5
noncomputable def z405 : Str := sn 128 0x18b8ec
noncomputable def z406 : Str := sn 128 0x18b8ee
noncomputable def z407 : Str := sn 128 0x18b8e8
noncomputable def z408 : Str := sn 128 0x3bf1
noncomputable def z409 : Str := sn 128 0x3bef
noncomputable def z410 : Str := sn 2097152 0xee003bd
noncomputable def z411 : Str := sn 128 0x3bee
noncomputable def z412 : Str := sn 128 0x3bec
noncomputable def z413 : Str := sn 128 0x3c71
noncomputable def z414 : Str := sn 128 0x3c6f
noncomputable def z415 : Str := sn 2097152 0xf0003bd
noncomputable def z416 : Str := sn 128 0x3c6e
noncomputable def z417 : Str := sn 128 0x3c6c
noncomputable def z418 : Str := sn 2097152 0x7940006c
noncomputable def z419 : Str := sn 2097152 0x7940006e
noncomputable def z420 : Str := sn 128 0x3963
noncomputable def z421 : Str := sn 2097152 0x340001b00442c00064
noncomputable def z422 : Str := sn 128 0xbf864
noncomputable def z423 : Str := sn 128 0x31e5
noncomputable def z424 : Str := sn 128 0x3d68
noncomputable def z425 : Str := sn 128 0x38e9
noncomputable def z426 : Str := sn 128 0x366c
noncomputable def z427 : Str := sn 128 0x376c
noncomputable def z428 : Str := sn 128 0x34f1
noncomputable def z429 : Str := sn 128 0x1bb8f1
noncomputable def z430 : Str := sn 128 0x39f1
noncomputable def z431 : Str := sn 128 0x3bf4
noncomputable def z432 : Str := sn 128 0x31f8
noncomputable def z433 : Str := sn 128 0x33e7
noncomputable def z434 : Str := sn 128 0x3567
noncomputable def z435 : Str := sn 128 0x36e7
noncomputable def z436 : Str := sn 128 0x1ab3e7
noncomputable def z437 : Str := sn 128 0x1b73e7
noncomputable def z438 : Str := sn 128 0x3af4
noncomputable def z439 : Str := sn 2097152 0xaee00575
noncomputable def z440 : Str := sn 2097152 0xacc00575
noncomputable def z441 : Str := sn 2097152 0xad800575
noncomputable def z442 : Str := sn 2097152 0xaee0057f
noncomputable def z443 : Str := sn 2097152 0xadc00575
noncomputable def z444 : Str := sn 128 98
noncomputable def z445 : Str := sn 128 104
noncomputable def z446 : Str := sn 128 107
noncomputable def z447 : Str := sn 128 112
noncomputable def z448 : Str := sn 128 117
noncomputable def z449 : Str := sn 128 118
noncomputable def z450 : Str := sn 128 120
noncomputable def z451 : Str := sn 128 121
noncomputable def z452 : Str := sn 128 122
noncomputable def z453 : Str := sn 2097152 946
noncomputable def z454 : Str := sn 2097152 949
noncomputable def z455 : Str := sn 2097152 951
noncomputable def z456 : Str := sn 2097152 952
noncomputable def z457 : Str := sn 2097152 956
noncomputable def z458 : Str := sn 2097152 958
noncomputable def z459 : Str := sn 2097152 959
noncomputable def z460 : Str := sn 2097152 960
noncomputable def z461 : Str := sn 2097152 965
noncomputable def z462 : Str := sn 2097152 968
noncomputable def z463 : Str := sn 2097152 969
noncomputable def z464 : Str := sn 2097152 970
noncomputable def z465 : Str := sn 128 0x3263818b966c7371c1e316d
noncomputable def z466 : Str := sn 128 0x698f066db8f175c1c716e
noncomputable def z467 : Str := sn 128 0xcdcf171cdcf8e0f18b6e0
noncomputable def z468 : Str := sn 128 0x6fd1aba60f18b6e0
noncomputable def z469 : Str := sn 128 0x65c59b9e0f18b6e0
noncomputable def z470 : Str := sn 128 0xcfc3075f39bae0f18b6e0
noncomputable def z471 : Str := sn 128 0xe99b262dbc7075e98b6e0f18b6e0
noncomputable def z472 : Str := sn 128 0x75e78b8e0f18b6e0
noncomputable def z473 : Str := sn 128 0x66dfab6e0f18b6e0
noncomputable def z474 : Str := sn 128 0x1e316d
noncomputable def z475 : Str := sn 128 0x39e6c7bbb6f
noncomputable def z476 : Str := sn 128 0xcbbf56c
noncomputable def z477 : Str := sn 128 0xebd3373
noncomputable def z478 : Str := sn 128 0x39e6ebd736d
noncomputable def z479 : Str := sn 128 0x66dbebaf4
noncomputable def z480 : Str := sn 128 0x66c98b6f1
noncomputable def z481 : Str := sn 128 0x37e6cdd37f6
noncomputable def z482 : Str := sn 128 0x74cbb7867
noncomputable def z483 : Str := sn 128 0xdfa3574
noncomputable def z484 : Str := sn 128 0x3af1d5cf274
noncomputable def z485 : Str := sn 128 0xe9e3873
noncomputable def z486 : Str := sn 128 0xcdef574
noncomputable def z487 : Str := sn 128 0xe9eb178
noncomputable def z488 : Str := sn 128 0x1bfc70
noncomputable def z489 : Str := sn 128 0x74ebe7375
noncomputable def z490 : Str := sn 128 0x3a6ec5cf171
noncomputable def z491 : Str := sn 128 0x1eb36c
noncomputable def z492 : Str := sn 128 0xebe7375
noncomputable def z493 : Str := sn 128 0x66db8f175
noncomputable def pick {α : Type} {p : α → Prop} (x : α) (_ : p x) : α := x
inductive IsS : Nat → Stmt → Prop
 | mk (i : Nat) : IsS i ((PySem.Challenge.pw_pe0280_01.main.body[i]?).getD (.Pass ⟨0, 0, 0, 0⟩))
inductive IsC : Scope → Prop
 | mk : IsC PySem.Challenge.pw_pe0280_01.main.scope
inductive IsG : Given → Prop
 | mk : IsG PySem.Challenge.pw_pe0280_01.given
inductive IsF : Str → Prop
 | mk : IsF PySem.Challenge.pw_pe0280_01.main.file
noncomputable def st_0 : Stmt := by
 first
  | exact pick (p := IsS 0) (.FunctionDef _ _ _ _ _ _ _ _ _ _) (IsS.mk 0)
  | exact pick (p := IsS 0) (.Assign _ _ _) (IsS.mk 0)
  | exact pick (p := IsS 0) (.Import _ _) (IsS.mk 0)
  | exact pick (p := IsS 0) (.ClassDef _ _ _ _ _ _ _ _ _ _ _) (IsS.mk 0)
noncomputable def st_1 : Stmt := by
 first
  | exact pick (p := IsS 1) (.FunctionDef _ _ _ _ _ _ _ _ _ _) (IsS.mk 1)
  | exact pick (p := IsS 1) (.Assign _ _ _) (IsS.mk 1)
  | exact pick (p := IsS 1) (.Import _ _) (IsS.mk 1)
  | exact pick (p := IsS 1) (.ClassDef _ _ _ _ _ _ _ _ _ _ _) (IsS.mk 1)
noncomputable def st_2 : Stmt := by
 first
  | exact pick (p := IsS 2) (.FunctionDef _ _ _ _ _ _ _ _ _ _) (IsS.mk 2)
  | exact pick (p := IsS 2) (.Assign _ _ _) (IsS.mk 2)
  | exact pick (p := IsS 2) (.Import _ _) (IsS.mk 2)
  | exact pick (p := IsS 2) (.ClassDef _ _ _ _ _ _ _ _ _ _ _) (IsS.mk 2)
noncomputable def st_3 : Stmt := by
 first
  | exact pick (p := IsS 3) (.FunctionDef _ _ _ _ _ _ _ _ _ _) (IsS.mk 3)
  | exact pick (p := IsS 3) (.Assign _ _ _) (IsS.mk 3)
  | exact pick (p := IsS 3) (.Import _ _) (IsS.mk 3)
  | exact pick (p := IsS 3) (.ClassDef _ _ _ _ _ _ _ _ _ _ _) (IsS.mk 3)
noncomputable def st_4 : Stmt := by
 first
  | exact pick (p := IsS 4) (.FunctionDef _ _ _ _ _ _ _ _ _ _) (IsS.mk 4)
  | exact pick (p := IsS 4) (.Assign _ _ _) (IsS.mk 4)
  | exact pick (p := IsS 4) (.Import _ _) (IsS.mk 4)
  | exact pick (p := IsS 4) (.ClassDef _ _ _ _ _ _ _ _ _ _ _) (IsS.mk 4)
noncomputable def st_5 : Stmt := by
 first
  | exact pick (p := IsS 5) (.FunctionDef _ _ _ _ _ _ _ _ _ _) (IsS.mk 5)
  | exact pick (p := IsS 5) (.Assign _ _ _) (IsS.mk 5)
  | exact pick (p := IsS 5) (.Import _ _) (IsS.mk 5)
  | exact pick (p := IsS 5) (.ClassDef _ _ _ _ _ _ _ _ _ _ _) (IsS.mk 5)
noncomputable def st_6 : Stmt := by
 first
  | exact pick (p := IsS 6) (.FunctionDef _ _ _ _ _ _ _ _ _ _) (IsS.mk 6)
  | exact pick (p := IsS 6) (.Assign _ _ _) (IsS.mk 6)
  | exact pick (p := IsS 6) (.Import _ _) (IsS.mk 6)
  | exact pick (p := IsS 6) (.ClassDef _ _ _ _ _ _ _ _ _ _ _) (IsS.mk 6)
noncomputable def st_7 : Stmt := by
 first
  | exact pick (p := IsS 7) (.FunctionDef _ _ _ _ _ _ _ _ _ _) (IsS.mk 7)
  | exact pick (p := IsS 7) (.Assign _ _ _) (IsS.mk 7)
  | exact pick (p := IsS 7) (.Import _ _) (IsS.mk 7)
  | exact pick (p := IsS 7) (.ClassDef _ _ _ _ _ _ _ _ _ _ _) (IsS.mk 7)
noncomputable def st_8 : Stmt := by
 first
  | exact pick (p := IsS 8) (.FunctionDef _ _ _ _ _ _ _ _ _ _) (IsS.mk 8)
  | exact pick (p := IsS 8) (.Assign _ _ _) (IsS.mk 8)
  | exact pick (p := IsS 8) (.Import _ _) (IsS.mk 8)
  | exact pick (p := IsS 8) (.ClassDef _ _ _ _ _ _ _ _ _ _ _) (IsS.mk 8)
noncomputable def st_9 : Stmt := by
 first
  | exact pick (p := IsS 9) (.FunctionDef _ _ _ _ _ _ _ _ _ _) (IsS.mk 9)
  | exact pick (p := IsS 9) (.Assign _ _ _) (IsS.mk 9)
  | exact pick (p := IsS 9) (.Import _ _) (IsS.mk 9)
  | exact pick (p := IsS 9) (.ClassDef _ _ _ _ _ _ _ _ _ _ _) (IsS.mk 9)
noncomputable def st_10 : Stmt := by
 first
  | exact pick (p := IsS 10) (.FunctionDef _ _ _ _ _ _ _ _ _ _) (IsS.mk 10)
  | exact pick (p := IsS 10) (.Assign _ _ _) (IsS.mk 10)
  | exact pick (p := IsS 10) (.Import _ _) (IsS.mk 10)
  | exact pick (p := IsS 10) (.ClassDef _ _ _ _ _ _ _ _ _ _ _) (IsS.mk 10)
noncomputable def st_12 : Stmt := by
 first
  | exact pick (p := IsS 12) (.FunctionDef _ _ _ _ _ _ _ _ _ _) (IsS.mk 12)
  | exact pick (p := IsS 12) (.Assign _ _ _) (IsS.mk 12)
  | exact pick (p := IsS 12) (.Import _ _) (IsS.mk 12)
  | exact pick (p := IsS 12) (.ClassDef _ _ _ _ _ _ _ _ _ _ _) (IsS.mk 12)
noncomputable def st_13 : Stmt := by
 first
  | exact pick (p := IsS 13) (.FunctionDef _ _ _ _ _ _ _ _ _ _) (IsS.mk 13)
  | exact pick (p := IsS 13) (.Assign _ _ _) (IsS.mk 13)
  | exact pick (p := IsS 13) (.Import _ _) (IsS.mk 13)
  | exact pick (p := IsS 13) (.ClassDef _ _ _ _ _ _ _ _ _ _ _) (IsS.mk 13)
noncomputable def st_14 : Stmt := by
 first
  | exact pick (p := IsS 14) (.FunctionDef _ _ _ _ _ _ _ _ _ _) (IsS.mk 14)
  | exact pick (p := IsS 14) (.Assign _ _ _) (IsS.mk 14)
  | exact pick (p := IsS 14) (.Import _ _) (IsS.mk 14)
  | exact pick (p := IsS 14) (.ClassDef _ _ _ _ _ _ _ _ _ _ _) (IsS.mk 14)
noncomputable def st_15 : Stmt := by
 first
  | exact pick (p := IsS 15) (.FunctionDef _ _ _ _ _ _ _ _ _ _) (IsS.mk 15)
  | exact pick (p := IsS 15) (.Assign _ _ _) (IsS.mk 15)
  | exact pick (p := IsS 15) (.Import _ _) (IsS.mk 15)
  | exact pick (p := IsS 15) (.ClassDef _ _ _ _ _ _ _ _ _ _ _) (IsS.mk 15)
noncomputable def st_16 : Stmt := by
 first
  | exact pick (p := IsS 16) (.FunctionDef _ _ _ _ _ _ _ _ _ _) (IsS.mk 16)
  | exact pick (p := IsS 16) (.Assign _ _ _) (IsS.mk 16)
  | exact pick (p := IsS 16) (.Import _ _) (IsS.mk 16)
  | exact pick (p := IsS 16) (.ClassDef _ _ _ _ _ _ _ _ _ _ _) (IsS.mk 16)
noncomputable def st_17 : Stmt := by
 first
  | exact pick (p := IsS 17) (.FunctionDef _ _ _ _ _ _ _ _ _ _) (IsS.mk 17)
  | exact pick (p := IsS 17) (.Assign _ _ _) (IsS.mk 17)
  | exact pick (p := IsS 17) (.Import _ _) (IsS.mk 17)
  | exact pick (p := IsS 17) (.ClassDef _ _ _ _ _ _ _ _ _ _ _) (IsS.mk 17)
noncomputable def st_18 : Stmt := by
 first
  | exact pick (p := IsS 18) (.FunctionDef _ _ _ _ _ _ _ _ _ _) (IsS.mk 18)
  | exact pick (p := IsS 18) (.Assign _ _ _) (IsS.mk 18)
  | exact pick (p := IsS 18) (.Import _ _) (IsS.mk 18)
  | exact pick (p := IsS 18) (.ClassDef _ _ _ _ _ _ _ _ _ _ _) (IsS.mk 18)
noncomputable def st_19 : Stmt := by
 first
  | exact pick (p := IsS 19) (.FunctionDef _ _ _ _ _ _ _ _ _ _) (IsS.mk 19)
  | exact pick (p := IsS 19) (.Assign _ _ _) (IsS.mk 19)
  | exact pick (p := IsS 19) (.Import _ _) (IsS.mk 19)
  | exact pick (p := IsS 19) (.ClassDef _ _ _ _ _ _ _ _ _ _ _) (IsS.mk 19)
noncomputable def st_20 : Stmt := by
 first
  | exact pick (p := IsS 20) (.FunctionDef _ _ _ _ _ _ _ _ _ _) (IsS.mk 20)
  | exact pick (p := IsS 20) (.Assign _ _ _) (IsS.mk 20)
  | exact pick (p := IsS 20) (.Import _ _) (IsS.mk 20)
  | exact pick (p := IsS 20) (.ClassDef _ _ _ _ _ _ _ _ _ _ _) (IsS.mk 20)
noncomputable def st_21 : Stmt := by
 first
  | exact pick (p := IsS 21) (.FunctionDef _ _ _ _ _ _ _ _ _ _) (IsS.mk 21)
  | exact pick (p := IsS 21) (.Assign _ _ _) (IsS.mk 21)
  | exact pick (p := IsS 21) (.Import _ _) (IsS.mk 21)
  | exact pick (p := IsS 21) (.ClassDef _ _ _ _ _ _ _ _ _ _ _) (IsS.mk 21)
inductive IsKs : Nat → List (Option Expr) → Prop
 | mk (k : Nat) : IsKs k (List.take 20 (List.drop (20 * k) (dKs ((PySem.Challenge.pw_pe0280_01.main.body[11]?).getD (.Pass ⟨0, 0, 0, 0⟩)))))
inductive IsVs : Nat → List Expr → Prop
 | mk (k : Nat) : IsVs k (List.take 20 (List.drop (20 * k) (dVs ((PySem.Challenge.pw_pe0280_01.main.body[11]?).getD (.Pass ⟨0, 0, 0, 0⟩)))))
noncomputable def st_v0 : List Expr := pick (p := IsVs 0) [_, _, _, _, _, _, _, _, _, _, _, _, _, _, _, _, _, _, _, _] (IsVs.mk 0)
noncomputable def st_k0 : List (Option Expr) := pick (p := IsKs 0) [_, _, _, _, _, _, _, _, _, _, _, _, _, _, _, _, _, _, _, _] (IsKs.mk 0)
noncomputable def st_v1 : List Expr := pick (p := IsVs 1) [_, _, _, _, _, _, _, _, _, _, _, _, _, _, _, _, _, _, _, _] (IsVs.mk 1)
noncomputable def st_k1 : List (Option Expr) := pick (p := IsKs 1) [_, _, _, _, _, _, _, _, _, _, _, _, _, _, _, _, _, _, _, _] (IsKs.mk 1)
noncomputable def st_v2 : List Expr := pick (p := IsVs 2) [_, _, _, _, _, _, _, _, _, _, _, _, _, _, _, _, _, _, _, _] (IsVs.mk 2)
noncomputable def st_k2 : List (Option Expr) := pick (p := IsKs 2) [_, _, _, _, _, _, _, _, _, _, _, _, _, _, _, _, _, _, _, _] (IsKs.mk 2)
noncomputable def st_v3 : List Expr := pick (p := IsVs 3) [_, _, _, _, _, _, _, _, _, _, _, _, _, _, _, _, _, _, _, _] (IsVs.mk 3)
noncomputable def st_k3 : List (Option Expr) := pick (p := IsKs 3) [_, _, _, _, _, _, _, _, _, _, _, _, _, _, _, _, _, _, _, _] (IsKs.mk 3)
noncomputable def st_v4 : List Expr := pick (p := IsVs 4) [_, _, _, _, _, _, _, _, _, _, _, _, _, _, _, _, _, _, _, _] (IsVs.mk 4)
noncomputable def st_k4 : List (Option Expr) := pick (p := IsKs 4) [_, _, _, _, _, _, _, _, _, _, _, _, _, _, _, _, _, _, _, _] (IsKs.mk 4)
noncomputable def st_v5 : List Expr := pick (p := IsVs 5) [_, _, _, _, _, _, _, _, _, _, _, _, _, _, _, _, _, _, _, _] (IsVs.mk 5)
noncomputable def st_k5 : List (Option Expr) := pick (p := IsKs 5) [_, _, _, _, _, _, _, _, _, _, _, _, _, _, _, _, _, _, _, _] (IsKs.mk 5)
noncomputable def st_v6 : List Expr := pick (p := IsVs 6) [_, _, _, _, _, _, _, _, _, _, _, _, _, _, _, _, _, _, _, _] (IsVs.mk 6)
noncomputable def st_k6 : List (Option Expr) := pick (p := IsKs 6) [_, _, _, _, _, _, _, _, _, _, _, _, _, _, _, _, _, _, _, _] (IsKs.mk 6)
noncomputable def st_v7 : List Expr := pick (p := IsVs 7) [_, _, _, _, _, _, _, _, _, _, _, _, _, _, _, _, _, _, _, _] (IsVs.mk 7)
noncomputable def st_k7 : List (Option Expr) := pick (p := IsKs 7) [_, _, _, _, _, _, _, _, _, _, _, _, _, _, _, _, _, _, _, _] (IsKs.mk 7)
noncomputable def st_v8 : List Expr := pick (p := IsVs 8) [_, _, _, _, _, _, _, _, _, _, _, _, _, _, _, _, _, _, _, _] (IsVs.mk 8)
noncomputable def st_k8 : List (Option Expr) := pick (p := IsKs 8) [_, _, _, _, _, _, _, _, _, _, _, _, _, _, _, _, _, _, _, _] (IsKs.mk 8)
noncomputable def st_v9 : List Expr := pick (p := IsVs 9) [_, _, _, _, _, _, _, _, _, _, _, _, _, _, _, _, _, _, _, _] (IsVs.mk 9)
noncomputable def st_k9 : List (Option Expr) := pick (p := IsKs 9) [_, _, _, _, _, _, _, _, _, _, _, _, _, _, _, _, _, _, _, _] (IsKs.mk 9)
noncomputable def st_v10 : List Expr := pick (p := IsVs 10) [_, _, _, _, _, _, _, _, _, _, _, _, _, _, _, _, _, _, _, _] (IsVs.mk 10)
noncomputable def st_k10 : List (Option Expr) := pick (p := IsKs 10) [_, _, _, _, _, _, _, _, _, _, _, _, _, _, _, _, _, _, _, _] (IsKs.mk 10)
noncomputable def st_v11 : List Expr := pick (p := IsVs 11) [_, _, _, _, _, _, _, _, _, _, _, _, _, _, _, _, _, _, _, _] (IsVs.mk 11)
noncomputable def st_k11 : List (Option Expr) := pick (p := IsKs 11) [_, _, _, _, _, _, _, _, _, _, _, _, _, _, _, _, _, _, _, _] (IsKs.mk 11)
noncomputable def st_v12 : List Expr := pick (p := IsVs 12) [_, _, _, _, _, _, _, _, _, _, _, _, _, _, _, _, _, _, _, _] (IsVs.mk 12)
noncomputable def st_k12 : List (Option Expr) := pick (p := IsKs 12) [_, _, _, _, _, _, _, _, _, _, _, _, _, _, _, _, _, _, _, _] (IsKs.mk 12)
noncomputable def st_v13 : List Expr := pick (p := IsVs 13) [_, _, _, _, _, _, _, _, _, _, _, _, _, _, _, _, _, _, _, _] (IsVs.mk 13)
noncomputable def st_k13 : List (Option Expr) := pick (p := IsKs 13) [_, _, _, _, _, _, _, _, _, _, _, _, _, _, _, _, _, _, _, _] (IsKs.mk 13)
noncomputable def st_v14 : List Expr := pick (p := IsVs 14) [_, _, _, _, _, _, _, _, _, _, _, _, _, _, _, _, _, _, _, _] (IsVs.mk 14)
noncomputable def st_k14 : List (Option Expr) := pick (p := IsKs 14) [_, _, _, _, _, _, _, _, _, _, _, _, _, _, _, _, _, _, _, _] (IsKs.mk 14)
noncomputable def st_v15 : List Expr := pick (p := IsVs 15) [_, _, _, _, _, _, _, _, _, _, _, _, _, _, _, _, _, _, _, _] (IsVs.mk 15)
noncomputable def st_k15 : List (Option Expr) := pick (p := IsKs 15) [_, _, _, _, _, _, _, _, _, _, _, _, _, _, _, _, _, _, _, _] (IsKs.mk 15)
noncomputable def st_v16 : List Expr := pick (p := IsVs 16) [_, _, _, _, _, _, _, _, _, _, _, _, _, _, _, _, _, _, _, _] (IsVs.mk 16)
noncomputable def st_k16 : List (Option Expr) := pick (p := IsKs 16) [_, _, _, _, _, _, _, _, _, _, _, _, _, _, _, _, _, _, _, _] (IsKs.mk 16)
noncomputable def st_v17 : List Expr := pick (p := IsVs 17) [_, _, _, _, _, _, _, _, _, _, _, _, _, _, _, _, _, _, _, _] (IsVs.mk 17)
noncomputable def st_k17 : List (Option Expr) := pick (p := IsKs 17) [_, _, _, _, _, _, _, _, _, _, _, _, _, _, _, _, _, _, _, _] (IsKs.mk 17)
noncomputable def st_v18 : List Expr := pick (p := IsVs 18) [_, _, _, _, _, _, _, _, _, _, _, _, _, _, _, _, _, _, _, _] (IsVs.mk 18)
noncomputable def st_k18 : List (Option Expr) := pick (p := IsKs 18) [_, _, _, _, _, _, _, _, _, _, _, _, _, _, _, _, _, _, _, _] (IsKs.mk 18)
noncomputable def st_v19 : List Expr := pick (p := IsVs 19) [_, _, _, _, _, _, _, _, _, _, _, _, _, _, _, _, _, _, _, _] (IsVs.mk 19)
noncomputable def st_k19 : List (Option Expr) := pick (p := IsKs 19) [_, _, _, _, _, _, _, _, _, _, _, _, _, _, _, _, _, _, _, _] (IsKs.mk 19)
noncomputable def st_v20 : List Expr := pick (p := IsVs 20) [_, _, _, _, _, _, _, _, _, _, _, _, _, _, _, _, _, _, _, _] (IsVs.mk 20)
noncomputable def st_k20 : List (Option Expr) := pick (p := IsKs 20) [_, _, _, _, _, _, _, _, _, _, _, _, _, _, _, _, _, _, _, _] (IsKs.mk 20)
noncomputable def st_v21 : List Expr := pick (p := IsVs 21) [_, _, _, _, _, _, _, _, _, _, _, _, _, _, _, _, _, _, _, _] (IsVs.mk 21)
noncomputable def st_k21 : List (Option Expr) := pick (p := IsKs 21) [_, _, _, _, _, _, _, _, _, _, _, _, _, _, _, _, _, _, _, _] (IsKs.mk 21)
noncomputable def st_v22 : List Expr := pick (p := IsVs 22) [_, _, _, _, _, _, _, _, _, _, _, _, _, _, _, _, _, _, _, _] (IsVs.mk 22)
noncomputable def st_k22 : List (Option Expr) := pick (p := IsKs 22) [_, _, _, _, _, _, _, _, _, _, _, _, _, _, _, _, _, _, _, _] (IsKs.mk 22)
noncomputable def st_v23 : List Expr := pick (p := IsVs 23) [_, _, _, _, _, _, _, _, _, _, _, _, _, _, _, _, _, _, _, _] (IsVs.mk 23)
noncomputable def st_k23 : List (Option Expr) := pick (p := IsKs 23) [_, _, _, _, _, _, _, _, _, _, _, _, _, _, _, _, _, _, _, _] (IsKs.mk 23)
noncomputable def st_v24 : List Expr := pick (p := IsVs 24) [_, _, _, _, _, _, _, _, _, _, _, _, _, _, _, _, _, _, _, _] (IsVs.mk 24)
noncomputable def st_k24 : List (Option Expr) := pick (p := IsKs 24) [_, _, _, _, _, _, _, _, _, _, _, _, _, _, _, _, _, _, _, _] (IsKs.mk 24)
noncomputable def st_v25 : List Expr := pick (p := IsVs 25) [_, _, _, _, _, _, _, _, _, _, _, _, _, _, _, _, _, _, _, _] (IsVs.mk 25)
noncomputable def st_k25 : List (Option Expr) := pick (p := IsKs 25) [_, _, _, _, _, _, _, _, _, _, _, _, _, _, _, _, _, _, _, _] (IsKs.mk 25)
noncomputable def st_v26 : List Expr := pick (p := IsVs 26) [_, _, _, _, _, _, _, _, _, _, _, _, _, _, _, _, _, _, _, _] (IsVs.mk 26)
noncomputable def st_k26 : List (Option Expr) := pick (p := IsKs 26) [_, _, _, _, _, _, _, _, _, _, _, _, _, _, _, _, _, _, _, _] (IsKs.mk 26)
noncomputable def st_v27 : List Expr := pick (p := IsVs 27) [_, _, _, _, _, _, _, _, _, _, _, _, _, _, _, _, _, _, _, _] (IsVs.mk 27)
noncomputable def st_k27 : List (Option Expr) := pick (p := IsKs 27) [_, _, _, _, _, _, _, _, _, _, _, _, _, _, _, _, _, _, _, _] (IsKs.mk 27)
noncomputable def st_v28 : List Expr := pick (p := IsVs 28) [_, _, _, _, _, _, _, _, _, _, _, _, _, _, _, _, _, _, _, _] (IsVs.mk 28)
noncomputable def st_k28 : List (Option Expr) := pick (p := IsKs 28) [_, _, _, _, _, _, _, _, _, _, _, _, _, _, _, _, _, _, _, _] (IsKs.mk 28)
noncomputable def st_v29 : List Expr := pick (p := IsVs 29) [_, _, _, _, _, _, _, _, _, _, _, _, _, _, _, _, _, _, _, _] (IsVs.mk 29)
noncomputable def st_k29 : List (Option Expr) := pick (p := IsKs 29) [_, _, _, _, _, _, _, _, _, _, _, _, _, _, _, _, _, _, _, _] (IsKs.mk 29)
noncomputable def st_v30 : List Expr := pick (p := IsVs 30) [_, _, _, _, _, _, _, _, _, _, _, _, _, _, _, _, _, _, _, _] (IsVs.mk 30)
noncomputable def st_k30 : List (Option Expr) := pick (p := IsKs 30) [_, _, _, _, _, _, _, _, _, _, _, _, _, _, _, _, _, _, _, _] (IsKs.mk 30)
noncomputable def st_v31 : List Expr := pick (p := IsVs 31) [_, _, _, _, _, _, _, _, _, _, _, _, _, _, _, _, _, _, _, _] (IsVs.mk 31)
noncomputable def st_k31 : List (Option Expr) := pick (p := IsKs 31) [_, _, _, _, _, _, _, _, _, _, _, _, _, _, _, _, _, _, _, _] (IsKs.mk 31)
noncomputable def st_v32 : List Expr := pick (p := IsVs 32) [_, _, _, _, _, _, _, _, _, _] (IsVs.mk 32)
noncomputable def st_k32 : List (Option Expr) := pick (p := IsKs 32) [_, _, _, _, _, _, _, _, _, _] (IsKs.mk 32)
noncomputable def st_11 : Stmt := .Assign [.Name (Str.ofString "b3_exceptions") ⟨103, 0, 103, 13⟩] (.Dict (st_k0 ++ (st_k1 ++ (st_k2 ++ (st_k3 ++ (st_k4 ++ (st_k5 ++ (st_k6 ++ (st_k7 ++ (st_k8 ++ (st_k9 ++ (st_k10 ++ (st_k11 ++ (st_k12 ++ (st_k13 ++ (st_k14 ++ (st_k15 ++ (st_k16 ++ (st_k17 ++ (st_k18 ++ (st_k19 ++ (st_k20 ++ (st_k21 ++ (st_k22 ++ (st_k23 ++ (st_k24 ++ (st_k25 ++ (st_k26 ++ (st_k27 ++ (st_k28 ++ (st_k29 ++ (st_k30 ++ (st_k31 ++ st_k32)))))))))))))))))))))))))))))))) (st_v0 ++ (st_v1 ++ (st_v2 ++ (st_v3 ++ (st_v4 ++ (st_v5 ++ (st_v6 ++ (st_v7 ++ (st_v8 ++ (st_v9 ++ (st_v10 ++ (st_v11 ++ (st_v12 ++ (st_v13 ++ (st_v14 ++ (st_v15 ++ (st_v16 ++ (st_v17 ++ (st_v18 ++ (st_v19 ++ (st_v20 ++ (st_v21 ++ (st_v22 ++ (st_v23 ++ (st_v24 ++ (st_v25 ++ (st_v26 ++ (st_v27 ++ (st_v28 ++ (st_v29 ++ (st_v30 ++ (st_v31 ++ st_v32)))))))))))))))))))))))))))))))) ⟨103, 16, 103, 8704⟩) ⟨103, 0, 103, 8704⟩
noncomputable def st_sc : Scope := by
 refine pick (p := IsC) ?x ?h
 rotate_left
 ·have h := IsC.mk
  conv at h => arg 1; whnf
  exact h
noncomputable def st_gi : Given := by
 refine pick (p := IsG) ?x ?h
 rotate_left
 ·have h := IsG.mk
  conv at h => arg 1; whnf
  exact h
noncomputable def st_fi : Str := by
 refine pick (p := IsF) ?x ?h
 rotate_left
 ·have h := IsF.mk
  conv at h => arg 1; whnf
  exact h
noncomputable def P0 : Program := { main := { body := [st_0, st_1, st_2, st_3, st_4, st_5, st_6, st_7, st_8, st_9, st_10, st_11, st_12, st_13, st_14, st_15, st_16, st_17, st_18, st_19, st_20, st_21], scope := st_sc, futureAnnotations := false, file := st_fi, more := [] }, modules := [], parses := [], absent := [], harvested := [], given := st_gi }
theorem P0_eq : P0 = PySem.Challenge.pw_pe0280_01 := by kernel_rfl
noncomputable def stAt (i : Nat) : Stmt := (P0.main.body[i]?).getD (.Pass ⟨0, 0, 0, 0⟩)
noncomputable def clsB : Stmt → List Stmt
 | .ClassDef _ _ _ b _ _ _ _ _ _ _ => b
 | _ => []
noncomputable def stIn (i j : Nat) : Stmt := ((clsB (stAt i))[j]?).getD (.Pass ⟨0, 0, 0, 0⟩)
noncomputable def sArgs : Stmt → Arguments
 | .FunctionDef _ a _ _ _ _ _ _ _ _ => a
 | _ => default
noncomputable def sBody : Stmt → List Stmt
 | .FunctionDef _ _ b _ _ _ _ _ _ _ => b
 | _ => []
noncomputable def sScope : Stmt → Scope
 | .FunctionDef _ _ _ _ _ _ s _ _ _ => s
 | _ => default
noncomputable def ck0 (P : Params) : List DictEntry := [en P z0 (nat_lit 1) (.str z1 160), en P z2 (nat_lit 2) (.builtin "builtins.__doc__:str#opaque"), en P z3 (nat_lit 3) (.builtin "builtins.__package__:str#opaque"), en P z4 (nat_lit 4) (.builtin "builtins.__loader__:shared#opaque"), en P z5 (nat_lit 5) (.builtin s11665532747177232413x24), en P z6 (nat_lit 6) (.builtin s15183661809925369436x15), en P z7 (nat_lit 7) (.builtin s13915890719876406383x10), en P z8 (nat_lit 8) (.builtin s13459172003223722735x3)]
noncomputable def ck1 (P : Params) : List DictEntry := [en P z9 (nat_lit 9) (.builtin s10557405761357834076x3), en P z10 (nat_lit 10) (.builtin s4233737765568776869x3), en P z11 (nat_lit 11) (.builtin s2508922471967985374x5), en P z12 (nat_lit 12) (.builtin s15574269061696679450x3), en P z13 (nat_lit 13) (.builtin s6016482663378992977x10), en P z14 (nat_lit 14) (.builtin s5596568736180474577x8), en P z15 (nat_lit 15) (.builtin s2839554839881490554x3), en P z16 (nat_lit 16) (.builtin s725004073602090463x7)]
noncomputable def ck2 (P : Params) : List DictEntry := [en P z17 (nat_lit 17) (.builtin s9436932552931045734x7), en P z18 (nat_lit 18) (.builtin s2754603736356183583x3), en P z19 (nat_lit 19) (.builtin s15185746759980889043x6), en P z20 (nat_lit 20) (.builtin s8192189862530294059x4), en P z21 (nat_lit 21) (.builtin s7038307821325472102x4), en P z22 (nat_lit 22) (.builtin s5662562618415449548x6), en P z23 (nat_lit 23) (.builtin s15281542589158584767x7), en P z24 (nat_lit 24) (.builtin s17651547275483570877x7)]
noncomputable def ck3 (P : Params) : List DictEntry := [en P z25 (nat_lit 25) (.builtin s4036449017235975746x7), en P z26 (nat_lit 26) (.builtin s8879979712987360175x4), en P z27 (nat_lit 27) (.builtin s1801250619170735830x3), en P z28 (nat_lit 28) (.builtin s17659931425627118568x2), en P z29 (nat_lit 29) (.builtin s6063217899685152688x5), en P z30 (nat_lit 30) (.builtin s8008927332132565319x10), en P z31 (nat_lit 31) (.builtin s3544116645089599534x10), en P z32 (nat_lit 32) (.builtin s13761710972054866084x4)]
noncomputable def ck4 (P : Params) : List DictEntry := [en P z33 (nat_lit 33) (.builtin s12896375587409280029x5), en P z34 (nat_lit 34) (.builtin s13014049009108672802x3), en P z35 (nat_lit 35) (.builtin s13935586738268321596x6), en P z36 (nat_lit 36) (.builtin s8200498257699607233x3), en P z37 (nat_lit 37) (.builtin s14114244577727609259x3), en P z38 (nat_lit 38) (.builtin s1499430450269397089x4), en P z39 (nat_lit 39) (.builtin s8755793994789770505x5), en P z40 (nat_lit 40) (.builtin s15725212667919936108x3)]
noncomputable def ck5 (P : Params) : List DictEntry := [en P z41 (nat_lit 41) (.builtin s15791221867095933363x3), en P z42 (nat_lit 42) (.builtin s81309575031448614x3), en P z43 (nat_lit 43) (.builtin s8069831620301644142x5), en P z44 (nat_lit 44) (.builtin s10061844253413749634x4), en P z45 (nat_lit 45) (.builtin s9496514870978017513x5), en P z46 (nat_lit 46) (.builtin s8899691144933366716x7), en P z47 (nat_lit 47) (.builtin s15201008993051130160x6), en P z48 (nat_lit 48) (.builtin s741896355592496720x3)]
noncomputable def ck6 (P : Params) : List DictEntry := [en P z49 (nat_lit 49) (.builtin s17925004256654032244x4), en P z50 (nat_lit 50) .none, en P z51 (nat_lit 51) .ellipsis, en P z52 (nat_lit 52) .notImplemented, en P z53 (nat_lit 53) (.bool false), en P z54 (nat_lit 54) (.bool true), en P z55 (nat_lit 55) (.type s11695548795398191787x4), en P z56 (nat_lit 56) (.type s4156966113859768872x10)]
noncomputable def ck7 (P : Params) : List DictEntry := [en P z57 (nat_lit 57) (.type s9501651726347032510x9), en P z58 (nat_lit 58) (.type s15722918466584999320x5), en P z59 (nat_lit 59) (.type s591115383303110208x11), en P z60 (nat_lit 60) (.type s15721156781594690315x7), en P z61 (nat_lit 61) (.type y0), en P z62 (nat_lit 62) (.type s14340494229221121180x9), en P z63 (nat_lit 63) (.type s13429844117177748173x6), en P z64 (nat_lit 64) (.type s16463266125957815391x5)]
noncomputable def ck8 (P : Params) : List DictEntry := [en P z65 (nat_lit 65) (.type s4922535414793169389x9), en P z66 (nat_lit 66) (.type s8101838861749082086x8), en P z67 (nat_lit 67) (.type s7066276694103001551x3), en P z68 (nat_lit 68) (.type y1), en P z69 (nat_lit 69) (.type s462964344163437139x3), en P z70 (nat_lit 70) (.type y2), en P z71 (nat_lit 71) (.type y3), en P z72 (nat_lit 72) (.type s14365286008749172514x8)]
noncomputable def ck9 (P : Params) : List DictEntry := [en P z73 (nat_lit 73) (.type y4), en P z74 (nat_lit 74) (.type s4674234679698826739x5), en P z75 (nat_lit 75) (.type s16656946322747308186x12), en P z76 (nat_lit 76) (.type s10796804682411823810x3), en P z77 (nat_lit 77) (.type y5), en P z78 (nat_lit 78) (.type y6), en P z79 (nat_lit 79) (.type y7), en P z80 (nat_lit 80) (.type s14339709457334898076x3)]
noncomputable def ck10 (P : Params) : List DictEntry := [en P z81 (nat_lit 81) (.bool true), en P z82 (nat_lit 82) (.type s4278001404047624695x13), en P z83 (nat_lit 83) (.type s6585700554429387442x18), en P z84 (nat_lit 84) (.type s5946037652744460706x9), en P z85 (nat_lit 85) (.type s7410770068591931388x13), en P z86 (nat_lit 86) (.type s11817881795495490833x17), en P z87 (nat_lit 87) (.type s15679963881808890155x10), en P z88 (nat_lit 88) (.type s3871700062485845797x15)]
noncomputable def ck11 (P : Params) : List DictEntry := [en P z89 (nat_lit 89) (.type s7689518266570723881x14), en P z90 (nat_lit 90) (.type s9001593270443806431x14), en P z91 (nat_lit 91) (.type s6882542574934516792x11), en P z92 (nat_lit 92) (.type s14403400214490484960x8), en P z93 (nat_lit 93) (.type s14457978657717015782x11), en P z94 (nat_lit 94) (.type s1753610191782819921x11), en P z95 (nat_lit 95) (.type s14119380538032626715x11), en P z96 (nat_lit 96) (.type s11437920000406562045x9)]
noncomputable def ck12 (P : Params) : List DictEntry := [en P z97 (nat_lit 97) (.type y8), en P z98 (nat_lit 98) (.type s14816307405966870543x14), en P z99 (nat_lit 99) (.type s8682627914449686677x12), en P z100 (nat_lit 100) (.type s4428170145600203450x18), en P z101 (nat_lit 101) (.type y9), en P z102 (nat_lit 102) (.type s16067994140765818257x11), en P z103 (nat_lit 103) (.type s2327743974964600596x11), en P z104 (nat_lit 104) (.type s2804747833354056582x9)]
noncomputable def ck13 (P : Params) : List DictEntry := [en P z105 (nat_lit 105) (.type s6070975301684473832x10), en P z106 (nat_lit 106) (.type s14270485950484850486x7), en P z107 (nat_lit 107) (.type s12041534306414923332x18), en P z108 (nat_lit 108) (.type s2531307568338490285x13), en P z109 (nat_lit 109) (.type s631175304937289666x17), en P z110 (nat_lit 110) (.type s5144983644357021410x12), en P z111 (nat_lit 111) (.type s18039099521571816885x18), en P z112 (nat_lit 112) (.type s6011586214260557989x15)]
noncomputable def ck14 (P : Params) : List DictEntry := [en P z113 (nat_lit 113) (.type s5430567037509283100x13), en P z114 (nat_lit 114) (.type s8117915138073963741x13), en P z115 (nat_lit 115) (.type s3423317712779056401x25), en P z116 (nat_lit 116) (.type s2007317383269046180x15), en P z117 (nat_lit 117) (.type s17481586968713580700x14), en P z118 (nat_lit 118) (.type s2450899226349176912x13), en P z119 (nat_lit 119) (.type s16626165730633575011x14), en P z120 (nat_lit 120) (.type s14288496050688921416x11)]
noncomputable def ck15 (P : Params) : List DictEntry := [en P z121 (nat_lit 121) (.type s5735081916595925998x15), en P z122 (nat_lit 122) (.type s3865607918536308442x17), en P z123 (nat_lit 123) (.type s13337502604062700212x15), en P z124 (nat_lit 124) (.type s13114017843053701147x15), en P z125 (nat_lit 125) (.type s17467278006356818441x17), en P z126 (nat_lit 126) (.type s17722149559621369488x16), en P z127 (nat_lit 127) (.type s7855274175708717672x17), en P z128 (nat_lit 128) (.type s13351283678309829046x18)]
noncomputable def ck16 (P : Params) : List DictEntry := [en P z129 (nat_lit 129) (.type s6668348653404991179x15), en P z130 (nat_lit 130) (.type s12913350958174193794x18), en P z131 (nat_lit 131) (.type s16115879512475548326x12), en P z132 (nat_lit 132) (.type s15920661018069861047x16), en P z133 (nat_lit 133) (.type s10779130036587390575x21), en P z134 (nat_lit 134) (.type s7801419657504700863x10), en P z135 (nat_lit 135) (.type s1688129525768580628x8), en P z136 (nat_lit 136) (.type s1031832959479892071x19)]
noncomputable def ck17 (P : Params) : List DictEntry := [en P z137 (nat_lit 137) (.type s8991790508128307865x19), en P z138 (nat_lit 138) (.type s14539662485746970245x23), en P z139 (nat_lit 139) (.type s11643622729373238714x14), en P z140 (nat_lit 140) (.type s3386828779285465597x17), en P z141 (nat_lit 141) (.type s13042696260734638735x12), en P z142 (nat_lit 142) (.type s18239426817015966623x15), en P z143 (nat_lit 143) (.type s1270395311379034370x22), en P z144 (nat_lit 144) (.type s10696252587037064777x22)]
noncomputable def ck18 (P : Params) : List DictEntry := [en P z145 (nat_lit 145) (.type s7852717498200857586x20), en P z146 (nat_lit 146) (.type s6377248116197321094x8), en P z147 (nat_lit 147) (.type s3834378056692298002x18), en P z148 (nat_lit 148) (.type s17586630440231065808x18), en P z149 (nat_lit 149) (.type s15234114252648025395x21), en P z150 (nat_lit 150) (.type s8496462677383758984x14), en P z151 (nat_lit 151) (.type y8), en P z152 (nat_lit 152) (.type y8)]
noncomputable def ck19 (P : Params) : List DictEntry := [en P z153 (nat_lit 153) (.builtin s16789243406116112673x4), en P z154 (nat_lit 154) (.builtin s14400166428656793546x20), en P z155 (nat_lit 155) (.builtin s5857708277339239366x20), en P z156 (nat_lit 156) (.builtin "builtins.copyright#opaque"), en P z157 (nat_lit 157) (.builtin "builtins.credits#opaque"), en P z158 (nat_lit 158) (.builtin "builtins.license#opaque"), en P z159 (nat_lit 159) (.builtin s7804999707787243718x20)]
noncomputable def ck20 (P : Params) : List DictEntry := ((ck0 P) ++ ((ck1 P) ++ ((ck2 P) ++ ((ck3 P) ++ ((ck4 P) ++ ((ck5 P) ++ ((ck6 P) ++ (ck7 P))))))))
noncomputable def ck21 (P : Params) : List DictEntry := ((ck8 P) ++ ((ck9 P) ++ ((ck10 P) ++ ((ck11 P) ++ ((ck12 P) ++ ((ck13 P) ++ ((ck14 P) ++ (ck15 P))))))))
noncomputable def ck22 (P : Params) : List DictEntry := ((ck16 P) ++ ((ck17 P) ++ ((ck18 P) ++ (ck19 P))))
noncomputable def o0 (P : Params) : Obj := ⟨(.type y0), none, (.dict ((ck20 P) ++ ((ck21 P) ++ (ck22 P))).toArray 159), #[]⟩
noncomputable def o1 (P : Params) : Obj := ⟨(.type y0), none, (.dict #[en P z1 (nat_lit 162) (.ref 4), en P z160 (nat_lit 163) (.ref 5), en P z161 (nat_lit 244) (.ref 12)] 3), #[]⟩
noncomputable def o2 (P : Params) : Obj := ⟨.none, none, (.dict #[en P z162 (nat_lit 183) (.bool true), en P z163 (nat_lit 185) (.ref 14), en P z164 (nat_lit 206) (.ref 18), en P z165 (nat_lit 216) (.ref 22), en P z166 (nat_lit 245) (.int 3 0), en P z167 (nat_lit 270) (.bool true), en P z168 (nat_lit 272) (.ref 27), en P z169 (nat_lit 0) (.str (Str.mk #[12]) 0), en P z170 (nat_lit 273) (.str (Str.mk #[4, 0, 0, 11, 4, 0, 0, 11, 4, 0, 0, 3, 4, 0, 0, 11, 8, 4, 100, 105, 99, 116, 2]) 0)] 9), #[]⟩
noncomputable def o3 (P : Params) : Obj := ⟨(.type y0), none, (.dict #[en P z0 (nat_lit 165) (.str z160 164), en P z2 (nat_lit 166) .none, en P z3 (nat_lit 167) .none, en P z4 (nat_lit 168) (.builtin y10), en P z5 (nat_lit 169) .none, en P z171 (nat_lit 170) (.ref 6), en P z172 (nat_lit 171) (.ref 4), en P z173 (nat_lit 173) (.str z174 172), en P z175 (nat_lit 174) .none, en P z161 (nat_lit 275) (.ref 12)] 10), #[]⟩
noncomputable def o4 (P : Params) : Obj := ⟨(.type y11), (some 0), .plain, #[]⟩
noncomputable def o5 (P : Params) : Obj := ⟨(.type y11), (some 3), .plain, #[]⟩
noncomputable def o6 (P : Params) : Obj := ⟨(.type y0), none, (.dict #[] 0), #[]⟩
noncomputable def o7 (P : Params) : Obj := ⟨(.type y6), none, (.seq #[] 0), #[]⟩
noncomputable def o8 (P : Params) : Obj := ⟨.none, none, (.fields #[]), #[]⟩
noncomputable def o9 (P : Params) : Obj := ⟨(.type y12), none, (.fields #[(.str z176 176), (.str z176 177), (.str z174 178), (.int 1 0), (.int 0 0), (.int 0 0), (.int 0 0), (.int 0 0), (.ref 7), (.bool false), (.int 175 0), (.ref 8), .none, .none, .none, .none, (.int 179 0), (.int 1 0), (.str z174 180)]), #[]⟩
noncomputable def o10 (P : Params) : Obj := ⟨(.type y13), none, .plain, #[(some (.ref 9)), (some (.ref 3)), (some (.ref 3)), none, (some (.str z160 164)), none, (some (.ref 0))]⟩
noncomputable def ck23 (P : Params) : List DictEntry := [en P z0 (nat_lit 247) (.str z161 246), en P z2 (nat_lit 248) .none, en P z3 (nat_lit 250) (.str z177 249), en P z4 (nat_lit 251) (.builtin "off-the-table:_sre.__loader__:shared#opaque"), en P z5 (nat_lit 252) (.builtin "off-the-table:_sre.__spec__:shared#opaque"), en P z16 (nat_lit 253) (.builtin s492968859115322481x12), en P z178 (nat_lit 254) (.builtin "off-the-table:_sre.template:shared#opaque"), en P z179 (nat_lit 255) (.builtin "off-the-table:_sre.getcodesize:shared#opaque")]
noncomputable def ck24 (P : Params) : List DictEntry := [en P z180 (nat_lit 256) (.builtin "off-the-table:_sre.ascii_iscased:shared#opaque"), en P z181 (nat_lit 257) (.builtin "off-the-table:_sre.unicode_iscased:shared#opaque"), en P z182 (nat_lit 258) (.builtin "off-the-table:_sre.ascii_tolower:shared#opaque"), en P z183 (nat_lit 259) (.builtin "off-the-table:_sre.unicode_tolower:shared#opaque"), en P z184 (nat_lit 261) (.int 20230612 260), en P z185 (nat_lit 263) (.int 4 262), en P z186 (nat_lit 265) (.int 4294967295 264), en P z187 (nat_lit 267) (.int 1073741823 266)]
noncomputable def ck25 (P : Params) : List DictEntry := [en P z156 (nat_lit 269) (.str z188 268)]
noncomputable def o11 (P : Params) : Obj := ⟨(.type y0), none, (.dict ((ck23 P) ++ ((ck24 P) ++ (ck25 P))).toArray 17), #[]⟩
noncomputable def o12 (P : Params) : Obj := ⟨(.type y11), (some 11), .plain, #[]⟩
noncomputable def ck26 (P : Params) : List DictEntry := [en P z189 (nat_lit 189) (.str z190 186), en P z191 (nat_lit 190) (.int 971 187), en P z2 (nat_lit 191) (.builtin "_frozen_importlib.BuiltinImporter.__doc__:str#opaque"), en P z192 (nat_lit 192) (.str z193 188), en P z194 (nat_lit 193) (.builtin "_frozen_importlib.BuiltinImporter.find_spec#opaque"), en P z195 (nat_lit 194) (.builtin "_frozen_importlib.BuiltinImporter.create_module#opaque"), en P z196 (nat_lit 195) (.builtin "_frozen_importlib.BuiltinImporter.exec_module#opaque"), en P z197 (nat_lit 196) (.builtin "_frozen_importlib.BuiltinImporter.get_code#opaque")]
noncomputable def ck27 (P : Params) : List DictEntry := [en P z198 (nat_lit 197) (.builtin "_frozen_importlib.BuiltinImporter.get_source#opaque"), en P z199 (nat_lit 198) (.builtin "_frozen_importlib.BuiltinImporter.is_package#opaque"), en P z200 (nat_lit 199) (.builtin "_frozen_importlib.BuiltinImporter.load_module#opaque"), en P z201 (nat_lit 200) (.ref 15), en P z202 (nat_lit 202) (.ref 16), en P z203 (nat_lit 204) (.ref 17)]
noncomputable def o13 (P : Params) : Obj := ⟨(.type y0), none, (.dict ((ck26 P) ++ (ck27 P)).toArray 14), #[]⟩
noncomputable def o14 (P : Params) : Obj := ⟨(.type y7), none, (.cls { name := z204, bases := [(.type y2)], mro := [(.ref 14), (.type y2)], ns := 13, qualname := z204, hasDict := true, slotNames := [], subclasses := [], abstract := false, collection := none, hasDel := false }), #[]⟩
noncomputable def o15 (P : Params) : Obj := ⟨(.type y6), none, (.seq #[] 0), #[]⟩
noncomputable def o16 (P : Params) : Obj := ⟨(.type y14), none, (.fields #[(.str z202 201), (.ref 14), (.builtin y15), (.builtin y16)]), #[]⟩
noncomputable def o17 (P : Params) : Obj := ⟨(.type y14), none, (.fields #[(.str z203 203), (.ref 14), (.builtin y17), .none]), #[]⟩
noncomputable def o18 (P : Params) : Obj := ⟨.none, none, (.seq #[(.int 13 0), (.str (Str.mk #[6, 189, 10, 95, 95, 109, 111, 100, 117, 108, 101, 95, 95, 6, 186, 17, 95, 102, 114, 111, 122, 101, 110, 95, 105, 109, 112, 111, 114, 116, 108, 105, 98, 6, 190, 15, 95, 95, 102, 105, 114, 115, 116, 108, 105, 110, 101, 110, 111, 95, 95, 4, 187, 0, 971, 6, 191, 7, 95, 95, 100, 111, 99, 95, 95, 9, 52, 95, 102, 114, 111, 122, 101, 110, 95, 105, 109, 112, 111, 114, 116, 108, 105, 98, 46, 66, 117, 105, 108, 116, 105, 110, 73, 109, 112, 111, 114, 116, 101, 114, 46, 95, 95, 100, 111, 99, 95, 95, 58, 115, 116, 114, 35, 111, 112, 97, 113, 117, 101, 6, 192, 7, 95, 79, 82, 73, 71, 73, 78, 6, 188, 8, 98, 117, 105, 108, 116, 45, 105, 110, 6, 193, 9, 102, 105, 110, 100, 95, 115, 112, 101, 99, 9, 50, 95, 102, 114, 111, 122, 101, 110, 95, 105, 109, 112, 111, 114, 116, 108, 105, 98, 46, 66, 117, 105, 108, 116, 105, 110, 73, 109, 112, 111, 114, 116, 101, 114, 46, 102, 105, 110, 100, 95, 115, 112, 101, 99, 35, 111, 112, 97, 113, 117, 101, 6, 194, 13, 99, 114, 101, 97, 116, 101, 95, 109, 111, 100, 117, 108, 101, 9, 54, 95, 102, 114, 111, 122, 101, 110, 95, 105, 109, 112, 111, 114, 116, 108, 105, 98, 46, 66, 117, 105, 108, 116, 105, 110, 73, 109, 112, 111, 114, 116, 101, 114, 46, 99, 114, 101, 97, 116, 101, 95, 109, 111, 100, 117, 108, 101, 35, 111, 112, 97, 113, 117, 101, 6, 195, 11, 101, 120, 101, 99, 95, 109, 111, 100, 117, 108, 101, 9, 52, 95, 102, 114, 111, 122, 101, 110, 95, 105, 109, 112, 111, 114, 116, 108, 105, 98, 46, 66, 117, 105, 108, 116, 105, 110, 73, 109, 112, 111, 114, 116, 101, 114, 46, 101, 120, 101, 99, 95, 109, 111, 100, 117, 108, 101, 35, 111, 112, 97, 113, 117, 101, 6, 196, 8, 103, 101, 116, 95, 99, 111, 100, 101, 9, 49, 95, 102, 114, 111, 122, 101, 110, 95, 105, 109, 112, 111, 114, 116, 108, 105, 98, 46, 66, 117, 105, 108, 116, 105, 110, 73, 109, 112, 111, 114, 116, 101, 114, 46, 103, 101, 116, 95, 99, 111, 100, 101, 35, 111, 112, 97, 113, 117, 101, 6, 197, 10, 103, 101, 116, 95, 115, 111, 117, 114, 99, 101, 9, 51, 95, 102, 114, 111, 122, 101, 110, 95, 105, 109, 112, 111, 114, 116, 108, 105, 98, 46, 66, 117, 105, 108, 116, 105, 110, 73, 109, 112, 111, 114, 116, 101, 114, 46, 103, 101, 116, 95, 115, 111, 117, 114, 99, 101, 35, 111, 112, 97, 113, 117, 101, 6, 198, 10, 105, 115, 95, 112, 97, 99, 107, 97, 103, 101, 9, 51, 95, 102, 114, 111, 122, 101, 110, 95, 105, 109, 112, 111, 114, 116, 108, 105, 98, 46, 66, 117, 105, 108, 116, 105, 110, 73, 109, 112, 111, 114, 116, 101, 114, 46, 105, 115, 95, 112, 97, 99, 107, 97, 103, 101, 35, 111, 112, 97, 113, 117, 101, 6, 199, 11, 108, 111, 97, 100, 95, 109, 111, 100, 117, 108, 101, 9, 52, 95, 102, 114, 111, 122, 101, 110, 95, 105, 109, 112, 111, 114, 116, 108, 105, 98, 46, 66, 117, 105, 108, 116, 105, 110, 73, 109, 112, 111, 114, 116, 101, 114, 46, 108, 111, 97, 100, 95, 109, 111, 100, 117, 108, 101, 35, 111, 112, 97, 113, 117, 101, 6, 200, 21, 95, 95, 115, 116, 97, 116, 105, 99, 95, 97, 116, 116, 114, 105, 98, 117, 116, 101, 115, 95, 95, 4, 0, 0, 15, 6, 202, 8, 95, 95, 100, 105, 99, 116, 95, 95, 4, 0, 0, 16, 6, 204, 11, 95, 95, 119, 101, 97, 107, 114, 101, 102, 95, 95, 4, 0, 0, 17]) 0), (.bool true), (.bool true), (.str z177 205), (.int 21 0), (.str (Str.mk #[6, 227, 10, 95, 95, 109, 111, 100, 117, 108, 101, 95, 95, 6, 217, 17, 95, 102, 114, 111, 122, 101, 110, 95, 105, 109, 112, 111, 114, 116, 108, 105, 98, 6, 228, 15, 95, 95, 102, 105, 114, 115, 116, 108, 105, 110, 101, 110, 111, 95, 95, 4, 218, 0, 562, 6, 229, 7, 95, 95, 100, 111, 99, 95, 95, 9, 47, 95, 102, 114, 111, 122, 101, 110, 95, 105, 109, 112, 111, 114, 116, 108, 105, 98, 46, 77, 111, 100, 117, 108, 101, 83, 112, 101, 99, 46, 95, 95, 100, 111, 99, 95, 95, 58, 115, 116, 114, 35, 111, 112, 97, 113, 117, 101, 6, 230, 8, 95, 95, 105, 110, 105, 116, 95, 95, 9, 44, 95, 102, 114, 111, 122, 101, 110, 95, 105, 109, 112, 111, 114, 116, 108, 105, 98, 46, 77, 111, 100, 117, 108, 101, 83, 112, 101, 99, 46, 95, 95, 105, 110, 105, 116, 95, 95, 35, 111, 112, 97, 113, 117, 101, 6, 231, 8, 95, 95, 114, 101, 112, 114, 95, 95, 9, 44, 95, 102, 114, 111, 122, 101, 110, 95, 105, 109, 112, 111, 114, 116, 108, 105, 98, 46, 77, 111, 100, 117, 108, 101, 83, 112, 101, 99, 46, 95, 95, 114, 101, 112, 114, 95, 95, 35, 111, 112, 97, 113, 117, 101, 6, 232, 6, 95, 95, 101, 113, 95, 95, 9, 42, 95, 102, 114, 111, 122, 101, 110, 95, 105, 109, 112, 111, 114, 116, 108, 105, 98, 46, 77, 111, 100, 117, 108, 101, 83, 112, 101, 99, 46, 95, 95, 101, 113, 95, 95, 35, 111, 112, 97, 113, 117, 101, 6, 233, 6, 99, 97, 99, 104, 101, 100, 9, 42, 95, 102, 114, 111, 122, 101, 110, 95, 105, 109, 112, 111, 114, 116, 108, 105, 98, 46, 77, 111, 100, 117, 108, 101, 83, 112, 101, 99, 46, 99, 97, 99, 104, 101, 100, 35, 111, 112, 97, 113, 117, 101, 6, 234, 6, 112, 97, 114, 101, 110, 116, 9, 42, 95, 102, 114, 111, 122, 101, 110, 95, 105, 109, 112, 111, 114, 116, 108, 105, 98, 46, 77, 111, 100, 117, 108, 101, 83, 112, 101, 99, 46, 112, 97, 114, 101, 110, 116, 35, 111, 112, 97, 113, 117, 101, 6, 235, 12, 104, 97, 115, 95, 108, 111, 99, 97, 116, 105, 111, 110, 9, 48, 95, 102, 114, 111, 122, 101, 110, 95, 105, 109, 112, 111, 114, 116, 108, 105, 98, 46, 77, 111, 100, 117, 108, 101, 83, 112, 101, 99, 46, 104, 97, 115, 95, 108, 111, 99, 97, 116, 105, 111, 110, 35, 111, 112, 97, 113, 117, 101, 6, 236, 21, 95, 95, 115, 116, 97, 116, 105, 99, 95, 97, 116, 116, 114, 105, 98, 117, 116, 101, 115, 95, 95, 4, 0, 0, 23, 6, 238, 8, 95, 95, 100, 105, 99, 116, 95, 95, 4, 0, 0, 24, 6, 240, 11, 95, 95, 119, 101, 97, 107, 114, 101, 102, 95, 95, 4, 0, 0, 25, 6, 241, 8, 95, 95, 104, 97, 115, 104, 95, 95, 0]) 0), (.bool true), (.bool true), (.str z177 242)] 1), #[]⟩
noncomputable def o19 (P : Params) : Obj := ⟨(.type y1), none, (.seq #[] 0), #[]⟩
noncomputable def o20 (P : Params) : Obj := ⟨(.type y0), none, (.dict #[en P z205 (nat_lit 208) (.str z161 207), en P z206 (nat_lit 209) (.ref 14), en P z207 (nat_lit 210) (.str z193 184), en P z208 (nat_lit 211) .none, en P z209 (nat_lit 212) .none, en P z210 (nat_lit 213) (.ref 19), en P z211 (nat_lit 214) (.bool false), en P z212 (nat_lit 215) .none, en P z213 (nat_lit 243) (.bool false)] 9), #[]⟩
noncomputable def ck28 (P : Params) : List DictEntry := [en P z189 (nat_lit 227) (.str z190 217), en P z191 (nat_lit 228) (.int 562 218), en P z2 (nat_lit 229) (.builtin "_frozen_importlib.ModuleSpec.__doc__:str#opaque"), en P z214 (nat_lit 230) (.builtin "_frozen_importlib.ModuleSpec.__init__#opaque"), en P z215 (nat_lit 231) (.builtin "_frozen_importlib.ModuleSpec.__repr__#opaque"), en P z216 (nat_lit 232) (.builtin "_frozen_importlib.ModuleSpec.__eq__#opaque"), en P z217 (nat_lit 233) (.builtin "_frozen_importlib.ModuleSpec.cached#opaque"), en P z218 (nat_lit 234) (.builtin "_frozen_importlib.ModuleSpec.parent#opaque")]
noncomputable def ck29 (P : Params) : List DictEntry := [en P z219 (nat_lit 235) (.builtin "_frozen_importlib.ModuleSpec.has_location#opaque"), en P z201 (nat_lit 236) (.ref 23), en P z202 (nat_lit 238) (.ref 24), en P z203 (nat_lit 240) (.ref 25), en P z220 (nat_lit 241) .none]
noncomputable def o21 (P : Params) : Obj := ⟨(.type y0), none, (.dict ((ck28 P) ++ (ck29 P)).toArray 13), #[]⟩
noncomputable def o22 (P : Params) : Obj := ⟨(.type y7), none, (.cls { name := z221, bases := [(.type y2)], mro := [(.ref 22), (.type y2)], ns := 21, qualname := z221, hasDict := true, slotNames := [], subclasses := [], abstract := false, collection := none, hasDel := false }), #[]⟩
noncomputable def o23 (P : Params) : Obj := ⟨(.type y6), none, (.seq #[(.str z212 219), (.str z211 220), (.str z210 221), (.str z206 222), (.str z208 223), (.str z205 224), (.str z207 225), (.str z209 226)] 0), #[]⟩
noncomputable def o24 (P : Params) : Obj := ⟨(.type y14), none, (.fields #[(.str z202 237), (.ref 22), (.builtin y15), (.builtin y16)]), #[]⟩
noncomputable def o25 (P : Params) : Obj := ⟨(.type y14), none, (.fields #[(.str z203 239), (.ref 22), (.builtin y17), .none]), #[]⟩
noncomputable def o26 (P : Params) : Obj := ⟨(.ref 22), (some 20), .plain, #[]⟩
noncomputable def o27 (P : Params) : Obj := ⟨.none, none, (.seq #[(.int 11 0), (.str (Str.mk #[6, 247, 8, 95, 95, 110, 97, 109, 101, 95, 95, 6, 246, 4, 95, 115, 114, 101, 6, 248, 7, 95, 95, 100, 111, 99, 95, 95, 0, 6, 250, 11, 95, 95, 112, 97, 99, 107, 97, 103, 101, 95, 95, 6, 249, 0, 6, 251, 10, 95, 95, 108, 111, 97, 100, 101, 114, 95, 95, 4, 0, 0, 14, 6, 252, 8, 95, 95, 115, 112, 101, 99, 95, 95, 4, 0, 0, 26, 6, 253, 7, 99, 111, 109, 112, 105, 108, 101, 9, 12, 95, 115, 114, 101, 46, 99, 111, 109, 112, 105, 108, 101, 6, 254, 8, 116, 101, 109, 112, 108, 97, 116, 101, 9, 13, 95, 115, 114, 101, 46, 116, 101, 109, 112, 108, 97, 116, 101, 6, 255, 11, 103, 101, 116, 99, 111, 100, 101, 115, 105, 122, 101, 9, 16, 95, 115, 114, 101, 46, 103, 101, 116, 99, 111, 100, 101, 115, 105, 122, 101, 6, 256, 13, 97, 115, 99, 105, 105, 95, 105, 115, 99, 97, 115, 101, 100, 9, 18, 95, 115, 114, 101, 46, 97, 115, 99, 105, 105, 95, 105, 115, 99, 97, 115, 101, 100, 6, 257, 15, 117, 110, 105, 99, 111, 100, 101, 95, 105, 115, 99, 97, 115, 101, 100, 9, 20, 95, 115, 114, 101, 46, 117, 110, 105, 99, 111, 100, 101, 95, 105, 115, 99, 97, 115, 101, 100, 6, 258, 13, 97, 115, 99, 105, 105, 95, 116, 111, 108, 111, 119, 101, 114, 9, 18, 95, 115, 114, 101, 46, 97, 115, 99, 105, 105, 95, 116, 111, 108, 111, 119, 101, 114, 6, 259, 15, 117, 110, 105, 99, 111, 100, 101, 95, 116, 111, 108, 111, 119, 101, 114, 9, 20, 95, 115, 114, 101, 46, 117, 110, 105, 99, 111, 100, 101, 95, 116, 111, 108, 111, 119, 101, 114, 6, 261, 5, 77, 65, 71, 73, 67, 4, 260, 0, 20230612, 6, 263, 8, 67, 79, 68, 69, 83, 73, 90, 69, 4, 262, 0, 4, 6, 265, 9, 77, 65, 88, 82, 69, 80, 69, 65, 84, 4, 264, 0, 4294967295, 6, 267, 9, 77, 65, 88, 71, 82, 79, 85, 80, 83, 4, 266, 0, 1073741823, 6, 269, 9, 99, 111, 112, 121, 114, 105, 103, 104, 116, 6, 268, 53, 32, 83, 82, 69, 32, 50, 46, 50, 46, 50, 32, 67, 111, 112, 121, 114, 105, 103, 104, 116, 32, 40, 99, 41, 32, 49, 57, 57, 55, 45, 50, 48, 48, 50, 32, 98, 121, 32, 83, 101, 99, 114, 101, 116, 32, 76, 97, 98, 115, 32, 65, 66, 32]) 0), (.bool true), (.bool false), (.str z161 271)] 0), #[]⟩
noncomputable def bt1 (P : Params) : BT := (.node (o7 P) (.node (o15 P) .nil .nil) (.node (o23 P) .nil .nil))
noncomputable def bt2 (P : Params) : BT := (.node (o11 P) (.node (o19 P) .nil .nil) (.node (o27 P) .nil .nil))
noncomputable def bt3 (P : Params) : BT := (.node (o9 P) (.node (o17 P) .nil .nil) (.node (o25 P) .nil .nil))
noncomputable def bt4 (P : Params) : BT := (.node (o13 P) (.node (o21 P) .nil .nil) .nil)
noncomputable def bt5 (P : Params) : BT := (.node (o8 P) (.node (o16 P) .nil .nil) (.node (o24 P) .nil .nil))
noncomputable def bt6 (P : Params) : BT := (.node (o12 P) (.node (o20 P) .nil .nil) .nil)
noncomputable def bt7 (P : Params) : BT := (.node (o10 P) (.node (o18 P) .nil .nil) (.node (o26 P) .nil .nil))
noncomputable def bt8 (P : Params) : BT := (.node (o14 P) (.node (o22 P) .nil .nil) .nil)
noncomputable def tr0 (P : Params) : BT := (.node (o0 P) (.node (o1 P) (.node (o3 P) (bt1 P) (bt2 P)) (.node (o5 P) (bt3 P) (bt4 P))) (.node (o2 P) (.node (o4 P) (bt5 P) (bt6 P)) (.node (o6 P) (bt7 P) (bt8 P))))
noncomputable def o28 (P : Params) : Obj := ⟨(.type y6), none, (.seq #[] 0), #[]⟩
noncomputable def o29 (P : Params) : Obj := ⟨.none, none, (.fields #[]), #[]⟩
noncomputable def o30 (P : Params) : Obj := ⟨(.type y12), none, (.fields #[(.str z176 277), (.str z176 278), (.str z174 279), (.int 1 0), (.int 0 0), (.int 0 0), (.int 0 0), (.int 0 0), (.ref 28), (.bool false), (.int 276 0), (.ref 29), .none, .none, .none, .none, (.int 280 0), (.int 1 0), (.str z174 281)]), #[]⟩
noncomputable def o31 (P : Params) : Obj := ⟨(.type y13), none, .plain, #[(some (.ref 30)), (some (.ref 3)), (some (.ref 3)), none, (some (.str z160 164)), none, (some (.ref 0))]⟩
noncomputable def bt9 (P : Params) : BT := (.node (o7 P) (.node (o15 P) (.node (o31 P) .nil .nil) .nil) (.node (o23 P) .nil .nil))
noncomputable def bt10 (P : Params) : BT := (.node (o13 P) (.node (o21 P) .nil .nil) (.node (o29 P) .nil .nil))
noncomputable def bt11 (P : Params) : BT := (.node (o12 P) (.node (o20 P) .nil .nil) (.node (o28 P) .nil .nil))
noncomputable def bt12 (P : Params) : BT := (.node (o14 P) (.node (o22 P) .nil .nil) (.node (o30 P) .nil .nil))
noncomputable def trA (P : Params) : BT := (.node (o0 P) (.node (o1 P) (.node (o3 P) (bt9 P) (bt2 P)) (.node (o5 P) (bt3 P) (bt10 P))) (.node (o2 P) (.node (o4 P) (bt5 P) (bt11 P)) (.node (o6 P) (bt7 P) (bt12 P))))
noncomputable def ck30 (P : Params) : List DictEntry := [en P z0 (nat_lit 165) (.str z222 554), en P z2 (nat_lit 166) .none, en P z3 (nat_lit 167) .none, en P z4 (nat_lit 168) (.builtin y10), en P z5 (nat_lit 169) .none, en P z171 (nat_lit 170) (.ref 6), en P z172 (nat_lit 171) (.ref 4), en P z173 (nat_lit 173) (.str z174 172)]
noncomputable def ck31 (P : Params) : List DictEntry := [en P z175 (nat_lit 174) .none, en P z161 (nat_lit 275) (.ref 12), en P z223 (nat_lit 288) (.ref 38), en P z224 (nat_lit 324) (.ref 43), en P z225 (nat_lit 350) (.ref 48), en P z226 (nat_lit 384) (.ref 53), en P z227 (nat_lit 394) (.ref 61), en P z228 (nat_lit 553) (.ref 184)]
noncomputable def ck32 (P : Params) : List DictEntry := [en P z229 (nat_lit 615) (.ref 196), en P z230 (nat_lit 622) (.ref 206)]
noncomputable def o3v2 (P : Params) : Obj := ⟨(.type y0), none, (.dict ((ck30 P) ++ ((ck31 P) ++ (ck32 P))).toArray 18), #[]⟩
noncomputable def o29v2 (P : Params) : Obj := ⟨.none, none, (.fields #[(.int 2 0), (.int 0 0), (.ref 37), (.int 9 0), (.int 0 0), (.ref 60), (.int 18 0), (.int 0 0), (.ref 67), (.int 101 0), (.int 0 0), (.ref 205)]), #[]⟩
noncomputable def o32 (P : Params) : Obj := ⟨(.type y6), none, (.seq #[] 0), #[]⟩
noncomputable def o33 (P : Params) : Obj := ⟨.none, none, (.fields #[]), #[]⟩
noncomputable def o34 (P : Params) : Obj := ⟨(.type y6), none, (.seq #[(.str z231 285)] 0), #[]⟩
noncomputable def o35 (P : Params) : Obj := ⟨(.type y6), none, (.seq #[] 0), #[]⟩
noncomputable def o36 (P : Params) : Obj := ⟨.none, none, (.func { name := z223, qualname := z223, params := sArgs (stAt 1), body := .stmts (sBody (stAt 1)), scope := sScope (stAt 1), globals := 0, closure := [], defaults := .none, kwdefaults := .none, doc := .none, pyModule := .none, annotations := none, code := .none, closureTuple := .none, builtins := 0 }), #[]⟩
noncomputable def o37 (P : Params) : Obj := ⟨(.type y12), none, (.fields #[(.str z223 282), (.str z223 283), (.str z174 284), (.int 2 0), (.int 1 0), (.int 0 0), (.int 0 0), (.int 3 0), (.ref 32), (.bool true), (.int 276 0), (.ref 33), .none, (.ref 34), (.ref 35), (.ref 36), (.int 286 0), (.int 2 0), (.str z174 287)]), #[]⟩
noncomputable def o38 (P : Params) : Obj := ⟨(.type y18), none, (.func { name := z223, qualname := z223, params := sArgs (stAt 1), body := .stmts (sBody (stAt 1)), scope := sScope (stAt 1), globals := 3, closure := [], defaults := .none, kwdefaults := .none, doc := .none, pyModule := (.str z160 164), annotations := none, code := (.ref 37), closureTuple := .none, builtins := 0 }), #[]⟩
noncomputable def o39 (P : Params) : Obj := ⟨(.type y1), none, (.seq #[(.int 14 294), (.int 14 295), (.int 4 296), (.int 1 297), (.int 1 298), (.int 9 299), (.int 0 300), (.int 4227896069 301), (.int 939524097 302), (.int 0 303), (.int 0 304), (.int 0 305), (.int 0 306), (.int 0 307), (.int 0 308), (.int 13 309), (.int 11 310), (.int 9 311), (.int 0 312), (.int 4227896069 313), (.int 939524097 314), (.int 0 315), (.int 0 316), (.int 0 317), (.int 0 318), (.int 0 319), (.int 0 320), (.int 1 321)] 0), #[]⟩
noncomputable def o40 (P : Params) : Obj := ⟨(.type y0), none, (.dict #[] 0), #[]⟩
noncomputable def o41 (P : Params) : Obj := ⟨(.type y6), none, (.seq #[.none] 0), #[]⟩
noncomputable def o42 (P : Params) : Obj := ⟨(.type y6), none, (.seq #[(.int 14 0), (.int 14 0), (.int 4 0), (.int 1 0), (.int 1 0), (.int 9 0), (.int 0 0), (.int 4227896069 0), (.int 939524097 0), (.int 0 0), (.int 0 0), (.int 0 0), (.int 0 0), (.int 0 0), (.int 0 0), (.int 13 0), (.int 11 0), (.int 9 0), (.int 0 0), (.int 4227896069 0), (.int 939524097 0), (.int 0 0), (.int 0 0), (.int 0 0), (.int 0 0), (.int 0 0), (.int 0 0), (.int 1 0)] 0), #[]⟩
noncomputable def o43 (P : Params) : Obj := ⟨(.type y19), none, (.fields #[(.str z232 292), (.int 32 323), (.int 0 0), .none, .none, (.ref 42), (.int 0 0)]), #[]⟩
noncomputable def o44 (P : Params) : Obj := ⟨(.type y1), none, (.seq #[(.int 14 328), (.int 10 329), (.int 4 330), (.int 1 331), (.int 1 332), (.int 22 333), (.int 0 334), (.int 31 335), (.int 16 336), (.int 127 337), (.int 0 338), (.int 13 339), (.int 7 340), (.int 22 341), (.int 0 342), (.int 31 343), (.int 16 344), (.int 127 345), (.int 0 346), (.int 1 347)] 0), #[]⟩
noncomputable def o45 (P : Params) : Obj := ⟨(.type y0), none, (.dict #[] 0), #[]⟩
noncomputable def o46 (P : Params) : Obj := ⟨(.type y6), none, (.seq #[.none] 0), #[]⟩
noncomputable def o47 (P : Params) : Obj := ⟨(.type y6), none, (.seq #[(.int 14 0), (.int 10 0), (.int 4 0), (.int 1 0), (.int 1 0), (.int 22 0), (.int 0 0), (.int 31 0), (.int 16 0), (.int 127 0), (.int 0 0), (.int 13 0), (.int 7 0), (.int 22 0), (.int 0 0), (.int 31 0), (.int 16 0), (.int 127 0), (.int 0 0), (.int 1 0)] 0), #[]⟩
noncomputable def o48 (P : Params) : Obj := ⟨(.type y19), none, (.fields #[(.str z233 326), (.int 32 349), (.int 0 0), .none, .none, (.ref 47), (.int 0 0)]), #[]⟩
noncomputable def o49 (P : Params) : Obj := ⟨(.type y1), none, (.seq #[(.int 14 354), (.int 14 355), (.int 4 356), (.int 1 357), (.int 1 358), (.int 9 359), (.int 4294966783 360), (.int 0 361), (.int 0 362), (.int 2147483648 363), (.int 0 364), (.int 0 365), (.int 0 366), (.int 0 367), (.int 0 368), (.int 13 369), (.int 11 370), (.int 9 371), (.int 4294966783 372), (.int 0 373), (.int 0 374), (.int 2147483648 375), (.int 0 376), (.int 0 377), (.int 0 378), (.int 0 379), (.int 0 380), (.int 1 381)] 0), #[]⟩
noncomputable def o50 (P : Params) : Obj := ⟨(.type y0), none, (.dict #[] 0), #[]⟩
noncomputable def o51 (P : Params) : Obj := ⟨(.type y6), none, (.seq #[.none] 0), #[]⟩
noncomputable def o52 (P : Params) : Obj := ⟨(.type y6), none, (.seq #[(.int 14 0), (.int 14 0), (.int 4 0), (.int 1 0), (.int 1 0), (.int 9 0), (.int 4294966783 0), (.int 0 0), (.int 0 0), (.int 2147483648 0), (.int 0 0), (.int 0 0), (.int 0 0), (.int 0 0), (.int 0 0), (.int 13 0), (.int 11 0), (.int 9 0), (.int 4294966783 0), (.int 0 0), (.int 0 0), (.int 2147483648 0), (.int 0 0), (.int 0 0), (.int 0 0), (.int 0 0), (.int 0 0), (.int 1 0)] 0), #[]⟩
noncomputable def o53 (P : Params) : Obj := ⟨(.type y19), none, (.fields #[(.str z234 352), (.int 32 383), (.int 0 0), .none, .none, (.ref 52), (.int 0 0)]), #[]⟩
noncomputable def o54 (P : Params) : Obj := ⟨(.type y6), none, (.seq #[.none, (.int 1 385)] 0), #[]⟩
noncomputable def o55 (P : Params) : Obj := ⟨(.type y6), none, (.seq #[] 0), #[]⟩
noncomputable def o56 (P : Params) : Obj := ⟨.none, none, (.fields #[]), #[]⟩
noncomputable def o57 (P : Params) : Obj := ⟨(.type y6), none, (.seq #[(.str z235 389), (.str z236 390), (.str z237 391)] 0), #[]⟩
noncomputable def o58 (P : Params) : Obj := ⟨(.type y6), none, (.seq #[] 0), #[]⟩
noncomputable def o59 (P : Params) : Obj := ⟨.none, none, (.func { name := z227, qualname := z227, params := sArgs (stAt 6), body := .stmts (sBody (stAt 6)), scope := sScope (stAt 6), globals := 0, closure := [], defaults := .none, kwdefaults := .none, doc := .none, pyModule := .none, annotations := none, code := .none, closureTuple := .none, builtins := 0 }), #[]⟩
noncomputable def o60 (P : Params) : Obj := ⟨(.type y12), none, (.fields #[(.str z227 386), (.str z227 387), (.str z174 388), (.int 9 0), (.int 3 0), (.int 0 0), (.int 0 0), (.int 3 0), (.ref 55), (.bool true), (.int 276 0), (.ref 56), .none, (.ref 57), (.ref 58), (.ref 59), (.int 392 0), (.int 9 0), (.str z174 393)]), #[]⟩
noncomputable def o61 (P : Params) : Obj := ⟨(.type y18), none, (.func { name := z227, qualname := z227, params := sArgs (stAt 6), body := .stmts (sBody (stAt 6)), scope := sScope (stAt 6), globals := 3, closure := [], defaults := (.ref 54), kwdefaults := .none, doc := .none, pyModule := (.str z238 289), annotations := none, code := (.ref 60), closureTuple := .none, builtins := 0 }), #[]⟩
noncomputable def o62 (P : Params) : Obj := ⟨(.type y6), none, (.seq #[] 0), #[]⟩
noncomputable def o63 (P : Params) : Obj := ⟨(.type y20), none, (.fields #[(.builtin s10062305145149207511x16), (.type y7)]), #[]⟩
noncomputable def ck33 (P : Params) : List DictEntry := [en P z189 (nat_lit 402) (.str z238 289), en P z239 (nat_lit 404) (.str z228 403), en P z191 (nat_lit 406) (.int 18 405), en P z214 (nat_lit 416) (.ref 76), en P z240 (nat_lit 426) (.ref 83), en P z241 (nat_lit 433) (.ref 90), en P z242 (nat_lit 442) (.ref 97), en P z243 (nat_lit 448) (.ref 102)]
noncomputable def ck34 (P : Params) : List DictEntry := [en P z244 (nat_lit 456) (.ref 109), en P z245 (nat_lit 464) (.ref 116), en P z246 (nat_lit 472) (.ref 123), en P z247 (nat_lit 483) (.ref 131), en P z248 (nat_lit 489) (.ref 136), en P z249 (nat_lit 495) (.ref 141), en P z250 (nat_lit 502) (.ref 148), en P z215 (nat_lit 509) (.ref 155)]
noncomputable def ck35 (P : Params) : List DictEntry := [en P z251 (nat_lit 515) (.ref 160), en P z252 (nat_lit 522) (.ref 167), en P z253 (nat_lit 531) (.ref 174), en P z254 (nat_lit 544) (.ref 181), en P z201 (nat_lit 546) (.ref 182)]
noncomputable def o64 (P : Params) : Obj := ⟨(.type y0), none, (.dict ((ck33 P) ++ ((ck34 P) ++ (ck35 P))).toArray 21), #[]⟩
noncomputable def o65 (P : Params) : Obj := ⟨(.type y6), none, (.seq #[] 0), #[]⟩
noncomputable def o66 (P : Params) : Obj := ⟨.none, none, (.fields #[(.int 20 0), (.int 4 0), (.ref 75), (.int 30 0), (.int 4 0), (.ref 82), (.int 38 0), (.int 4 0), (.ref 89), (.int 41 0), (.int 4 0), (.ref 96), (.int 45 0), (.int 4 0), (.ref 101), (.int 49 0), (.int 4 0), (.ref 108), (.int 52 0), (.int 4 0), (.ref 115), (.int 55 0), (.int 4 0), (.ref 122), (.int 58 0), (.int 4 0), (.ref 130), (.int 65 0), (.int 4 0), (.ref 135), (.int 68 0), (.int 4 0), (.ref 140), (.int 71 0), (.int 4 0), (.ref 147), (.int 74 0), (.int 4 0), (.ref 154), (.int 77 0), (.int 4 0), (.ref 159), (.int 80 0), (.int 4 0), (.ref 166), (.int 83 0), (.int 4 0), (.ref 173), (.int 86 0), (.int 4 0), (.ref 180)]), #[]⟩
noncomputable def o67 (P : Params) : Obj := ⟨(.type y12), none, (.fields #[(.str z228 397), (.str z228 398), (.str z174 399), (.int 18 0), (.int 0 0), (.int 0 0), (.int 0 0), (.int 0 0), (.ref 65), (.bool false), (.int 276 0), (.ref 66), .none, .none, .none, .none, (.int 400 0), (.int 18 0), (.str z174 401)]), #[]⟩
noncomputable def o68 (P : Params) : Obj := ⟨(.type y13), none, .plain, #[(some (.ref 67)), (some (.ref 3)), (some (.ref 64)), none, (some (.str z238 289)), none, (some (.ref 0))]⟩
noncomputable def o69 (P : Params) : Obj := ⟨(.type y6), none, (.seq #[.none] 0), #[]⟩
noncomputable def o70 (P : Params) : Obj := ⟨(.type y6), none, (.seq #[] 0), #[]⟩
noncomputable def o71 (P : Params) : Obj := ⟨.none, none, (.fields #[]), #[]⟩
noncomputable def o72 (P : Params) : Obj := ⟨(.type y6), none, (.seq #[(.str z255 410), (.str z256 411), (.str z231 412), (.str z257 413)] 0), #[]⟩
noncomputable def o73 (P : Params) : Obj := ⟨(.type y6), none, (.seq #[] 0), #[]⟩
noncomputable def o74 (P : Params) : Obj := ⟨.none, none, (.func { name := z214, qualname := z258, params := sArgs (stIn 7 0), body := .stmts (sBody (stIn 7 0)), scope := sScope (stIn 7 0), globals := 0, closure := [], defaults := .none, kwdefaults := .none, doc := .none, pyModule := .none, annotations := none, code := .none, closureTuple := .none, builtins := 0 }), #[]⟩
noncomputable def o75 (P : Params) : Obj := ⟨(.type y12), none, (.fields #[(.str z214 407), (.str z258 408), (.str z174 409), (.int 20 0), (.int 2 0), (.int 0 0), (.int 0 0), (.int 3 0), (.ref 70), (.bool true), (.int 276 0), (.ref 71), .none, (.ref 72), (.ref 73), (.ref 74), (.int 414 0), (.int 20 0), (.str z174 415)]), #[]⟩
noncomputable def o76 (P : Params) : Obj := ⟨(.type y18), none, (.func { name := z214, qualname := z258, params := sArgs (stIn 7 0), body := .stmts (sBody (stIn 7 0)), scope := sScope (stIn 7 0), globals := 3, closure := [], defaults := (.ref 69), kwdefaults := .none, doc := .none, pyModule := (.str z238 289), annotations := none, code := (.ref 75), closureTuple := .none, builtins := 0 }), #[]⟩
noncomputable def o77 (P : Params) : Obj := ⟨(.type y6), none, (.seq #[] 0), #[]⟩
noncomputable def o78 (P : Params) : Obj := ⟨.none, none, (.fields #[]), #[]⟩
noncomputable def o79 (P : Params) : Obj := ⟨(.type y6), none, (.seq #[(.str z255 420), (.str z236 421), (.str z205 422), (.str z259 423)] 0), #[]⟩
noncomputable def o80 (P : Params) : Obj := ⟨(.type y6), none, (.seq #[] 0), #[]⟩
noncomputable def o81 (P : Params) : Obj := ⟨.none, none, (.func { name := z240, qualname := z260, params := sArgs (stIn 7 1), body := .stmts (sBody (stIn 7 1)), scope := sScope (stIn 7 1), globals := 0, closure := [], defaults := .none, kwdefaults := .none, doc := .none, pyModule := .none, annotations := none, code := .none, closureTuple := .none, builtins := 0 }), #[]⟩
noncomputable def o82 (P : Params) : Obj := ⟨(.type y12), none, (.fields #[(.str z240 417), (.str z260 418), (.str z174 419), (.int 30 0), (.int 2 0), (.int 0 0), (.int 1 0), (.int 3 0), (.ref 77), (.bool true), (.int 276 0), (.ref 78), .none, (.ref 79), (.ref 80), (.ref 81), (.int 424 0), (.int 30 0), (.str z174 425)]), #[]⟩
noncomputable def o83 (P : Params) : Obj := ⟨(.type y18), none, (.func { name := z240, qualname := z260, params := sArgs (stIn 7 1), body := .stmts (sBody (stIn 7 1)), scope := sScope (stIn 7 1), globals := 3, closure := [], defaults := .none, kwdefaults := .none, doc := .none, pyModule := (.str z238 289), annotations := none, code := (.ref 82), closureTuple := .none, builtins := 0 }), #[]⟩
noncomputable def o84 (P : Params) : Obj := ⟨(.type y6), none, (.seq #[] 0), #[]⟩
noncomputable def o85 (P : Params) : Obj := ⟨.none, none, (.fields #[]), #[]⟩
noncomputable def o86 (P : Params) : Obj := ⟨(.type y6), none, (.seq #[(.str z255 430)] 0), #[]⟩
noncomputable def o87 (P : Params) : Obj := ⟨(.type y6), none, (.seq #[] 0), #[]⟩
noncomputable def o88 (P : Params) : Obj := ⟨.none, none, (.func { name := z241, qualname := z261, params := sArgs (stIn 7 2), body := .stmts (sBody (stIn 7 2)), scope := sScope (stIn 7 2), globals := 0, closure := [], defaults := .none, kwdefaults := .none, doc := .none, pyModule := .none, annotations := none, code := .none, closureTuple := .none, builtins := 0 }), #[]⟩
noncomputable def o89 (P : Params) : Obj := ⟨(.type y12), none, (.fields #[(.str z241 427), (.str z261 428), (.str z174 429), (.int 38 0), (.int 1 0), (.int 0 0), (.int 0 0), (.int 3 0), (.ref 84), (.bool true), (.int 276 0), (.ref 85), .none, (.ref 86), (.ref 87), (.ref 88), (.int 431 0), (.int 38 0), (.str z174 432)]), #[]⟩
noncomputable def o90 (P : Params) : Obj := ⟨(.type y18), none, (.func { name := z241, qualname := z261, params := sArgs (stIn 7 2), body := .stmts (sBody (stIn 7 2)), scope := sScope (stIn 7 2), globals := 3, closure := [], defaults := .none, kwdefaults := .none, doc := .none, pyModule := (.str z238 289), annotations := none, code := (.ref 89), closureTuple := .none, builtins := 0 }), #[]⟩
noncomputable def o91 (P : Params) : Obj := ⟨(.type y6), none, (.seq #[] 0), #[]⟩
noncomputable def o92 (P : Params) : Obj := ⟨.none, none, (.fields #[]), #[]⟩
noncomputable def o93 (P : Params) : Obj := ⟨(.type y6), none, (.seq #[(.str z255 437), (.str z205 438), (.str z262 439)] 0), #[]⟩
noncomputable def o94 (P : Params) : Obj := ⟨(.type y6), none, (.seq #[] 0), #[]⟩
noncomputable def o95 (P : Params) : Obj := ⟨.none, none, (.func { name := z242, qualname := z263, params := sArgs (stIn 7 3), body := .stmts (sBody (stIn 7 3)), scope := sScope (stIn 7 3), globals := 0, closure := [], defaults := .none, kwdefaults := .none, doc := .none, pyModule := .none, annotations := none, code := .none, closureTuple := .none, builtins := 0 }), #[]⟩
noncomputable def o96 (P : Params) : Obj := ⟨(.type y12), none, (.fields #[(.str z242 434), (.str z263 435), (.str z174 436), (.int 41 0), (.int 3 0), (.int 0 0), (.int 0 0), (.int 3 0), (.ref 91), (.bool true), (.int 276 0), (.ref 92), .none, (.ref 93), (.ref 94), (.ref 95), (.int 440 0), (.int 41 0), (.str z174 441)]), #[]⟩
noncomputable def o97 (P : Params) : Obj := ⟨(.type y18), none, (.func { name := z242, qualname := z263, params := sArgs (stIn 7 3), body := .stmts (sBody (stIn 7 3)), scope := sScope (stIn 7 3), globals := 3, closure := [], defaults := .none, kwdefaults := .none, doc := .none, pyModule := (.str z238 289), annotations := none, code := (.ref 96), closureTuple := .none, builtins := 0 }), #[]⟩
noncomputable def o98 (P : Params) : Obj := ⟨(.type y6), none, (.seq #[] 0), #[]⟩
noncomputable def o99 (P : Params) : Obj := ⟨.none, none, (.fields #[]), #[]⟩
noncomputable def o100 (P : Params) : Obj := ⟨.none, none, (.func { name := z243, qualname := z264, params := sArgs (stIn 7 4), body := .stmts (sBody (stIn 7 4)), scope := sScope (stIn 7 4), globals := 0, closure := [], defaults := .none, kwdefaults := .none, doc := .none, pyModule := .none, annotations := none, code := .none, closureTuple := .none, builtins := 0 }), #[]⟩
noncomputable def o101 (P : Params) : Obj := ⟨(.type y12), none, (.fields #[(.str z243 443), (.str z264 444), (.str z174 445), (.int 45 0), (.int 2 0), (.int 0 0), (.int 0 0), (.int 3 0), (.ref 98), (.bool true), (.int 276 0), (.ref 99), .none, .none, .none, (.ref 100), (.int 446 0), (.int 45 0), (.str z174 447)]), #[]⟩
noncomputable def o102 (P : Params) : Obj := ⟨(.type y18), none, (.func { name := z243, qualname := z264, params := sArgs (stIn 7 4), body := .stmts (sBody (stIn 7 4)), scope := sScope (stIn 7 4), globals := 3, closure := [], defaults := .none, kwdefaults := .none, doc := .none, pyModule := (.str z238 289), annotations := none, code := (.ref 101), closureTuple := .none, builtins := 0 }), #[]⟩
noncomputable def o103 (P : Params) : Obj := ⟨(.type y6), none, (.seq #[] 0), #[]⟩
noncomputable def o104 (P : Params) : Obj := ⟨.none, none, (.fields #[]), #[]⟩
noncomputable def o105 (P : Params) : Obj := ⟨(.type y6), none, (.seq #[(.str z255 452), (.str z205 453)] 0), #[]⟩
noncomputable def o106 (P : Params) : Obj := ⟨(.type y6), none, (.seq #[] 0), #[]⟩
noncomputable def o107 (P : Params) : Obj := ⟨.none, none, (.func { name := z244, qualname := z265, params := sArgs (stIn 7 5), body := .stmts (sBody (stIn 7 5)), scope := sScope (stIn 7 5), globals := 0, closure := [], defaults := .none, kwdefaults := .none, doc := .none, pyModule := .none, annotations := none, code := .none, closureTuple := .none, builtins := 0 }), #[]⟩
noncomputable def o108 (P : Params) : Obj := ⟨(.type y12), none, (.fields #[(.str z244 449), (.str z265 450), (.str z174 451), (.int 49 0), (.int 2 0), (.int 0 0), (.int 0 0), (.int 3 0), (.ref 103), (.bool true), (.int 276 0), (.ref 104), .none, (.ref 105), (.ref 106), (.ref 107), (.int 454 0), (.int 49 0), (.str z174 455)]), #[]⟩
noncomputable def o109 (P : Params) : Obj := ⟨(.type y18), none, (.func { name := z244, qualname := z265, params := sArgs (stIn 7 5), body := .stmts (sBody (stIn 7 5)), scope := sScope (stIn 7 5), globals := 3, closure := [], defaults := .none, kwdefaults := .none, doc := .none, pyModule := (.str z238 289), annotations := none, code := (.ref 108), closureTuple := .none, builtins := 0 }), #[]⟩
noncomputable def o110 (P : Params) : Obj := ⟨(.type y6), none, (.seq #[] 0), #[]⟩
noncomputable def o111 (P : Params) : Obj := ⟨.none, none, (.fields #[]), #[]⟩
noncomputable def o112 (P : Params) : Obj := ⟨(.type y6), none, (.seq #[(.str z255 460), (.str z205 461)] 0), #[]⟩
noncomputable def o113 (P : Params) : Obj := ⟨(.type y6), none, (.seq #[] 0), #[]⟩
noncomputable def o114 (P : Params) : Obj := ⟨.none, none, (.func { name := z245, qualname := z266, params := sArgs (stIn 7 6), body := .stmts (sBody (stIn 7 6)), scope := sScope (stIn 7 6), globals := 0, closure := [], defaults := .none, kwdefaults := .none, doc := .none, pyModule := .none, annotations := none, code := .none, closureTuple := .none, builtins := 0 }), #[]⟩
noncomputable def o115 (P : Params) : Obj := ⟨(.type y12), none, (.fields #[(.str z245 457), (.str z266 458), (.str z174 459), (.int 52 0), (.int 2 0), (.int 0 0), (.int 0 0), (.int 3 0), (.ref 110), (.bool true), (.int 276 0), (.ref 111), .none, (.ref 112), (.ref 113), (.ref 114), (.int 462 0), (.int 52 0), (.str z174 463)]), #[]⟩
noncomputable def o116 (P : Params) : Obj := ⟨(.type y18), none, (.func { name := z245, qualname := z266, params := sArgs (stIn 7 6), body := .stmts (sBody (stIn 7 6)), scope := sScope (stIn 7 6), globals := 3, closure := [], defaults := .none, kwdefaults := .none, doc := .none, pyModule := (.str z238 289), annotations := none, code := (.ref 115), closureTuple := .none, builtins := 0 }), #[]⟩
noncomputable def o117 (P : Params) : Obj := ⟨(.type y6), none, (.seq #[] 0), #[]⟩
noncomputable def o118 (P : Params) : Obj := ⟨.none, none, (.fields #[]), #[]⟩
noncomputable def o119 (P : Params) : Obj := ⟨(.type y6), none, (.seq #[(.str z255 468), (.str z205 469)] 0), #[]⟩
noncomputable def o120 (P : Params) : Obj := ⟨(.type y6), none, (.seq #[] 0), #[]⟩
noncomputable def o121 (P : Params) : Obj := ⟨.none, none, (.func { name := z246, qualname := z267, params := sArgs (stIn 7 7), body := .stmts (sBody (stIn 7 7)), scope := sScope (stIn 7 7), globals := 0, closure := [], defaults := .none, kwdefaults := .none, doc := .none, pyModule := .none, annotations := none, code := .none, closureTuple := .none, builtins := 0 }), #[]⟩
noncomputable def o122 (P : Params) : Obj := ⟨(.type y12), none, (.fields #[(.str z246 465), (.str z267 466), (.str z174 467), (.int 55 0), (.int 2 0), (.int 0 0), (.int 0 0), (.int 3 0), (.ref 117), (.bool true), (.int 276 0), (.ref 118), .none, (.ref 119), (.ref 120), (.ref 121), (.int 470 0), (.int 55 0), (.str z174 471)]), #[]⟩
noncomputable def o123 (P : Params) : Obj := ⟨(.type y18), none, (.func { name := z246, qualname := z267, params := sArgs (stIn 7 7), body := .stmts (sBody (stIn 7 7)), scope := sScope (stIn 7 7), globals := 3, closure := [], defaults := .none, kwdefaults := .none, doc := .none, pyModule := (.str z238 289), annotations := none, code := (.ref 122), closureTuple := .none, builtins := 0 }), #[]⟩
noncomputable def o124 (P : Params) : Obj := ⟨(.type y6), none, (.seq #[.none] 0), #[]⟩
noncomputable def o125 (P : Params) : Obj := ⟨(.type y6), none, (.seq #[] 0), #[]⟩
noncomputable def o126 (P : Params) : Obj := ⟨.none, none, (.fields #[]), #[]⟩
noncomputable def o127 (P : Params) : Obj := ⟨(.type y6), none, (.seq #[(.str z255 476), (.str z205 477), (.str z268 478), (.str z231 479), (.str z257 480)] 0), #[]⟩
noncomputable def o128 (P : Params) : Obj := ⟨(.type y6), none, (.seq #[] 0), #[]⟩
noncomputable def o129 (P : Params) : Obj := ⟨.none, none, (.func { name := z247, qualname := z269, params := sArgs (stIn 7 8), body := .stmts (sBody (stIn 7 8)), scope := sScope (stIn 7 8), globals := 0, closure := [], defaults := .none, kwdefaults := .none, doc := .none, pyModule := .none, annotations := none, code := .none, closureTuple := .none, builtins := 0 }), #[]⟩
noncomputable def o130 (P : Params) : Obj := ⟨(.type y12), none, (.fields #[(.str z247 473), (.str z269 474), (.str z174 475), (.int 58 0), (.int 3 0), (.int 0 0), (.int 0 0), (.int 3 0), (.ref 125), (.bool true), (.int 276 0), (.ref 126), .none, (.ref 127), (.ref 128), (.ref 129), (.int 481 0), (.int 58 0), (.str z174 482)]), #[]⟩
noncomputable def o131 (P : Params) : Obj := ⟨(.type y18), none, (.func { name := z247, qualname := z269, params := sArgs (stIn 7 8), body := .stmts (sBody (stIn 7 8)), scope := sScope (stIn 7 8), globals := 3, closure := [], defaults := (.ref 124), kwdefaults := .none, doc := .none, pyModule := (.str z238 289), annotations := none, code := (.ref 130), closureTuple := .none, builtins := 0 }), #[]⟩
noncomputable def o132 (P : Params) : Obj := ⟨(.type y6), none, (.seq #[] 0), #[]⟩
noncomputable def o133 (P : Params) : Obj := ⟨.none, none, (.fields #[]), #[]⟩
noncomputable def o134 (P : Params) : Obj := ⟨.none, none, (.func { name := z248, qualname := z270, params := sArgs (stIn 7 9), body := .stmts (sBody (stIn 7 9)), scope := sScope (stIn 7 9), globals := 0, closure := [], defaults := .none, kwdefaults := .none, doc := .none, pyModule := .none, annotations := none, code := .none, closureTuple := .none, builtins := 0 }), #[]⟩
noncomputable def o135 (P : Params) : Obj := ⟨(.type y12), none, (.fields #[(.str z248 484), (.str z270 485), (.str z174 486), (.int 65 0), (.int 1 0), (.int 0 0), (.int 0 0), (.int 3 0), (.ref 132), (.bool true), (.int 276 0), (.ref 133), .none, .none, .none, (.ref 134), (.int 487 0), (.int 65 0), (.str z174 488)]), #[]⟩
noncomputable def o136 (P : Params) : Obj := ⟨(.type y18), none, (.func { name := z248, qualname := z270, params := sArgs (stIn 7 9), body := .stmts (sBody (stIn 7 9)), scope := sScope (stIn 7 9), globals := 3, closure := [], defaults := .none, kwdefaults := .none, doc := .none, pyModule := (.str z238 289), annotations := none, code := (.ref 135), closureTuple := .none, builtins := 0 }), #[]⟩
noncomputable def o137 (P : Params) : Obj := ⟨(.type y6), none, (.seq #[] 0), #[]⟩
noncomputable def o138 (P : Params) : Obj := ⟨.none, none, (.fields #[]), #[]⟩
noncomputable def o139 (P : Params) : Obj := ⟨.none, none, (.func { name := z249, qualname := z271, params := sArgs (stIn 7 10), body := .stmts (sBody (stIn 7 10)), scope := sScope (stIn 7 10), globals := 0, closure := [], defaults := .none, kwdefaults := .none, doc := .none, pyModule := .none, annotations := none, code := .none, closureTuple := .none, builtins := 0 }), #[]⟩
noncomputable def o140 (P : Params) : Obj := ⟨(.type y12), none, (.fields #[(.str z249 490), (.str z271 491), (.str z174 492), (.int 68 0), (.int 1 0), (.int 0 0), (.int 0 0), (.int 3 0), (.ref 137), (.bool true), (.int 276 0), (.ref 138), .none, .none, .none, (.ref 139), (.int 493 0), (.int 68 0), (.str z174 494)]), #[]⟩
noncomputable def o141 (P : Params) : Obj := ⟨(.type y18), none, (.func { name := z249, qualname := z271, params := sArgs (stIn 7 10), body := .stmts (sBody (stIn 7 10)), scope := sScope (stIn 7 10), globals := 3, closure := [], defaults := .none, kwdefaults := .none, doc := .none, pyModule := (.str z238 289), annotations := none, code := (.ref 140), closureTuple := .none, builtins := 0 }), #[]⟩
noncomputable def o142 (P : Params) : Obj := ⟨(.type y6), none, (.seq #[] 0), #[]⟩
noncomputable def o143 (P : Params) : Obj := ⟨.none, none, (.fields #[]), #[]⟩
noncomputable def o144 (P : Params) : Obj := ⟨(.type y6), none, (.seq #[(.str z255 499)] 0), #[]⟩
noncomputable def o145 (P : Params) : Obj := ⟨(.type y6), none, (.seq #[] 0), #[]⟩
noncomputable def o146 (P : Params) : Obj := ⟨.none, none, (.func { name := z250, qualname := z272, params := sArgs (stIn 7 11), body := .stmts (sBody (stIn 7 11)), scope := sScope (stIn 7 11), globals := 0, closure := [], defaults := .none, kwdefaults := .none, doc := .none, pyModule := .none, annotations := none, code := .none, closureTuple := .none, builtins := 0 }), #[]⟩
noncomputable def o147 (P : Params) : Obj := ⟨(.type y12), none, (.fields #[(.str z250 496), (.str z272 497), (.str z174 498), (.int 71 0), (.int 1 0), (.int 0 0), (.int 0 0), (.int 3 0), (.ref 142), (.bool true), (.int 276 0), (.ref 143), .none, (.ref 144), (.ref 145), (.ref 146), (.int 500 0), (.int 71 0), (.str z174 501)]), #[]⟩
noncomputable def o148 (P : Params) : Obj := ⟨(.type y18), none, (.func { name := z250, qualname := z272, params := sArgs (stIn 7 11), body := .stmts (sBody (stIn 7 11)), scope := sScope (stIn 7 11), globals := 3, closure := [], defaults := .none, kwdefaults := .none, doc := .none, pyModule := (.str z238 289), annotations := none, code := (.ref 147), closureTuple := .none, builtins := 0 }), #[]⟩
noncomputable def o149 (P : Params) : Obj := ⟨(.type y6), none, (.seq #[] 0), #[]⟩
noncomputable def o150 (P : Params) : Obj := ⟨.none, none, (.fields #[]), #[]⟩
noncomputable def o151 (P : Params) : Obj := ⟨(.type y6), none, (.seq #[(.str z255 506)] 0), #[]⟩
noncomputable def o152 (P : Params) : Obj := ⟨(.type y6), none, (.seq #[] 0), #[]⟩
noncomputable def o153 (P : Params) : Obj := ⟨.none, none, (.func { name := z215, qualname := z273, params := sArgs (stIn 7 12), body := .stmts (sBody (stIn 7 12)), scope := sScope (stIn 7 12), globals := 0, closure := [], defaults := .none, kwdefaults := .none, doc := .none, pyModule := .none, annotations := none, code := .none, closureTuple := .none, builtins := 0 }), #[]⟩
noncomputable def o154 (P : Params) : Obj := ⟨(.type y12), none, (.fields #[(.str z215 503), (.str z273 504), (.str z174 505), (.int 74 0), (.int 1 0), (.int 0 0), (.int 0 0), (.int 3 0), (.ref 149), (.bool true), (.int 276 0), (.ref 150), .none, (.ref 151), (.ref 152), (.ref 153), (.int 507 0), (.int 74 0), (.str z174 508)]), #[]⟩
noncomputable def o155 (P : Params) : Obj := ⟨(.type y18), none, (.func { name := z215, qualname := z273, params := sArgs (stIn 7 12), body := .stmts (sBody (stIn 7 12)), scope := sScope (stIn 7 12), globals := 3, closure := [], defaults := .none, kwdefaults := .none, doc := .none, pyModule := (.str z238 289), annotations := none, code := (.ref 154), closureTuple := .none, builtins := 0 }), #[]⟩
noncomputable def o156 (P : Params) : Obj := ⟨(.type y6), none, (.seq #[] 0), #[]⟩
noncomputable def o157 (P : Params) : Obj := ⟨.none, none, (.fields #[]), #[]⟩
noncomputable def o158 (P : Params) : Obj := ⟨.none, none, (.func { name := z251, qualname := z274, params := sArgs (stIn 7 13), body := .stmts (sBody (stIn 7 13)), scope := sScope (stIn 7 13), globals := 0, closure := [], defaults := .none, kwdefaults := .none, doc := .none, pyModule := .none, annotations := none, code := .none, closureTuple := .none, builtins := 0 }), #[]⟩
noncomputable def o159 (P : Params) : Obj := ⟨(.type y12), none, (.fields #[(.str z251 510), (.str z274 511), (.str z174 512), (.int 77 0), (.int 1 0), (.int 0 0), (.int 0 0), (.int 3 0), (.ref 156), (.bool true), (.int 276 0), (.ref 157), .none, .none, .none, (.ref 158), (.int 513 0), (.int 77 0), (.str z174 514)]), #[]⟩
noncomputable def o160 (P : Params) : Obj := ⟨(.type y18), none, (.func { name := z251, qualname := z274, params := sArgs (stIn 7 13), body := .stmts (sBody (stIn 7 13)), scope := sScope (stIn 7 13), globals := 3, closure := [], defaults := .none, kwdefaults := .none, doc := .none, pyModule := (.str z238 289), annotations := none, code := (.ref 159), closureTuple := .none, builtins := 0 }), #[]⟩
noncomputable def o161 (P : Params) : Obj := ⟨(.type y6), none, (.seq #[] 0), #[]⟩
noncomputable def o162 (P : Params) : Obj := ⟨.none, none, (.fields #[]), #[]⟩
noncomputable def o163 (P : Params) : Obj := ⟨(.type y6), none, (.seq #[(.str z255 519)] 0), #[]⟩
noncomputable def o164 (P : Params) : Obj := ⟨(.type y6), none, (.seq #[] 0), #[]⟩
noncomputable def o165 (P : Params) : Obj := ⟨.none, none, (.func { name := z252, qualname := z275, params := sArgs (stIn 7 14), body := .stmts (sBody (stIn 7 14)), scope := sScope (stIn 7 14), globals := 0, closure := [], defaults := .none, kwdefaults := .none, doc := .none, pyModule := .none, annotations := none, code := .none, closureTuple := .none, builtins := 0 }), #[]⟩
noncomputable def o166 (P : Params) : Obj := ⟨(.type y12), none, (.fields #[(.str z252 516), (.str z275 517), (.str z174 518), (.int 80 0), (.int 1 0), (.int 0 0), (.int 0 0), (.int 3 0), (.ref 161), (.bool true), (.int 276 0), (.ref 162), .none, (.ref 163), (.ref 164), (.ref 165), (.int 520 0), (.int 80 0), (.str z174 521)]), #[]⟩
noncomputable def o167 (P : Params) : Obj := ⟨(.type y18), none, (.func { name := z252, qualname := z275, params := sArgs (stIn 7 14), body := .stmts (sBody (stIn 7 14)), scope := sScope (stIn 7 14), globals := 3, closure := [], defaults := .none, kwdefaults := .none, doc := .none, pyModule := (.str z238 289), annotations := none, code := (.ref 166), closureTuple := .none, builtins := 0 }), #[]⟩
noncomputable def o168 (P : Params) : Obj := ⟨(.type y6), none, (.seq #[] 0), #[]⟩
noncomputable def o169 (P : Params) : Obj := ⟨.none, none, (.fields #[]), #[]⟩
noncomputable def o170 (P : Params) : Obj := ⟨(.type y6), none, (.seq #[(.str z255 526), (.str z205 527), (.str z236 528)] 0), #[]⟩
noncomputable def o171 (P : Params) : Obj := ⟨(.type y6), none, (.seq #[] 0), #[]⟩
noncomputable def o172 (P : Params) : Obj := ⟨.none, none, (.func { name := z253, qualname := z276, params := sArgs (stIn 7 15), body := .stmts (sBody (stIn 7 15)), scope := sScope (stIn 7 15), globals := 0, closure := [], defaults := .none, kwdefaults := .none, doc := .none, pyModule := .none, annotations := none, code := .none, closureTuple := .none, builtins := 0 }), #[]⟩
noncomputable def o173 (P : Params) : Obj := ⟨(.type y12), none, (.fields #[(.str z253 523), (.str z276 524), (.str z174 525), (.int 83 0), (.int 3 0), (.int 0 0), (.int 0 0), (.int 3 0), (.ref 168), (.bool true), (.int 276 0), (.ref 169), .none, (.ref 170), (.ref 171), (.ref 172), (.int 529 0), (.int 83 0), (.str z174 530)]), #[]⟩
noncomputable def o174 (P : Params) : Obj := ⟨(.type y18), none, (.func { name := z253, qualname := z276, params := sArgs (stIn 7 15), body := .stmts (sBody (stIn 7 15)), scope := sScope (stIn 7 15), globals := 3, closure := [], defaults := .none, kwdefaults := .none, doc := .none, pyModule := (.str z238 289), annotations := none, code := (.ref 173), closureTuple := .none, builtins := 0 }), #[]⟩
noncomputable def o175 (P : Params) : Obj := ⟨(.type y6), none, (.seq #[] 0), #[]⟩
noncomputable def o176 (P : Params) : Obj := ⟨.none, none, (.fields #[]), #[]⟩
noncomputable def o177 (P : Params) : Obj := ⟨(.type y6), none, (.seq #[(.str z255 535), (.str z277 536), (.str z278 537), (.str z279 538), (.str z280 539), (.str z231 540), (.str z257 541)] 0), #[]⟩
noncomputable def o178 (P : Params) : Obj := ⟨(.type y6), none, (.seq #[] 0), #[]⟩
noncomputable def o179 (P : Params) : Obj := ⟨.none, none, (.func { name := z254, qualname := z281, params := sArgs (stIn 7 16), body := .stmts (sBody (stIn 7 16)), scope := sScope (stIn 7 16), globals := 0, closure := [], defaults := .none, kwdefaults := .none, doc := .none, pyModule := .none, annotations := none, code := .none, closureTuple := .none, builtins := 0 }), #[]⟩
noncomputable def o180 (P : Params) : Obj := ⟨(.type y12), none, (.fields #[(.str z254 532), (.str z281 533), (.str z174 534), (.int 86 0), (.int 3 0), (.int 0 0), (.int 0 0), (.int 11 0), (.ref 175), (.bool true), (.int 276 0), (.ref 176), .none, (.ref 177), (.ref 178), (.ref 179), (.int 542 0), (.int 86 0), (.str z174 543)]), #[]⟩
noncomputable def o181 (P : Params) : Obj := ⟨(.type y18), none, (.func { name := z254, qualname := z281, params := sArgs (stIn 7 16), body := .stmts (sBody (stIn 7 16)), scope := sScope (stIn 7 16), globals := 3, closure := [], defaults := .none, kwdefaults := .none, doc := .none, pyModule := (.str z238 289), annotations := none, code := (.ref 180), closureTuple := .none, builtins := 0 }), #[]⟩
noncomputable def o182 (P : Params) : Obj := ⟨(.type y6), none, (.seq #[(.str z282 545)] 0), #[]⟩
noncomputable def ck36 (P : Params) : List DictEntry := [en P z189 (nat_lit 402) (.str z238 289), en P z191 (nat_lit 406) (.int 18 405), en P z214 (nat_lit 416) (.ref 76), en P z240 (nat_lit 426) (.ref 83), en P z241 (nat_lit 433) (.ref 90), en P z242 (nat_lit 442) (.ref 97), en P z243 (nat_lit 448) (.ref 102), en P z244 (nat_lit 456) (.ref 109)]
noncomputable def ck37 (P : Params) : List DictEntry := [en P z245 (nat_lit 464) (.ref 116), en P z246 (nat_lit 472) (.ref 123), en P z247 (nat_lit 483) (.ref 131), en P z248 (nat_lit 489) (.ref 136), en P z249 (nat_lit 495) (.ref 141), en P z250 (nat_lit 502) (.ref 148), en P z215 (nat_lit 509) (.ref 155), en P z251 (nat_lit 515) (.ref 160)]
noncomputable def ck38 (P : Params) : List DictEntry := [en P z252 (nat_lit 522) (.ref 167), en P z253 (nat_lit 531) (.ref 174), en P z254 (nat_lit 544) (.ref 181), en P z201 (nat_lit 546) (.ref 182), en P z202 (nat_lit 548) (.ref 185), en P z203 (nat_lit 550) (.ref 186), en P z2 (nat_lit 551) .none]
noncomputable def o183 (P : Params) : Obj := ⟨(.type y0), none, (.dict ((ck36 P) ++ ((ck37 P) ++ (ck38 P))).toArray 4), #[]⟩
noncomputable def o184 (P : Params) : Obj := ⟨(.type y7), none, (.cls { name := z228, bases := [(.type y2)], mro := [(.ref 184), (.type y2)], ns := 183, qualname := z228, hasDict := true, slotNames := [], subclasses := [], abstract := false, collection := none, hasDel := false }), #[none, none, (some (.str z228 395)), (some (.str z228 403)), (some (.builtin s11443829558043349243x14)), (some (.bool true))]⟩
noncomputable def o185 (P : Params) : Obj := ⟨(.type y14), none, (.fields #[(.str z202 547), (.ref 184), (.builtin y15), (.builtin y16)]), #[]⟩
noncomputable def o186 (P : Params) : Obj := ⟨(.type y14), none, (.fields #[(.str z203 549), (.ref 184), (.builtin y17), .none]), #[]⟩
noncomputable def o187 (P : Params) : Obj := ⟨(.type y5), none, (.fields #[(.ref 184), (.ref 184), (.ref 184)]), #[]⟩
noncomputable def o188 (P : Params) : Obj := ⟨(.type y20), none, (.fields #[(.builtin s4860613602091757760x24), (.ref 184)]), #[]⟩
noncomputable def o189 (P : Params) : Obj := ⟨(.type y1), none, (.seq #[(.int 173 556), (.int 847 557), (.int 6150 558), (.int 6155 559), (.int 6156 560), (.int 6157 561), (.int 8203 562), (.int 8204 563), (.int 8205 564), (.int 8288 565), (.int 65279 566)] 0), #[]⟩
noncomputable def o190 (P : Params) : Obj := ⟨(.type y3), none, (.fields #[(.int 65024 567), (.int 65040 568), (.int 1 569)]), #[]⟩
noncomputable def o191 (P : Params) : Obj := ⟨(.type y1), none, (.seq #[(.int 65024 572), (.int 65025 573), (.int 65026 574), (.int 65027 575), (.int 65028 576), (.int 65029 577), (.int 65030 578), (.int 65031 579), (.int 65032 580), (.int 65033 581), (.int 65034 582), (.int 65035 583), (.int 65036 584), (.int 65037 585), (.int 65038 586), (.int 65039 587)] 18), #[]⟩
noncomputable def o192 (P : Params) : Obj := ⟨(.type s15992201931430999065x14), none, (.fields #[(.int 65040 0), (.int 0 0), (.int 1 0)]), #[]⟩
noncomputable def o193 (P : Params) : Obj := ⟨(.type y6), none, (.seq #[] 0), #[]⟩
noncomputable def o194 (P : Params) : Obj := ⟨(.type y9), none, (.fields #[(.ref 193), .none, .none, .none, (.bool false), .none]), #[]⟩
noncomputable def o195 (P : Params) : Obj := ⟨(.type y1), none, (.seq #[(.int 173 556), (.int 847 557), (.int 6150 558), (.int 6155 559), (.int 6156 560), (.int 6157 561), (.int 8203 562), (.int 8204 563), (.int 8205 564), (.int 8288 565), (.int 65279 566), (.int 65024 572), (.int 65025 573), (.int 65026 574), (.int 65027 575), (.int 65028 576), (.int 65029 577), (.int 65030 578), (.int 65031 579), (.int 65032 580), (.int 65033 581), (.int 65034 582), (.int 65035 583), (.int 65036 584), (.int 65037 585), (.int 65038 586), (.int 65039 587)] 0), #[]⟩
noncomputable def o196 (P : Params) : Obj := ⟨(.type y4), none, (.set #[(65024, (.int 65024 572)), (65025, (.int 65025 573)), (65026, (.int 65026 574)), (65027, (.int 65027 575)), (65028, (.int 65028 576)), (65029, (.int 65029 577)), (6150, (.int 6150 558)), (65030, (.int 65030 578)), (65031, (.int 65031 579)), (65032, (.int 65032 580)), (65033, (.int 65033 581)), (6155, (.int 6155 559)), (6156, (.int 6156 560)), (6157, (.int 6157 561)), (8203, (.int 8203 562)), (8204, (.int 8204 563)), (8205, (.int 8205 564)), (65034, (.int 65034 582)), (65035, (.int 65035 583)), (65036, (.int 65036 584)), (65037, (.int 65037 585)), (65038, (.int 65038 586)), (65039, (.int 65039 587)), (173, (.int 173 556)), (847, (.int 847 557)), (8288, (.int 8288 565)), (65279, (.int 65279 566))] 29 { mask := 127, place := #[0, 1, 2, 3, 4, 5, 6, 7, 8, 9, 10, 11, 12, 13, 14, 15, 16, 17, 18, 19, 20, 21, 22, 45, 79, 96, 127], dummies := #[], finger := 0, led := !(P.followText "set-order"), moves := 2, plain := true }), #[]⟩
noncomputable def o197 (P : Params) : Obj := ⟨(.type s3492446563574874994x13), none, (.fields #[.none, (.int 27 0)]), #[]⟩
noncomputable def o198 (P : Params) : Obj := ⟨(.type y6), none, (.seq #[] 0), #[]⟩
noncomputable def o199 (P : Params) : Obj := ⟨(.type y9), none, (.fields #[(.ref 198), .none, .none, .none, (.bool false), .none]), #[]⟩
noncomputable def o200 (P : Params) : Obj := ⟨(.type y6), none, (.seq #[] 0), #[]⟩
noncomputable def o201 (P : Params) : Obj := ⟨.none, none, (.fields #[]), #[]⟩
noncomputable def o202 (P : Params) : Obj := ⟨(.type y6), none, (.seq #[(.str z283 619)] 0), #[]⟩
noncomputable def o203 (P : Params) : Obj := ⟨(.type y6), none, (.seq #[] 0), #[]⟩
noncomputable def o204 (P : Params) : Obj := ⟨.none, none, (.func { name := z230, qualname := z230, params := sArgs (stAt 10), body := .stmts (sBody (stAt 10)), scope := sScope (stAt 10), globals := 0, closure := [], defaults := .none, kwdefaults := .none, doc := .none, pyModule := .none, annotations := none, code := .none, closureTuple := .none, builtins := 0 }), #[]⟩
noncomputable def o205 (P : Params) : Obj := ⟨(.type y12), none, (.fields #[(.str z230 616), (.str z230 617), (.str z174 618), (.int 101 0), (.int 1 0), (.int 0 0), (.int 0 0), (.int 3 0), (.ref 200), (.bool true), (.int 276 0), (.ref 201), .none, (.ref 202), (.ref 203), (.ref 204), (.int 620 0), (.int 101 0), (.str z174 621)]), #[]⟩
noncomputable def o206 (P : Params) : Obj := ⟨(.type y18), none, (.func { name := z230, qualname := z230, params := sArgs (stAt 10), body := .stmts (sBody (stAt 10)), scope := sScope (stAt 10), globals := 3, closure := [], defaults := .none, kwdefaults := .none, doc := .none, pyModule := (.str z222 554), annotations := none, code := (.ref 205), closureTuple := .none, builtins := 0 }), #[]⟩
noncomputable def bt13 (P : Params) : BT := (.node (o63 P) (.node (o127 P) .nil .nil) (.node (o191 P) .nil .nil))
noncomputable def bt14 (P : Params) : BT := (.node (o95 P) (.node (o159 P) .nil .nil) .nil)
noncomputable def bt15 (P : Params) : BT := (.node (o79 P) (.node (o143 P) .nil .nil) .nil)
noncomputable def bt16 (P : Params) : BT := (.node (o111 P) (.node (o175 P) .nil .nil) .nil)
noncomputable def bt17 (P : Params) : BT := (.node (o71 P) (.node (o135 P) .nil .nil) (.node (o199 P) .nil .nil))
noncomputable def bt18 (P : Params) : BT := (.node (o103 P) (.node (o167 P) .nil .nil) .nil)
noncomputable def bt19 (P : Params) : BT := (.node (o87 P) (.node (o151 P) .nil .nil) .nil)
noncomputable def bt20 (P : Params) : BT := (.node (o119 P) (.node (o183 P) .nil .nil) .nil)
noncomputable def bt21 (P : Params) : BT := (.node (o7 P) (.node (o15 P) (.node (o31 P) (bt13 P) (bt14 P)) (.node (o47 P) (bt15 P) (bt16 P))) (.node (o23 P) (.node (o39 P) (bt17 P) (bt18 P)) (.node (o55 P) (bt19 P) (bt20 P))))
noncomputable def bt22 (P : Params) : BT := (.node (o67 P) (.node (o131 P) .nil .nil) (.node (o195 P) .nil .nil))
noncomputable def bt23 (P : Params) : BT := (.node (o99 P) (.node (o163 P) .nil .nil) .nil)
noncomputable def bt24 (P : Params) : BT := (.node (o83 P) (.node (o147 P) .nil .nil) .nil)
noncomputable def bt25 (P : Params) : BT := (.node (o115 P) (.node (o179 P) .nil .nil) .nil)
noncomputable def bt26 (P : Params) : BT := (.node (o75 P) (.node (o139 P) .nil .nil) (.node (o203 P) .nil .nil))
noncomputable def bt27 (P : Params) : BT := (.node (o107 P) (.node (o171 P) .nil .nil) .nil)
noncomputable def bt28 (P : Params) : BT := (.node (o91 P) (.node (o155 P) .nil .nil) .nil)
noncomputable def bt29 (P : Params) : BT := (.node (o123 P) (.node (o187 P) .nil .nil) .nil)
noncomputable def bt30 (P : Params) : BT := (.node (o11 P) (.node (o19 P) (.node (o35 P) (bt22 P) (bt23 P)) (.node (o51 P) (bt24 P) (bt25 P))) (.node (o27 P) (.node (o43 P) (bt26 P) (bt27 P)) (.node (o59 P) (bt28 P) (bt29 P))))
noncomputable def bt31 (P : Params) : BT := (.node (o65 P) (.node (o129 P) .nil .nil) (.node (o193 P) .nil .nil))
noncomputable def bt32 (P : Params) : BT := (.node (o97 P) (.node (o161 P) .nil .nil) .nil)
noncomputable def bt33 (P : Params) : BT := (.node (o81 P) (.node (o145 P) .nil .nil) .nil)
noncomputable def bt34 (P : Params) : BT := (.node (o113 P) (.node (o177 P) .nil .nil) .nil)
noncomputable def bt35 (P : Params) : BT := (.node (o73 P) (.node (o137 P) .nil .nil) (.node (o201 P) .nil .nil))
noncomputable def bt36 (P : Params) : BT := (.node (o105 P) (.node (o169 P) .nil .nil) .nil)
noncomputable def bt37 (P : Params) : BT := (.node (o89 P) (.node (o153 P) .nil .nil) .nil)
noncomputable def bt38 (P : Params) : BT := (.node (o121 P) (.node (o185 P) .nil .nil) .nil)
noncomputable def bt39 (P : Params) : BT := (.node (o9 P) (.node (o17 P) (.node (o33 P) (bt31 P) (bt32 P)) (.node (o49 P) (bt33 P) (bt34 P))) (.node (o25 P) (.node (o41 P) (bt35 P) (bt36 P)) (.node (o57 P) (bt37 P) (bt38 P))))
noncomputable def bt40 (P : Params) : BT := (.node (o69 P) (.node (o133 P) .nil .nil) (.node (o197 P) .nil .nil))
noncomputable def bt41 (P : Params) : BT := (.node (o101 P) (.node (o165 P) .nil .nil) .nil)
noncomputable def bt42 (P : Params) : BT := (.node (o85 P) (.node (o149 P) .nil .nil) .nil)
noncomputable def bt43 (P : Params) : BT := (.node (o117 P) (.node (o181 P) .nil .nil) .nil)
noncomputable def bt44 (P : Params) : BT := (.node (o77 P) (.node (o141 P) .nil .nil) (.node (o205 P) .nil .nil))
noncomputable def bt45 (P : Params) : BT := (.node (o109 P) (.node (o173 P) .nil .nil) .nil)
noncomputable def bt46 (P : Params) : BT := (.node (o93 P) (.node (o157 P) .nil .nil) .nil)
noncomputable def bt47 (P : Params) : BT := (.node (o125 P) (.node (o189 P) .nil .nil) .nil)
noncomputable def bt48 (P : Params) : BT := (.node (o13 P) (.node (o21 P) (.node (o37 P) (bt40 P) (bt41 P)) (.node (o53 P) (bt42 P) (bt43 P))) (.node (o29v2 P) (.node (o45 P) (bt44 P) (bt45 P)) (.node (o61 P) (bt46 P) (bt47 P))))
noncomputable def bt49 (P : Params) : BT := (.node (o64 P) (.node (o128 P) .nil .nil) (.node (o192 P) .nil .nil))
noncomputable def bt50 (P : Params) : BT := (.node (o96 P) (.node (o160 P) .nil .nil) .nil)
noncomputable def bt51 (P : Params) : BT := (.node (o80 P) (.node (o144 P) .nil .nil) .nil)
noncomputable def bt52 (P : Params) : BT := (.node (o112 P) (.node (o176 P) .nil .nil) .nil)
noncomputable def bt53 (P : Params) : BT := (.node (o72 P) (.node (o136 P) .nil .nil) (.node (o200 P) .nil .nil))
noncomputable def bt54 (P : Params) : BT := (.node (o104 P) (.node (o168 P) .nil .nil) .nil)
noncomputable def bt55 (P : Params) : BT := (.node (o88 P) (.node (o152 P) .nil .nil) .nil)
noncomputable def bt56 (P : Params) : BT := (.node (o120 P) (.node (o184 P) .nil .nil) .nil)
noncomputable def bt57 (P : Params) : BT := (.node (o8 P) (.node (o16 P) (.node (o32 P) (bt49 P) (bt50 P)) (.node (o48 P) (bt51 P) (bt52 P))) (.node (o24 P) (.node (o40 P) (bt53 P) (bt54 P)) (.node (o56 P) (bt55 P) (bt56 P))))
noncomputable def bt58 (P : Params) : BT := (.node (o68 P) (.node (o132 P) .nil .nil) (.node (o196 P) .nil .nil))
noncomputable def bt59 (P : Params) : BT := (.node (o100 P) (.node (o164 P) .nil .nil) .nil)
noncomputable def bt60 (P : Params) : BT := (.node (o84 P) (.node (o148 P) .nil .nil) .nil)
noncomputable def bt61 (P : Params) : BT := (.node (o116 P) (.node (o180 P) .nil .nil) .nil)
noncomputable def bt62 (P : Params) : BT := (.node (o76 P) (.node (o140 P) .nil .nil) (.node (o204 P) .nil .nil))
noncomputable def bt63 (P : Params) : BT := (.node (o108 P) (.node (o172 P) .nil .nil) .nil)
noncomputable def bt64 (P : Params) : BT := (.node (o92 P) (.node (o156 P) .nil .nil) .nil)
noncomputable def bt65 (P : Params) : BT := (.node (o124 P) (.node (o188 P) .nil .nil) .nil)
noncomputable def bt66 (P : Params) : BT := (.node (o12 P) (.node (o20 P) (.node (o36 P) (bt58 P) (bt59 P)) (.node (o52 P) (bt60 P) (bt61 P))) (.node (o28 P) (.node (o44 P) (bt62 P) (bt63 P)) (.node (o60 P) (bt64 P) (bt65 P))))
noncomputable def bt67 (P : Params) : BT := (.node (o66 P) (.node (o130 P) .nil .nil) (.node (o194 P) .nil .nil))
noncomputable def bt68 (P : Params) : BT := (.node (o98 P) (.node (o162 P) .nil .nil) .nil)
noncomputable def bt69 (P : Params) : BT := (.node (o82 P) (.node (o146 P) .nil .nil) .nil)
noncomputable def bt70 (P : Params) : BT := (.node (o114 P) (.node (o178 P) .nil .nil) .nil)
noncomputable def bt71 (P : Params) : BT := (.node (o74 P) (.node (o138 P) .nil .nil) (.node (o202 P) .nil .nil))
noncomputable def bt72 (P : Params) : BT := (.node (o106 P) (.node (o170 P) .nil .nil) .nil)
noncomputable def bt73 (P : Params) : BT := (.node (o90 P) (.node (o154 P) .nil .nil) .nil)
noncomputable def bt74 (P : Params) : BT := (.node (o122 P) (.node (o186 P) .nil .nil) .nil)
noncomputable def bt75 (P : Params) : BT := (.node (o10 P) (.node (o18 P) (.node (o34 P) (bt67 P) (bt68 P)) (.node (o50 P) (bt69 P) (bt70 P))) (.node (o26 P) (.node (o42 P) (bt71 P) (bt72 P)) (.node (o58 P) (bt73 P) (bt74 P))))
noncomputable def bt76 (P : Params) : BT := (.node (o70 P) (.node (o134 P) .nil .nil) (.node (o198 P) .nil .nil))
noncomputable def bt77 (P : Params) : BT := (.node (o102 P) (.node (o166 P) .nil .nil) .nil)
noncomputable def bt78 (P : Params) : BT := (.node (o86 P) (.node (o150 P) .nil .nil) .nil)
noncomputable def bt79 (P : Params) : BT := (.node (o118 P) (.node (o182 P) .nil .nil) .nil)
noncomputable def bt80 (P : Params) : BT := (.node (o78 P) (.node (o142 P) .nil .nil) (.node (o206 P) .nil .nil))
noncomputable def bt81 (P : Params) : BT := (.node (o110 P) (.node (o174 P) .nil .nil) .nil)
noncomputable def bt82 (P : Params) : BT := (.node (o94 P) (.node (o158 P) .nil .nil) .nil)
noncomputable def bt83 (P : Params) : BT := (.node (o126 P) (.node (o190 P) .nil .nil) .nil)
noncomputable def bt84 (P : Params) : BT := (.node (o14 P) (.node (o22 P) (.node (o38 P) (bt76 P) (bt77 P)) (.node (o54 P) (bt78 P) (bt79 P))) (.node (o30 P) (.node (o46 P) (bt80 P) (bt81 P)) (.node (o62 P) (bt82 P) (bt83 P))))
noncomputable def trD (P : Params) : BT := (.node (o0 P) (.node (o1 P) (.node (o3v2 P) (bt21 P) (bt30 P)) (.node (o5 P) (bt39 P) (bt48 P))) (.node (o2 P) (.node (o4 P) (bt57 P) (bt66 P)) (.node (o6 P) (bt75 P) (bt84 P))))
noncomputable def ck39 (P : Params) : List DictEntry := [en P z229 (nat_lit 615) (.ref 196), en P z230 (nat_lit 622) (.ref 206), en P z284 (nat_lit 2573) (.ref 207)]
noncomputable def o3v3 (P : Params) : Obj := ⟨(.type y0), none, (.dict ((ck30 P) ++ ((ck31 P) ++ (ck39 P))).toArray 19), #[]⟩
noncomputable def ck40 (P : Params) : List DictEntry := [ei (nat_lit 181) (nat_lit 623) z285, ei (nat_lit 223) (nat_lit 626) z286, ei (nat_lit 304) (nat_lit 629) z287, ei (nat_lit 329) (nat_lit 632) z288, ei (nat_lit 383) (nat_lit 635) z289, ei (nat_lit 496) (nat_lit 638) z290, ei (nat_lit 837) (nat_lit 641) z291, ei (nat_lit 890) (nat_lit 644) z292]
noncomputable def ck41 (P : Params) : List DictEntry := [ei (nat_lit 912) (nat_lit 647) z293, ei (nat_lit 944) (nat_lit 650) z294, ei (nat_lit 962) (nat_lit 653) z295, ei (nat_lit 976) (nat_lit 656) z296, ei (nat_lit 977) (nat_lit 659) z297, ei (nat_lit 978) (nat_lit 662) z298, ei (nat_lit 979) (nat_lit 665) z299, ei (nat_lit 980) (nat_lit 668) z300]
noncomputable def ck42 (P : Params) : List DictEntry := [ei (nat_lit 981) (nat_lit 671) z301, ei (nat_lit 982) (nat_lit 674) z302, ei (nat_lit 1008) (nat_lit 677) z303, ei (nat_lit 1009) (nat_lit 680) z304, ei (nat_lit 1010) (nat_lit 683) z295, ei (nat_lit 1013) (nat_lit 686) z305, ei (nat_lit 1415) (nat_lit 689) z306, ei (nat_lit 7830) (nat_lit 692) z307]
noncomputable def ck43 (P : Params) : List DictEntry := [ei (nat_lit 7831) (nat_lit 695) z308, ei (nat_lit 7832) (nat_lit 698) z309, ei (nat_lit 7833) (nat_lit 701) z310, ei (nat_lit 7834) (nat_lit 704) z311, ei (nat_lit 7835) (nat_lit 707) z312, ei (nat_lit 8016) (nat_lit 710) z313, ei (nat_lit 8018) (nat_lit 713) z314, ei (nat_lit 8020) (nat_lit 716) z315]
noncomputable def ck44 (P : Params) : List DictEntry := [ei (nat_lit 8022) (nat_lit 719) z316, ei (nat_lit 8064) (nat_lit 722) z317, ei (nat_lit 8065) (nat_lit 725) z318, ei (nat_lit 8066) (nat_lit 728) z319, ei (nat_lit 8067) (nat_lit 731) z320, ei (nat_lit 8068) (nat_lit 734) z321, ei (nat_lit 8069) (nat_lit 737) z322, ei (nat_lit 8070) (nat_lit 740) z323]
noncomputable def ck45 (P : Params) : List DictEntry := [ei (nat_lit 8071) (nat_lit 743) z324, ei (nat_lit 8072) (nat_lit 746) z317, ei (nat_lit 8073) (nat_lit 749) z318, ei (nat_lit 8074) (nat_lit 752) z319, ei (nat_lit 8075) (nat_lit 755) z320, ei (nat_lit 8076) (nat_lit 758) z321, ei (nat_lit 8077) (nat_lit 761) z322, ei (nat_lit 8078) (nat_lit 764) z323]
noncomputable def ck46 (P : Params) : List DictEntry := [ei (nat_lit 8079) (nat_lit 767) z324, ei (nat_lit 8080) (nat_lit 770) z325, ei (nat_lit 8081) (nat_lit 773) z326, ei (nat_lit 8082) (nat_lit 776) z327, ei (nat_lit 8083) (nat_lit 779) z328, ei (nat_lit 8084) (nat_lit 782) z329, ei (nat_lit 8085) (nat_lit 785) z330, ei (nat_lit 8086) (nat_lit 788) z331]
noncomputable def ck47 (P : Params) : List DictEntry := [ei (nat_lit 8087) (nat_lit 791) z332, ei (nat_lit 8088) (nat_lit 794) z325, ei (nat_lit 8089) (nat_lit 797) z326, ei (nat_lit 8090) (nat_lit 800) z327, ei (nat_lit 8091) (nat_lit 803) z328, ei (nat_lit 8092) (nat_lit 806) z329, ei (nat_lit 8093) (nat_lit 809) z330, ei (nat_lit 8094) (nat_lit 812) z331]
noncomputable def ck48 (P : Params) : List DictEntry := [ei (nat_lit 8095) (nat_lit 815) z332, ei (nat_lit 8096) (nat_lit 818) z333, ei (nat_lit 8097) (nat_lit 821) z334, ei (nat_lit 8098) (nat_lit 824) z335, ei (nat_lit 8099) (nat_lit 827) z336, ei (nat_lit 8100) (nat_lit 830) z337, ei (nat_lit 8101) (nat_lit 833) z338, ei (nat_lit 8102) (nat_lit 836) z339]
noncomputable def ck49 (P : Params) : List DictEntry := [ei (nat_lit 8103) (nat_lit 839) z340, ei (nat_lit 8104) (nat_lit 842) z333, ei (nat_lit 8105) (nat_lit 845) z334, ei (nat_lit 8106) (nat_lit 848) z335, ei (nat_lit 8107) (nat_lit 851) z336, ei (nat_lit 8108) (nat_lit 854) z337, ei (nat_lit 8109) (nat_lit 857) z338, ei (nat_lit 8110) (nat_lit 860) z339]
noncomputable def ck50 (P : Params) : List DictEntry := [ei (nat_lit 8111) (nat_lit 863) z340, ei (nat_lit 8114) (nat_lit 866) z341, ei (nat_lit 8115) (nat_lit 869) z342, ei (nat_lit 8116) (nat_lit 872) z343, ei (nat_lit 8118) (nat_lit 875) z344, ei (nat_lit 8119) (nat_lit 878) z345, ei (nat_lit 8124) (nat_lit 881) z342, ei (nat_lit 8126) (nat_lit 884) z291]
noncomputable def ck51 (P : Params) : List DictEntry := [ei (nat_lit 8130) (nat_lit 887) z346, ei (nat_lit 8131) (nat_lit 890) z347, ei (nat_lit 8132) (nat_lit 893) z348, ei (nat_lit 8134) (nat_lit 896) z349, ei (nat_lit 8135) (nat_lit 899) z350, ei (nat_lit 8140) (nat_lit 902) z347, ei (nat_lit 8146) (nat_lit 905) z351, ei (nat_lit 8147) (nat_lit 908) z293]
noncomputable def ck52 (P : Params) : List DictEntry := [ei (nat_lit 8150) (nat_lit 911) z352, ei (nat_lit 8151) (nat_lit 914) z353, ei (nat_lit 8162) (nat_lit 917) z354, ei (nat_lit 8163) (nat_lit 920) z294, ei (nat_lit 8164) (nat_lit 923) z355, ei (nat_lit 8166) (nat_lit 926) z356, ei (nat_lit 8167) (nat_lit 929) z357, ei (nat_lit 8178) (nat_lit 932) z358]
noncomputable def ck53 (P : Params) : List DictEntry := [ei (nat_lit 8179) (nat_lit 935) z359, ei (nat_lit 8180) (nat_lit 938) z360, ei (nat_lit 8182) (nat_lit 941) z361, ei (nat_lit 8183) (nat_lit 944) z362, ei (nat_lit 8188) (nat_lit 947) z359, ei (nat_lit 8360) (nat_lit 950) z363, ei (nat_lit 8450) (nat_lit 953) z364, ei (nat_lit 8451) (nat_lit 956) z365]
noncomputable def ck54 (P : Params) : List DictEntry := [ei (nat_lit 8455) (nat_lit 959) z366, ei (nat_lit 8457) (nat_lit 962) z367, ei (nat_lit 8459) (nat_lit 965) z368, ei (nat_lit 8460) (nat_lit 968) z368, ei (nat_lit 8461) (nat_lit 971) z368, ei (nat_lit 8464) (nat_lit 974) z369, ei (nat_lit 8465) (nat_lit 977) z369, ei (nat_lit 8466) (nat_lit 980) z370]
noncomputable def ck55 (P : Params) : List DictEntry := [ei (nat_lit 8469) (nat_lit 983) z371, ei (nat_lit 8470) (nat_lit 986) z372, ei (nat_lit 8473) (nat_lit 989) z373, ei (nat_lit 8474) (nat_lit 992) z374, ei (nat_lit 8475) (nat_lit 995) z375, ei (nat_lit 8476) (nat_lit 998) z375, ei (nat_lit 8477) (nat_lit 1001) z375, ei (nat_lit 8480) (nat_lit 1004) z376]
noncomputable def ck56 (P : Params) : List DictEntry := [ei (nat_lit 8481) (nat_lit 1007) z377, ei (nat_lit 8482) (nat_lit 1010) z378, ei (nat_lit 8484) (nat_lit 1013) z379, ei (nat_lit 8488) (nat_lit 1016) z379, ei (nat_lit 8492) (nat_lit 1019) z380, ei (nat_lit 8493) (nat_lit 1022) z364, ei (nat_lit 8496) (nat_lit 1025) z381, ei (nat_lit 8497) (nat_lit 1028) z382]
noncomputable def ck57 (P : Params) : List DictEntry := [ei (nat_lit 8499) (nat_lit 1031) z383, ei (nat_lit 8510) (nat_lit 1034) z384, ei (nat_lit 8511) (nat_lit 1037) z302, ei (nat_lit 8517) (nat_lit 1040) z385, ei (nat_lit 13169) (nat_lit 1043) z386, ei (nat_lit 13171) (nat_lit 1046) z387, ei (nat_lit 13173) (nat_lit 1049) z388, ei (nat_lit 13184) (nat_lit 1052) z389]
noncomputable def ck58 (P : Params) : List DictEntry := [ei (nat_lit 13185) (nat_lit 1055) z390, ei (nat_lit 13186) (nat_lit 1058) z391, ei (nat_lit 13187) (nat_lit 1061) z392, ei (nat_lit 13188) (nat_lit 1064) z393, ei (nat_lit 13189) (nat_lit 1067) z394, ei (nat_lit 13190) (nat_lit 1070) z395, ei (nat_lit 13191) (nat_lit 1073) z396, ei (nat_lit 13194) (nat_lit 1076) z397]
noncomputable def ck59 (P : Params) : List DictEntry := [ei (nat_lit 13195) (nat_lit 1079) z398, ei (nat_lit 13196) (nat_lit 1082) z399, ei (nat_lit 13200) (nat_lit 1085) z400, ei (nat_lit 13201) (nat_lit 1088) z401, ei (nat_lit 13202) (nat_lit 1091) z402, ei (nat_lit 13203) (nat_lit 1094) z403, ei (nat_lit 13204) (nat_lit 1097) z404, ei (nat_lit 13225) (nat_lit 1100) z389]
noncomputable def ck60 (P : Params) : List DictEntry := [ei (nat_lit 13226) (nat_lit 1103) z405, ei (nat_lit 13227) (nat_lit 1106) z406, ei (nat_lit 13228) (nat_lit 1109) z407, ei (nat_lit 13236) (nat_lit 1112) z408, ei (nat_lit 13237) (nat_lit 1115) z409, ei (nat_lit 13238) (nat_lit 1118) z410, ei (nat_lit 13239) (nat_lit 1121) z411, ei (nat_lit 13240) (nat_lit 1124) z412]
noncomputable def ck61 (P : Params) : List DictEntry := [ei (nat_lit 13241) (nat_lit 1127) z411, ei (nat_lit 13242) (nat_lit 1130) z413, ei (nat_lit 13243) (nat_lit 1133) z414, ei (nat_lit 13244) (nat_lit 1136) z415, ei (nat_lit 13245) (nat_lit 1139) z416, ei (nat_lit 13246) (nat_lit 1142) z417, ei (nat_lit 13247) (nat_lit 1145) z416, ei (nat_lit 13248) (nat_lit 1148) z418]
noncomputable def ck62 (P : Params) : List DictEntry := [ei (nat_lit 13249) (nat_lit 1151) z419, ei (nat_lit 13251) (nat_lit 1154) z420, ei (nat_lit 13254) (nat_lit 1157) z421, ei (nat_lit 13255) (nat_lit 1160) z422, ei (nat_lit 13256) (nat_lit 1163) z423, ei (nat_lit 13257) (nat_lit 1166) z424, ei (nat_lit 13259) (nat_lit 1169) z425, ei (nat_lit 13261) (nat_lit 1172) z426]
noncomputable def ck63 (P : Params) : List DictEntry := [ei (nat_lit 13262) (nat_lit 1175) z427, ei (nat_lit 13271) (nat_lit 1178) z428, ei (nat_lit 13273) (nat_lit 1181) z429, ei (nat_lit 13274) (nat_lit 1184) z430, ei (nat_lit 13276) (nat_lit 1187) z431, ei (nat_lit 13277) (nat_lit 1190) z432, ei (nat_lit 64256) (nat_lit 1193) z433, ei (nat_lit 64257) (nat_lit 1196) z434]
noncomputable def ck64 (P : Params) : List DictEntry := [ei (nat_lit 64258) (nat_lit 1199) z435, ei (nat_lit 64259) (nat_lit 1202) z436, ei (nat_lit 64260) (nat_lit 1205) z437, ei (nat_lit 64261) (nat_lit 1208) z438, ei (nat_lit 64262) (nat_lit 1211) z438, ei (nat_lit 64275) (nat_lit 1214) z439, ei (nat_lit 64276) (nat_lit 1217) z440, ei (nat_lit 64277) (nat_lit 1220) z441]
noncomputable def ck65 (P : Params) : List DictEntry := [ei (nat_lit 64278) (nat_lit 1223) z442, ei (nat_lit 64279) (nat_lit 1226) z443, ei (nat_lit 119808) (nat_lit 1229) z444, ei (nat_lit 119809) (nat_lit 1232) z380, ei (nat_lit 119810) (nat_lit 1235) z364, ei (nat_lit 119811) (nat_lit 1238) z385, ei (nat_lit 119812) (nat_lit 1241) z381, ei (nat_lit 119813) (nat_lit 1244) z382]
noncomputable def ck66 (P : Params) : List DictEntry := [ei (nat_lit 119814) (nat_lit 1247) z445, ei (nat_lit 119815) (nat_lit 1250) z368, ei (nat_lit 119816) (nat_lit 1253) z369, ei (nat_lit 119817) (nat_lit 1256) z446, ei (nat_lit 119818) (nat_lit 1259) z231, ei (nat_lit 119819) (nat_lit 1262) z370, ei (nat_lit 119820) (nat_lit 1265) z383, ei (nat_lit 119821) (nat_lit 1268) z371]
noncomputable def ck67 (P : Params) : List DictEntry := [ei (nat_lit 119822) (nat_lit 1271) z447, ei (nat_lit 119823) (nat_lit 1274) z373, ei (nat_lit 119824) (nat_lit 1277) z374, ei (nat_lit 119825) (nat_lit 1280) z375, ei (nat_lit 119826) (nat_lit 1283) z289, ei (nat_lit 119827) (nat_lit 1286) z448, ei (nat_lit 119828) (nat_lit 1289) z449, ei (nat_lit 119829) (nat_lit 1292) z257]
noncomputable def ck68 (P : Params) : List DictEntry := [ei (nat_lit 119830) (nat_lit 1295) z450, ei (nat_lit 119831) (nat_lit 1298) z451, ei (nat_lit 119832) (nat_lit 1301) z452, ei (nat_lit 119833) (nat_lit 1304) z379, ei (nat_lit 119860) (nat_lit 1307) z444, ei (nat_lit 119861) (nat_lit 1310) z380, ei (nat_lit 119862) (nat_lit 1313) z364, ei (nat_lit 119863) (nat_lit 1316) z385]
noncomputable def ck69 (P : Params) : List DictEntry := [ei (nat_lit 119864) (nat_lit 1319) z381, ei (nat_lit 119865) (nat_lit 1322) z382, ei (nat_lit 119866) (nat_lit 1325) z445, ei (nat_lit 119867) (nat_lit 1328) z368, ei (nat_lit 119868) (nat_lit 1331) z369, ei (nat_lit 119869) (nat_lit 1334) z446, ei (nat_lit 119870) (nat_lit 1337) z231, ei (nat_lit 119871) (nat_lit 1340) z370]
noncomputable def ck70 (P : Params) : List DictEntry := [ei (nat_lit 119872) (nat_lit 1343) z383, ei (nat_lit 119873) (nat_lit 1346) z371, ei (nat_lit 119874) (nat_lit 1349) z447, ei (nat_lit 119875) (nat_lit 1352) z373, ei (nat_lit 119876) (nat_lit 1355) z374, ei (nat_lit 119877) (nat_lit 1358) z375, ei (nat_lit 119878) (nat_lit 1361) z289, ei (nat_lit 119879) (nat_lit 1364) z448]
noncomputable def ck71 (P : Params) : List DictEntry := [ei (nat_lit 119880) (nat_lit 1367) z449, ei (nat_lit 119881) (nat_lit 1370) z257, ei (nat_lit 119882) (nat_lit 1373) z450, ei (nat_lit 119883) (nat_lit 1376) z451, ei (nat_lit 119884) (nat_lit 1379) z452, ei (nat_lit 119885) (nat_lit 1382) z379, ei (nat_lit 119912) (nat_lit 1385) z444, ei (nat_lit 119913) (nat_lit 1388) z380]
noncomputable def ck72 (P : Params) : List DictEntry := [ei (nat_lit 119914) (nat_lit 1391) z364, ei (nat_lit 119915) (nat_lit 1394) z385, ei (nat_lit 119916) (nat_lit 1397) z381, ei (nat_lit 119917) (nat_lit 1400) z382, ei (nat_lit 119918) (nat_lit 1403) z445, ei (nat_lit 119919) (nat_lit 1406) z368, ei (nat_lit 119920) (nat_lit 1409) z369, ei (nat_lit 119921) (nat_lit 1412) z446]
noncomputable def ck73 (P : Params) : List DictEntry := [ei (nat_lit 119922) (nat_lit 1415) z231, ei (nat_lit 119923) (nat_lit 1418) z370, ei (nat_lit 119924) (nat_lit 1421) z383, ei (nat_lit 119925) (nat_lit 1424) z371, ei (nat_lit 119926) (nat_lit 1427) z447, ei (nat_lit 119927) (nat_lit 1430) z373, ei (nat_lit 119928) (nat_lit 1433) z374, ei (nat_lit 119929) (nat_lit 1436) z375]
noncomputable def ck74 (P : Params) : List DictEntry := [ei (nat_lit 119930) (nat_lit 1439) z289, ei (nat_lit 119931) (nat_lit 1442) z448, ei (nat_lit 119932) (nat_lit 1445) z449, ei (nat_lit 119933) (nat_lit 1448) z257, ei (nat_lit 119934) (nat_lit 1451) z450, ei (nat_lit 119935) (nat_lit 1454) z451, ei (nat_lit 119936) (nat_lit 1457) z452, ei (nat_lit 119937) (nat_lit 1460) z379]
noncomputable def ck75 (P : Params) : List DictEntry := [ei (nat_lit 119964) (nat_lit 1463) z444, ei (nat_lit 119966) (nat_lit 1466) z364, ei (nat_lit 119967) (nat_lit 1469) z385, ei (nat_lit 119970) (nat_lit 1472) z445, ei (nat_lit 119973) (nat_lit 1475) z446, ei (nat_lit 119974) (nat_lit 1478) z231, ei (nat_lit 119977) (nat_lit 1481) z371, ei (nat_lit 119978) (nat_lit 1484) z447]
noncomputable def ck76 (P : Params) : List DictEntry := [ei (nat_lit 119979) (nat_lit 1487) z373, ei (nat_lit 119980) (nat_lit 1490) z374, ei (nat_lit 119982) (nat_lit 1493) z289, ei (nat_lit 119983) (nat_lit 1496) z448, ei (nat_lit 119984) (nat_lit 1499) z449, ei (nat_lit 119985) (nat_lit 1502) z257, ei (nat_lit 119986) (nat_lit 1505) z450, ei (nat_lit 119987) (nat_lit 1508) z451]
noncomputable def ck77 (P : Params) : List DictEntry := [ei (nat_lit 119988) (nat_lit 1511) z452, ei (nat_lit 119989) (nat_lit 1514) z379, ei (nat_lit 120016) (nat_lit 1517) z444, ei (nat_lit 120017) (nat_lit 1520) z380, ei (nat_lit 120018) (nat_lit 1523) z364, ei (nat_lit 120019) (nat_lit 1526) z385, ei (nat_lit 120020) (nat_lit 1529) z381, ei (nat_lit 120021) (nat_lit 1532) z382]
noncomputable def ck78 (P : Params) : List DictEntry := [ei (nat_lit 120022) (nat_lit 1535) z445, ei (nat_lit 120023) (nat_lit 1538) z368, ei (nat_lit 120024) (nat_lit 1541) z369, ei (nat_lit 120025) (nat_lit 1544) z446, ei (nat_lit 120026) (nat_lit 1547) z231, ei (nat_lit 120027) (nat_lit 1550) z370, ei (nat_lit 120028) (nat_lit 1553) z383, ei (nat_lit 120029) (nat_lit 1556) z371]
noncomputable def ck79 (P : Params) : List DictEntry := [ei (nat_lit 120030) (nat_lit 1559) z447, ei (nat_lit 120031) (nat_lit 1562) z373, ei (nat_lit 120032) (nat_lit 1565) z374, ei (nat_lit 120033) (nat_lit 1568) z375, ei (nat_lit 120034) (nat_lit 1571) z289, ei (nat_lit 120035) (nat_lit 1574) z448, ei (nat_lit 120036) (nat_lit 1577) z449, ei (nat_lit 120037) (nat_lit 1580) z257]
noncomputable def ck80 (P : Params) : List DictEntry := [ei (nat_lit 120038) (nat_lit 1583) z450, ei (nat_lit 120039) (nat_lit 1586) z451, ei (nat_lit 120040) (nat_lit 1589) z452, ei (nat_lit 120041) (nat_lit 1592) z379, ei (nat_lit 120068) (nat_lit 1595) z444, ei (nat_lit 120069) (nat_lit 1598) z380, ei (nat_lit 120071) (nat_lit 1601) z385, ei (nat_lit 120072) (nat_lit 1604) z381]
noncomputable def ck81 (P : Params) : List DictEntry := [ei (nat_lit 120073) (nat_lit 1607) z382, ei (nat_lit 120074) (nat_lit 1610) z445, ei (nat_lit 120077) (nat_lit 1613) z446, ei (nat_lit 120078) (nat_lit 1616) z231, ei (nat_lit 120079) (nat_lit 1619) z370, ei (nat_lit 120080) (nat_lit 1622) z383, ei (nat_lit 120081) (nat_lit 1625) z371, ei (nat_lit 120082) (nat_lit 1628) z447]
noncomputable def ck82 (P : Params) : List DictEntry := [ei (nat_lit 120083) (nat_lit 1631) z373, ei (nat_lit 120084) (nat_lit 1634) z374, ei (nat_lit 120086) (nat_lit 1637) z289, ei (nat_lit 120087) (nat_lit 1640) z448, ei (nat_lit 120088) (nat_lit 1643) z449, ei (nat_lit 120089) (nat_lit 1646) z257, ei (nat_lit 120090) (nat_lit 1649) z450, ei (nat_lit 120091) (nat_lit 1652) z451]
noncomputable def ck83 (P : Params) : List DictEntry := [ei (nat_lit 120092) (nat_lit 1655) z452, ei (nat_lit 120120) (nat_lit 1658) z444, ei (nat_lit 120121) (nat_lit 1661) z380, ei (nat_lit 120123) (nat_lit 1664) z385, ei (nat_lit 120124) (nat_lit 1667) z381, ei (nat_lit 120125) (nat_lit 1670) z382, ei (nat_lit 120126) (nat_lit 1673) z445, ei (nat_lit 120128) (nat_lit 1676) z369]
noncomputable def ck84 (P : Params) : List DictEntry := [ei (nat_lit 120129) (nat_lit 1679) z446, ei (nat_lit 120130) (nat_lit 1682) z231, ei (nat_lit 120131) (nat_lit 1685) z370, ei (nat_lit 120132) (nat_lit 1688) z383, ei (nat_lit 120134) (nat_lit 1691) z447, ei (nat_lit 120138) (nat_lit 1694) z289, ei (nat_lit 120139) (nat_lit 1697) z448, ei (nat_lit 120140) (nat_lit 1700) z449]
noncomputable def ck85 (P : Params) : List DictEntry := [ei (nat_lit 120141) (nat_lit 1703) z257, ei (nat_lit 120142) (nat_lit 1706) z450, ei (nat_lit 120143) (nat_lit 1709) z451, ei (nat_lit 120144) (nat_lit 1712) z452, ei (nat_lit 120172) (nat_lit 1715) z444, ei (nat_lit 120173) (nat_lit 1718) z380, ei (nat_lit 120174) (nat_lit 1721) z364, ei (nat_lit 120175) (nat_lit 1724) z385]
noncomputable def ck86 (P : Params) : List DictEntry := [ei (nat_lit 120176) (nat_lit 1727) z381, ei (nat_lit 120177) (nat_lit 1730) z382, ei (nat_lit 120178) (nat_lit 1733) z445, ei (nat_lit 120179) (nat_lit 1736) z368, ei (nat_lit 120180) (nat_lit 1739) z369, ei (nat_lit 120181) (nat_lit 1742) z446, ei (nat_lit 120182) (nat_lit 1745) z231, ei (nat_lit 120183) (nat_lit 1748) z370]
noncomputable def ck87 (P : Params) : List DictEntry := [ei (nat_lit 120184) (nat_lit 1751) z383, ei (nat_lit 120185) (nat_lit 1754) z371, ei (nat_lit 120186) (nat_lit 1757) z447, ei (nat_lit 120187) (nat_lit 1760) z373, ei (nat_lit 120188) (nat_lit 1763) z374, ei (nat_lit 120189) (nat_lit 1766) z375, ei (nat_lit 120190) (nat_lit 1769) z289, ei (nat_lit 120191) (nat_lit 1772) z448]
noncomputable def ck88 (P : Params) : List DictEntry := [ei (nat_lit 120192) (nat_lit 1775) z449, ei (nat_lit 120193) (nat_lit 1778) z257, ei (nat_lit 120194) (nat_lit 1781) z450, ei (nat_lit 120195) (nat_lit 1784) z451, ei (nat_lit 120196) (nat_lit 1787) z452, ei (nat_lit 120197) (nat_lit 1790) z379, ei (nat_lit 120224) (nat_lit 1793) z444, ei (nat_lit 120225) (nat_lit 1796) z380]
noncomputable def ck89 (P : Params) : List DictEntry := [ei (nat_lit 120226) (nat_lit 1799) z364, ei (nat_lit 120227) (nat_lit 1802) z385, ei (nat_lit 120228) (nat_lit 1805) z381, ei (nat_lit 120229) (nat_lit 1808) z382, ei (nat_lit 120230) (nat_lit 1811) z445, ei (nat_lit 120231) (nat_lit 1814) z368, ei (nat_lit 120232) (nat_lit 1817) z369, ei (nat_lit 120233) (nat_lit 1820) z446]
noncomputable def ck90 (P : Params) : List DictEntry := [ei (nat_lit 120234) (nat_lit 1823) z231, ei (nat_lit 120235) (nat_lit 1826) z370, ei (nat_lit 120236) (nat_lit 1829) z383, ei (nat_lit 120237) (nat_lit 1832) z371, ei (nat_lit 120238) (nat_lit 1835) z447, ei (nat_lit 120239) (nat_lit 1838) z373, ei (nat_lit 120240) (nat_lit 1841) z374, ei (nat_lit 120241) (nat_lit 1844) z375]
noncomputable def ck91 (P : Params) : List DictEntry := [ei (nat_lit 120242) (nat_lit 1847) z289, ei (nat_lit 120243) (nat_lit 1850) z448, ei (nat_lit 120244) (nat_lit 1853) z449, ei (nat_lit 120245) (nat_lit 1856) z257, ei (nat_lit 120246) (nat_lit 1859) z450, ei (nat_lit 120247) (nat_lit 1862) z451, ei (nat_lit 120248) (nat_lit 1865) z452, ei (nat_lit 120249) (nat_lit 1868) z379]
noncomputable def ck92 (P : Params) : List DictEntry := [ei (nat_lit 120276) (nat_lit 1871) z444, ei (nat_lit 120277) (nat_lit 1874) z380, ei (nat_lit 120278) (nat_lit 1877) z364, ei (nat_lit 120279) (nat_lit 1880) z385, ei (nat_lit 120280) (nat_lit 1883) z381, ei (nat_lit 120281) (nat_lit 1886) z382, ei (nat_lit 120282) (nat_lit 1889) z445, ei (nat_lit 120283) (nat_lit 1892) z368]
noncomputable def ck93 (P : Params) : List DictEntry := [ei (nat_lit 120284) (nat_lit 1895) z369, ei (nat_lit 120285) (nat_lit 1898) z446, ei (nat_lit 120286) (nat_lit 1901) z231, ei (nat_lit 120287) (nat_lit 1904) z370, ei (nat_lit 120288) (nat_lit 1907) z383, ei (nat_lit 120289) (nat_lit 1910) z371, ei (nat_lit 120290) (nat_lit 1913) z447, ei (nat_lit 120291) (nat_lit 1916) z373]
noncomputable def ck94 (P : Params) : List DictEntry := [ei (nat_lit 120292) (nat_lit 1919) z374, ei (nat_lit 120293) (nat_lit 1922) z375, ei (nat_lit 120294) (nat_lit 1925) z289, ei (nat_lit 120295) (nat_lit 1928) z448, ei (nat_lit 120296) (nat_lit 1931) z449, ei (nat_lit 120297) (nat_lit 1934) z257, ei (nat_lit 120298) (nat_lit 1937) z450, ei (nat_lit 120299) (nat_lit 1940) z451]
noncomputable def ck95 (P : Params) : List DictEntry := [ei (nat_lit 120300) (nat_lit 1943) z452, ei (nat_lit 120301) (nat_lit 1946) z379, ei (nat_lit 120328) (nat_lit 1949) z444, ei (nat_lit 120329) (nat_lit 1952) z380, ei (nat_lit 120330) (nat_lit 1955) z364, ei (nat_lit 120331) (nat_lit 1958) z385, ei (nat_lit 120332) (nat_lit 1961) z381, ei (nat_lit 120333) (nat_lit 1964) z382]
noncomputable def ck96 (P : Params) : List DictEntry := [ei (nat_lit 120334) (nat_lit 1967) z445, ei (nat_lit 120335) (nat_lit 1970) z368, ei (nat_lit 120336) (nat_lit 1973) z369, ei (nat_lit 120337) (nat_lit 1976) z446, ei (nat_lit 120338) (nat_lit 1979) z231, ei (nat_lit 120339) (nat_lit 1982) z370, ei (nat_lit 120340) (nat_lit 1985) z383, ei (nat_lit 120341) (nat_lit 1988) z371]
noncomputable def ck97 (P : Params) : List DictEntry := [ei (nat_lit 120342) (nat_lit 1991) z447, ei (nat_lit 120343) (nat_lit 1994) z373, ei (nat_lit 120344) (nat_lit 1997) z374, ei (nat_lit 120345) (nat_lit 2000) z375, ei (nat_lit 120346) (nat_lit 2003) z289, ei (nat_lit 120347) (nat_lit 2006) z448, ei (nat_lit 120348) (nat_lit 2009) z449, ei (nat_lit 120349) (nat_lit 2012) z257]
noncomputable def ck98 (P : Params) : List DictEntry := [ei (nat_lit 120350) (nat_lit 2015) z450, ei (nat_lit 120351) (nat_lit 2018) z451, ei (nat_lit 120352) (nat_lit 2021) z452, ei (nat_lit 120353) (nat_lit 2024) z379, ei (nat_lit 120380) (nat_lit 2027) z444, ei (nat_lit 120381) (nat_lit 2030) z380, ei (nat_lit 120382) (nat_lit 2033) z364, ei (nat_lit 120383) (nat_lit 2036) z385]
noncomputable def ck99 (P : Params) : List DictEntry := [ei (nat_lit 120384) (nat_lit 2039) z381, ei (nat_lit 120385) (nat_lit 2042) z382, ei (nat_lit 120386) (nat_lit 2045) z445, ei (nat_lit 120387) (nat_lit 2048) z368, ei (nat_lit 120388) (nat_lit 2051) z369, ei (nat_lit 120389) (nat_lit 2054) z446, ei (nat_lit 120390) (nat_lit 2057) z231, ei (nat_lit 120391) (nat_lit 2060) z370]
noncomputable def ck100 (P : Params) : List DictEntry := [ei (nat_lit 120392) (nat_lit 2063) z383, ei (nat_lit 120393) (nat_lit 2066) z371, ei (nat_lit 120394) (nat_lit 2069) z447, ei (nat_lit 120395) (nat_lit 2072) z373, ei (nat_lit 120396) (nat_lit 2075) z374, ei (nat_lit 120397) (nat_lit 2078) z375, ei (nat_lit 120398) (nat_lit 2081) z289, ei (nat_lit 120399) (nat_lit 2084) z448]
noncomputable def ck101 (P : Params) : List DictEntry := [ei (nat_lit 120400) (nat_lit 2087) z449, ei (nat_lit 120401) (nat_lit 2090) z257, ei (nat_lit 120402) (nat_lit 2093) z450, ei (nat_lit 120403) (nat_lit 2096) z451, ei (nat_lit 120404) (nat_lit 2099) z452, ei (nat_lit 120405) (nat_lit 2102) z379, ei (nat_lit 120432) (nat_lit 2105) z444, ei (nat_lit 120433) (nat_lit 2108) z380]
noncomputable def ck102 (P : Params) : List DictEntry := [ei (nat_lit 120434) (nat_lit 2111) z364, ei (nat_lit 120435) (nat_lit 2114) z385, ei (nat_lit 120436) (nat_lit 2117) z381, ei (nat_lit 120437) (nat_lit 2120) z382, ei (nat_lit 120438) (nat_lit 2123) z445, ei (nat_lit 120439) (nat_lit 2126) z368, ei (nat_lit 120440) (nat_lit 2129) z369, ei (nat_lit 120441) (nat_lit 2132) z446]
noncomputable def ck103 (P : Params) : List DictEntry := [ei (nat_lit 120442) (nat_lit 2135) z231, ei (nat_lit 120443) (nat_lit 2138) z370, ei (nat_lit 120444) (nat_lit 2141) z383, ei (nat_lit 120445) (nat_lit 2144) z371, ei (nat_lit 120446) (nat_lit 2147) z447, ei (nat_lit 120447) (nat_lit 2150) z373, ei (nat_lit 120448) (nat_lit 2153) z374, ei (nat_lit 120449) (nat_lit 2156) z375]
noncomputable def ck104 (P : Params) : List DictEntry := [ei (nat_lit 120450) (nat_lit 2159) z289, ei (nat_lit 120451) (nat_lit 2162) z448, ei (nat_lit 120452) (nat_lit 2165) z449, ei (nat_lit 120453) (nat_lit 2168) z257, ei (nat_lit 120454) (nat_lit 2171) z450, ei (nat_lit 120455) (nat_lit 2174) z451, ei (nat_lit 120456) (nat_lit 2177) z452, ei (nat_lit 120457) (nat_lit 2180) z379]
noncomputable def ck105 (P : Params) : List DictEntry := [ei (nat_lit 120488) (nat_lit 2183) z453, ei (nat_lit 120489) (nat_lit 2186) z296, ei (nat_lit 120490) (nat_lit 2189) z384, ei (nat_lit 120491) (nat_lit 2192) z454, ei (nat_lit 120492) (nat_lit 2195) z305, ei (nat_lit 120493) (nat_lit 2198) z455, ei (nat_lit 120494) (nat_lit 2201) z456, ei (nat_lit 120495) (nat_lit 2204) z297]
noncomputable def ck106 (P : Params) : List DictEntry := [ei (nat_lit 120496) (nat_lit 2207) z291, ei (nat_lit 120497) (nat_lit 2210) z303, ei (nat_lit 120498) (nat_lit 2213) z457, ei (nat_lit 120499) (nat_lit 2216) z285, ei (nat_lit 120500) (nat_lit 2219) z458, ei (nat_lit 120501) (nat_lit 2222) z459, ei (nat_lit 120502) (nat_lit 2225) z460, ei (nat_lit 120503) (nat_lit 2228) z302]
noncomputable def ck107 (P : Params) : List DictEntry := [ei (nat_lit 120504) (nat_lit 2231) z304, ei (nat_lit 120505) (nat_lit 2234) z297, ei (nat_lit 120506) (nat_lit 2237) z295, ei (nat_lit 120507) (nat_lit 2240) z461, ei (nat_lit 120508) (nat_lit 2243) z298, ei (nat_lit 120509) (nat_lit 2246) z301, ei (nat_lit 120510) (nat_lit 2249) z462, ei (nat_lit 120511) (nat_lit 2252) z463]
noncomputable def ck108 (P : Params) : List DictEntry := [ei (nat_lit 120512) (nat_lit 2255) z464, ei (nat_lit 120531) (nat_lit 2258) z295, ei (nat_lit 120546) (nat_lit 2261) z453, ei (nat_lit 120547) (nat_lit 2264) z296, ei (nat_lit 120548) (nat_lit 2267) z384, ei (nat_lit 120549) (nat_lit 2270) z454, ei (nat_lit 120550) (nat_lit 2273) z305, ei (nat_lit 120551) (nat_lit 2276) z455]
noncomputable def ck109 (P : Params) : List DictEntry := [ei (nat_lit 120552) (nat_lit 2279) z456, ei (nat_lit 120553) (nat_lit 2282) z297, ei (nat_lit 120554) (nat_lit 2285) z291, ei (nat_lit 120555) (nat_lit 2288) z303, ei (nat_lit 120556) (nat_lit 2291) z457, ei (nat_lit 120557) (nat_lit 2294) z285, ei (nat_lit 120558) (nat_lit 2297) z458, ei (nat_lit 120559) (nat_lit 2300) z459]
noncomputable def ck110 (P : Params) : List DictEntry := [ei (nat_lit 120560) (nat_lit 2303) z460, ei (nat_lit 120561) (nat_lit 2306) z302, ei (nat_lit 120562) (nat_lit 2309) z304, ei (nat_lit 120563) (nat_lit 2312) z297, ei (nat_lit 120564) (nat_lit 2315) z295, ei (nat_lit 120565) (nat_lit 2318) z461, ei (nat_lit 120566) (nat_lit 2321) z298, ei (nat_lit 120567) (nat_lit 2324) z301]
noncomputable def ck111 (P : Params) : List DictEntry := [ei (nat_lit 120568) (nat_lit 2327) z462, ei (nat_lit 120569) (nat_lit 2330) z463, ei (nat_lit 120570) (nat_lit 2333) z464, ei (nat_lit 120589) (nat_lit 2336) z295, ei (nat_lit 120604) (nat_lit 2339) z453, ei (nat_lit 120605) (nat_lit 2342) z296, ei (nat_lit 120606) (nat_lit 2345) z384, ei (nat_lit 120607) (nat_lit 2348) z454]
noncomputable def ck112 (P : Params) : List DictEntry := [ei (nat_lit 120608) (nat_lit 2351) z305, ei (nat_lit 120609) (nat_lit 2354) z455, ei (nat_lit 120610) (nat_lit 2357) z456, ei (nat_lit 120611) (nat_lit 2360) z297, ei (nat_lit 120612) (nat_lit 2363) z291, ei (nat_lit 120613) (nat_lit 2366) z303, ei (nat_lit 120614) (nat_lit 2369) z457, ei (nat_lit 120615) (nat_lit 2372) z285]
noncomputable def ck113 (P : Params) : List DictEntry := [ei (nat_lit 120616) (nat_lit 2375) z458, ei (nat_lit 120617) (nat_lit 2378) z459, ei (nat_lit 120618) (nat_lit 2381) z460, ei (nat_lit 120619) (nat_lit 2384) z302, ei (nat_lit 120620) (nat_lit 2387) z304, ei (nat_lit 120621) (nat_lit 2390) z297, ei (nat_lit 120622) (nat_lit 2393) z295, ei (nat_lit 120623) (nat_lit 2396) z461]
noncomputable def ck114 (P : Params) : List DictEntry := [ei (nat_lit 120624) (nat_lit 2399) z298, ei (nat_lit 120625) (nat_lit 2402) z301, ei (nat_lit 120626) (nat_lit 2405) z462, ei (nat_lit 120627) (nat_lit 2408) z463, ei (nat_lit 120628) (nat_lit 2411) z464, ei (nat_lit 120647) (nat_lit 2414) z295, ei (nat_lit 120662) (nat_lit 2417) z453, ei (nat_lit 120663) (nat_lit 2420) z296]
noncomputable def ck115 (P : Params) : List DictEntry := [ei (nat_lit 120664) (nat_lit 2423) z384, ei (nat_lit 120665) (nat_lit 2426) z454, ei (nat_lit 120666) (nat_lit 2429) z305, ei (nat_lit 120667) (nat_lit 2432) z455, ei (nat_lit 120668) (nat_lit 2435) z456, ei (nat_lit 120669) (nat_lit 2438) z297, ei (nat_lit 120670) (nat_lit 2441) z291, ei (nat_lit 120671) (nat_lit 2444) z303]
noncomputable def ck116 (P : Params) : List DictEntry := [ei (nat_lit 120672) (nat_lit 2447) z457, ei (nat_lit 120673) (nat_lit 2450) z285, ei (nat_lit 120674) (nat_lit 2453) z458, ei (nat_lit 120675) (nat_lit 2456) z459, ei (nat_lit 120676) (nat_lit 2459) z460, ei (nat_lit 120677) (nat_lit 2462) z302, ei (nat_lit 120678) (nat_lit 2465) z304, ei (nat_lit 120679) (nat_lit 2468) z297]
noncomputable def ck117 (P : Params) : List DictEntry := [ei (nat_lit 120680) (nat_lit 2471) z295, ei (nat_lit 120681) (nat_lit 2474) z461, ei (nat_lit 120682) (nat_lit 2477) z298, ei (nat_lit 120683) (nat_lit 2480) z301, ei (nat_lit 120684) (nat_lit 2483) z462, ei (nat_lit 120685) (nat_lit 2486) z463, ei (nat_lit 120686) (nat_lit 2489) z464, ei (nat_lit 120705) (nat_lit 2492) z295]
noncomputable def ck118 (P : Params) : List DictEntry := [ei (nat_lit 120720) (nat_lit 2495) z453, ei (nat_lit 120721) (nat_lit 2498) z296, ei (nat_lit 120722) (nat_lit 2501) z384, ei (nat_lit 120723) (nat_lit 2504) z454, ei (nat_lit 120724) (nat_lit 2507) z305, ei (nat_lit 120725) (nat_lit 2510) z455, ei (nat_lit 120726) (nat_lit 2513) z456, ei (nat_lit 120727) (nat_lit 2516) z297]
noncomputable def ck119 (P : Params) : List DictEntry := [ei (nat_lit 120728) (nat_lit 2519) z291, ei (nat_lit 120729) (nat_lit 2522) z303, ei (nat_lit 120730) (nat_lit 2525) z457, ei (nat_lit 120731) (nat_lit 2528) z285, ei (nat_lit 120732) (nat_lit 2531) z458, ei (nat_lit 120733) (nat_lit 2534) z459, ei (nat_lit 120734) (nat_lit 2537) z460, ei (nat_lit 120735) (nat_lit 2540) z302]
noncomputable def ck120 (P : Params) : List DictEntry := [ei (nat_lit 120736) (nat_lit 2543) z304, ei (nat_lit 120737) (nat_lit 2546) z297, ei (nat_lit 120738) (nat_lit 2549) z295, ei (nat_lit 120739) (nat_lit 2552) z461, ei (nat_lit 120740) (nat_lit 2555) z298, ei (nat_lit 120741) (nat_lit 2558) z301, ei (nat_lit 120742) (nat_lit 2561) z462, ei (nat_lit 120743) (nat_lit 2563) z463]
noncomputable def ck121 (P : Params) : List DictEntry := [ei (nat_lit 120744) (nat_lit 2565) z464, ei (nat_lit 120763) (nat_lit 2567) z295]
noncomputable def ck122 (P : Params) : List DictEntry := ((ck40 P) ++ ((ck41 P) ++ ((ck42 P) ++ ((ck43 P) ++ ((ck44 P) ++ ((ck45 P) ++ ((ck46 P) ++ (ck47 P))))))))
noncomputable def ck123 (P : Params) : List DictEntry := ((ck48 P) ++ ((ck49 P) ++ ((ck50 P) ++ ((ck51 P) ++ ((ck52 P) ++ ((ck53 P) ++ ((ck54 P) ++ (ck55 P))))))))
noncomputable def ck124 (P : Params) : List DictEntry := ((ck56 P) ++ ((ck57 P) ++ ((ck58 P) ++ ((ck59 P) ++ ((ck60 P) ++ ((ck61 P) ++ ((ck62 P) ++ (ck63 P))))))))
noncomputable def ck125 (P : Params) : List DictEntry := ((ck64 P) ++ ((ck65 P) ++ ((ck66 P) ++ ((ck67 P) ++ ((ck68 P) ++ ((ck69 P) ++ ((ck70 P) ++ (ck71 P))))))))
noncomputable def ck126 (P : Params) : List DictEntry := ((ck72 P) ++ ((ck73 P) ++ ((ck74 P) ++ ((ck75 P) ++ ((ck76 P) ++ ((ck77 P) ++ ((ck78 P) ++ (ck79 P))))))))
noncomputable def ck127 (P : Params) : List DictEntry := ((ck80 P) ++ ((ck81 P) ++ ((ck82 P) ++ ((ck83 P) ++ ((ck84 P) ++ ((ck85 P) ++ ((ck86 P) ++ (ck87 P))))))))
noncomputable def ck128 (P : Params) : List DictEntry := ((ck88 P) ++ ((ck89 P) ++ ((ck90 P) ++ ((ck91 P) ++ ((ck92 P) ++ ((ck93 P) ++ ((ck94 P) ++ (ck95 P))))))))
noncomputable def ck129 (P : Params) : List DictEntry := ((ck96 P) ++ ((ck97 P) ++ ((ck98 P) ++ ((ck99 P) ++ ((ck100 P) ++ ((ck101 P) ++ ((ck102 P) ++ (ck103 P))))))))
noncomputable def ck130 (P : Params) : List DictEntry := ((ck104 P) ++ ((ck105 P) ++ ((ck106 P) ++ ((ck107 P) ++ ((ck108 P) ++ ((ck109 P) ++ ((ck110 P) ++ (ck111 P))))))))
noncomputable def ck131 (P : Params) : List DictEntry := ((ck112 P) ++ ((ck113 P) ++ ((ck114 P) ++ ((ck115 P) ++ ((ck116 P) ++ ((ck117 P) ++ ((ck118 P) ++ (ck119 P))))))))
noncomputable def ck132 (P : Params) : List DictEntry := ((ck120 P) ++ (ck121 P))
noncomputable def ck133 (P : Params) : List DictEntry := ((ck122 P) ++ ((ck123 P) ++ ((ck124 P) ++ ((ck125 P) ++ ((ck126 P) ++ ((ck127 P) ++ ((ck128 P) ++ (ck129 P))))))))
noncomputable def ck134 (P : Params) : List DictEntry := ((ck130 P) ++ ((ck131 P) ++ (ck132 P)))
noncomputable def o207 (P : Params) : Obj := ⟨(.type y0), none, (.dict ((ck133 P) ++ (ck134 P)).toArray 650), #[]⟩
noncomputable def ck135 (P : Params) : List DictEntry := [ei (nat_lit 982) (nat_lit 674) z302, ei (nat_lit 1008) (nat_lit 677) z303, ei (nat_lit 1009) (nat_lit 680) z304, ei (nat_lit 1010) (nat_lit 683) z295, ei (nat_lit 1013) (nat_lit 686) z305, ei (nat_lit 1415) (nat_lit 689) z306, ei (nat_lit 7830) (nat_lit 692) z307, ei (nat_lit 7831) (nat_lit 695) z308]
noncomputable def ck136 (P : Params) : List DictEntry := [ei (nat_lit 7832) (nat_lit 698) z309, ei (nat_lit 7833) (nat_lit 701) z310, ei (nat_lit 7834) (nat_lit 704) z311, ei (nat_lit 7835) (nat_lit 707) z312, ei (nat_lit 8016) (nat_lit 710) z313, ei (nat_lit 8018) (nat_lit 713) z314, ei (nat_lit 8020) (nat_lit 716) z315, ei (nat_lit 8022) (nat_lit 719) z316]
noncomputable def ck137 (P : Params) : List DictEntry := [ei (nat_lit 8064) (nat_lit 722) z317]
noncomputable def o208 (P : Params) : Obj := ⟨(.type y0), none, (.dict ((ck135 P) ++ ((ck136 P) ++ (ck137 P))).toArray 17), #[]⟩
noncomputable def ck138 (P : Params) : List DictEntry := [ei (nat_lit 8065) (nat_lit 725) z318, ei (nat_lit 8066) (nat_lit 728) z319, ei (nat_lit 8067) (nat_lit 731) z320, ei (nat_lit 8068) (nat_lit 734) z321, ei (nat_lit 8069) (nat_lit 737) z322, ei (nat_lit 8070) (nat_lit 740) z323, ei (nat_lit 8071) (nat_lit 743) z324, ei (nat_lit 8072) (nat_lit 746) z317]
noncomputable def ck139 (P : Params) : List DictEntry := [ei (nat_lit 8073) (nat_lit 749) z318, ei (nat_lit 8074) (nat_lit 752) z319, ei (nat_lit 8075) (nat_lit 755) z320, ei (nat_lit 8076) (nat_lit 758) z321, ei (nat_lit 8077) (nat_lit 761) z322, ei (nat_lit 8078) (nat_lit 764) z323, ei (nat_lit 8079) (nat_lit 767) z324, ei (nat_lit 8080) (nat_lit 770) z325]
noncomputable def ck140 (P : Params) : List DictEntry := [ei (nat_lit 8081) (nat_lit 773) z326]
noncomputable def o209 (P : Params) : Obj := ⟨(.type y0), none, (.dict ((ck138 P) ++ ((ck139 P) ++ (ck140 P))).toArray 17), #[]⟩
noncomputable def ck141 (P : Params) : List DictEntry := [ei (nat_lit 8082) (nat_lit 776) z327, ei (nat_lit 8083) (nat_lit 779) z328, ei (nat_lit 8084) (nat_lit 782) z329, ei (nat_lit 8085) (nat_lit 785) z330, ei (nat_lit 8086) (nat_lit 788) z331, ei (nat_lit 8087) (nat_lit 791) z332, ei (nat_lit 8088) (nat_lit 794) z325, ei (nat_lit 8089) (nat_lit 797) z326]
noncomputable def ck142 (P : Params) : List DictEntry := [ei (nat_lit 8090) (nat_lit 800) z327, ei (nat_lit 8091) (nat_lit 803) z328, ei (nat_lit 8092) (nat_lit 806) z329, ei (nat_lit 8093) (nat_lit 809) z330, ei (nat_lit 8094) (nat_lit 812) z331, ei (nat_lit 8095) (nat_lit 815) z332, ei (nat_lit 8096) (nat_lit 818) z333, ei (nat_lit 8097) (nat_lit 821) z334]
noncomputable def ck143 (P : Params) : List DictEntry := [ei (nat_lit 8098) (nat_lit 824) z335]
noncomputable def o210 (P : Params) : Obj := ⟨(.type y0), none, (.dict ((ck141 P) ++ ((ck142 P) ++ (ck143 P))).toArray 17), #[]⟩
noncomputable def ck144 (P : Params) : List DictEntry := [ei (nat_lit 8099) (nat_lit 827) z336, ei (nat_lit 8100) (nat_lit 830) z337, ei (nat_lit 8101) (nat_lit 833) z338, ei (nat_lit 8102) (nat_lit 836) z339, ei (nat_lit 8103) (nat_lit 839) z340, ei (nat_lit 8104) (nat_lit 842) z333, ei (nat_lit 8105) (nat_lit 845) z334, ei (nat_lit 8106) (nat_lit 848) z335]
noncomputable def ck145 (P : Params) : List DictEntry := [ei (nat_lit 8107) (nat_lit 851) z336, ei (nat_lit 8108) (nat_lit 854) z337, ei (nat_lit 8109) (nat_lit 857) z338, ei (nat_lit 8110) (nat_lit 860) z339, ei (nat_lit 8111) (nat_lit 863) z340, ei (nat_lit 8114) (nat_lit 866) z341, ei (nat_lit 8115) (nat_lit 869) z342, ei (nat_lit 8116) (nat_lit 872) z343]
noncomputable def ck146 (P : Params) : List DictEntry := [ei (nat_lit 8118) (nat_lit 875) z344]
noncomputable def o211 (P : Params) : Obj := ⟨(.type y0), none, (.dict ((ck144 P) ++ ((ck145 P) ++ (ck146 P))).toArray 17), #[]⟩
noncomputable def ck147 (P : Params) : List DictEntry := [ei (nat_lit 8119) (nat_lit 878) z345, ei (nat_lit 8124) (nat_lit 881) z342, ei (nat_lit 8126) (nat_lit 884) z291, ei (nat_lit 8130) (nat_lit 887) z346, ei (nat_lit 8131) (nat_lit 890) z347, ei (nat_lit 8132) (nat_lit 893) z348, ei (nat_lit 8134) (nat_lit 896) z349, ei (nat_lit 8135) (nat_lit 899) z350]
noncomputable def ck148 (P : Params) : List DictEntry := [ei (nat_lit 8140) (nat_lit 902) z347, ei (nat_lit 8146) (nat_lit 905) z351, ei (nat_lit 8147) (nat_lit 908) z293, ei (nat_lit 8150) (nat_lit 911) z352, ei (nat_lit 8151) (nat_lit 914) z353, ei (nat_lit 8162) (nat_lit 917) z354, ei (nat_lit 8163) (nat_lit 920) z294, ei (nat_lit 8164) (nat_lit 923) z355]
noncomputable def ck149 (P : Params) : List DictEntry := [ei (nat_lit 8166) (nat_lit 926) z356]
noncomputable def o212 (P : Params) : Obj := ⟨(.type y0), none, (.dict ((ck147 P) ++ ((ck148 P) ++ (ck149 P))).toArray 17), #[]⟩
noncomputable def ck150 (P : Params) : List DictEntry := [ei (nat_lit 8167) (nat_lit 929) z357, ei (nat_lit 8178) (nat_lit 932) z358, ei (nat_lit 8179) (nat_lit 935) z359, ei (nat_lit 8180) (nat_lit 938) z360, ei (nat_lit 8182) (nat_lit 941) z361, ei (nat_lit 8183) (nat_lit 944) z362, ei (nat_lit 8188) (nat_lit 947) z359, ei (nat_lit 8360) (nat_lit 950) z363]
noncomputable def ck151 (P : Params) : List DictEntry := [ei (nat_lit 8450) (nat_lit 953) z364, ei (nat_lit 8451) (nat_lit 956) z365, ei (nat_lit 8455) (nat_lit 959) z366, ei (nat_lit 8457) (nat_lit 962) z367, ei (nat_lit 8459) (nat_lit 965) z368, ei (nat_lit 8460) (nat_lit 968) z368, ei (nat_lit 8461) (nat_lit 971) z368, ei (nat_lit 8464) (nat_lit 974) z369]
noncomputable def ck152 (P : Params) : List DictEntry := [ei (nat_lit 8465) (nat_lit 977) z369]
noncomputable def o213 (P : Params) : Obj := ⟨(.type y0), none, (.dict ((ck150 P) ++ ((ck151 P) ++ (ck152 P))).toArray 17), #[]⟩
noncomputable def ck153 (P : Params) : List DictEntry := [ei (nat_lit 8466) (nat_lit 980) z370, ei (nat_lit 8469) (nat_lit 983) z371, ei (nat_lit 8470) (nat_lit 986) z372, ei (nat_lit 8473) (nat_lit 989) z373, ei (nat_lit 8474) (nat_lit 992) z374, ei (nat_lit 8475) (nat_lit 995) z375, ei (nat_lit 8476) (nat_lit 998) z375, ei (nat_lit 8477) (nat_lit 1001) z375]
noncomputable def ck154 (P : Params) : List DictEntry := [ei (nat_lit 8480) (nat_lit 1004) z376, ei (nat_lit 8481) (nat_lit 1007) z377, ei (nat_lit 8482) (nat_lit 1010) z378, ei (nat_lit 8484) (nat_lit 1013) z379, ei (nat_lit 8488) (nat_lit 1016) z379, ei (nat_lit 8492) (nat_lit 1019) z380, ei (nat_lit 8493) (nat_lit 1022) z364, ei (nat_lit 8496) (nat_lit 1025) z381]
noncomputable def ck155 (P : Params) : List DictEntry := [ei (nat_lit 8497) (nat_lit 1028) z382]
noncomputable def o214 (P : Params) : Obj := ⟨(.type y0), none, (.dict ((ck153 P) ++ ((ck154 P) ++ (ck155 P))).toArray 17), #[]⟩
noncomputable def ck156 (P : Params) : List DictEntry := [ei (nat_lit 13195) (nat_lit 1079) z398]
noncomputable def o215 (P : Params) : Obj := ⟨(.type y0), none, (.dict ((ck57 P) ++ ((ck58 P) ++ (ck156 P))).toArray 17), #[]⟩
noncomputable def ck157 (P : Params) : List DictEntry := [ei (nat_lit 13196) (nat_lit 1082) z399, ei (nat_lit 13200) (nat_lit 1085) z400, ei (nat_lit 13201) (nat_lit 1088) z401, ei (nat_lit 13202) (nat_lit 1091) z402, ei (nat_lit 13203) (nat_lit 1094) z403, ei (nat_lit 13204) (nat_lit 1097) z404, ei (nat_lit 13225) (nat_lit 1100) z389, ei (nat_lit 13226) (nat_lit 1103) z405]
noncomputable def ck158 (P : Params) : List DictEntry := [ei (nat_lit 13227) (nat_lit 1106) z406, ei (nat_lit 13228) (nat_lit 1109) z407, ei (nat_lit 13236) (nat_lit 1112) z408, ei (nat_lit 13237) (nat_lit 1115) z409, ei (nat_lit 13238) (nat_lit 1118) z410, ei (nat_lit 13239) (nat_lit 1121) z411, ei (nat_lit 13240) (nat_lit 1124) z412, ei (nat_lit 13241) (nat_lit 1127) z411]
noncomputable def ck159 (P : Params) : List DictEntry := [ei (nat_lit 13242) (nat_lit 1130) z413]
noncomputable def o216 (P : Params) : Obj := ⟨(.type y0), none, (.dict ((ck157 P) ++ ((ck158 P) ++ (ck159 P))).toArray 17), #[]⟩
noncomputable def ck160 (P : Params) : List DictEntry := [ei (nat_lit 13243) (nat_lit 1133) z414, ei (nat_lit 13244) (nat_lit 1136) z415, ei (nat_lit 13245) (nat_lit 1139) z416, ei (nat_lit 13246) (nat_lit 1142) z417, ei (nat_lit 13247) (nat_lit 1145) z416, ei (nat_lit 13248) (nat_lit 1148) z418, ei (nat_lit 13249) (nat_lit 1151) z419, ei (nat_lit 13251) (nat_lit 1154) z420]
noncomputable def ck161 (P : Params) : List DictEntry := [ei (nat_lit 13254) (nat_lit 1157) z421, ei (nat_lit 13255) (nat_lit 1160) z422, ei (nat_lit 13256) (nat_lit 1163) z423, ei (nat_lit 13257) (nat_lit 1166) z424, ei (nat_lit 13259) (nat_lit 1169) z425, ei (nat_lit 13261) (nat_lit 1172) z426, ei (nat_lit 13262) (nat_lit 1175) z427, ei (nat_lit 13271) (nat_lit 1178) z428]
noncomputable def ck162 (P : Params) : List DictEntry := [ei (nat_lit 13273) (nat_lit 1181) z429]
noncomputable def o217 (P : Params) : Obj := ⟨(.type y0), none, (.dict ((ck160 P) ++ ((ck161 P) ++ (ck162 P))).toArray 17), #[]⟩
noncomputable def ck163 (P : Params) : List DictEntry := [ei (nat_lit 13274) (nat_lit 1184) z430, ei (nat_lit 13276) (nat_lit 1187) z431, ei (nat_lit 13277) (nat_lit 1190) z432, ei (nat_lit 64256) (nat_lit 1193) z433, ei (nat_lit 64257) (nat_lit 1196) z434, ei (nat_lit 64258) (nat_lit 1199) z435, ei (nat_lit 64259) (nat_lit 1202) z436, ei (nat_lit 64260) (nat_lit 1205) z437]
noncomputable def ck164 (P : Params) : List DictEntry := [ei (nat_lit 64261) (nat_lit 1208) z438, ei (nat_lit 64262) (nat_lit 1211) z438, ei (nat_lit 64275) (nat_lit 1214) z439, ei (nat_lit 64276) (nat_lit 1217) z440, ei (nat_lit 64277) (nat_lit 1220) z441, ei (nat_lit 64278) (nat_lit 1223) z442, ei (nat_lit 64279) (nat_lit 1226) z443, ei (nat_lit 119808) (nat_lit 1229) z444]
noncomputable def ck165 (P : Params) : List DictEntry := [ei (nat_lit 119809) (nat_lit 1232) z380]
noncomputable def o218 (P : Params) : Obj := ⟨(.type y0), none, (.dict ((ck163 P) ++ ((ck164 P) ++ (ck165 P))).toArray 17), #[]⟩
noncomputable def ck166 (P : Params) : List DictEntry := [ei (nat_lit 119810) (nat_lit 1235) z364, ei (nat_lit 119811) (nat_lit 1238) z385, ei (nat_lit 119812) (nat_lit 1241) z381, ei (nat_lit 119813) (nat_lit 1244) z382, ei (nat_lit 119814) (nat_lit 1247) z445, ei (nat_lit 119815) (nat_lit 1250) z368, ei (nat_lit 119816) (nat_lit 1253) z369, ei (nat_lit 119817) (nat_lit 1256) z446]
noncomputable def ck167 (P : Params) : List DictEntry := [ei (nat_lit 119818) (nat_lit 1259) z231, ei (nat_lit 119819) (nat_lit 1262) z370, ei (nat_lit 119820) (nat_lit 1265) z383, ei (nat_lit 119821) (nat_lit 1268) z371, ei (nat_lit 119822) (nat_lit 1271) z447, ei (nat_lit 119823) (nat_lit 1274) z373, ei (nat_lit 119824) (nat_lit 1277) z374, ei (nat_lit 119825) (nat_lit 1280) z375]
noncomputable def ck168 (P : Params) : List DictEntry := [ei (nat_lit 119826) (nat_lit 1283) z289]
noncomputable def o219 (P : Params) : Obj := ⟨(.type y0), none, (.dict ((ck166 P) ++ ((ck167 P) ++ (ck168 P))).toArray 17), #[]⟩
noncomputable def ck169 (P : Params) : List DictEntry := [ei (nat_lit 119827) (nat_lit 1286) z448, ei (nat_lit 119828) (nat_lit 1289) z449, ei (nat_lit 119829) (nat_lit 1292) z257, ei (nat_lit 119830) (nat_lit 1295) z450, ei (nat_lit 119831) (nat_lit 1298) z451, ei (nat_lit 119832) (nat_lit 1301) z452, ei (nat_lit 119833) (nat_lit 1304) z379, ei (nat_lit 119860) (nat_lit 1307) z444]
noncomputable def ck170 (P : Params) : List DictEntry := [ei (nat_lit 119861) (nat_lit 1310) z380, ei (nat_lit 119862) (nat_lit 1313) z364, ei (nat_lit 119863) (nat_lit 1316) z385, ei (nat_lit 119864) (nat_lit 1319) z381, ei (nat_lit 119865) (nat_lit 1322) z382, ei (nat_lit 119866) (nat_lit 1325) z445, ei (nat_lit 119867) (nat_lit 1328) z368, ei (nat_lit 119868) (nat_lit 1331) z369]
noncomputable def ck171 (P : Params) : List DictEntry := [ei (nat_lit 119869) (nat_lit 1334) z446]
noncomputable def o220 (P : Params) : Obj := ⟨(.type y0), none, (.dict ((ck169 P) ++ ((ck170 P) ++ (ck171 P))).toArray 17), #[]⟩
noncomputable def ck172 (P : Params) : List DictEntry := [ei (nat_lit 119870) (nat_lit 1337) z231, ei (nat_lit 119871) (nat_lit 1340) z370, ei (nat_lit 119872) (nat_lit 1343) z383, ei (nat_lit 119873) (nat_lit 1346) z371, ei (nat_lit 119874) (nat_lit 1349) z447, ei (nat_lit 119875) (nat_lit 1352) z373, ei (nat_lit 119876) (nat_lit 1355) z374, ei (nat_lit 119877) (nat_lit 1358) z375]
noncomputable def ck173 (P : Params) : List DictEntry := [ei (nat_lit 119878) (nat_lit 1361) z289, ei (nat_lit 119879) (nat_lit 1364) z448, ei (nat_lit 119880) (nat_lit 1367) z449, ei (nat_lit 119881) (nat_lit 1370) z257, ei (nat_lit 119882) (nat_lit 1373) z450, ei (nat_lit 119883) (nat_lit 1376) z451, ei (nat_lit 119884) (nat_lit 1379) z452, ei (nat_lit 119885) (nat_lit 1382) z379]
noncomputable def ck174 (P : Params) : List DictEntry := [ei (nat_lit 119912) (nat_lit 1385) z444]
noncomputable def o221 (P : Params) : Obj := ⟨(.type y0), none, (.dict ((ck172 P) ++ ((ck173 P) ++ (ck174 P))).toArray 17), #[]⟩
noncomputable def ck175 (P : Params) : List DictEntry := [ei (nat_lit 119913) (nat_lit 1388) z380, ei (nat_lit 119914) (nat_lit 1391) z364, ei (nat_lit 119915) (nat_lit 1394) z385, ei (nat_lit 119916) (nat_lit 1397) z381, ei (nat_lit 119917) (nat_lit 1400) z382, ei (nat_lit 119918) (nat_lit 1403) z445, ei (nat_lit 119919) (nat_lit 1406) z368, ei (nat_lit 119920) (nat_lit 1409) z369]
noncomputable def ck176 (P : Params) : List DictEntry := [ei (nat_lit 119921) (nat_lit 1412) z446, ei (nat_lit 119922) (nat_lit 1415) z231, ei (nat_lit 119923) (nat_lit 1418) z370, ei (nat_lit 119924) (nat_lit 1421) z383, ei (nat_lit 119925) (nat_lit 1424) z371, ei (nat_lit 119926) (nat_lit 1427) z447, ei (nat_lit 119927) (nat_lit 1430) z373, ei (nat_lit 119928) (nat_lit 1433) z374]
noncomputable def ck177 (P : Params) : List DictEntry := [ei (nat_lit 119929) (nat_lit 1436) z375]
noncomputable def o222 (P : Params) : Obj := ⟨(.type y0), none, (.dict ((ck175 P) ++ ((ck176 P) ++ (ck177 P))).toArray 17), #[]⟩
noncomputable def ck178 (P : Params) : List DictEntry := [ei (nat_lit 119979) (nat_lit 1487) z373]
noncomputable def o223 (P : Params) : Obj := ⟨(.type y0), none, (.dict ((ck74 P) ++ ((ck75 P) ++ (ck178 P))).toArray 17), #[]⟩
noncomputable def ck179 (P : Params) : List DictEntry := [ei (nat_lit 119980) (nat_lit 1490) z374, ei (nat_lit 119982) (nat_lit 1493) z289, ei (nat_lit 119983) (nat_lit 1496) z448, ei (nat_lit 119984) (nat_lit 1499) z449, ei (nat_lit 119985) (nat_lit 1502) z257, ei (nat_lit 119986) (nat_lit 1505) z450, ei (nat_lit 119987) (nat_lit 1508) z451, ei (nat_lit 119988) (nat_lit 1511) z452]
noncomputable def ck180 (P : Params) : List DictEntry := [ei (nat_lit 119989) (nat_lit 1514) z379, ei (nat_lit 120016) (nat_lit 1517) z444, ei (nat_lit 120017) (nat_lit 1520) z380, ei (nat_lit 120018) (nat_lit 1523) z364, ei (nat_lit 120019) (nat_lit 1526) z385, ei (nat_lit 120020) (nat_lit 1529) z381, ei (nat_lit 120021) (nat_lit 1532) z382, ei (nat_lit 120022) (nat_lit 1535) z445]
noncomputable def ck181 (P : Params) : List DictEntry := [ei (nat_lit 120023) (nat_lit 1538) z368]
noncomputable def o224 (P : Params) : Obj := ⟨(.type y0), none, (.dict ((ck179 P) ++ ((ck180 P) ++ (ck181 P))).toArray 17), #[]⟩
noncomputable def ck182 (P : Params) : List DictEntry := [ei (nat_lit 120024) (nat_lit 1541) z369, ei (nat_lit 120025) (nat_lit 1544) z446, ei (nat_lit 120026) (nat_lit 1547) z231, ei (nat_lit 120027) (nat_lit 1550) z370, ei (nat_lit 120028) (nat_lit 1553) z383, ei (nat_lit 120029) (nat_lit 1556) z371, ei (nat_lit 120030) (nat_lit 1559) z447, ei (nat_lit 120031) (nat_lit 1562) z373]
noncomputable def ck183 (P : Params) : List DictEntry := [ei (nat_lit 120032) (nat_lit 1565) z374, ei (nat_lit 120033) (nat_lit 1568) z375, ei (nat_lit 120034) (nat_lit 1571) z289, ei (nat_lit 120035) (nat_lit 1574) z448, ei (nat_lit 120036) (nat_lit 1577) z449, ei (nat_lit 120037) (nat_lit 1580) z257, ei (nat_lit 120038) (nat_lit 1583) z450, ei (nat_lit 120039) (nat_lit 1586) z451]
noncomputable def ck184 (P : Params) : List DictEntry := [ei (nat_lit 120040) (nat_lit 1589) z452]
noncomputable def o225 (P : Params) : Obj := ⟨(.type y0), none, (.dict ((ck182 P) ++ ((ck183 P) ++ (ck184 P))).toArray 17), #[]⟩
noncomputable def ck185 (P : Params) : List DictEntry := [ei (nat_lit 120041) (nat_lit 1592) z379, ei (nat_lit 120068) (nat_lit 1595) z444, ei (nat_lit 120069) (nat_lit 1598) z380, ei (nat_lit 120071) (nat_lit 1601) z385, ei (nat_lit 120072) (nat_lit 1604) z381, ei (nat_lit 120073) (nat_lit 1607) z382, ei (nat_lit 120074) (nat_lit 1610) z445, ei (nat_lit 120077) (nat_lit 1613) z446]
noncomputable def ck186 (P : Params) : List DictEntry := [ei (nat_lit 120078) (nat_lit 1616) z231, ei (nat_lit 120079) (nat_lit 1619) z370, ei (nat_lit 120080) (nat_lit 1622) z383, ei (nat_lit 120081) (nat_lit 1625) z371, ei (nat_lit 120082) (nat_lit 1628) z447, ei (nat_lit 120083) (nat_lit 1631) z373, ei (nat_lit 120084) (nat_lit 1634) z374, ei (nat_lit 120086) (nat_lit 1637) z289]
noncomputable def ck187 (P : Params) : List DictEntry := [ei (nat_lit 120087) (nat_lit 1640) z448]
noncomputable def o226 (P : Params) : Obj := ⟨(.type y0), none, (.dict ((ck185 P) ++ ((ck186 P) ++ (ck187 P))).toArray 17), #[]⟩
noncomputable def ck188 (P : Params) : List DictEntry := [ei (nat_lit 120088) (nat_lit 1643) z449, ei (nat_lit 120089) (nat_lit 1646) z257, ei (nat_lit 120090) (nat_lit 1649) z450, ei (nat_lit 120091) (nat_lit 1652) z451, ei (nat_lit 120092) (nat_lit 1655) z452, ei (nat_lit 120120) (nat_lit 1658) z444, ei (nat_lit 120121) (nat_lit 1661) z380, ei (nat_lit 120123) (nat_lit 1664) z385]
noncomputable def ck189 (P : Params) : List DictEntry := [ei (nat_lit 120124) (nat_lit 1667) z381, ei (nat_lit 120125) (nat_lit 1670) z382, ei (nat_lit 120126) (nat_lit 1673) z445, ei (nat_lit 120128) (nat_lit 1676) z369, ei (nat_lit 120129) (nat_lit 1679) z446, ei (nat_lit 120130) (nat_lit 1682) z231, ei (nat_lit 120131) (nat_lit 1685) z370, ei (nat_lit 120132) (nat_lit 1688) z383]
noncomputable def ck190 (P : Params) : List DictEntry := [ei (nat_lit 120134) (nat_lit 1691) z447]
noncomputable def o227 (P : Params) : Obj := ⟨(.type y0), none, (.dict ((ck188 P) ++ ((ck189 P) ++ (ck190 P))).toArray 17), #[]⟩
noncomputable def ck191 (P : Params) : List DictEntry := [ei (nat_lit 120138) (nat_lit 1694) z289, ei (nat_lit 120139) (nat_lit 1697) z448, ei (nat_lit 120140) (nat_lit 1700) z449, ei (nat_lit 120141) (nat_lit 1703) z257, ei (nat_lit 120142) (nat_lit 1706) z450, ei (nat_lit 120143) (nat_lit 1709) z451, ei (nat_lit 120144) (nat_lit 1712) z452, ei (nat_lit 120172) (nat_lit 1715) z444]
noncomputable def ck192 (P : Params) : List DictEntry := [ei (nat_lit 120173) (nat_lit 1718) z380, ei (nat_lit 120174) (nat_lit 1721) z364, ei (nat_lit 120175) (nat_lit 1724) z385, ei (nat_lit 120176) (nat_lit 1727) z381, ei (nat_lit 120177) (nat_lit 1730) z382, ei (nat_lit 120178) (nat_lit 1733) z445, ei (nat_lit 120179) (nat_lit 1736) z368, ei (nat_lit 120180) (nat_lit 1739) z369]
noncomputable def ck193 (P : Params) : List DictEntry := [ei (nat_lit 120181) (nat_lit 1742) z446]
noncomputable def o228 (P : Params) : Obj := ⟨(.type y0), none, (.dict ((ck191 P) ++ ((ck192 P) ++ (ck193 P))).toArray 17), #[]⟩
noncomputable def ck194 (P : Params) : List DictEntry := [ei (nat_lit 120182) (nat_lit 1745) z231, ei (nat_lit 120183) (nat_lit 1748) z370, ei (nat_lit 120184) (nat_lit 1751) z383, ei (nat_lit 120185) (nat_lit 1754) z371, ei (nat_lit 120186) (nat_lit 1757) z447, ei (nat_lit 120187) (nat_lit 1760) z373, ei (nat_lit 120188) (nat_lit 1763) z374, ei (nat_lit 120189) (nat_lit 1766) z375]
noncomputable def ck195 (P : Params) : List DictEntry := [ei (nat_lit 120190) (nat_lit 1769) z289, ei (nat_lit 120191) (nat_lit 1772) z448, ei (nat_lit 120192) (nat_lit 1775) z449, ei (nat_lit 120193) (nat_lit 1778) z257, ei (nat_lit 120194) (nat_lit 1781) z450, ei (nat_lit 120195) (nat_lit 1784) z451, ei (nat_lit 120196) (nat_lit 1787) z452, ei (nat_lit 120197) (nat_lit 1790) z379]
noncomputable def ck196 (P : Params) : List DictEntry := [ei (nat_lit 120224) (nat_lit 1793) z444]
noncomputable def o229 (P : Params) : Obj := ⟨(.type y0), none, (.dict ((ck194 P) ++ ((ck195 P) ++ (ck196 P))).toArray 17), #[]⟩
noncomputable def ck197 (P : Params) : List DictEntry := [ei (nat_lit 120225) (nat_lit 1796) z380, ei (nat_lit 120226) (nat_lit 1799) z364, ei (nat_lit 120227) (nat_lit 1802) z385, ei (nat_lit 120228) (nat_lit 1805) z381, ei (nat_lit 120229) (nat_lit 1808) z382, ei (nat_lit 120230) (nat_lit 1811) z445, ei (nat_lit 120231) (nat_lit 1814) z368, ei (nat_lit 120232) (nat_lit 1817) z369]
noncomputable def ck198 (P : Params) : List DictEntry := [ei (nat_lit 120233) (nat_lit 1820) z446, ei (nat_lit 120234) (nat_lit 1823) z231, ei (nat_lit 120235) (nat_lit 1826) z370, ei (nat_lit 120236) (nat_lit 1829) z383, ei (nat_lit 120237) (nat_lit 1832) z371, ei (nat_lit 120238) (nat_lit 1835) z447, ei (nat_lit 120239) (nat_lit 1838) z373, ei (nat_lit 120240) (nat_lit 1841) z374]
noncomputable def ck199 (P : Params) : List DictEntry := [ei (nat_lit 120241) (nat_lit 1844) z375]
noncomputable def o230 (P : Params) : Obj := ⟨(.type y0), none, (.dict ((ck197 P) ++ ((ck198 P) ++ (ck199 P))).toArray 17), #[]⟩
noncomputable def ck200 (P : Params) : List DictEntry := [ei (nat_lit 120284) (nat_lit 1895) z369]
noncomputable def o231 (P : Params) : Obj := ⟨(.type y0), none, (.dict ((ck91 P) ++ ((ck92 P) ++ (ck200 P))).toArray 17), #[]⟩
noncomputable def ck201 (P : Params) : List DictEntry := [ei (nat_lit 120285) (nat_lit 1898) z446, ei (nat_lit 120286) (nat_lit 1901) z231, ei (nat_lit 120287) (nat_lit 1904) z370, ei (nat_lit 120288) (nat_lit 1907) z383, ei (nat_lit 120289) (nat_lit 1910) z371, ei (nat_lit 120290) (nat_lit 1913) z447, ei (nat_lit 120291) (nat_lit 1916) z373, ei (nat_lit 120292) (nat_lit 1919) z374]
noncomputable def ck202 (P : Params) : List DictEntry := [ei (nat_lit 120293) (nat_lit 1922) z375, ei (nat_lit 120294) (nat_lit 1925) z289, ei (nat_lit 120295) (nat_lit 1928) z448, ei (nat_lit 120296) (nat_lit 1931) z449, ei (nat_lit 120297) (nat_lit 1934) z257, ei (nat_lit 120298) (nat_lit 1937) z450, ei (nat_lit 120299) (nat_lit 1940) z451, ei (nat_lit 120300) (nat_lit 1943) z452]
noncomputable def ck203 (P : Params) : List DictEntry := [ei (nat_lit 120301) (nat_lit 1946) z379]
noncomputable def o232 (P : Params) : Obj := ⟨(.type y0), none, (.dict ((ck201 P) ++ ((ck202 P) ++ (ck203 P))).toArray 17), #[]⟩
noncomputable def ck204 (P : Params) : List DictEntry := [ei (nat_lit 120328) (nat_lit 1949) z444, ei (nat_lit 120329) (nat_lit 1952) z380, ei (nat_lit 120330) (nat_lit 1955) z364, ei (nat_lit 120331) (nat_lit 1958) z385, ei (nat_lit 120332) (nat_lit 1961) z381, ei (nat_lit 120333) (nat_lit 1964) z382, ei (nat_lit 120334) (nat_lit 1967) z445, ei (nat_lit 120335) (nat_lit 1970) z368]
noncomputable def ck205 (P : Params) : List DictEntry := [ei (nat_lit 120336) (nat_lit 1973) z369, ei (nat_lit 120337) (nat_lit 1976) z446, ei (nat_lit 120338) (nat_lit 1979) z231, ei (nat_lit 120339) (nat_lit 1982) z370, ei (nat_lit 120340) (nat_lit 1985) z383, ei (nat_lit 120341) (nat_lit 1988) z371, ei (nat_lit 120342) (nat_lit 1991) z447, ei (nat_lit 120343) (nat_lit 1994) z373]
noncomputable def ck206 (P : Params) : List DictEntry := [ei (nat_lit 120344) (nat_lit 1997) z374]
noncomputable def o233 (P : Params) : Obj := ⟨(.type y0), none, (.dict ((ck204 P) ++ ((ck205 P) ++ (ck206 P))).toArray 17), #[]⟩
noncomputable def ck207 (P : Params) : List DictEntry := [ei (nat_lit 120345) (nat_lit 2000) z375, ei (nat_lit 120346) (nat_lit 2003) z289, ei (nat_lit 120347) (nat_lit 2006) z448, ei (nat_lit 120348) (nat_lit 2009) z449, ei (nat_lit 120349) (nat_lit 2012) z257, ei (nat_lit 120350) (nat_lit 2015) z450, ei (nat_lit 120351) (nat_lit 2018) z451, ei (nat_lit 120352) (nat_lit 2021) z452]
noncomputable def ck208 (P : Params) : List DictEntry := [ei (nat_lit 120353) (nat_lit 2024) z379, ei (nat_lit 120380) (nat_lit 2027) z444, ei (nat_lit 120381) (nat_lit 2030) z380, ei (nat_lit 120382) (nat_lit 2033) z364, ei (nat_lit 120383) (nat_lit 2036) z385, ei (nat_lit 120384) (nat_lit 2039) z381, ei (nat_lit 120385) (nat_lit 2042) z382, ei (nat_lit 120386) (nat_lit 2045) z445]
noncomputable def ck209 (P : Params) : List DictEntry := [ei (nat_lit 120387) (nat_lit 2048) z368]
noncomputable def o234 (P : Params) : Obj := ⟨(.type y0), none, (.dict ((ck207 P) ++ ((ck208 P) ++ (ck209 P))).toArray 17), #[]⟩
noncomputable def ck210 (P : Params) : List DictEntry := [ei (nat_lit 120388) (nat_lit 2051) z369, ei (nat_lit 120389) (nat_lit 2054) z446, ei (nat_lit 120390) (nat_lit 2057) z231, ei (nat_lit 120391) (nat_lit 2060) z370, ei (nat_lit 120392) (nat_lit 2063) z383, ei (nat_lit 120393) (nat_lit 2066) z371, ei (nat_lit 120394) (nat_lit 2069) z447, ei (nat_lit 120395) (nat_lit 2072) z373]
noncomputable def ck211 (P : Params) : List DictEntry := [ei (nat_lit 120396) (nat_lit 2075) z374, ei (nat_lit 120397) (nat_lit 2078) z375, ei (nat_lit 120398) (nat_lit 2081) z289, ei (nat_lit 120399) (nat_lit 2084) z448, ei (nat_lit 120400) (nat_lit 2087) z449, ei (nat_lit 120401) (nat_lit 2090) z257, ei (nat_lit 120402) (nat_lit 2093) z450, ei (nat_lit 120403) (nat_lit 2096) z451]
noncomputable def ck212 (P : Params) : List DictEntry := [ei (nat_lit 120404) (nat_lit 2099) z452]
noncomputable def o235 (P : Params) : Obj := ⟨(.type y0), none, (.dict ((ck210 P) ++ ((ck211 P) ++ (ck212 P))).toArray 17), #[]⟩
noncomputable def ck213 (P : Params) : List DictEntry := [ei (nat_lit 120405) (nat_lit 2102) z379, ei (nat_lit 120432) (nat_lit 2105) z444, ei (nat_lit 120433) (nat_lit 2108) z380, ei (nat_lit 120434) (nat_lit 2111) z364, ei (nat_lit 120435) (nat_lit 2114) z385, ei (nat_lit 120436) (nat_lit 2117) z381, ei (nat_lit 120437) (nat_lit 2120) z382, ei (nat_lit 120438) (nat_lit 2123) z445]
noncomputable def ck214 (P : Params) : List DictEntry := [ei (nat_lit 120439) (nat_lit 2126) z368, ei (nat_lit 120440) (nat_lit 2129) z369, ei (nat_lit 120441) (nat_lit 2132) z446, ei (nat_lit 120442) (nat_lit 2135) z231, ei (nat_lit 120443) (nat_lit 2138) z370, ei (nat_lit 120444) (nat_lit 2141) z383, ei (nat_lit 120445) (nat_lit 2144) z371, ei (nat_lit 120446) (nat_lit 2147) z447]
noncomputable def ck215 (P : Params) : List DictEntry := [ei (nat_lit 120447) (nat_lit 2150) z373]
noncomputable def o236 (P : Params) : Obj := ⟨(.type y0), none, (.dict ((ck213 P) ++ ((ck214 P) ++ (ck215 P))).toArray 17), #[]⟩
noncomputable def ck216 (P : Params) : List DictEntry := [ei (nat_lit 120448) (nat_lit 2153) z374, ei (nat_lit 120449) (nat_lit 2156) z375, ei (nat_lit 120450) (nat_lit 2159) z289, ei (nat_lit 120451) (nat_lit 2162) z448, ei (nat_lit 120452) (nat_lit 2165) z449, ei (nat_lit 120453) (nat_lit 2168) z257, ei (nat_lit 120454) (nat_lit 2171) z450, ei (nat_lit 120455) (nat_lit 2174) z451]
noncomputable def ck217 (P : Params) : List DictEntry := [ei (nat_lit 120456) (nat_lit 2177) z452, ei (nat_lit 120457) (nat_lit 2180) z379, ei (nat_lit 120488) (nat_lit 2183) z453, ei (nat_lit 120489) (nat_lit 2186) z296, ei (nat_lit 120490) (nat_lit 2189) z384, ei (nat_lit 120491) (nat_lit 2192) z454, ei (nat_lit 120492) (nat_lit 2195) z305, ei (nat_lit 120493) (nat_lit 2198) z455]
noncomputable def ck218 (P : Params) : List DictEntry := [ei (nat_lit 120494) (nat_lit 2201) z456]
noncomputable def o237 (P : Params) : Obj := ⟨(.type y0), none, (.dict ((ck216 P) ++ ((ck217 P) ++ (ck218 P))).toArray 17), #[]⟩
noncomputable def ck219 (P : Params) : List DictEntry := [ei (nat_lit 120495) (nat_lit 2204) z297, ei (nat_lit 120496) (nat_lit 2207) z291, ei (nat_lit 120497) (nat_lit 2210) z303, ei (nat_lit 120498) (nat_lit 2213) z457, ei (nat_lit 120499) (nat_lit 2216) z285, ei (nat_lit 120500) (nat_lit 2219) z458, ei (nat_lit 120501) (nat_lit 2222) z459, ei (nat_lit 120502) (nat_lit 2225) z460]
noncomputable def ck220 (P : Params) : List DictEntry := [ei (nat_lit 120503) (nat_lit 2228) z302, ei (nat_lit 120504) (nat_lit 2231) z304, ei (nat_lit 120505) (nat_lit 2234) z297, ei (nat_lit 120506) (nat_lit 2237) z295, ei (nat_lit 120507) (nat_lit 2240) z461, ei (nat_lit 120508) (nat_lit 2243) z298, ei (nat_lit 120509) (nat_lit 2246) z301, ei (nat_lit 120510) (nat_lit 2249) z462]
noncomputable def ck221 (P : Params) : List DictEntry := [ei (nat_lit 120511) (nat_lit 2252) z463]
noncomputable def o238 (P : Params) : Obj := ⟨(.type y0), none, (.dict ((ck219 P) ++ ((ck220 P) ++ (ck221 P))).toArray 17), #[]⟩
noncomputable def ck222 (P : Params) : List DictEntry := [ei (nat_lit 120560) (nat_lit 2303) z460]
noncomputable def o239 (P : Params) : Obj := ⟨(.type y0), none, (.dict ((ck108 P) ++ ((ck109 P) ++ (ck222 P))).toArray 17), #[]⟩
noncomputable def ck223 (P : Params) : List DictEntry := [ei (nat_lit 120561) (nat_lit 2306) z302, ei (nat_lit 120562) (nat_lit 2309) z304, ei (nat_lit 120563) (nat_lit 2312) z297, ei (nat_lit 120564) (nat_lit 2315) z295, ei (nat_lit 120565) (nat_lit 2318) z461, ei (nat_lit 120566) (nat_lit 2321) z298, ei (nat_lit 120567) (nat_lit 2324) z301, ei (nat_lit 120568) (nat_lit 2327) z462]
noncomputable def ck224 (P : Params) : List DictEntry := [ei (nat_lit 120569) (nat_lit 2330) z463, ei (nat_lit 120570) (nat_lit 2333) z464, ei (nat_lit 120589) (nat_lit 2336) z295, ei (nat_lit 120604) (nat_lit 2339) z453, ei (nat_lit 120605) (nat_lit 2342) z296, ei (nat_lit 120606) (nat_lit 2345) z384, ei (nat_lit 120607) (nat_lit 2348) z454, ei (nat_lit 120608) (nat_lit 2351) z305]
noncomputable def ck225 (P : Params) : List DictEntry := [ei (nat_lit 120609) (nat_lit 2354) z455]
noncomputable def o240 (P : Params) : Obj := ⟨(.type y0), none, (.dict ((ck223 P) ++ ((ck224 P) ++ (ck225 P))).toArray 17), #[]⟩
noncomputable def ck226 (P : Params) : List DictEntry := [ei (nat_lit 120610) (nat_lit 2357) z456, ei (nat_lit 120611) (nat_lit 2360) z297, ei (nat_lit 120612) (nat_lit 2363) z291, ei (nat_lit 120613) (nat_lit 2366) z303, ei (nat_lit 120614) (nat_lit 2369) z457, ei (nat_lit 120615) (nat_lit 2372) z285, ei (nat_lit 120616) (nat_lit 2375) z458, ei (nat_lit 120617) (nat_lit 2378) z459]
noncomputable def ck227 (P : Params) : List DictEntry := [ei (nat_lit 120618) (nat_lit 2381) z460, ei (nat_lit 120619) (nat_lit 2384) z302, ei (nat_lit 120620) (nat_lit 2387) z304, ei (nat_lit 120621) (nat_lit 2390) z297, ei (nat_lit 120622) (nat_lit 2393) z295, ei (nat_lit 120623) (nat_lit 2396) z461, ei (nat_lit 120624) (nat_lit 2399) z298, ei (nat_lit 120625) (nat_lit 2402) z301]
noncomputable def ck228 (P : Params) : List DictEntry := [ei (nat_lit 120626) (nat_lit 2405) z462]
noncomputable def o241 (P : Params) : Obj := ⟨(.type y0), none, (.dict ((ck226 P) ++ ((ck227 P) ++ (ck228 P))).toArray 17), #[]⟩
noncomputable def ck229 (P : Params) : List DictEntry := [ei (nat_lit 120627) (nat_lit 2408) z463, ei (nat_lit 120628) (nat_lit 2411) z464, ei (nat_lit 120647) (nat_lit 2414) z295, ei (nat_lit 120662) (nat_lit 2417) z453, ei (nat_lit 120663) (nat_lit 2420) z296, ei (nat_lit 120664) (nat_lit 2423) z384, ei (nat_lit 120665) (nat_lit 2426) z454, ei (nat_lit 120666) (nat_lit 2429) z305]
noncomputable def ck230 (P : Params) : List DictEntry := [ei (nat_lit 120667) (nat_lit 2432) z455, ei (nat_lit 120668) (nat_lit 2435) z456, ei (nat_lit 120669) (nat_lit 2438) z297, ei (nat_lit 120670) (nat_lit 2441) z291, ei (nat_lit 120671) (nat_lit 2444) z303, ei (nat_lit 120672) (nat_lit 2447) z457, ei (nat_lit 120673) (nat_lit 2450) z285, ei (nat_lit 120674) (nat_lit 2453) z458]
noncomputable def ck231 (P : Params) : List DictEntry := [ei (nat_lit 120675) (nat_lit 2456) z459]
noncomputable def o242 (P : Params) : Obj := ⟨(.type y0), none, (.dict ((ck229 P) ++ ((ck230 P) ++ (ck231 P))).toArray 17), #[]⟩
noncomputable def ck232 (P : Params) : List DictEntry := [ei (nat_lit 120676) (nat_lit 2459) z460, ei (nat_lit 120677) (nat_lit 2462) z302, ei (nat_lit 120678) (nat_lit 2465) z304, ei (nat_lit 120679) (nat_lit 2468) z297, ei (nat_lit 120680) (nat_lit 2471) z295, ei (nat_lit 120681) (nat_lit 2474) z461, ei (nat_lit 120682) (nat_lit 2477) z298, ei (nat_lit 120683) (nat_lit 2480) z301]
noncomputable def ck233 (P : Params) : List DictEntry := [ei (nat_lit 120684) (nat_lit 2483) z462, ei (nat_lit 120685) (nat_lit 2486) z463, ei (nat_lit 120686) (nat_lit 2489) z464, ei (nat_lit 120705) (nat_lit 2492) z295, ei (nat_lit 120720) (nat_lit 2495) z453, ei (nat_lit 120721) (nat_lit 2498) z296, ei (nat_lit 120722) (nat_lit 2501) z384, ei (nat_lit 120723) (nat_lit 2504) z454]
noncomputable def ck234 (P : Params) : List DictEntry := [ei (nat_lit 120724) (nat_lit 2507) z305]
noncomputable def o243 (P : Params) : Obj := ⟨(.type y0), none, (.dict ((ck232 P) ++ ((ck233 P) ++ (ck234 P))).toArray 17), #[]⟩
noncomputable def ck235 (P : Params) : List DictEntry := [ei (nat_lit 120725) (nat_lit 2510) z455, ei (nat_lit 120726) (nat_lit 2513) z456, ei (nat_lit 120727) (nat_lit 2516) z297, ei (nat_lit 120728) (nat_lit 2519) z291, ei (nat_lit 120729) (nat_lit 2522) z303, ei (nat_lit 120730) (nat_lit 2525) z457, ei (nat_lit 120731) (nat_lit 2528) z285, ei (nat_lit 120732) (nat_lit 2531) z458]
noncomputable def ck236 (P : Params) : List DictEntry := [ei (nat_lit 120733) (nat_lit 2534) z459, ei (nat_lit 120734) (nat_lit 2537) z460, ei (nat_lit 120735) (nat_lit 2540) z302, ei (nat_lit 120736) (nat_lit 2543) z304, ei (nat_lit 120737) (nat_lit 2546) z297, ei (nat_lit 120738) (nat_lit 2549) z295, ei (nat_lit 120739) (nat_lit 2552) z461, ei (nat_lit 120740) (nat_lit 2555) z298]
noncomputable def ck237 (P : Params) : List DictEntry := [ei (nat_lit 120741) (nat_lit 2558) z301]
noncomputable def o244 (P : Params) : Obj := ⟨(.type y0), none, (.dict ((ck235 P) ++ ((ck236 P) ++ (ck237 P))).toArray 17), #[]⟩
noncomputable def o245 (P : Params) : Obj := ⟨(.type y0), none, (.dict #[ei (nat_lit 120742) (nat_lit 2561) z462, ei (nat_lit 120743) (nat_lit 2563) z463, ei (nat_lit 120744) (nat_lit 2565) z464, ei (nat_lit 120763) (nat_lit 2567) z295] 4), #[]⟩
noncomputable def bt85 (P : Params) : BT := (.node (o95 P) (.node (o159 P) .nil .nil) (.node (o223 P) .nil .nil))
noncomputable def bt86 (P : Params) : BT := (.node (o79 P) (.node (o143 P) .nil .nil) (.node (o207 P) .nil .nil))
noncomputable def bt87 (P : Params) : BT := (.node (o111 P) (.node (o175 P) .nil .nil) (.node (o239 P) .nil .nil))
noncomputable def bt88 (P : Params) : BT := (.node (o103 P) (.node (o167 P) .nil .nil) (.node (o231 P) .nil .nil))
noncomputable def bt89 (P : Params) : BT := (.node (o87 P) (.node (o151 P) .nil .nil) (.node (o215 P) .nil .nil))
noncomputable def bt90 (P : Params) : BT := (.node (o7 P) (.node (o15 P) (.node (o31 P) (bt13 P) (bt85 P)) (.node (o47 P) (bt86 P) (bt87 P))) (.node (o23 P) (.node (o39 P) (bt17 P) (bt88 P)) (.node (o55 P) (bt89 P) (bt20 P))))
noncomputable def bt91 (P : Params) : BT := (.node (o99 P) (.node (o163 P) .nil .nil) (.node (o227 P) .nil .nil))
noncomputable def bt92 (P : Params) : BT := (.node (o83 P) (.node (o147 P) .nil .nil) (.node (o211 P) .nil .nil))
noncomputable def bt93 (P : Params) : BT := (.node (o115 P) (.node (o179 P) .nil .nil) (.node (o243 P) .nil .nil))
noncomputable def bt94 (P : Params) : BT := (.node (o107 P) (.node (o171 P) .nil .nil) (.node (o235 P) .nil .nil))
noncomputable def bt95 (P : Params) : BT := (.node (o91 P) (.node (o155 P) .nil .nil) (.node (o219 P) .nil .nil))
noncomputable def bt96 (P : Params) : BT := (.node (o11 P) (.node (o19 P) (.node (o35 P) (bt22 P) (bt91 P)) (.node (o51 P) (bt92 P) (bt93 P))) (.node (o27 P) (.node (o43 P) (bt26 P) (bt94 P)) (.node (o59 P) (bt95 P) (bt29 P))))
noncomputable def bt97 (P : Params) : BT := (.node (o97 P) (.node (o161 P) .nil .nil) (.node (o225 P) .nil .nil))
noncomputable def bt98 (P : Params) : BT := (.node (o81 P) (.node (o145 P) .nil .nil) (.node (o209 P) .nil .nil))
noncomputable def bt99 (P : Params) : BT := (.node (o113 P) (.node (o177 P) .nil .nil) (.node (o241 P) .nil .nil))
noncomputable def bt100 (P : Params) : BT := (.node (o105 P) (.node (o169 P) .nil .nil) (.node (o233 P) .nil .nil))
noncomputable def bt101 (P : Params) : BT := (.node (o89 P) (.node (o153 P) .nil .nil) (.node (o217 P) .nil .nil))
noncomputable def bt102 (P : Params) : BT := (.node (o9 P) (.node (o17 P) (.node (o33 P) (bt31 P) (bt97 P)) (.node (o49 P) (bt98 P) (bt99 P))) (.node (o25 P) (.node (o41 P) (bt35 P) (bt100 P)) (.node (o57 P) (bt101 P) (bt38 P))))
noncomputable def bt103 (P : Params) : BT := (.node (o101 P) (.node (o165 P) .nil .nil) (.node (o229 P) .nil .nil))
noncomputable def bt104 (P : Params) : BT := (.node (o85 P) (.node (o149 P) .nil .nil) (.node (o213 P) .nil .nil))
noncomputable def bt105 (P : Params) : BT := (.node (o117 P) (.node (o181 P) .nil .nil) (.node (o245 P) .nil .nil))
noncomputable def bt106 (P : Params) : BT := (.node (o109 P) (.node (o173 P) .nil .nil) (.node (o237 P) .nil .nil))
noncomputable def bt107 (P : Params) : BT := (.node (o93 P) (.node (o157 P) .nil .nil) (.node (o221 P) .nil .nil))
noncomputable def bt108 (P : Params) : BT := (.node (o13 P) (.node (o21 P) (.node (o37 P) (bt40 P) (bt103 P)) (.node (o53 P) (bt104 P) (bt105 P))) (.node (o29v2 P) (.node (o45 P) (bt44 P) (bt106 P)) (.node (o61 P) (bt107 P) (bt47 P))))
noncomputable def bt109 (P : Params) : BT := (.node (o96 P) (.node (o160 P) .nil .nil) (.node (o224 P) .nil .nil))
noncomputable def bt110 (P : Params) : BT := (.node (o80 P) (.node (o144 P) .nil .nil) (.node (o208 P) .nil .nil))
noncomputable def bt111 (P : Params) : BT := (.node (o112 P) (.node (o176 P) .nil .nil) (.node (o240 P) .nil .nil))
noncomputable def bt112 (P : Params) : BT := (.node (o104 P) (.node (o168 P) .nil .nil) (.node (o232 P) .nil .nil))
noncomputable def bt113 (P : Params) : BT := (.node (o88 P) (.node (o152 P) .nil .nil) (.node (o216 P) .nil .nil))
noncomputable def bt114 (P : Params) : BT := (.node (o8 P) (.node (o16 P) (.node (o32 P) (bt49 P) (bt109 P)) (.node (o48 P) (bt110 P) (bt111 P))) (.node (o24 P) (.node (o40 P) (bt53 P) (bt112 P)) (.node (o56 P) (bt113 P) (bt56 P))))
noncomputable def bt115 (P : Params) : BT := (.node (o100 P) (.node (o164 P) .nil .nil) (.node (o228 P) .nil .nil))
noncomputable def bt116 (P : Params) : BT := (.node (o84 P) (.node (o148 P) .nil .nil) (.node (o212 P) .nil .nil))
noncomputable def bt117 (P : Params) : BT := (.node (o116 P) (.node (o180 P) .nil .nil) (.node (o244 P) .nil .nil))
noncomputable def bt118 (P : Params) : BT := (.node (o108 P) (.node (o172 P) .nil .nil) (.node (o236 P) .nil .nil))
noncomputable def bt119 (P : Params) : BT := (.node (o92 P) (.node (o156 P) .nil .nil) (.node (o220 P) .nil .nil))
noncomputable def bt120 (P : Params) : BT := (.node (o12 P) (.node (o20 P) (.node (o36 P) (bt58 P) (bt115 P)) (.node (o52 P) (bt116 P) (bt117 P))) (.node (o28 P) (.node (o44 P) (bt62 P) (bt118 P)) (.node (o60 P) (bt119 P) (bt65 P))))
noncomputable def bt121 (P : Params) : BT := (.node (o98 P) (.node (o162 P) .nil .nil) (.node (o226 P) .nil .nil))
noncomputable def bt122 (P : Params) : BT := (.node (o82 P) (.node (o146 P) .nil .nil) (.node (o210 P) .nil .nil))
noncomputable def bt123 (P : Params) : BT := (.node (o114 P) (.node (o178 P) .nil .nil) (.node (o242 P) .nil .nil))
noncomputable def bt124 (P : Params) : BT := (.node (o106 P) (.node (o170 P) .nil .nil) (.node (o234 P) .nil .nil))
noncomputable def bt125 (P : Params) : BT := (.node (o90 P) (.node (o154 P) .nil .nil) (.node (o218 P) .nil .nil))
noncomputable def bt126 (P : Params) : BT := (.node (o10 P) (.node (o18 P) (.node (o34 P) (bt67 P) (bt121 P)) (.node (o50 P) (bt122 P) (bt123 P))) (.node (o26 P) (.node (o42 P) (bt71 P) (bt124 P)) (.node (o58 P) (bt125 P) (bt74 P))))
noncomputable def bt127 (P : Params) : BT := (.node (o102 P) (.node (o166 P) .nil .nil) (.node (o230 P) .nil .nil))
noncomputable def bt128 (P : Params) : BT := (.node (o86 P) (.node (o150 P) .nil .nil) (.node (o214 P) .nil .nil))
noncomputable def bt129 (P : Params) : BT := (.node (o110 P) (.node (o174 P) .nil .nil) (.node (o238 P) .nil .nil))
noncomputable def bt130 (P : Params) : BT := (.node (o94 P) (.node (o158 P) .nil .nil) (.node (o222 P) .nil .nil))
noncomputable def bt131 (P : Params) : BT := (.node (o14 P) (.node (o22 P) (.node (o38 P) (bt76 P) (bt127 P)) (.node (o54 P) (bt128 P) (bt79 P))) (.node (o30 P) (.node (o46 P) (bt80 P) (bt129 P)) (.node (o62 P) (bt130 P) (bt83 P))))
noncomputable def trE (P : Params) : BT := (.node (o0 P) (.node (o1 P) (.node (o3v3 P) (bt90 P) (bt96 P)) (.node (o5 P) (bt102 P) (bt108 P))) (.node (o2 P) (.node (o4 P) (bt114 P) (bt120 P)) (.node (o6 P) (bt126 P) (bt131 P))))
noncomputable def trX (P : Params) : BT := (.node (o0 P) (.node (o1 P) (.node (o3v2 P) (bt90 P) (bt96 P)) (.node (o5 P) (bt102 P) (bt108 P))) (.node (o2 P) (.node (o4 P) (bt114 P) (bt120 P)) (.node (o6 P) (bt126 P) (bt131 P))))
noncomputable def ck238 (P : Params) : List DictEntry := [en P z0 (nat_lit 165) (.str z465 2582), en P z2 (nat_lit 166) .none, en P z3 (nat_lit 167) .none, en P z4 (nat_lit 168) (.builtin y10), en P z5 (nat_lit 169) .none, en P z171 (nat_lit 170) (.ref 6), en P z172 (nat_lit 171) (.ref 4), en P z173 (nat_lit 173) (.str z174 172)]
noncomputable def ck239 (P : Params) : List DictEntry := [en P z229 (nat_lit 615) (.ref 196), en P z230 (nat_lit 622) (.ref 206), en P z284 (nat_lit 2573) (.ref 207), en P z466 (nat_lit 2581) (.ref 252), en P z467 (nat_lit 2589) (.ref 257), en P z468 (nat_lit 2604) (.ref 264), en P z469 (nat_lit 2616) (.ref 271), en P z470 (nat_lit 2630) (.ref 278)]
noncomputable def ck240 (P : Params) : List DictEntry := [en P z471 (nat_lit 2636) (.ref 283), en P z472 (nat_lit 2642) (.ref 288), en P z473 (nat_lit 2651) (.ref 295), en P z474 (nat_lit 2657) (.ref 300)]
noncomputable def o3v4 (P : Params) : Obj := ⟨(.type y0), none, (.dict ((ck238 P) ++ ((ck31 P) ++ ((ck239 P) ++ (ck240 P)))).toArray 28), #[]⟩
noncomputable def o29v4 (P : Params) : Obj := ⟨.none, none, (.fields #[(.int 2 0), (.int 0 0), (.ref 37), (.int 9 0), (.int 0 0), (.ref 60), (.int 18 0), (.int 0 0), (.ref 67), (.int 101 0), (.int 0 0), (.ref 205), (.int 104 0), (.int 0 0), (.ref 251), (.int 110 0), (.int 0 0), (.ref 256), (.int 112 0), (.int 0 0), (.ref 263), (.int 137 0), (.int 0 0), (.ref 270), (.int 150 0), (.int 0 0), (.ref 277), (.int 157 0), (.int 0 0), (.ref 282), (.int 160 0), (.int 0 0), (.ref 287), (.int 165 0), (.int 0 0), (.ref 294), (.int 167 0), (.int 0 0), (.ref 299)]), #[]⟩
noncomputable def o246 (P : Params) : Obj := ⟨(.type y6), none, (.seq #[] 0), #[]⟩
noncomputable def o247 (P : Params) : Obj := ⟨.none, none, (.fields #[]), #[]⟩
noncomputable def o248 (P : Params) : Obj := ⟨(.type y6), none, (.seq #[(.str z283 2577), (.str z375 2578)] 0), #[]⟩
noncomputable def o249 (P : Params) : Obj := ⟨(.type y6), none, (.seq #[] 0), #[]⟩
noncomputable def o250 (P : Params) : Obj := ⟨.none, none, (.func { name := z466, qualname := z466, params := sArgs (stAt 12), body := .stmts (sBody (stAt 12)), scope := sScope (stAt 12), globals := 0, closure := [], defaults := .none, kwdefaults := .none, doc := .none, pyModule := .none, annotations := none, code := .none, closureTuple := .none, builtins := 0 }), #[]⟩
noncomputable def o251 (P : Params) : Obj := ⟨(.type y12), none, (.fields #[(.str z466 2574), (.str z466 2575), (.str z174 2576), (.int 104 0), (.int 1 0), (.int 0 0), (.int 0 0), (.int 3 0), (.ref 246), (.bool true), (.int 276 0), (.ref 247), .none, (.ref 248), (.ref 249), (.ref 250), (.int 2579 0), (.int 104 0), (.str z174 2580)]), #[]⟩
noncomputable def o252 (P : Params) : Obj := ⟨(.type y18), none, (.func { name := z466, qualname := z466, params := sArgs (stAt 12), body := .stmts (sBody (stAt 12)), scope := sScope (stAt 12), globals := 3, closure := [], defaults := .none, kwdefaults := .none, doc := .none, pyModule := (.str z222 554), annotations := none, code := (.ref 251), closureTuple := .none, builtins := 0 }), #[]⟩
noncomputable def o253 (P : Params) : Obj := ⟨(.type y6), none, (.seq #[] 0), #[]⟩
noncomputable def o254 (P : Params) : Obj := ⟨.none, none, (.fields #[]), #[]⟩
noncomputable def o255 (P : Params) : Obj := ⟨.none, none, (.func { name := z467, qualname := z467, params := sArgs (stAt 14), body := .stmts (sBody (stAt 14)), scope := sScope (stAt 14), globals := 0, closure := [], defaults := .none, kwdefaults := .none, doc := .none, pyModule := .none, annotations := none, code := .none, closureTuple := .none, builtins := 0 }), #[]⟩
noncomputable def o256 (P : Params) : Obj := ⟨(.type y12), none, (.fields #[(.str z467 2584), (.str z467 2585), (.str z174 2586), (.int 110 0), (.int 1 0), (.int 0 0), (.int 0 0), (.int 3 0), (.ref 253), (.bool true), (.int 276 0), (.ref 254), .none, .none, .none, (.ref 255), (.int 2587 0), (.int 110 0), (.str z174 2588)]), #[]⟩
noncomputable def o257 (P : Params) : Obj := ⟨(.type y18), none, (.func { name := z467, qualname := z467, params := sArgs (stAt 14), body := .stmts (sBody (stAt 14)), scope := sScope (stAt 14), globals := 3, closure := [], defaults := .none, kwdefaults := .none, doc := .none, pyModule := (.str z465 2582), annotations := none, code := (.ref 256), closureTuple := .none, builtins := 0 }), #[]⟩
noncomputable def o258 (P : Params) : Obj := ⟨(.type y6), none, (.seq #[] 0), #[]⟩
noncomputable def o259 (P : Params) : Obj := ⟨.none, none, (.fields #[]), #[]⟩
noncomputable def o260 (P : Params) : Obj := ⟨(.type y6), none, (.seq #[(.str z475 2593), (.str z476 2594), (.str z477 2595), (.str z478 2596), (.str z479 2597), (.str z480 2598), (.str z481 2599), (.str z482 2600), (.str z483 2601)] 0), #[]⟩
noncomputable def o261 (P : Params) : Obj := ⟨(.type y6), none, (.seq #[] 0), #[]⟩
noncomputable def o262 (P : Params) : Obj := ⟨.none, none, (.func { name := z468, qualname := z468, params := sArgs (stAt 15), body := .stmts (sBody (stAt 15)), scope := sScope (stAt 15), globals := 0, closure := [], defaults := .none, kwdefaults := .none, doc := .none, pyModule := .none, annotations := none, code := .none, closureTuple := .none, builtins := 0 }), #[]⟩
noncomputable def o263 (P : Params) : Obj := ⟨(.type y12), none, (.fields #[(.str z468 2590), (.str z468 2591), (.str z174 2592), (.int 112 0), (.int 1 0), (.int 0 0), (.int 0 0), (.int 3 0), (.ref 258), (.bool true), (.int 276 0), (.ref 259), .none, (.ref 260), (.ref 261), (.ref 262), (.int 2602 0), (.int 112 0), (.str z174 2603)]), #[]⟩
noncomputable def o264 (P : Params) : Obj := ⟨(.type y18), none, (.func { name := z468, qualname := z468, params := sArgs (stAt 15), body := .stmts (sBody (stAt 15)), scope := sScope (stAt 15), globals := 3, closure := [], defaults := .none, kwdefaults := .none, doc := .none, pyModule := (.str z465 2582), annotations := none, code := (.ref 263), closureTuple := .none, builtins := 0 }), #[]⟩
noncomputable def o265 (P : Params) : Obj := ⟨(.type y6), none, (.seq #[] 0), #[]⟩
noncomputable def o266 (P : Params) : Obj := ⟨.none, none, (.fields #[]), #[]⟩
noncomputable def o267 (P : Params) : Obj := ⟨(.type y6), none, (.seq #[(.str z484 2608), (.str z485 2609), (.str z475 2610), (.str z486 2611), (.str z478 2612), (.str z487 2613)] 0), #[]⟩
noncomputable def o268 (P : Params) : Obj := ⟨(.type y6), none, (.seq #[] 0), #[]⟩
noncomputable def o269 (P : Params) : Obj := ⟨.none, none, (.func { name := z469, qualname := z469, params := sArgs (stAt 16), body := .stmts (sBody (stAt 16)), scope := sScope (stAt 16), globals := 0, closure := [], defaults := .none, kwdefaults := .none, doc := .none, pyModule := .none, annotations := none, code := .none, closureTuple := .none, builtins := 0 }), #[]⟩
noncomputable def o270 (P : Params) : Obj := ⟨(.type y12), none, (.fields #[(.str z469 2605), (.str z469 2606), (.str z174 2607), (.int 137 0), (.int 1 0), (.int 0 0), (.int 0 0), (.int 3 0), (.ref 265), (.bool true), (.int 276 0), (.ref 266), .none, (.ref 267), (.ref 268), (.ref 269), (.int 2614 0), (.int 137 0), (.str z174 2615)]), #[]⟩
noncomputable def o271 (P : Params) : Obj := ⟨(.type y18), none, (.func { name := z469, qualname := z469, params := sArgs (stAt 16), body := .stmts (sBody (stAt 16)), scope := sScope (stAt 16), globals := 3, closure := [], defaults := .none, kwdefaults := .none, doc := .none, pyModule := (.str z465 2582), annotations := none, code := (.ref 270), closureTuple := .none, builtins := 0 }), #[]⟩
noncomputable def o272 (P : Params) : Obj := ⟨(.type y6), none, (.seq #[] 0), #[]⟩
noncomputable def o273 (P : Params) : Obj := ⟨.none, none, (.fields #[]), #[]⟩
noncomputable def o274 (P : Params) : Obj := ⟨(.type y6), none, (.seq #[(.str z205 2620), (.str z488 2621), (.str z248 2622), (.str z489 2623), (.str z490 2624), (.str z491 2625), (.str z492 2626), (.str z493 2627)] 0), #[]⟩
noncomputable def o275 (P : Params) : Obj := ⟨(.type y6), none, (.seq #[] 0), #[]⟩
noncomputable def o276 (P : Params) : Obj := ⟨.none, none, (.func { name := z470, qualname := z470, params := sArgs (stAt 17), body := .stmts (sBody (stAt 17)), scope := sScope (stAt 17), globals := 0, closure := [], defaults := .none, kwdefaults := .none, doc := .none, pyModule := .none, annotations := none, code := .none, closureTuple := .none, builtins := 0 }), #[]⟩
noncomputable def o277 (P : Params) : Obj := ⟨(.type y12), none, (.fields #[(.str z470 2617), (.str z470 2618), (.str z174 2619), (.int 150 0), (.int 4 0), (.int 0 0), (.int 0 0), (.int 3 0), (.ref 272), (.bool true), (.int 276 0), (.ref 273), .none, (.ref 274), (.ref 275), (.ref 276), (.int 2628 0), (.int 150 0), (.str z174 2629)]), #[]⟩
noncomputable def o278 (P : Params) : Obj := ⟨(.type y18), none, (.func { name := z470, qualname := z470, params := sArgs (stAt 17), body := .stmts (sBody (stAt 17)), scope := sScope (stAt 17), globals := 3, closure := [], defaults := .none, kwdefaults := .none, doc := .none, pyModule := (.str z465 2582), annotations := none, code := (.ref 277), closureTuple := .none, builtins := 0 }), #[]⟩
noncomputable def o279 (P : Params) : Obj := ⟨(.type y6), none, (.seq #[] 0), #[]⟩
noncomputable def o280 (P : Params) : Obj := ⟨.none, none, (.fields #[]), #[]⟩
noncomputable def o281 (P : Params) : Obj := ⟨.none, none, (.func { name := z471, qualname := z471, params := sArgs (stAt 18), body := .stmts (sBody (stAt 18)), scope := sScope (stAt 18), globals := 0, closure := [], defaults := .none, kwdefaults := .none, doc := .none, pyModule := .none, annotations := none, code := .none, closureTuple := .none, builtins := 0 }), #[]⟩
noncomputable def o282 (P : Params) : Obj := ⟨(.type y12), none, (.fields #[(.str z471 2631), (.str z471 2632), (.str z174 2633), (.int 157 0), (.int 1 0), (.int 0 0), (.int 0 0), (.int 3 0), (.ref 279), (.bool true), (.int 276 0), (.ref 280), .none, .none, .none, (.ref 281), (.int 2634 0), (.int 157 0), (.str z174 2635)]), #[]⟩
noncomputable def o283 (P : Params) : Obj := ⟨(.type y18), none, (.func { name := z471, qualname := z471, params := sArgs (stAt 18), body := .stmts (sBody (stAt 18)), scope := sScope (stAt 18), globals := 3, closure := [], defaults := .none, kwdefaults := .none, doc := .none, pyModule := (.str z465 2582), annotations := none, code := (.ref 282), closureTuple := .none, builtins := 0 }), #[]⟩
noncomputable def o284 (P : Params) : Obj := ⟨(.type y6), none, (.seq #[] 0), #[]⟩
noncomputable def o285 (P : Params) : Obj := ⟨.none, none, (.fields #[]), #[]⟩
noncomputable def o286 (P : Params) : Obj := ⟨.none, none, (.func { name := z472, qualname := z472, params := sArgs (stAt 19), body := .stmts (sBody (stAt 19)), scope := sScope (stAt 19), globals := 0, closure := [], defaults := .none, kwdefaults := .none, doc := .none, pyModule := .none, annotations := none, code := .none, closureTuple := .none, builtins := 0 }), #[]⟩
noncomputable def o287 (P : Params) : Obj := ⟨(.type y12), none, (.fields #[(.str z472 2637), (.str z472 2638), (.str z174 2639), (.int 160 0), (.int 3 0), (.int 0 0), (.int 0 0), (.int 3 0), (.ref 284), (.bool true), (.int 276 0), (.ref 285), .none, .none, .none, (.ref 286), (.int 2640 0), (.int 160 0), (.str z174 2641)]), #[]⟩
noncomputable def o288 (P : Params) : Obj := ⟨(.type y18), none, (.func { name := z472, qualname := z472, params := sArgs (stAt 19), body := .stmts (sBody (stAt 19)), scope := sScope (stAt 19), globals := 3, closure := [], defaults := .none, kwdefaults := .none, doc := .none, pyModule := (.str z465 2582), annotations := none, code := (.ref 287), closureTuple := .none, builtins := 0 }), #[]⟩
noncomputable def o289 (P : Params) : Obj := ⟨(.type y6), none, (.seq #[] 0), #[]⟩
noncomputable def o290 (P : Params) : Obj := ⟨.none, none, (.fields #[]), #[]⟩
noncomputable def o291 (P : Params) : Obj := ⟨(.type y6), none, (.seq #[(.str z205 2646), (.str z488 2647), (.str z280 2648)] 0), #[]⟩
noncomputable def o292 (P : Params) : Obj := ⟨(.type y6), none, (.seq #[] 0), #[]⟩
noncomputable def o293 (P : Params) : Obj := ⟨.none, none, (.func { name := z473, qualname := z473, params := sArgs (stAt 20), body := .stmts (sBody (stAt 20)), scope := sScope (stAt 20), globals := 0, closure := [], defaults := .none, kwdefaults := .none, doc := .none, pyModule := .none, annotations := none, code := .none, closureTuple := .none, builtins := 0 }), #[]⟩
noncomputable def o294 (P : Params) : Obj := ⟨(.type y12), none, (.fields #[(.str z473 2643), (.str z473 2644), (.str z174 2645), (.int 165 0), (.int 3 0), (.int 0 0), (.int 0 0), (.int 3 0), (.ref 289), (.bool true), (.int 276 0), (.ref 290), .none, (.ref 291), (.ref 292), (.ref 293), (.int 2649 0), (.int 165 0), (.str z174 2650)]), #[]⟩
noncomputable def o295 (P : Params) : Obj := ⟨(.type y18), none, (.func { name := z473, qualname := z473, params := sArgs (stAt 20), body := .stmts (sBody (stAt 20)), scope := sScope (stAt 20), globals := 3, closure := [], defaults := .none, kwdefaults := .none, doc := .none, pyModule := (.str z465 2582), annotations := none, code := (.ref 294), closureTuple := .none, builtins := 0 }), #[]⟩
noncomputable def o296 (P : Params) : Obj := ⟨(.type y6), none, (.seq #[] 0), #[]⟩
noncomputable def o297 (P : Params) : Obj := ⟨.none, none, (.fields #[]), #[]⟩
noncomputable def o298 (P : Params) : Obj := ⟨.none, none, (.func { name := z474, qualname := z474, params := sArgs (stAt 21), body := .stmts (sBody (stAt 21)), scope := sScope (stAt 21), globals := 0, closure := [], defaults := .none, kwdefaults := .none, doc := .none, pyModule := .none, annotations := none, code := .none, closureTuple := .none, builtins := 0 }), #[]⟩
noncomputable def o299 (P : Params) : Obj := ⟨(.type y12), none, (.fields #[(.str z474 2652), (.str z474 2653), (.str z174 2654), (.int 167 0), (.int 1 0), (.int 0 0), (.int 0 0), (.int 3 0), (.ref 296), (.bool true), (.int 276 0), (.ref 297), .none, .none, .none, (.ref 298), (.int 2655 0), (.int 167 0), (.str z174 2656)]), #[]⟩
noncomputable def o300 (P : Params) : Obj := ⟨(.type y18), none, (.func { name := z474, qualname := z474, params := sArgs (stAt 21), body := .stmts (sBody (stAt 21)), scope := sScope (stAt 21), globals := 3, closure := [], defaults := .none, kwdefaults := .none, doc := .none, pyModule := (.str z465 2582), annotations := none, code := (.ref 299), closureTuple := .none, builtins := 0 }), #[]⟩
noncomputable def bt132 (P : Params) : BT := (.node (o63 P) (.node (o127 P) (.node (o255 P) .nil .nil) .nil) (.node (o191 P) .nil .nil))
noncomputable def bt133 (P : Params) : BT := (.node (o95 P) (.node (o159 P) (.node (o287 P) .nil .nil) .nil) (.node (o223 P) .nil .nil))
noncomputable def bt134 (P : Params) : BT := (.node (o79 P) (.node (o143 P) (.node (o271 P) .nil .nil) .nil) (.node (o207 P) .nil .nil))
noncomputable def bt135 (P : Params) : BT := (.node (o71 P) (.node (o135 P) (.node (o263 P) .nil .nil) .nil) (.node (o199 P) .nil .nil))
noncomputable def bt136 (P : Params) : BT := (.node (o103 P) (.node (o167 P) (.node (o295 P) .nil .nil) .nil) (.node (o231 P) .nil .nil))
noncomputable def bt137 (P : Params) : BT := (.node (o87 P) (.node (o151 P) (.node (o279 P) .nil .nil) .nil) (.node (o215 P) .nil .nil))
noncomputable def bt138 (P : Params) : BT := (.node (o119 P) (.node (o183 P) .nil .nil) (.node (o247 P) .nil .nil))
noncomputable def bt139 (P : Params) : BT := (.node (o7 P) (.node (o15 P) (.node (o31 P) (bt132 P) (bt133 P)) (.node (o47 P) (bt134 P) (bt87 P))) (.node (o23 P) (.node (o39 P) (bt135 P) (bt136 P)) (.node (o55 P) (bt137 P) (bt138 P))))
noncomputable def bt140 (P : Params) : BT := (.node (o67 P) (.node (o131 P) (.node (o259 P) .nil .nil) .nil) (.node (o195 P) .nil .nil))
noncomputable def bt141 (P : Params) : BT := (.node (o99 P) (.node (o163 P) (.node (o291 P) .nil .nil) .nil) (.node (o227 P) .nil .nil))
noncomputable def bt142 (P : Params) : BT := (.node (o83 P) (.node (o147 P) (.node (o275 P) .nil .nil) .nil) (.node (o211 P) .nil .nil))
noncomputable def bt143 (P : Params) : BT := (.node (o75 P) (.node (o139 P) (.node (o267 P) .nil .nil) .nil) (.node (o203 P) .nil .nil))
noncomputable def bt144 (P : Params) : BT := (.node (o107 P) (.node (o171 P) (.node (o299 P) .nil .nil) .nil) (.node (o235 P) .nil .nil))
noncomputable def bt145 (P : Params) : BT := (.node (o91 P) (.node (o155 P) (.node (o283 P) .nil .nil) .nil) (.node (o219 P) .nil .nil))
noncomputable def bt146 (P : Params) : BT := (.node (o123 P) (.node (o187 P) .nil .nil) (.node (o251 P) .nil .nil))
noncomputable def bt147 (P : Params) : BT := (.node (o11 P) (.node (o19 P) (.node (o35 P) (bt140 P) (bt141 P)) (.node (o51 P) (bt142 P) (bt93 P))) (.node (o27 P) (.node (o43 P) (bt143 P) (bt144 P)) (.node (o59 P) (bt145 P) (bt146 P))))
noncomputable def bt148 (P : Params) : BT := (.node (o65 P) (.node (o129 P) (.node (o257 P) .nil .nil) .nil) (.node (o193 P) .nil .nil))
noncomputable def bt149 (P : Params) : BT := (.node (o97 P) (.node (o161 P) (.node (o289 P) .nil .nil) .nil) (.node (o225 P) .nil .nil))
noncomputable def bt150 (P : Params) : BT := (.node (o81 P) (.node (o145 P) (.node (o273 P) .nil .nil) .nil) (.node (o209 P) .nil .nil))
noncomputable def bt151 (P : Params) : BT := (.node (o73 P) (.node (o137 P) (.node (o265 P) .nil .nil) .nil) (.node (o201 P) .nil .nil))
noncomputable def bt152 (P : Params) : BT := (.node (o105 P) (.node (o169 P) (.node (o297 P) .nil .nil) .nil) (.node (o233 P) .nil .nil))
noncomputable def bt153 (P : Params) : BT := (.node (o89 P) (.node (o153 P) (.node (o281 P) .nil .nil) .nil) (.node (o217 P) .nil .nil))
noncomputable def bt154 (P : Params) : BT := (.node (o121 P) (.node (o185 P) .nil .nil) (.node (o249 P) .nil .nil))
noncomputable def bt155 (P : Params) : BT := (.node (o9 P) (.node (o17 P) (.node (o33 P) (bt148 P) (bt149 P)) (.node (o49 P) (bt150 P) (bt99 P))) (.node (o25 P) (.node (o41 P) (bt151 P) (bt152 P)) (.node (o57 P) (bt153 P) (bt154 P))))
noncomputable def bt156 (P : Params) : BT := (.node (o69 P) (.node (o133 P) (.node (o261 P) .nil .nil) .nil) (.node (o197 P) .nil .nil))
noncomputable def bt157 (P : Params) : BT := (.node (o101 P) (.node (o165 P) (.node (o293 P) .nil .nil) .nil) (.node (o229 P) .nil .nil))
noncomputable def bt158 (P : Params) : BT := (.node (o85 P) (.node (o149 P) (.node (o277 P) .nil .nil) .nil) (.node (o213 P) .nil .nil))
noncomputable def bt159 (P : Params) : BT := (.node (o77 P) (.node (o141 P) (.node (o269 P) .nil .nil) .nil) (.node (o205 P) .nil .nil))
noncomputable def bt160 (P : Params) : BT := (.node (o93 P) (.node (o157 P) (.node (o285 P) .nil .nil) .nil) (.node (o221 P) .nil .nil))
noncomputable def bt161 (P : Params) : BT := (.node (o125 P) (.node (o189 P) .nil .nil) (.node (o253 P) .nil .nil))
noncomputable def bt162 (P : Params) : BT := (.node (o13 P) (.node (o21 P) (.node (o37 P) (bt156 P) (bt157 P)) (.node (o53 P) (bt158 P) (bt105 P))) (.node (o29v4 P) (.node (o45 P) (bt159 P) (bt106 P)) (.node (o61 P) (bt160 P) (bt161 P))))
noncomputable def bt163 (P : Params) : BT := (.node (o64 P) (.node (o128 P) (.node (o256 P) .nil .nil) .nil) (.node (o192 P) .nil .nil))
noncomputable def bt164 (P : Params) : BT := (.node (o96 P) (.node (o160 P) (.node (o288 P) .nil .nil) .nil) (.node (o224 P) .nil .nil))
noncomputable def bt165 (P : Params) : BT := (.node (o80 P) (.node (o144 P) (.node (o272 P) .nil .nil) .nil) (.node (o208 P) .nil .nil))
noncomputable def bt166 (P : Params) : BT := (.node (o72 P) (.node (o136 P) (.node (o264 P) .nil .nil) .nil) (.node (o200 P) .nil .nil))
noncomputable def bt167 (P : Params) : BT := (.node (o104 P) (.node (o168 P) (.node (o296 P) .nil .nil) .nil) (.node (o232 P) .nil .nil))
noncomputable def bt168 (P : Params) : BT := (.node (o88 P) (.node (o152 P) (.node (o280 P) .nil .nil) .nil) (.node (o216 P) .nil .nil))
noncomputable def bt169 (P : Params) : BT := (.node (o120 P) (.node (o184 P) .nil .nil) (.node (o248 P) .nil .nil))
noncomputable def bt170 (P : Params) : BT := (.node (o8 P) (.node (o16 P) (.node (o32 P) (bt163 P) (bt164 P)) (.node (o48 P) (bt165 P) (bt111 P))) (.node (o24 P) (.node (o40 P) (bt166 P) (bt167 P)) (.node (o56 P) (bt168 P) (bt169 P))))
noncomputable def bt171 (P : Params) : BT := (.node (o68 P) (.node (o132 P) (.node (o260 P) .nil .nil) .nil) (.node (o196 P) .nil .nil))
noncomputable def bt172 (P : Params) : BT := (.node (o100 P) (.node (o164 P) (.node (o292 P) .nil .nil) .nil) (.node (o228 P) .nil .nil))
noncomputable def bt173 (P : Params) : BT := (.node (o84 P) (.node (o148 P) (.node (o276 P) .nil .nil) .nil) (.node (o212 P) .nil .nil))
noncomputable def bt174 (P : Params) : BT := (.node (o76 P) (.node (o140 P) (.node (o268 P) .nil .nil) .nil) (.node (o204 P) .nil .nil))
noncomputable def bt175 (P : Params) : BT := (.node (o108 P) (.node (o172 P) (.node (o300 P) .nil .nil) .nil) (.node (o236 P) .nil .nil))
noncomputable def bt176 (P : Params) : BT := (.node (o92 P) (.node (o156 P) (.node (o284 P) .nil .nil) .nil) (.node (o220 P) .nil .nil))
noncomputable def bt177 (P : Params) : BT := (.node (o124 P) (.node (o188 P) .nil .nil) (.node (o252 P) .nil .nil))
noncomputable def bt178 (P : Params) : BT := (.node (o12 P) (.node (o20 P) (.node (o36 P) (bt171 P) (bt172 P)) (.node (o52 P) (bt173 P) (bt117 P))) (.node (o28 P) (.node (o44 P) (bt174 P) (bt175 P)) (.node (o60 P) (bt176 P) (bt177 P))))
noncomputable def bt179 (P : Params) : BT := (.node (o66 P) (.node (o130 P) (.node (o258 P) .nil .nil) .nil) (.node (o194 P) .nil .nil))
noncomputable def bt180 (P : Params) : BT := (.node (o98 P) (.node (o162 P) (.node (o290 P) .nil .nil) .nil) (.node (o226 P) .nil .nil))
noncomputable def bt181 (P : Params) : BT := (.node (o82 P) (.node (o146 P) (.node (o274 P) .nil .nil) .nil) (.node (o210 P) .nil .nil))
noncomputable def bt182 (P : Params) : BT := (.node (o74 P) (.node (o138 P) (.node (o266 P) .nil .nil) .nil) (.node (o202 P) .nil .nil))
noncomputable def bt183 (P : Params) : BT := (.node (o106 P) (.node (o170 P) (.node (o298 P) .nil .nil) .nil) (.node (o234 P) .nil .nil))
noncomputable def bt184 (P : Params) : BT := (.node (o90 P) (.node (o154 P) (.node (o282 P) .nil .nil) .nil) (.node (o218 P) .nil .nil))
noncomputable def bt185 (P : Params) : BT := (.node (o122 P) (.node (o186 P) .nil .nil) (.node (o250 P) .nil .nil))
noncomputable def bt186 (P : Params) : BT := (.node (o10 P) (.node (o18 P) (.node (o34 P) (bt179 P) (bt180 P)) (.node (o50 P) (bt181 P) (bt123 P))) (.node (o26 P) (.node (o42 P) (bt182 P) (bt183 P)) (.node (o58 P) (bt184 P) (bt185 P))))
noncomputable def bt187 (P : Params) : BT := (.node (o70 P) (.node (o134 P) (.node (o262 P) .nil .nil) .nil) (.node (o198 P) .nil .nil))
noncomputable def bt188 (P : Params) : BT := (.node (o102 P) (.node (o166 P) (.node (o294 P) .nil .nil) .nil) (.node (o230 P) .nil .nil))
noncomputable def bt189 (P : Params) : BT := (.node (o86 P) (.node (o150 P) (.node (o278 P) .nil .nil) .nil) (.node (o214 P) .nil .nil))
noncomputable def bt190 (P : Params) : BT := (.node (o118 P) (.node (o182 P) .nil .nil) (.node (o246 P) .nil .nil))
noncomputable def bt191 (P : Params) : BT := (.node (o78 P) (.node (o142 P) (.node (o270 P) .nil .nil) .nil) (.node (o206 P) .nil .nil))
noncomputable def bt192 (P : Params) : BT := (.node (o94 P) (.node (o158 P) (.node (o286 P) .nil .nil) .nil) (.node (o222 P) .nil .nil))
noncomputable def bt193 (P : Params) : BT := (.node (o126 P) (.node (o190 P) .nil .nil) (.node (o254 P) .nil .nil))
noncomputable def bt194 (P : Params) : BT := (.node (o14 P) (.node (o22 P) (.node (o38 P) (bt187 P) (bt188 P)) (.node (o54 P) (bt189 P) (bt190 P))) (.node (o30 P) (.node (o46 P) (bt191 P) (bt129 P)) (.node (o62 P) (bt192 P) (bt193 P))))
noncomputable def trF (P : Params) : BT := (.node (o0 P) (.node (o1 P) (.node (o3v4 P) (bt139 P) (bt147 P)) (.node (o5 P) (bt155 P) (bt162 P))) (.node (o2 P) (.node (o4 P) (bt170 P) (bt178 P)) (.node (o6 P) (bt186 P) (bt194 P))))
noncomputable def life0 : Life := {}
noncomputable def drawn0 : Drawn := {}
noncomputable def env0 : Env := { scope := P0.main.scope, locals := mainNs, globals := mainNs, cells := [], code := (.ref 30), frame := some 31 }
noncomputable def cd0 : Code := .body (behindTheImports P0) env0
noncomputable def fr0 : List Frame := [topFrame ⟨0, 0, 0, 0⟩]
noncomputable def ann0 : Option Value := some (.ref 6)
noncomputable def stsA : List Stmt := (behindTheImports P0).take 10
noncomputable def stsE : List Stmt := (behindTheImports P0).drop 11
noncomputable def stD : Stmt := ((behindTheImports P0)[10]?).getD (.Pass ⟨0, 0, 0, 0⟩)
noncomputable def SA (w : World) (os : OsState) : SharedT := ⟨trA w.params, 32, life0, #[], drawn0, 282, os⟩
noncomputable def SD (w : World) (os : OsState) : SharedT := ⟨trD w.params, 207, life0, #[], drawn0, 623, os⟩
noncomputable def SE (w : World) (os : OsState) : SharedT := ⟨trE w.params, 246, life0, #[], drawn0, 2574, os⟩
noncomputable def SF (w : World) (os : OsState) : SharedT := ⟨trF w.params, 301, life0, #[], drawn0, 2658, os⟩
noncomputable def opL (w : World) : Option (Heap × Array GenState × Drawn × Nat) := (fencedOpening treeTable P0 w 30000).map (fun s => (s.heap, s.gens, s.drawn, s.toks))
noncomputable def opR (w : World) : Option (Heap × Array GenState × Drawn × Nat) := some (absHeap (tr0 w.params) 28 life0, #[], drawn0, 276)
theorem opL_r : opL = opL := rfl
theorem opR_r : opR = opR := rfl
name_quick mopL for opL by opL_r
name_quick mopR for opR by opR_r
theorem op_q : ∀ w, PySem.W.Fast.mopL w = PySem.W.Fast.mopR w := by intro w; kernel_rfl
theorem op_ok : ∀ w, opL w = opR w := fun w => (congrFun PySem.W.Fast.mopL_eq w).trans ((op_q w).trans (congrFun PySem.W.Fast.mopR_eq w).symm)
noncomputable def preL (w : World) (os : OsState) : Option (Shared × Thread) := topGo treeTable P0 w 28 ann0 12 ⟨absHeap (tr0 w.params) 28 life0, #[], drawn0, 276, os⟩ (topStub P0)
noncomputable def preR (w : World) (os : OsState) : Option (Shared × Thread) := some ((SA w os).abs, ⟨denote treeTable cd0, cd0, ⟨0, 0, 0, 0⟩, fr0⟩)
theorem preL_r : preL = preL := rfl
theorem preR_r : preR = preR := rfl
name_quick mpreL for preL by preL_r
name_quick mpreR for preR by preR_r
theorem pre_q : ∀ w os, PySem.W.Fast.mpreL w os = PySem.W.Fast.mpreR w os := by intro w os; kernel_rfl
theorem pre_ok : ∀ w os, preL w os = preR w os := fun w os => (congrFun (congrFun PySem.W.Fast.mpreL_eq w) os).trans ((pre_q w os).trans (congrFun (congrFun PySem.W.Fast.mpreR_eq w) os).symm)
noncomputable def blkL (w : World) (os : OsState) : Option (Flow × Shared × Code × Pos) := segRun treeTable P0 w 28 ann0 1 1 (SA w os).abs (blockOf (behindTheImports P0) env0 cd0 ⟨0, 0, 0, 0⟩ fr0)
noncomputable def blkR (w : World) (os : OsState) : Option (Flow × Shared × Code × Pos) := some (.next, (SA w os).abs, cd0, ⟨0, 0, 0, 0⟩)
theorem blkL_r : blkL = blkL := rfl
theorem blkR_r : blkR = blkR := rfl
name_quick mblkL for blkL by blkL_r
name_quick mblkR for blkR by blkR_r
theorem blk_q : ∀ w os, PySem.W.Fast.mblkL w os = PySem.W.Fast.mblkR w os := by intro w os; kernel_rfl
theorem blk_ok : ∀ w os, blkL w os = blkR w os := fun w os => (congrFun (congrFun PySem.W.Fast.mblkL_eq w) os).trans ((blk_q w os).trans (congrFun (congrFun PySem.W.Fast.mblkR_eq w) os).symm)
noncomputable def segAL (w : World) (os : OsState) : Option (Flow × SharedT × Code × Pos) := segRunT treeTable P0 w 28 ann0 1 2061 (SA w os) (piecesOf stsA env0 cd0 ⟨0, 0, 0, 0⟩ fr0)
noncomputable def segAR (w : World) (os : OsState) : Option (Flow × SharedT × Code × Pos) := some (.next, SD w os, cd0, ⟨101, 0, 102, 30⟩)
theorem segAL_r : segAL = segAL := rfl
theorem segAR_r : segAR = segAR := rfl
name_quick msegAL for segAL by segAL_r
name_quick msegAR for segAR by segAR_r
noncomputable def wAt (a b : Bool) (w : World) : World := (w.withFollow "special-get-raises" b).withFollow "set-order" a
theorem segA_q00 : ∀ w os, PySem.W.Fast.msegAL (wAt false false w) os = PySem.W.Fast.msegAR (wAt false false w) os := by intro w os; kernel_rfl
theorem segA_q01 : ∀ w os, PySem.W.Fast.msegAL (wAt false true w) os = PySem.W.Fast.msegAR (wAt false true w) os := by intro w os; kernel_rfl
theorem segA_q10 : ∀ w os, PySem.W.Fast.msegAL (wAt true false w) os = PySem.W.Fast.msegAR (wAt true false w) os := by intro w os; kernel_rfl
theorem segA_q11 : ∀ w os, PySem.W.Fast.msegAL (wAt true true w) os = PySem.W.Fast.msegAR (wAt true true w) os := by intro w os; kernel_rfl
theorem segA_q : ∀ w, ∀ os, PySem.W.Fast.msegAL w os = PySem.W.Fast.msegAR w os :=
 byRow2 "set-order" (P := fun w => ∀ os, PySem.W.Fast.msegAL w os = PySem.W.Fast.msegAR w os)
  (byRow2 "special-get-raises" (P := fun w => ∀ os, PySem.W.Fast.msegAL (w.withFollow "set-order" false) os = PySem.W.Fast.msegAR (w.withFollow "set-order" false) os) segA_q00 segA_q01)
  (byRow2 "special-get-raises" (P := fun w => ∀ os, PySem.W.Fast.msegAL (w.withFollow "set-order" true) os = PySem.W.Fast.msegAR (w.withFollow "set-order" true) os) segA_q10 segA_q11)
theorem segA_ok : ∀ w os, segAL w os = segAR w os := fun w os => (congrFun (congrFun PySem.W.Fast.msegAL_eq w) os).trans ((segA_q w os).trans (congrFun (congrFun PySem.W.Fast.msegAR_eq w) os).symm)
noncomputable def segEL (w : World) (os : OsState) : Option (Flow × SharedT × Code × Pos) := segRunT treeTable P0 w 28 ann0 1 282 (SE w os) (piecesOf stsE env0 cd0 ⟨103, 0, 103, 13⟩ fr0)
noncomputable def segER (w : World) (os : OsState) : Option (Flow × SharedT × Code × Pos) := some (.next, SF w os, cd0, ⟨167, 0, 184, 58⟩)
theorem segEL_r : segEL = segEL := rfl
theorem segER_r : segER = segER := rfl
name_quick msegEL for segEL by segEL_r
name_quick msegER for segER by segER_r
theorem segE_q : ∀ w os, PySem.W.Fast.msegEL w os = PySem.W.Fast.msegER w os := by intro w os; kernel_rfl
theorem segE_ok : ∀ w os, segEL w os = segER w os := fun w os => (congrFun (congrFun PySem.W.Fast.msegEL_eq w) os).trans ((segE_q w os).trans (congrFun (congrFun PySem.W.Fast.msegER_eq w) os).symm)
noncomputable def SX (w : World) (os : OsState) : SharedT := ⟨trX w.params, 246, life0, #[], drawn0, 2573, os⟩
noncomputable def LL : List (Int × Str) := (cPairs (dKs stD) (dVs stD)).getD []
theorem LL_some : cPairs (dKs stD) (dVs stD) = some LL := by
 have h : (cPairs (dKs stD) (dVs stD)).isSome = true := by decide +kernel
 obtain ⟨l, e⟩ := Option.isSome_iff_exists.mp h
 unfold LL; rw [e]; rfl
theorem LL_len : LL.length = 650 := by decide +kernel
theorem LL_up : upB (-1) LL = true := by decide +kernel
theorem stD_is : stD = .Assign [.Name (Str.ofString "b3_exceptions") ⟨103, 0, 103, 13⟩] (.Dict (dKs stD) (dVs stD) ⟨103, 16, 103, 8704⟩) ⟨103, 0, 103, 8704⟩ := by kernel_rfl
noncomputable def hxL (w : World) : Heap := absHeap (trX w.params) 246 life0
noncomputable def hxR (w : World) : Heap := Hp (absHeap (trD w.params) 207 life0) (dictObjs 37 LL 623)
theorem hxL_r : hxL = hxL := rfl
theorem hxR_r : hxR = hxR := rfl
name_quick mhxL for hxL by hxL_r
name_quick mhxR for hxR by hxR_r
theorem hx_q : ∀ w, PySem.W.Fast.mhxL w = PySem.W.Fast.mhxR w := by intro w; kernel_rfl
theorem hx_ok : ∀ w, hxL w = hxR w := fun w => (congrFun PySem.W.Fast.mhxL_eq w).trans ((hx_q w).trans (congrFun PySem.W.Fast.mhxR_eq w).symm)
noncomputable def tlL (w : World) (os : OsState) : Option (Flow × SharedT × Code × Pos) := segRunT treeTable P0 w 28 ann0 1 60 (SX w os) ⟨(tailD (Str.ofString "b3_exceptions") ⟨103, 0, 103, 13⟩ env0 (.ref 207)).wrap doneF deadEnd id id, cd0, ⟨103, 16, 103, 8704⟩, fr0⟩
noncomputable def tlR (w : World) (os : OsState) : Option (Flow × SharedT × Code × Pos) := some (.next, SE w os, cd0, ⟨103, 0, 103, 13⟩)
theorem tlL_r : tlL = tlL := rfl
theorem tlR_r : tlR = tlR := rfl
name_quick mtlL for tlL by tlL_r
name_quick mtlR for tlR by tlR_r
theorem tl_q : ∀ w os, PySem.W.Fast.mtlL w os = PySem.W.Fast.mtlR w os := by intro w os; kernel_rfl
theorem tl_ok : ∀ w os, tlL w os = tlR w os := fun w os => (congrFun (congrFun PySem.W.Fast.mtlL_eq w) os).trans ((tl_q w os).trans (congrFun (congrFun PySem.W.Fast.mtlR_eq w) os).symm)
theorem segD_ok (w : World) (os : OsState) : segRun treeTable P0 w 28 ann0 1 ((1 + (1 + dictSteps 37 (LL.length - (17 + 17 * 37)))) + 60) (SD w os).abs (piecesOf [stD] env0 cd0 ⟨101, 0, 102, 30⟩ fr0) = some (.next, (SE w os).abs, cd0, ⟨103, 0, 103, 13⟩) := by
 have hsz : (SD w os).abs.heap.objs.size = 207 := absHeap_size _ _ _
 have t := segRun_of (tl_ok w os)
 have ex : (SX w os).abs = { (SD w os).abs with heap := Hp (SD w os).abs.heap (dictObjs 37 LL (SD w os).abs.toks), toks := (SD w os).abs.toks + 3 * LL.length } := by
  rw [LL_len]
  show (⟨hxL w, #[], drawn0, 2573, os⟩ : Shared) = ⟨hxR w, #[], drawn0, 623 + 3 * 650, os⟩
  rw [hx_ok]
 rw [ex] at t
 rw [stD_is]
 rw [← table_eq_tree] at t ⊢
 refine seg_dict (n := 37) (L := LL) LL_some (by rw [hsz]; decide) (by rw [hsz]; decide) LL_up (by rw [LL_len]; decide) (by rw [LL_len]; decide) (by rw [LL_len]; decide) ?_
 rw [hsz]
 exact t
noncomputable def finL (w : World) (os : OsState) : Option Shared := topRun treeTable P0 w 28 ann0 2 (SF w os).abs ⟨doneF .next, cd0, ⟨167, 0, 184, 58⟩, fr0⟩
noncomputable def finR (w : World) (os : OsState) : Option Shared := some (SF w os).abs
theorem finL_r : finL = finL := rfl
theorem finR_r : finR = finR := rfl
name_quick mfinL for finL by finL_r
name_quick mfinR for finR by finR_r
theorem fin_q : ∀ w os, PySem.W.Fast.mfinL w os = PySem.W.Fast.mfinR w os := by intro w os; kernel_rfl
theorem fin_ok : ∀ w os, finL w os = finR w os := fun w os => (congrFun (congrFun PySem.W.Fast.mfinL_eq w) os).trans ((fin_q w os).trans (congrFun (congrFun PySem.W.Fast.mfinR_eq w) os).symm)
theorem body_is : behindTheImports P0 = stsA ++ ([stD] ++ (stsE ++ [])) := by kernel_rfl
noncomputable def nRun : Nat := 12 + (1 + (2061 + (((1 + (1 + dictSteps 37 (LL.length - (17 + 17 * 37)))) + 60) + (282 + 2))))
theorem run_ok (w : World) (os : OsState) : topRun treeTable P0 w 28 ann0 nRun ⟨absHeap (tr0 w.params) 28 life0, #[], drawn0, 276, os⟩ (topStub P0) = some (SF w os).abs := by
 refine go_top (pre_ok w os) (piece_block (blk_ok w os) ?_)
 have e := body_is
 have k : topRun treeTable P0 w 28 ann0 (2061 + (((1 + (1 + dictSteps 37 (LL.length - (17 + 17 * 37)))) + 60) + (282 + 2))) (SA w os).abs (restOf (stsA ++ ([stD] ++ (stsE ++ []))) env0 cd0 ⟨0, 0, 0, 0⟩ fr0) = some (SF w os).abs :=
  piece_app (segRun_of (segA_ok w os)) (piece_app (segD_ok w os) (piece_app (segRun_of (segE_ok w os)) (piece_nil (fin_ok w os))))
 rw [← e] at k
 exact k
noncomputable def szL (w : World) : Bool × Nat × Option Value := ((absHeap (tr0 w.params) 28 life0).isNs mainGlobals && (#[] : Array GenState).size == 0, (absHeap (tr0 w.params) 28 life0).objs.size, (absHeap (tr0 w.params) 28 life0).nsMap mainGlobals "__annotations__")
noncomputable def szR (w : World) : Bool × Nat × Option Value := (true, 28, ann0)
theorem szL_r : szL = szL := rfl
name_quick mszL for szL by szL_r
theorem sz_q : ∀ w, PySem.W.Fast.mszL w = szR w := by intro w; kernel_rfl
theorem sz_ok : ∀ w, szL w = szR w := fun w => (congrFun PySem.W.Fast.mszL_eq w).trans (sz_q w)
noncomputable def q0 : Program := view P0 [0, 1, 3, 4, 5, 7, 9, 10, 11, 12, 14, 15, 16, 17, 18, 19, 20, 21]
noncomputable def loose0 : List Str := [Str.ofString "tspecials", Str.ofString "_name_disallowed_re", Str.ofString "_value_disallowed_re", Str.ofString "_formatparam", Str.ofString "b1_set", Str.ofString "b3_exceptions"]
noncomputable def Xt0 (s : Shared) : Bool := xlAt q0 [] s && recOk [] s
noncomputable def HF (w : World) : Heap := absHeap (trF w.params) 301 life0
noncomputable def laL (w : World) (os : OsState) : Bool := staticsOk (importedModules P0.main.body) (absHeap (tr0 w.params) 28 life0) (HF w) && namesBound P0 (HF w) && gensDone ⟨HF w, #[], drawn0, 2658, os⟩ && laidKept (absHeap (tr0 w.params) 28 life0) (HF w)
theorem laL_r : laL = laL := rfl
name_quick mlaL for laL by laL_r
theorem la_q : ∀ w os, PySem.W.Fast.mlaL w os = true := by intro w os; kernel_rfl
theorem la_ok : ∀ w os, laL w os = true := fun w os => (congrFun (congrFun PySem.W.Fast.mlaL_eq w) os).trans (la_q w os)
noncomputable def lbL (w : World) (os : OsState) := openSeen q0 loose0 (importedModules P0.main.body) Xt0 true ⟨HF w, #[], drawn0, 2658, os⟩
noncomputable def lbR (_w : World) (_os : OsState) := openGood q0 loose0
theorem lbL_r : lbL = lbL := rfl
theorem lbR_r : lbR = lbR := rfl
name_quick mlbL for lbL by lbL_r
name_quick mlbR for lbR by lbR_r
theorem lb_q : ∀ w os, PySem.W.Fast.mlbL w os = PySem.W.Fast.mlbR w os := by intro w os; kernel_rfl
theorem lb_ok : ∀ w os, lbL w os = lbR w os := fun w os => (congrFun (congrFun PySem.W.Fast.mlbL_eq w) os).trans ((lb_q w os).trans (congrFun (congrFun PySem.W.Fast.mlbR_eq w) os).symm)
theorem left1 : LeftO P0 q0 loose0 Xt0 (fun s => (s.heap, s.toks)) (fun w => (HF w, 2658)) 30000 :=
 LeftO.of_pieces (H₀ := fun P => absHeap (tr0 P) 28 life0) (H₁ := fun P => absHeap (trF P) 301 life0) (gs₀ := #[]) (gs₁ := #[]) (d₀ := drawn0) (d₁ := drawn0) (k₀ := 276) (k₁ := 2658) (m₀ := 28) (ann := ann0) (M := nRun)
  op_ok sz_ok run_ok (by unfold nRun; rw [LL_len]; decide +kernel) (fun w => funext fun os => Prod.ext (la_ok w os) (Prod.ext (lb_ok w os) rfl))
inductive D where
 | val (v : Value)
 | int (i : Int)
 | str (x : Str)
 | tup (l : List D)
 | lst (l : List D)
 | rng (a b c : Int)
 | ins (k : Addr) (fs : List (Str × D))
 | dct (p : Program) (w : World) (kvs : List (Str × D))
 | byt (b : Array UInt8)
 deriving Inhabited
theorem toL {h : Heap} {a : Addr} {vs : Array Value} (x : h.PlainList a vs) : PlainL h a vs := let ⟨n, e⟩ := x; ⟨_, n, e, rfl, rfl, rfl⟩
mutual
inductive Rd (W : Addr → Prop) (h : Heap) : Value → D → Prop
 | val (v : Value) : Rd W h v (.val v)
 | int (i : Int) (t : Tok) : Rd W h (.int i t) (.int i)
 | str (x : Str) (t : Tok) : Rd W h (.str x t) (.str x)
 | tup {a : Addr} {vs : Array Value} {l : List D} : ¬ W a → h.IsTuple a vs → RdL W h vs.toList l → Rd W h (.ref a) (.tup l)
 | lst {a : Addr} {vs : Array Value} {l : List D} : ¬ W a → PlainL h a vs → RdL W h vs.toList l → Rd W h (.ref a) (.lst l)
 | rng {r : Addr} {a b c : Int} {t u v : Tok} : ¬ W r → IsRange h r a b c t u v → Rd W h (.ref r) (.rng a b c)
 | ins {t dx k : Addr} {o : Obj} {m : Str → Option Value} {fs : List (Str × D)} : ¬ W t → ¬ W dx → h.get? t = some o → (o.cls = .ref k ∧ (∀ c, o.data ≠ .cls c) ∧ o.dict = some dx ∧ dx ≠ t) → h.Ns1 dx m → (∀ x, fs.lookup x = none → m x = none) → RdF W h m fs → Rd W h (.ref t) (.ins k fs)
 | dct {p : Program} {w : World} {a : Addr} {us : List (Str × Value)} {kvs : List (Str × D)} : ¬ W a → h.DictOf (strKind p w) a us → RdL W h (us.map (·.2)) (kvs.map (·.2)) → us.map (·.1) = kvs.map (·.1) ∧ (a == sysModules) = false → Rd W h (.ref a) (.dct p w kvs)
 | byt (b : Array UInt8) (t : Tok) : Rd W h (.bytes b t) (.byt b)
inductive RdL (W : Addr → Prop) (h : Heap) : List Value → List D → Prop
 | nil : RdL W h [] []
 | cons {v : Value} {d : D} {vs : List Value} {ds : List D} : Rd W h v d → RdL W h vs ds → RdL W h (v :: vs) (d :: ds)
inductive RdF (W : Addr → Prop) (h : Heap) : (Str → Option Value) → List (Str × D) → Prop
 | nil {m : Str → Option Value} : RdF W h m []
 | cons {m : Str → Option Value} {x : Str} {v : Value} {d : D} {fs : List (Str × D)} : m x = some v → Rd W h v d → RdF W h m fs → RdF W h m ((x, d) :: fs)
end
theorem Rd.mono3 {W W' : Addr → Prop} {h h' : Heap} (hk : ∀ b o, ¬ W b → h.get? b = some o → h'.get? b = some o) (hw : ∀ b o, ¬ W b → h.get? b = some o → ¬ W' b) :
  (∀ v d, Rd W h v d → Rd W' h' v d) ∧ (∀ vs ds, RdL W h vs ds → RdL W' h' vs ds) ∧ (∀ m fs, RdF W h m fs → RdF W' h' m fs) := by
 refine ⟨@Rd.rec W h (fun v d _ => Rd W' h' v d) (fun vs ds _ => RdL W' h' vs ds) (fun m fs _ => RdF W' h' m fs) .val .int .str ?tup ?lst ?rng ?ins ?dct .byt .nil ?cons .nil ?consF, @RdL.rec W h (fun v d _ => Rd W' h' v d) (fun vs ds _ => RdL W' h' vs ds) (fun m fs _ => RdF W' h' m fs) .val .int .str ?tup ?lst ?rng ?ins ?dct .byt .nil ?cons .nil ?consF, @RdF.rec W h (fun v d _ => Rd W' h' v d) (fun vs ds _ => RdL W' h' vs ds) (fun m fs _ => RdF W' h' m fs) .val .int .str ?tup ?lst ?rng ?ins ?dct .byt .nil ?cons .nil ?consF⟩
 case tup => exact fun ha ⟨o, e, r⟩ _ ih => .tup (hw _ _ ha e) ⟨o, hk _ _ ha e, r⟩ ih
 case lst => exact fun ha ⟨o, n, e, r⟩ _ ih => .lst (hw _ _ ha e) ⟨o, n, hk _ _ ha e, r⟩ ih
 case rng => exact fun ha hr => .rng (hw _ _ ha hr) (hk _ _ ha hr)
 case ins => exact fun ha hb ht ho ⟨o, es, ep, e, r⟩ hx _ ih => .ins (hw _ _ ha ht) (hw _ _ hb e) (hk _ _ ha ht) ho ⟨o, es, ep, hk _ _ hb e, r⟩ hx ih
 case dct => exact fun ha ⟨o, es, ep, e, r⟩ _ he ih => .dct (hw _ _ ha e) ⟨o, es, ep, hk _ _ ha e, r⟩ ih he
 case cons => exact fun _ _ a b => .cons a b
 case consF => exact fun e _ _ a b => .cons e a b
theorem Rd.mono {W W' : Addr → Prop} {h h' : Heap} (hk : ∀ b o, ¬ W b → h.get? b = some o → h'.get? b = some o) (hw : ∀ b o, ¬ W b → h.get? b = some o → ¬ W' b) {v : Value} {d : D} (r : Rd W h v d) : Rd W' h' v d := (Rd.mono3 hk hw).1 _ _ r
theorem RdL.mono {W W' : Addr → Prop} {h h' : Heap} (hk : ∀ b o, ¬ W b → h.get? b = some o → h'.get? b = some o) (hw : ∀ b o, ¬ W b → h.get? b = some o → ¬ W' b) {v : List Value} {d : List D} (r : RdL W h v d) : RdL W' h' v d := (Rd.mono3 hk hw).2.1 _ _ r
theorem RdL.ind {W : Addr → Prop} {h : Heap} {P : List Value → List D → Prop} (n : P [] []) (k : ∀ v d vs ds, Rd W h v d → RdL W h vs ds → P vs ds → P (v :: vs) (d :: ds)) {vs : List Value} {ds : List D} (r : RdL W h vs ds) : P vs ds :=
 @RdL.rec W h (fun _ _ _ => True) (fun vs ds _ => P vs ds) (fun _ _ _ => True) (fun _ => trivial) (fun _ _ => trivial) (fun _ _ => trivial) (fun _ _ _ _ => trivial) (fun _ _ _ _ => trivial) (fun _ _ => trivial) (fun _ _ _ _ _ _ _ _ => trivial) (fun _ _ _ _ _ => trivial) (fun _ _ => trivial) n (fun a b _ ih => k _ _ _ _ a b ih) trivial (fun _ _ _ _ _ => trivial) _ _ r
theorem RdF.get {W : Addr → Prop} {h : Heap} {m : Str → Option Value} {x : Str} {d : D} : ∀ {fs : List (Str × D)}, RdF W h m fs → fs.lookup x = some d → ∃ v, m x = some v ∧ Rd W h v d := by
 intro fs
 induction fs with
 | nil => intro _ e; cases e
 | cons p fs ih =>
  intro r q
  cases r with
  | cons e a b =>
   rw [List.lookup_cons] at q
   split at q
   ·rename_i z
    have := eq_of_beq z; subst this
    cases q
    exact ⟨_, e, a⟩
   ·exact ih b q
theorem Rd.keeps {W : Addr → Prop} {h h' : Heap} (hk : ∀ b o, h.get? b = some o → h'.get? b = some o) {v : Value} {d : D} (r : Rd W h v d) : Rd W h' v d :=
 r.mono (fun b o _ e => hk b o e) (fun _ _ h _ => h)
theorem RdL.keeps {W : Addr → Prop} {h h' : Heap} (hk : ∀ b o, h.get? b = some o → h'.get? b = some o) {v : List Value} {d : List D} (r : RdL W h v d) : RdL W h' v d :=
 r.mono (fun b o _ e => hk b o e) (fun _ _ h _ => h)
theorem RdL.length {W : Addr → Prop} {h : Heap} {vs : List Value} {ds : List D} (r : RdL W h vs ds) : vs.length = ds.length :=
 r.ind (P := fun vs ds => vs.length = ds.length) rfl fun _ _ _ _ _ _ e => congrArg (· + 1) e
theorem RdL.get {W : Addr → Prop} {h : Heap} {vs : List Value} {ds : List D} (r : RdL W h vs ds) : ∀ {i : Nat} {d : D}, ds[i]? = some d → ∃ v, vs[i]? = some v ∧ Rd W h v d :=
 r.ind (P := fun vs ds => ∀ {i : Nat} {d : D}, ds[i]? = some d → ∃ v, vs[i]? = some v ∧ Rd W h v d) (fun e => by cases e) fun v d vs ds a b ih i e q => by
  cases i with
  | zero => cases q; exact ⟨_, rfl, a⟩
  | succ i => exact ih (i := i) q
theorem RdL.app {W : Addr → Prop} {h : Heap} {vs vs' : List Value} {ds ds' : List D} (a : RdL W h vs ds) (r : RdL W h vs' ds') : RdL W h (vs ++ vs') (ds ++ ds') :=
 a.ind (P := fun vs ds => RdL W h (vs ++ vs') (ds ++ ds')) r fun _ _ _ _ a _ ih => .cons a ih
theorem RdL.drop {W : Addr → Prop} {h : Heap} {vs : List Value} {ds : List D} (n : Nat) (r : RdL W h vs ds) : RdL W h (vs.drop n) (ds.drop n) := by
 induction n generalizing vs ds with
 | zero => exact r
 | succ n ih => cases r with
  | nil => exact .nil
  | cons _ b => exact ih b
theorem RdL.take {W : Addr → Prop} {h : Heap} {vs : List Value} {ds : List D} (n : Nat) (r : RdL W h vs ds) : RdL W h (vs.take n) (ds.take n) := by
 induction n generalizing vs ds with
 | zero => exact .nil
 | succ n ih => cases r with
  | nil => exact .nil
  | cons a b => exact .cons a (ih b)
structure Kq (s s' : Shared) : Prop where
 eq : ∃ h tk, s' = { s with heap := h, toks := tk }
 heap : ∀ b o, s.heap.get? b = some o → s'.heap.get? b = some o
theorem Kq.refl (s : Shared) : Kq s s := ⟨⟨s.heap, s.toks, rfl⟩, fun _ _ e => e⟩
theorem Kq.trans {s s' s'' : Shared} (a : Kq s s') (b : Kq s' s'') : Kq s s'' := by
 obtain ⟨⟨h, t, rfl⟩, k⟩ := a
 obtain ⟨⟨h', t', rfl⟩, k'⟩ := b
 exact ⟨⟨h', t', rfl⟩, fun b o e => k' b o (k b o e)⟩
theorem Kq.tok {s : Shared} (t : Nat) : Kq s { s with toks := t } := ⟨⟨s.heap, t, rfl⟩, fun _ _ e => e⟩
theorem Kq.push {s : Shared} (o : Obj) : Kq s { s with heap := s.heap.push o } := ⟨⟨_, s.toks, rfl⟩, fun b o' e => Heap.get?_push_of_some _ e⟩
theorem Kq.with {s : Shared} {h : Heap} {t : Nat} (k : ∀ b o, s.heap.get? b = some o → h.get? b = some o) : Kq s { s with heap := h, toks := t } := ⟨⟨h, t, rfl⟩, k⟩
noncomputable def HasK (K : Addr → Option Obj) (h : Heap) : Prop := ∀ a o, K a = some o → h.get? a = some o
theorem HasK.keeps {K : Addr → Option Obj} {h h' : Heap} (k : HasK K h) (hk : ∀ b o, h.get? b = some o → h'.get? b = some o) : HasK K h' := fun a o e => hk a o (k a o e)
noncomputable def Bnd (mg mb : Str → Option Value) (env : Env) (h : Heap) (x : Str) (v : Value) : Prop :=
 match env.kindOf x with
 | some .local => ∃ m, h.Ns env.locals m ∧ m x = some v
 | some .cell | some .free => ∃ c o, env.cells.lookup x = some c ∧ h.get? c = some o ∧ o.data = .cell (some v)
 | some .globalImplicit => mg x = some v ∨ (mg x = none ∧ mb x = some v)
 | _ => False
structure EnvOk (env : Env) : Prop where
 kind : env.scope.kind = .function
 glob : env.globals = mainGlobals
 blt : env.builtins = builtinsNs
theorem Heap.Ns.keepsAt {h h' : Heap} {a : Addr} {m : Str → Option Value} (n : h.Ns a m) (e : ∀ o, h.get? a = some o → h'.get? a = some o) : h'.Ns a m :=
 let ⟨o, es, ep, x, r⟩ := n; ⟨o, es, ep, e _ x, r⟩
theorem Bnd.keeps {mg mb : Str → Option Value} {env : Env} {h h' : Heap} {x : Str} {v : Value} (hk : ∀ b o, h.get? b = some o → h'.get? b = some o) (b : Bnd mg mb env h x v) : Bnd mg mb env h' x v := by
 unfold Bnd at b ⊢
 split at b
 ·obtain ⟨m, n, e⟩ := b; exact ⟨m, Heap.Ns.keepsAt n (fun o e => hk _ o e), e⟩
 ·obtain ⟨c, o, e1, e2, e3⟩ := b; exact ⟨c, o, e1, hk _ _ e2, e3⟩
 ·obtain ⟨c, o, e1, e2, e3⟩ := b; exact ⟨c, o, e1, hk _ _ e2, e3⟩
 ·exact b
 ·exact b
structure Cx where
 prog : Program
 w : World
 K : Addr → Option Obj
 mg : Str → Option Value
 mb : Str → Option Value
 hg : ∀ h, HasK K h → h.Ns mainGlobals mg
 hb : ∀ h, HasK K h → h.Ns builtinsNs mb
 hl : ∀ h, HasK K h → h.NoLimit
noncomputable abbrev Cx.M (c : Cx) : Model := model c.prog c.w
structure Kt (s s' : Shared) : Prop extends Kq s s' where
 tk : s.toks ≤ s'.toks
theorem Kt.refl (s : Shared) : Kt s s := ⟨.refl s, Nat.le_refl _⟩
theorem Kt.trans {s s' s'' : Shared} (a : Kt s s') (b : Kt s' s'') : Kt s s'' := ⟨a.toKq.trans b.toKq, Nat.le_trans a.tk b.tk⟩
structure Room (A : Around) (n : Nat) : Prop where
 hh : A.handled = none
 depth : A.depth + n ≤ 990
 units : A.units + 8 * n ≤ 9800
theorem Room.deeper {A : Around} {n : Nat} (r : Room A (n + 1)) (env : Env) : Room (A.deeper env) n := ⟨r.hh, by show A.depth + 1 + n ≤ 990; have := r.depth; omega, by show A.units + 3 + 8 * n ≤ 9800; have := r.units; omega⟩
theorem Room.in1 {A : Around} {n : Nat} (r : Room A (n + 1)) : Room A.in1 n := ⟨r.hh, by show A.depth + n ≤ 990; have := r.depth; omega, by show A.units + 1 + 8 * n ≤ 9800; have := r.units; omega⟩
theorem Room.lim {A : Around} {n : Nat} (r : Room A n) : A.depth < recursionLimit := by have := r.depth; show A.depth < 1000; omega
structure View (c : Cx) (W : Addr → Prop) (env : Env) (σ : List (Str × D)) (s : Shared) : Prop where
 base : HasK c.K s.heap
 wold : ∀ a, W a → ∃ o, s.heap.get? a = some o
 tok : 0 < s.toks
 vars : ∀ x d, σ.lookup x = some d → ∃ v, Bnd c.mg c.mb env s.heap x v ∧ Rd W s.heap v d
theorem View.keeps {c : Cx} {W : Addr → Prop} {env : Env} {σ : List (Str × D)} {s s' : Shared} (V : View c W env σ s) (k : Kt s s') : View c W env σ s' :=
 ⟨V.base.keeps k.heap, fun a h => let ⟨o, e⟩ := V.wold a h; ⟨o, k.heap _ _ e⟩, Nat.lt_of_lt_of_le V.tok k.tk, fun x d e => let ⟨v, b, r⟩ := V.vars x d e; ⟨v, b.keeps k.heap, r.keeps k.heap⟩⟩
theorem View.new {c : Cx} {W : Addr → Prop} {env : Env} {σ : List (Str × D)} {s : Shared} (V : View c W env σ s) {a : Addr} (h : s.heap.get? a = none) : ¬ W a := fun hw => by
 obtain ⟨o, e⟩ := V.wold a hw; rw [h] at e; cases e
theorem View.newSize {c : Cx} {W : Addr → Prop} {env : Env} {σ : List (Str × D)} {s : Shared} (V : View c W env σ s) : ¬ W s.heap.objs.size := fun hw => by
 obtain ⟨o, e⟩ := V.wold _ hw; exact absurd (Heap.lt_size e) (Nat.lt_irrefl _)
noncomputable def Ev (c : Cx) (A : Around) (env : Env) (σ : List (Str × D)) (e : Expr) (d : D) : Prop :=
 ∀ (W : Addr → Prop) (s : Shared) (E : Value → Shared → Prop), View c W env σ s → wpAny c.M A (eval e env) (fun v s' => Kt s s' ∧ Rd W s'.heap v d) E s
noncomputable def Et (c : Cx) (A : Around) (env : Env) (σ : List (Str × D)) (t : Sem Value) (d : D) : Prop :=
 ∀ (W : Addr → Prop) (s : Shared) (E : Value → Shared → Prop), View c W env σ s → wpAny c.M A t (fun v s' => Kt s s' ∧ Rd W s'.heap v d) E s
noncomputable def EvL (c : Cx) (A : Around) (env : Env) (σ : List (Str × D)) (ts : List (Bool × Sem Value)) (ds : List D) : Prop :=
 ∀ (W : Addr → Prop) (s : Shared) (E : Value → Shared → Prop), View c W env σ s → wpAny c.M A (spliced ts) (fun vs s' => Kt s s' ∧ RdL W s'.heap vs ds) E s
noncomputable def Tv (c : Cx) (A : Around) (env : Env) (σ : List (Str × D)) (e : Expr) (b : Bool) : Prop :=
 ∀ (W : Addr → Prop) (s : Shared) (E : Value → Shared → Prop), View c W env σ s → wpAny c.M A (isTrue e env (eval e env)) (fun v s' => Kt s s' ∧ v = b) E s
section
variable {c : Cx} {A : Around} {env : Env} {σ : List (Str × D)} {W : Addr → Prop} {s : Shared} {E : Value → Shared → Prop}
theorem kt_of {α : Type} {t : Sem α} {M : Model} {P : α → Shared → Prop} (h : wpAny M A t (fun v s' => Kq s s' ∧ P v s') E s) : wpAny M A t (fun v s' => Kt s s' ∧ P v s') E s :=
 wpAny_mono (wpAny_toks_of (Nat.le_refl s.toks) h) (fun _ _ q => ⟨⟨q.2.1, q.1⟩, q.2.2⟩) fun _ _ q => q.2
theorem Et.use {t : Sem Value} {d : D} {Q : Value → Shared → Prop} (h : Et c A env σ t d) (V : View c W env σ s) (k : ∀ v s', Kt s s' → View c W env σ s' → Rd W s'.heap v d → Q v s') : wpAny c.M A t Q E s :=
 wpAny_mono (h W s E V) (fun v s' q => k v s' q.1 (V.keeps q.1) q.2) fun _ _ e => e
theorem Ev.use {e : Expr} {d : D} {Q : Value → Shared → Prop} (h : Ev c A env σ e d) (V : View c W env σ s) (k : ∀ v s', Kt s s' → View c W env σ s' → Rd W s'.heap v d → Q v s') : wpAny c.M A (eval e env) Q E s :=
 Et.use (t := eval e env) h V k
theorem EvL.use {ts : List (Bool × Sem Value)} {ds : List D} {Q : List Value → Shared → Prop} (h : EvL c A env σ ts ds) (V : View c W env σ s) (k : ∀ vs s', Kt s s' → View c W env σ s' → RdL W s'.heap vs ds → Q vs s') : wpAny c.M A (spliced ts) Q E s :=
 wpAny_mono (h W s E V) (fun v s' q => k v s' q.1 (V.keeps q.1) q.2) fun _ _ e => e
theorem Tv.use {e : Expr} {b : Bool} {Q : Bool → Shared → Prop} (h : Tv c A env σ e b) (V : View c W env σ s) (k : ∀ s', Kt s s' → View c W env σ s' → Q b s') : wpAny c.M A (isTrue e env (eval e env)) Q E s :=
 wpAny_mono (h W s E V) (fun v s' q => by obtain ⟨q1, rfl⟩ := q; exact k s' q1 (V.keeps q1)) fun _ _ e => e
theorem Ev.intro {e : Expr} {d : D} (h : ∀ (W : Addr → Prop) (s : Shared) (E : Value → Shared → Prop), View c W env σ s → wpAny c.M A (eval e env) (fun v s' => Kq s s' ∧ Rd W s'.heap v d) E s) : Ev c A env σ e d :=
 fun W s E V => kt_of (h W s E V)
theorem Ev.int {i : Int} {k : Nat} {p : Pos} : Ev c A env σ (.Constant (.int i) k p) (.int i) :=
 .intro fun W s E V => wpAny_Constant_int ⟨.tok _, .int _ _⟩
theorem Ev.str {x : Str} {k : Nat} {p : Pos} : Ev c A env σ (.Constant (.str x) k p) (.str x) :=
 .intro fun W s E V => Calls.Constant_str ⟨.tok _, .str _ _⟩
theorem Ev.none {k : Nat} {p : Pos} : Ev c A env σ (.Constant .none k p) (.val .none) :=
 .intro fun W s E V => by rw [eval_Constant]; exact wpAny_pure ⟨.refl _, .val _⟩
theorem Ev.bool {b : Bool} {k : Nat} {p : Pos} : Ev c A env σ (.Constant (.bool b) k p) (.val (.bool b)) :=
 .intro fun W s E V => by rw [eval_Constant]; exact wpAny_pure ⟨.refl _, .val _⟩
theorem wpAny_cell {M : Model} {Q : Value → Shared → Prop} {x : Str} {cc : Addr} {o : Obj} {v : Value} (hf : env.blockKind = .function) (hk : env.kindOf x = some .cell ∨ env.kindOf x = some .free) (hnc : (x == ("__classdict__" : Str)) = false) (hl : env.cells.lookup x = some cc)
  (ho : s.heap.get? cc = some o) (hd : o.data = .cell (some v)) (hann : env.scope.kind.isAnnotationScope = false) (h : Q v s) : wpAny M A (loadName env x) Q E s := by
 have hc : wpAny M A (do cellGet (← cellOf env x)) (fun r s' => r = some v ∧ s' = s) E s := by
  unfold cellOf
  rw [hl]
  refine wpAny_bind (wpAny_pure ?_)
  unfold cellGet
  refine wpAny_bind (wpAny_load ho ?_)
  rw [hd]
  exact wpAny_pure ⟨rfl, rfl⟩
 have hc' : ∀ {k : Option Value → Sem Value}, (∀ {Q' : Value → Shared → Prop}, Q' v s → wpAny M A (k (some v)) Q' E s) → wpAny M A (do let r ← (do cellGet (← cellOf env x)); k r) Q E s := fun {k} hk' =>
  wpAny_bind (wpAny_mono hc (fun r s' q => by obtain ⟨rfl, rfl⟩ := q; exact hk' h) fun _ _ e => e)
 unfold loadName
 rw [hann]
 simp only [Bool.false_and, Bool.false_eq_true, if_false]
 rw [hf]
 rcases hk with hk | hk
 ·rw [hk]
  have := hc' (k := fun r => match r with
   | some v => pure v
   | Option.none => do
    rule "name.cell.unbound"
    raiseError "UnboundLocalError" s!"cannot access local variable '{x.toString}' where it is not associated with a value") (fun q => wpAny_pure q)
  rw [bind_assoc] at this
  exact this
 ·rw [hk]
  dsimp only
  rw [hnc]
  simp only [Bool.false_eq_true, if_false]
  have := hc' (k := fun r => match r with
   | some v => pure v
   | Option.none => do
    rule "name.free.unbound"
    raiseNameError x s!"cannot access free variable '{x.toString}' where it is not associated with a value in enclosing scope") (fun q => wpAny_pure q)
  rw [bind_assoc] at this
  exact this
theorem load_name (ok : EnvOk env) {x : Str} {v : Value} {Q : Value → Shared → Prop} (base : HasK c.K s.heap) (hb : Bnd c.mg c.mb env s.heap x v) (hnc : (x == ("__classdict__" : Str)) = false) (h : Q v s) : wpAny c.M A (loadName env x) Q E s := by
 unfold Bnd at hb
 have hann : env.scope.kind.isAnnotationScope = false := by rw [ok.kind]; rfl
 have hf : env.blockKind = .function := by unfold Env.blockKind; rw [ok.kind]; rfl
 split at hb
 ·rename_i hk
  obtain ⟨m, n, e⟩ := hb
  exact wpAny_loadName_local ok.kind hk n e h
 ·rename_i hk
  obtain ⟨cc, o, e1, e2, e3⟩ := hb
  exact wpAny_cell hf (.inl hk) hnc e1 e2 e3 hann h
 ·rename_i hk
  obtain ⟨cc, o, e1, e2, e3⟩ := hb
  exact wpAny_cell hf (.inr hk) hnc e1 e2 e3 hann h
 ·rename_i hk
  have hgl : s.heap.Ns env.globals c.mg := ok.glob ▸ c.hg _ base
  have hlo : wpAny c.M A (loadGlobal env x) Q E s := by
   rcases hb with hb | ⟨hb1, hb2⟩
   ·exact Calls.loadGlobal_global hgl hb h
   ·exact Calls.loadGlobal_builtin hgl hb1 (ok.blt ▸ c.hb _ base) hb2 h
  unfold loadName
  simp only [hann, Bool.false_and, Bool.false_eq_true, if_false, hf, hk]
  exact hlo
 ·exact hb.elim
theorem Ev.name (ok : EnvOk env) {x : Str} {p : Pos} {d : D} (hx : σ.lookup x = some d) (hnc : (x == ("__classdict__" : Str)) = false := by decide +kernel) (hd : (x == ("__debug__" : Str)) = false := by decide +kernel) : Ev c A env σ (.Name x p) d :=
 .intro fun W s E V => by
  obtain ⟨v, b, r⟩ := V.vars x d hx
  exact wpAny_Name (load_name ok V.base b hnc ⟨.refl _, r⟩) hd
theorem Ev.glob (ok : EnvOk env) {x : Str} {p : Pos} {v : Value} (hk : env.kindOf x = some .globalImplicit) (hx : c.mg x = some v ∨ (c.mg x = Option.none ∧ c.mb x = some v)) (hnc : (x == ("__classdict__" : Str)) = false := by decide +kernel) (hd : (x == ("__debug__" : Str)) = false := by decide +kernel) : Ev c A env σ (.Name x p) (.val v) :=
 .intro fun W s E V => wpAny_Name (load_name ok V.base (v := v) (by unfold Bnd; rw [hk]; exact hx) hnc ⟨.refl _, .val _⟩) hd
theorem EvL.nil : EvL c A env σ [] [] := fun W s E V => Calls.spliced_nil ⟨.refl _, .nil⟩
theorem EvL.cons {t : Sem Value} {d : D} {ts : List (Bool × Sem Value)} {ds : List D} (h : Et c A env σ t d) (k : EvL c A env σ ts ds) : EvL c A env σ ((false, t) :: ts) (d :: ds) := fun W s E V =>
 Calls.spliced_cons (h.use V fun v s₁ k₁ V₁ r₁ => k.use V₁ fun vs s₂ k₂ V₂ r₂ => ⟨k₁.trans k₂, .cons (r₁.keeps k₂.heap) r₂⟩)
theorem Ev.tuple {es : List Expr} {k : Nat} {p : Pos} {ds : List D} (h : EvL c A env σ (backTo p (starEach es env)) ds) (hn : ds.length ≤ 1000000 := by decide) : Ev c A env σ (.Tuple es k p) (.tup ds) :=
 .intro fun W s E V => Tuple_ (h.use V fun vs s₁ k₁ V₁ r₁ => wpAny_newObj_type ⟨k₁.toKq.trans (.push _), .tup V₁.newSize ⟨_, Heap.get?_push_size _ rfl, rfl, 0, rfl⟩ (by rw [List.toList_toArray]; exact r₁.keeps fun b o e => Heap.get?_push_of_some _ e)⟩
  (by show vs.toArray.size ≤ 2 ^ 24; rw [List.size_toArray, r₁.length]; omega))
theorem Ev.list {es : List Expr} {p : Pos} {ds : List D} (h : EvL c A env σ (backTo p (starEach es env)) ds) (hn : ds.length ≤ 1000000 := by decide) : Ev c A env σ (.List es p) (.lst ds) :=
 .intro fun W s E V => List_ (h.use V fun vs s₁ k₁ V₁ r₁ => wpAny_newObj_type ⟨k₁.toKq.trans (.push _), .lst V₁.newSize ⟨_, 0, Heap.get?_push_size _ rfl, rfl, rfl, rfl⟩ (by rw [List.toList_toArray]; exact r₁.keeps fun b o e => Heap.get?_push_of_some _ e)⟩
  (by show vs.toArray.size ≤ 2 ^ 24; rw [List.size_toArray, r₁.length]; omega))
end
mutual
noncomputable def toDat : D → Dat
 | .val _ => .none
 | .int i => .int i
 | .str x => .str x
 | .tup l => .tuple (toDats l)
 | .lst l => .list (toDats l)
 | .rng _ _ _ => .none
 | .ins _ _ => .none
 | .dct _ _ _ => .none
 | .byt _ => .none
noncomputable def toDats : List D → List Dat
 | [] => []
 | d :: r => toDat d :: toDats r
end
mutual
noncomputable def okD : Nat → D → Bool
 | _, .val v => decide (v = .none)
 | _, .int _ => true
 | _, .str x => PyData.strOk x
 | _, .rng _ _ _ => false
 | _, .ins _ _ => false
 | _, .dct _ _ _ => false
 | _, .byt _ => false
 | 0, .tup _ => false
 | 0, .lst _ => false
 | n + 1, .tup l => okDs n l
 | n + 1, .lst l => okDs n l
noncomputable def okDs : Nat → List D → Bool
 | _, [] => true
 | n, d :: r => okD n d && okDs n r
end
theorem okDs_all : ∀ (n : Nat) (l : List D), okDs n l = true ↔ ∀ d ∈ l, okD n d = true
 | n, [] => by rw [okDs]; simp
 | n, d :: r => by rw [okDs, Bool.and_eq_true, okDs_all n r]; simp
mutual
theorem toDat_ok : ∀ (n : Nat) (d : D), okD n d = true → kqdOk n (toDat d) = true
 | n, .val v, _ => by rw [toDat]; cases n <;> rfl
 | n, .int i, _ => by rw [toDat]; cases n <;> rfl
 | n, .str x, h => by rw [okD] at h; rw [toDat]; cases n <;> simpa [kqdOk] using h
 | n, .rng _ _ _, h => by cases n <;> (rw [okD] at h; cases h)
 | n, .ins _ _, h => by cases n <;> (rw [okD] at h; cases h)
 | n, .dct _ _ _, h => by cases n <;> (rw [okD] at h; cases h)
 | n, .byt _, h => by cases n <;> (rw [okD] at h; cases h)
 | 0, .tup l, h => by rw [okD] at h; cases h
 | 0, .lst l, h => by rw [okD] at h; cases h
 | n + 1, .tup l, h => by rw [okD] at h; rw [toDat, kqdOk]; exact toDats_ok n l h
 | n + 1, .lst l, h => by rw [okD] at h; rw [toDat, kqdOk]; exact toDats_ok n l h
theorem toDats_ok : ∀ (n : Nat) (l : List D), okDs n l = true → (toDats l).all (kqdOk n) = true
 | n, [], _ => by rw [toDats]; rfl
 | n, d :: r, h => by
  rw [okDs, Bool.and_eq_true] at h
  rw [toDats, List.all_cons, toDat_ok n d h.1, toDats_ok n r h.2]; rfl
end
mutual
noncomputable def ofDat : Dat → D
 | .none => .val .none
 | .bool _ => .val .none
 | .int i => .int i
 | .str x => .str x
 | .bytes _ => .val .none
 | .tuple l => .tup (ofDats l)
 | .list l => .lst (ofDats l)
noncomputable def ofDats : List Dat → List D
 | [] => []
 | d :: l => ofDat d :: ofDats l
end
theorem of_toDat : ∀ (n : Nat) (d : D), okD n d = true → ofDat (toDat d) = d := by
 intro n
 induction n with
 | zero => exact fun d h => by cases d <;> first | rfl | (rw [okD] at h; cases h; done) | (rw [okD] at h; have := of_decide_eq_true h; subst this; rfl)
 | succ n ih =>
  have L : ∀ l, okDs n l = true → ofDats (toDats l) = l := fun l => by
   induction l with
   | nil => exact fun _ => rfl
   | cons d l i2 =>
    intro h
    rw [okDs, Bool.and_eq_true] at h
    show ofDat (toDat d) :: ofDats (toDats l) = _
    rw [ih d h.1, i2 h.2]
  intro d h
  cases d with
  | tup l => rw [okD] at h; exact congrArg D.tup (L l h)
  | lst l => rw [okD] at h; exact congrArg D.lst (L l h)
  | val v => rw [okD] at h; have := of_decide_eq_true h; subst this; rfl
  | _ => first | rfl | (rw [okD] at h; cases h)
theorem toDat_inj (n m : Nat) (d e : D) (h : okD n d = true) (k : okD m e = true) (q : toDat d = toDat e) : d = e := by
 rw [← of_toDat n d h, ← of_toDat m e k, q]
theorem reads_tuple_is {h : Heap} {a : Addr} {vs : Array Value} {xs : List PyData} {as : List Addr} (ht : h.IsTuple a vs) (r : ReadsAll h vs.toList xs as) : ∃ bs, Reads h (.ref a) (.tuple xs) bs := by
 obtain ⟨o, e, hc, n, hd⟩ := ht
 exact ⟨_, reads_tuple_at e hc hd r⟩
theorem reads_list_is {h : Heap} {a : Addr} {vs : Array Value} {xs : List PyData} {as : List Addr} (ht : h.IsList a vs) (r : ReadsAll h vs.toList xs as) : ∃ bs, Reads h (.ref a) (.list xs) bs := by
 obtain ⟨o, e, hc, n, hd⟩ := ht
 exact ⟨_, reads_list_at e hc hd r⟩
theorem RdL.readsOf {W : Addr → Prop} {h : Heap} {n : Nat} (f : ∀ v d, Rd W h v d → okD n d = true → ∃ as, Reads h v (kqdP (toDat d)) as) : ∀ {ds : List D} {vs : List Value}, RdL W h vs ds → okDs n ds = true → ∃ as, ReadsAll h vs (kqdPs (toDats ds)) as := by
 intro ds
 induction ds with
 | nil => intro vs r _; cases r; rw [toDats, kqdPs]; exact ⟨_, ReadsAll.nil⟩
 | cons d ds ih =>
  intro vs r k
  cases r with
  | cons a b =>
   rw [okDs, Bool.and_eq_true] at k
   obtain ⟨as, q⟩ := f _ _ a k.1
   obtain ⟨bs, p⟩ := ih b k.2
   rw [toDats, kqdPs]; exact ⟨_, ReadsAll.cons q p⟩
theorem Rd.readsFlat {W : Addr → Prop} {h : Heap} {n : Nat} (f : ∀ m, n = m + 1 → ∀ v d, Rd W h v d → okD m d = true → ∃ as, Reads h v (kqdP (toDat d)) as) {v : Value} {d : D} (r : Rd W h v d) (k : okD n d = true) : ∃ as, Reads h v (kqdP (toDat d)) as := by
 cases r with
 | val v => rw [okD] at k; have := of_decide_eq_true k; subst this; rw [toDat, kqdP]; exact ⟨_, Reads.none⟩
 | int i t => rw [toDat, kqdP]; exact ⟨_, Reads.int i t⟩
 | str x t => rw [toDat, kqdP]; exact ⟨_, Reads.str x t⟩
 | tup _ ht r =>
  cases n with
  | zero => rw [okD] at k; cases k
  | succ n =>
   rw [okD] at k; rw [toDat, kqdP]
   obtain ⟨as, q⟩ := RdL.readsOf (f n rfl) r k
   exact reads_tuple_is ht q
 | lst _ ht r =>
  cases n with
  | zero => rw [okD] at k; cases k
  | succ n =>
   rw [okD] at k; rw [toDat, kqdP]
   obtain ⟨as, q⟩ := RdL.readsOf (f n rfl) r k
   exact reads_list_is ht.isList q
 | rng => rw [okD] at k; cases k
 | ins => rw [okD] at k; cases k
 | dct => rw [okD] at k; cases k
 | byt => rw [okD] at k; cases k
theorem Rd.reads {W : Addr → Prop} {h : Heap} : ∀ {v : Value} {d : D} (n : Nat), Rd W h v d → okD n d = true → ∃ as, Reads h v (kqdP (toDat d)) as := by
 intro v d n
 induction n generalizing v d with
 | zero => exact fun r k => r.readsFlat (fun m e => absurd e (by omega)) k
 | succ n ih => exact fun r k => r.readsFlat (fun m e v d r k => by cases e; exact ih r k) k
theorem shaped_ok {d : D} (h : okD 8 d = true) : SeqAt.shaped (kqdP (toDat d)) = true := by
 have l := kqd_lay 8 (toDat d) (toDat_ok 8 d h)
 unfold SeqAt.shaped; rw [l.1, Bool.true_and]; exact decide_eq_true (Nat.le_trans l.2 (by decide))
open Classical in
theorem eqv_ok {d e : D} (h : okD 8 d = true) (k : okD 8 e = true) : PyData.eqv (kqdP (toDat d)) (kqdP (toDat e)) = decide (d = e) := by
 have q := kqd_eqv 8 (toDat d) (toDat e) 8 (toDat_ok 8 d h) (toDat_ok 8 e k)
 by_cases z : d = e
 ·rw [decide_eq_true z]; exact q.mpr (by rw [z])
 ·rw [decide_eq_false z]; exact Bool.eq_false_iff.mpr fun x => z (toDat_inj 8 8 d e h k (q.mp x))
noncomputable def Cmp (c : Cx) (A : Around) (op : CmpOp) (d e : D) (b : Bool) : Prop :=
 ∀ (W : Addr → Prop) (s : Shared) (E : Value → Shared → Prop) (u v : Value), HasK c.K s.heap → Rd W s.heap u d → Rd W s.heap v e → wpAny c.M A (compareOp op u v) (fun r s' => Kt s s' ∧ r = .bool b) E s
section
variable {c : Cx} {A : Around} {env : Env} {σ : List (Str × D)}
open Classical in
theorem Cmp.eq {d e : D} {n : Nat} (r : Room A n) (hu : A.units + 64 < cLine) (h : okD 8 d = true) (k : okD 8 e = true) : Cmp c A .Eq d e (decide (d = e)) := fun W s E u v _ ru rv => by
 obtain ⟨as, ra⟩ := ru.reads 8 h
 obtain ⟨bs, rb⟩ := rv.reads 8 k
 exact eq_dataH ra rb (shaped_ok h) (shaped_ok k) hu ⟨.refl _, by rw [eqv_ok h k]⟩
open Classical in
theorem Cmp.ne {d e : D} {n : Nat} (r : Room A n) (hu : A.units + 64 < cLine) (h : okD 8 d = true) (k : okD 8 e = true) : Cmp c A .NotEq d e (!decide (d = e)) := fun W s E u v _ ru rv => by
 obtain ⟨as, ra⟩ := ru.reads 8 h
 obtain ⟨bs, rb⟩ := rv.reads 8 k
 exact ne_dataH ra rb (shaped_ok h) (shaped_ok k) hu ⟨.refl _, by rw [eqv_ok h k]⟩
open Classical in
theorem any_ok : ∀ {l : List D} {d : D}, okDs 8 l = true → okD 8 d = true → ((kqdPs (toDats l)).any fun y => PyData.eqv y (kqdP (toDat d))) = decide (d ∈ l)
 | [], d, _, _ => by rw [toDats, kqdPs]; simp
 | e :: l, d, h, k => by
  rw [okDs, Bool.and_eq_true] at h
  rw [toDats, kqdPs, List.any_cons, any_ok h.2 k, eqv_ok h.1 k]
  by_cases z : e = d
  ·subst z; simp
  ·have z' : ¬ d = e := fun q => z q.symm
   simp [z, z']
theorem lay_ok {l : List D} (h : okDs 7 l = true) : PyData.canLayAll0 (kqdPs (toDats l)) = true ∧ PyData.depthAll (kqdPs (toDats l)) ≤ 9 := by
 have l1 := kqd_lay 8 (.list (toDats l)) (by rw [kqdOk]; exact toDats_ok 7 l h)
 rw [kqdP] at l1
 simp only [PyData.canLay0, PyData.depth] at l1
 have l2 := l1.2
 exact ⟨l1.1, by omega⟩
theorem okD_mono : ∀ {n m : Nat} {d : D}, n ≤ m → okD n d = true → okD m d = true := by
 intro n
 induction n with
 | zero =>
  intro m d _ h
  cases d with
  | tup l => rw [okD] at h; cases h
  | lst l => rw [okD] at h; cases h
  | val v => rw [okD] at h ⊢; exact h
  | int i => rw [okD]
  | str x => rw [okD] at h ⊢; exact h
  | rng => rw [okD] at h; cases h
  | ins => rw [okD] at h; cases h
  | dct => rw [okD] at h; cases h
  | byt => rw [okD] at h; cases h
 | succ n ih =>
  have all : ∀ {m : Nat} {l : List D}, n ≤ m → okDs n l = true → okDs m l = true := fun hm h => (okDs_all _ _).mpr fun d hd => ih hm ((okDs_all _ _).mp h d hd)
  intro m d hm h
  cases m with
  | zero => omega
  | succ m =>
   cases d with
   | tup l => rw [okD] at h ⊢; exact all (by omega) h
   | lst l => rw [okD] at h ⊢; exact all (by omega) h
   | val v => rw [okD] at h ⊢; exact h
   | int i => rw [okD]
   | str x => rw [okD] at h ⊢; exact h
   | rng => rw [okD] at h; cases h
   | ins => rw [okD] at h; cases h
   | dct => rw [okD] at h; cases h
   | byt => rw [okD] at h; cases h
theorem okDs_mono {n m : Nat} {l : List D} (hm : n ≤ m) (h : okDs n l = true) : okDs m l = true := (okDs_all _ _).mpr fun d hd => okD_mono hm ((okDs_all _ _).mp h d hd)
open Classical in
theorem Cmp.notInL {d : D} {l : List D} (hu : A.units + 64 < cLine) (h : okDs 7 l = true) (k : okD 8 d = true) : Cmp c A .NotIn d (.lst l) (!decide (d ∈ l)) := fun W s E u v _ ru rv => by
 obtain ⟨as, ra⟩ := ru.reads 8 k
 obtain ⟨bs, rb⟩ := rv.reads 8 (by rw [okD]; exact h)
 rw [toDat, kqdP] at rb
 have q := lay_ok h
 refine SeqAt.notIn_list_reads rb ra q.1 (kqd_lay 8 _ (toDat_ok 8 d k)).1 ?_ ⟨.refl _, by rw [any_ok (okDs_mono (by omega) h) k]⟩
 have := Nat.min_le_left (PyData.depthAll (kqdPs (toDats l))) (kqdP (toDat d)).depth
 omega
open Classical in
theorem Cmp.inT {d : D} {l : List D} (hu : A.units + 64 < cLine) (h : okDs 7 l = true) (k : okD 8 d = true) : Cmp c A .In d (.tup l) (decide (d ∈ l)) := fun W s E u v _ ru rv => by
 obtain ⟨as, ra⟩ := ru.reads 8 k
 obtain ⟨bs, rb⟩ := rv.reads 8 (by rw [okD]; exact h)
 rw [toDat, kqdP] at rb
 have q := lay_ok h
 refine SeqAt.in_tuple_reads rb ra q.1 (kqd_lay 8 _ (toDat_ok 8 d k)).1 ?_ ⟨.refl _, by rw [any_ok (okDs_mono (by omega) h) k]⟩
 have := Nat.min_le_left (PyData.depthAll (kqdPs (toDats l))) (kqdP (toDat d)).depth
 omega
noncomputable def D.none? : D → Bool
 | .val v => v == .none
 | _ => false
theorem Rd.none? {W : Addr → Prop} {h : Heap} {v : Value} {d : D} (r : Rd W h v d) : (v == Value.none) = d.none? := by
 cases r <;> first | rfl | exact beq_eq_false_iff_ne.mpr (fun e => nomatch e)
theorem Cmp.isNone {d : D} : Cmp c A .Is d (.val .none) d.none? := fun W s E u v _ ru rv => by
 cases rv
 show wpAny _ _ (isSame u .none >>= fun r => pure (Value.bool r)) _ _ _
 rw [isSame_none]
 exact wpAny_bind (wpAny_pure (wpAny_pure ⟨.refl _, by rw [ru.none?]⟩))
theorem Cmp.isNotNone {d : D} : Cmp c A .IsNot d (.val .none) (!d.none?) := fun W s E u v _ ru rv => by
 cases rv
 show wpAny _ _ (isSame u .none >>= fun r => pure (Value.bool !r)) _ _ _
 rw [isSame_none]
 exact wpAny_bind (wpAny_pure (wpAny_pure ⟨.refl _, by rw [ru.none?]⟩))
theorem Cmp.isType {a b : String} : Cmp c A .Is (.val (.type a)) (.val (.type b)) (a == b) := fun W s E u v _ ru rv => by
 cases ru; cases rv
 show wpAny _ _ (isSame (.type a) (.type b) >>= fun r => pure (Value.bool r)) _ _ _
 have e : isSame (.type a) (.type b) = pure (Value.type a == Value.type b) := rfl
 have q : (Value.type a == Value.type b) = (a == b) := by
  by_cases z : a = b
  ·subst z; simp
  ·rw [beq_eq_false_iff_ne.mpr z]; exact beq_eq_false_iff_ne.mpr fun x => z (by injection x)
 rw [e, q]
 exact wpAny_bind (wpAny_pure (wpAny_pure ⟨.refl _, rfl⟩))
theorem Cmp.isNotType {a b : String} : Cmp c A .IsNot (.val (.type a)) (.val (.type b)) (!(a == b)) := fun W s E u v _ ru rv => by
 cases ru; cases rv
 show wpAny _ _ (isSame (.type a) (.type b) >>= fun r => pure (Value.bool !r)) _ _ _
 have e : isSame (.type a) (.type b) = pure (Value.type a == Value.type b) := rfl
 have q : (Value.type a == Value.type b) = (a == b) := by
  by_cases z : a = b
  ·subst z; simp
  ·rw [beq_eq_false_iff_ne.mpr z]; exact beq_eq_false_iff_ne.mpr fun x => z (by injection x)
 rw [e, q]
 exact wpAny_bind (wpAny_pure (wpAny_pure ⟨.refl _, rfl⟩))
theorem Cmp.lt {i j : Int} : Cmp c A .Lt (.int i) (.int j) (decide (i < j)) := fun W s E u v _ ru rv => by
 cases ru; cases rv
 exact lt_int ⟨.refl _, rfl⟩
theorem Ev.cmp {l r : Expr} {op : CmpOp} {p : Pos} {d e : D} {b : Bool} (hl : Ev c A env σ l d) (hr : Ev c A env σ r e) (hc : Cmp c A op d e b) (hm : behindInMarks op r = false := by rfl) : Ev c A env σ (.Compare l [op] [r] p) (.val (.bool b)) := fun W s E V =>
 wpAny_Compare1 (hl.use V fun v s₁ k₁ V₁ r₁ => hr.use V₁ fun v₂ s₂ k₂ V₂ r₂ => wpAny_mono (hc W s₂ E v v₂ V₂.base (r₁.keeps k₂.heap) r₂) (fun r s₃ q => by obtain ⟨q1, rfl⟩ := q; exact ⟨(k₁.trans k₂).trans q1, .val _⟩) fun _ _ e => e) hm
theorem Tv.cmp {l r : Expr} {op : CmpOp} {p : Pos} {d e : D} {b : Bool} (hl : Ev c A env σ l d) (hr : Ev c A env σ r e) (hc : Cmp c A op d e b) (hm : behindInMarks op r = false := by rfl) : Tv c A env σ (.Compare l [op] [r] p) b := fun W s E V =>
 wpAny_isTrue_Compare1 (hl.use V fun v s₁ k₁ V₁ r₁ => hr.use V₁ fun v₂ s₂ k₂ V₂ r₂ => wpAny_mono (hc W s₂ E v v₂ V₂.base (r₁.keeps k₂.heap) r₂) (fun r s₃ q => by obtain ⟨q1, rfl⟩ := q; exact wpAny_truthy_bool ⟨(k₁.trans k₂).trans q1, rfl⟩) fun _ _ e => e) hm
end
end Mine
end
section
open PySem PySem.W PyProof.Rows PySem.Calls
namespace Mine
section
variable {c : Cx} {A : Around} {env : Env} {σ : List (Str × D)}
noncomputable def Bop (c : Cx) (A : Around) (op : Operator) (d e r : D) : Prop :=
 ∀ (W : Addr → Prop) (s : Shared) (E : Value → Shared → Prop) (u v : Value), (∀ a, W a → ∃ o, s.heap.get? a = some o) → 0 < s.toks → Rd W s.heap u d → Rd W s.heap v e → wpAny c.M A (binaryOp op u v) (fun x s' => Kq s s' ∧ Rd W s'.heap x r) E s
theorem Ev.bin {l r : Expr} {op : Operator} {p : Pos} {d e x : D} (hl : Ev c A env σ l d) (hr : Ev c A env σ r e) (hb : Bop c A op d e x) : Ev c A env σ (.BinOp l op r p) x :=
 fun W s E V => wpAny_BinOp (hl.use V fun v s₁ k₁ V₁ r₁ => hr.use V₁ fun v₂ s₂ k₂ V₂ r₂ => wpAny_mono (kt_of (hb W s₂ E v v₂ V₂.wold V₂.tok (r₁.keeps k₂.heap) r₂)) (fun x s₃ q => ⟨(k₁.trans k₂).trans q.1, q.2⟩) fun _ _ e => e)
theorem Bop.addI {i j : Int} : Bop c A .Add (.int i) (.int j) (.int (i + j)) := fun W s E u v _ _ ru rv => by cases ru; cases rv; exact add_int ⟨.tok _, .int _ _⟩
theorem Bop.modI {i j : Int} (h : j ≠ 0) : Bop c A .Mod (.int i) (.int j) (.int (i.fmod j)) := fun W s E u v _ _ ru rv => by cases ru; cases rv; exact mod_int' h ⟨.tok _, .int _ _⟩
theorem Bop.divI {i j : Int} (h : j ≠ 0) (hp : Builtin.divisionGoesByPylong i j = false) : Bop c A .FloorDiv (.int i) (.int j) (.int (i.fdiv j)) := fun W s E u v _ _ ru rv => by cases ru; cases rv; exact floordiv_int h ⟨.tok _, .int _ _⟩ (.inl hp)
theorem Bop.addS {x y : Str} (h : x.length + y.length ≤ 1000000) : Bop c A .Add (.str x) (.str y) (.str (x ++ y)) := fun W s E u v _ _ ru rv => by
 cases ru; cases rv; exact PyProof.Rows.add_str (fun t' tk => ⟨.tok _, .str _ _⟩) (by rw [sizeLine_eq]; omega)
theorem add_lists' {s : Shared} {E : Value → Shared → Prop} {a b : Addr} {xs ys : Array Value} {Q : Value → Shared → Prop} (hx : s.heap.IsList a xs) (hy : s.heap.IsList b ys) (hz : xs.size + ys.size ≤ sizeLine)
  (h : Q (.ref s.heap.objs.size) { s with heap := s.heap.push { cls := .type "list", data := .seq (xs ++ ys) } }) : wpAny c.M A (binaryOp .Add (.ref a) (.ref b)) Q E s := by
 obtain ⟨⟨c1, d1, dt1, s1⟩, e1, h1, n1, q1⟩ := id hx
 obtain ⟨⟨c2, d2, dt2, s2⟩, e2, h2, n2, q2⟩ := id hy
 simp only at h1 q1 h2 q2
 subst h1 q1 h2 q2
 exact concat_meets hx.typeIs hy.typeIs noFill_list_add seq_list_add PySem.F.slot_list_add PySem.F.entry_list_add (PySem.F.args_list_add_2 _ _) (list_addW a b xs ys n1 n2 d1 d2 s1 s2 hz) ⟨e1, e2, h⟩
theorem Bop.addL {x y : List D} (h : x.length + y.length ≤ 1000000) : Bop c A .Add (.lst x) (.lst y) (.lst (x ++ y)) := fun W s E u v wo _ ru rv => by
 cases ru with
 | lst ha hl hr =>
  rename_i a vs
  cases rv with
  | lst hb hm hs =>
   rename_i b us
   have el : vs.size = x.length := by rw [← hr.length]; simp
   have em : us.size = y.length := by rw [← hs.length]; simp
   refine add_lists' hl.isList hm.isList (by rw [el, em, sizeLine_eq]; omega) ⟨.push _, .lst ?_ ⟨_, 0, Heap.get?_push_size _ rfl, rfl, rfl, rfl⟩ ?_⟩
   ·intro hw; obtain ⟨o, e⟩ := wo _ hw; exact absurd (Heap.lt_size e) (Nat.lt_irrefl _)
   ·rw [Array.toList_append]
    exact (hr.app hs).keeps fun b o e => Heap.get?_push_of_some _ e
theorem Ev.call1 {x : Str} {np p : Pos} {e : Expr} {d r : D} {id : String} (hf : Ev c A env σ (.Name x np) (.val (.builtin id))) (hs : starEach [e] env = [(false, eval e env)]) (he : Ev c A env σ e d)
  (h : ∀ (W : Addr → Prop) (s : Shared) (E : Value → Shared → Prop) (v : Value), (∀ a, W a → ∃ o, s.heap.get? a = some o) → HasK c.K s.heap → Rd W s.heap v d → wpAny c.M A (call (.builtin id) [v]) (fun x s' => Kq s s' ∧ Rd W s'.heap x r) E s) : Ev c A env σ (.Call (.Name x np) [e] [] p) r :=
 fun W s E V => Call_name1 hs (hf.use V fun f s₁ k₁ V₁ r₁ => by
  cases r₁
  exact callWith_builtin1 (he.use V₁ fun v s₂ k₂ V₂ r₂ => wpAny_mono (kt_of (h W s₂ E v V₂.wold V₂.base r₂)) (fun x s₃ q => ⟨(k₁.trans k₂).trans q.1, q.2⟩) fun _ _ e => e))
theorem Ev.callT1 {x : Str} {np p : Pos} {e : Expr} {d r : D} {id : String} (hf : Ev c A env σ (.Name x np) (.val (.type id))) (hs : starEach [e] env = [(false, eval e env)]) (he : Ev c A env σ e d)
  (h : ∀ (W : Addr → Prop) (s : Shared) (E : Value → Shared → Prop) (v : Value), (∀ a, W a → ∃ o, s.heap.get? a = some o) → HasK c.K s.heap → Rd W s.heap v d → wpAny c.M A (call (.type id) [v]) (fun x s' => Kq s s' ∧ Rd W s'.heap x r) E s) : Ev c A env σ (.Call (.Name x np) [e] [] p) r :=
 fun W s E V => Call_name1 hs (hf.use V fun f s₁ k₁ V₁ r₁ => by
  cases r₁
  exact PySem.callWith_type1 (he.use V₁ fun v s₂ k₂ V₂ r₂ => wpAny_mono (kt_of (h W s₂ E v V₂.wold V₂.base r₂)) (fun x s₃ q => ⟨(k₁.trans k₂).trans q.1, q.2⟩) fun _ _ e => e))
theorem Ev.chr {x : Str} {np p : Pos} {e : Expr} {i : Int} (hf : Ev c A env σ (.Name x np) (.val (.builtin "chr"))) (hs : starEach [e] env = [(false, eval e env)]) (he : Ev c A env σ e (.int i)) (h0 : 0 ≤ i) (h1 : i ≤ 1114111) :
  Ev c A env σ (.Call (.Name x np) [e] [] p) (.str ⟨#[i.toNat]⟩) :=
 .call1 hf hs he fun W s E v _ _ r => by
  cases r
  refine P.chr_of_int ?_ ⟨.tok _, .str _ _⟩
  rw [decide_eq_false (by omega), decide_eq_false (by omega)]; rfl
theorem Ev.ord {x : Str} {np p : Pos} {e : Expr} {k : Nat} (hf : Ev c A env σ (.Name x np) (.val (.builtin "ord"))) (hs : starEach [e] env = [(false, eval e env)]) (he : Ev c A env σ e (.str ⟨#[k]⟩)) :
  Ev c A env σ (.Call (.Name x np) [e] [] p) (.int k) :=
 .call1 hf hs he fun W s E v _ _ r => by
  cases r
  exact P.ord_of_char ⟨.tok _, .int _ _⟩
theorem Ev.subT {value slice : Expr} {p : Pos} {l : List D} {k : Int} {j : Nat} {d : D} (hv : Ev c A env σ value (.tup l)) (hi : Ev c A env σ slice (.int k)) (hlo : -(2 ^ 63) ≤ k) (hhi : k < 2 ^ 63) (hj : seqIndex? k l.length = some j) (hd : l[j]? = some d)
  (hs : ∀ (a : Addr) (u : Tok), subscripted slice false (.ref a) (.int k u) = operate [.ref a, .int k u] (getItem (.ref a) (.int k u)) := by intro _ _; rfl) : Ev c A env σ (.Subscript value slice p) d :=
 fun W s E V => Subscript_ (hv.use V fun v s₁ k₁ V₁ r₁ => hi.use V₁ fun i s₂ k₂ V₂ r₂ => by
  cases r₂
  cases r₁.keeps k₂.heap with
  | tup ha ht hr =>
   rename_i u a vs
   obtain ⟨x, hx, rx⟩ := hr.get hd
   have el : vs.size = l.length := by rw [← hr.length]; simp
   refine tail_any ht.typeIs slot_tuple_getitem.lookup (getItem_tuple ht hlo hhi (by rw [el]; exact hj) (by rw [← hx]; simp) ⟨k₁.trans k₂, rx⟩) (hs a u))
theorem Ev.subL {value slice : Expr} {p : Pos} {l : List D} {k : Int} {j : Nat} {d : D} (hv : Ev c A env σ value (.lst l)) (hi : Ev c A env σ slice (.int k)) (hlo : -(2 ^ 63) ≤ k) (hhi : k < 2 ^ 63) (hj : seqIndex? k l.length = some j) (hd : l[j]? = some d)
  (hs : ∀ (a : Addr) (u : Tok), subscripted slice false (.ref a) (.int k u) = operate [.ref a, .int k u] (getItem (.ref a) (.int k u)) := by intro _ _; rfl) : Ev c A env σ (.Subscript value slice p) d :=
 fun W s E V => Subscript_ (hv.use V fun v s₁ k₁ V₁ r₁ => hi.use V₁ fun i s₂ k₂ V₂ r₂ => by
  cases r₂
  cases r₁.keeps k₂.heap with
  | lst ha ht hr =>
   rename_i u a vs
   obtain ⟨x, hx, rx⟩ := hr.get hd
   have el : vs.size = l.length := by rw [← hr.length]; simp
   refine tail_any ht.isList.typeIs slot_list_getitem.lookup ?_ (hs a u)
   unfold seqIndex? at hj
   by_cases hk : k < 0
   ·simp only [hk, if_true] at hj
    by_cases hb : 0 ≤ k + (l.length : Int) ∧ k + (l.length : Int) < l.length
    ·rw [if_pos (by simp only [Bool.and_eq_true, decide_eq_true_eq]; exact hb)] at hj
     have hj' := Option.some.inj hj
     refine wpAny_getItem_list_neg ht.isList hk (by rw [el]; omega) hlo (x := x) ?_ ⟨k₁.trans k₂, rx⟩
     rw [el, hj', ← hx]; simp
    ·rw [if_neg (by simp only [Bool.and_eq_true, decide_eq_true_eq]; exact hb)] at hj; cases hj
   ·simp only [hk, if_false] at hj
    by_cases hb : 0 ≤ k ∧ k < l.length
    ·rw [if_pos (by simp only [Bool.and_eq_true, decide_eq_true_eq]; exact hb)] at hj
     have hj' := Option.some.inj hj
     refine PySem.wpAny_getItem_list ht.isList hb.1 hhi (x := x) ?_ ⟨k₁.trans k₂, rx⟩
     rw [hj', ← hx]; simp
    ·rw [if_neg (by simp only [Bool.and_eq_true, decide_eq_true_eq]; exact hb)] at hj; cases hj)
end
structure Upd (Mo : Addr → Prop) (s s' : Shared) : Prop where
 eq : ∃ h tk, s' = { s with heap := h, toks := tk }
 tk : s.toks ≤ s'.toks
 keep : ∀ b o, ¬ Mo b → s.heap.get? b = some o → s'.heap.get? b = some o
theorem Upd.of {Mo : Addr → Prop} {s s' : Shared} (k : Kt s s') : Upd Mo s s' := ⟨k.eq, k.tk, fun b o _ e => k.heap b o e⟩
theorem Upd.kt {s s' : Shared} (k : Upd (fun _ => False) s s') : Kt s s' := ⟨⟨k.eq, fun b o e => k.keep b o id e⟩, k.tk⟩
theorem Upd.refl {Mo : Addr → Prop} (s : Shared) : Upd Mo s s := .of (.refl s)
theorem Upd.trans {Mo : Addr → Prop} {s s' s'' : Shared} (a : Upd Mo s s') (b : Upd Mo s' s'') : Upd Mo s s'' := by
 obtain ⟨⟨h, t, rfl⟩, k1, k⟩ := a
 obtain ⟨⟨h', t', rfl⟩, k2, k'⟩ := b
 exact ⟨⟨h', t', rfl⟩, Nat.le_trans k1 k2, fun b o n e => k' b o n (k b o n e)⟩
theorem Upd.mono {Mo Mo' : Addr → Prop} {s s' : Shared} (h : ∀ a, Mo a → Mo' a) (u : Upd Mo s s') : Upd Mo' s s' := ⟨u.eq, u.tk, fun b o n e => u.keep b o (fun m => n (h b m)) e⟩
theorem Upd.rd {Mo W : Addr → Prop} {s s' : Shared} (u : Upd Mo s s') (hm : ∀ a, Mo a → W a) {v : Value} {d : D} (r : Rd W s.heap v d) : Rd W s'.heap v d :=
 r.mono (fun b o n e => u.keep b o (fun m => n (hm b m)) e) (fun _ _ h _ => h)
theorem Upd.rdL {Mo W : Addr → Prop} {s s' : Shared} (u : Upd Mo s s') (hm : ∀ a, Mo a → W a) {v : List Value} {d : List D} (r : RdL W s.heap v d) : RdL W s'.heap v d :=
 r.mono (fun b o n e => u.keep b o (fun m => n (hm b m)) e) (fun _ _ h _ => h)
theorem View.upd {c : Cx} {W Mo : Addr → Prop} {env : Env} {σ σ' : List (Str × D)} {s s' : Shared} (V : View c W env σ s) (U : Upd Mo s s') (hK : ∀ a, Mo a → c.K a = none) (hex : ∀ a, Mo a → ∃ o, s'.heap.get? a = some o)
  (hv : ∀ x d, σ'.lookup x = some d → ∃ v, Bnd c.mg c.mb env s'.heap x v ∧ Rd W s'.heap v d) : View c W env σ' s' :=
 {base := fun a o e => U.keep a o (fun m => absurd e (by rw [hK a m]; exact fun q => nomatch q)) (V.base a o e)
  wold := fun a h => (Classical.em (Mo a)).elim (hex a) fun m => (V.wold a h).imp fun o e => U.keep a o m e
  tok := Nat.lt_of_lt_of_le V.tok U.tk
  vars := hv }
theorem Bnd.atLocals {mg mb : Str → Option Value} {env : Env} {h h' : Heap} {x : Str} {v : Value} {m m' : Str → Option Value} (b : Bnd mg mb env h x v) (hn : h.Ns env.locals m) (hn' : h'.Ns env.locals m') (hm : m' x = m x) (hk : ∀ b o, b ≠ env.locals → h.get? b = some o → h'.get? b = some o) : Bnd mg mb env h' x v := by
 have cellNe : ∀ cc o, h.get? cc = some o → o.data = .cell (some v) → cc ≠ env.locals := by
  intro cc o e1 e2 e3
  subst e3
  obtain ⟨o', es, ep, e4, e5, _⟩ := hn
  rw [e1] at e4; cases e4; rw [e2] at e5; cases e5
 unfold Bnd at b ⊢
 split at b
 ·obtain ⟨m₀, n, e⟩ := b
  exact ⟨m', hn', by rw [hm, ← n.agree hn, e]⟩
 ·obtain ⟨cc, o, e1, e2, e3⟩ := b; exact ⟨cc, o, e1, hk _ _ (cellNe _ _ e2 e3) e2, e3⟩
 ·obtain ⟨cc, o, e1, e2, e3⟩ := b; exact ⟨cc, o, e1, hk _ _ (cellNe _ _ e2 e3) e2, e3⟩
 ·exact b
 ·exact b
section
variable {c : Cx} {A : Around} {env : Env} {σ : List (Str × D)} {W : Addr → Prop} {s : Shared} {E : Value → Shared → Prop}
theorem function_hp (ok : EnvOk env) : (env.scope.kind == .class || (env.scope.kind == .module && env.locals != env.globals)) = false := by rw [ok.kind]; rfl
theorem set_local (ok : EnvOk env) {x : Str} {v : Value} {d : D} {Q : Unit → Shared → Prop} (hk : env.kindOf x = some .local) (V : View c W env σ s) (hW : W env.locals) (hK : c.K env.locals = none) (hns : ∃ m, s.heap.Ns env.locals m) (r : Rd W s.heap v d)
  (h : ∀ s', View c W env ((x, d) :: σ) s' → Upd (fun b => b = env.locals) s s' → (∃ m, s'.heap.Ns env.locals m) → Q () s') : wpAny c.M A (storeName env x v) Q E s := by
 obtain ⟨m, hn⟩ := hns
 refine wpAny_storeName_local hk hn (fun h' hn' hs => ?_) (function_hp ok)
 have U : Upd (fun b => b = env.locals) s { s with heap := h', toks := s.toks + 1 } := ⟨⟨_, _, rfl⟩, Nat.le_succ _, fun b o n e => hs.extBut b o n e⟩
 have hm : ∀ a, a = env.locals → W a := fun a e => e ▸ hW
 refine h _ (V.upd U (fun a e => e ▸ hK) (fun a e => by subst e; obtain ⟨o, _, _, e, _⟩ := hn'; exact ⟨o, e⟩) fun y e hy => ?_) U ⟨_, hn'⟩
 rw [List.lookup_cons] at hy
 split at hy
 ·rename_i z
  have := eq_of_beq z; subst this; cases hy
  refine ⟨v, ?_, U.rd hm r⟩
  unfold Bnd; rw [hk]
  exact ⟨_, hn', if_pos rfl⟩
 ·rename_i z
  obtain ⟨u, b, ru⟩ := V.vars y e hy
  exact ⟨u, b.atLocals hn hn' (if_neg fun q => by subst q; simp at z) fun b o n e => hs.extBut b o n e, U.rd hm ru⟩
end
inductive Tgt (env : Env) : Expr → D → List (Str × D) → Prop
 | name {x : Str} {p : Pos} {d : D} : env.kindOf x = some .local → Tgt env (.Name x p) d [(x, d)]
 | pair {x y : Str} {p q pt : Pos} {k : Nat} {d e : D} : env.kindOf x = some .local → env.kindOf y = some .local → Tgt env (.Tuple [.Name x p, .Name y q] k pt) (.tup [d, e]) [(y, e), (x, d)]
section
variable {c : Cx} {A : Around} {env : Env} {σ : List (Str × D)} {W : Addr → Prop} {s : Shared} {E : Value → Shared → Prop}
theorem Tgt.set (ok : EnvOk env) (hh : A.handled = none) {t : Expr} {d : D} {bs : List (Str × D)} (T : Tgt env t d bs) {v : Value} {Q : Unit → Shared → Prop} (V : View c W env σ s) (hW : W env.locals) (hK : c.K env.locals = none) (hns : ∃ m, s.heap.Ns env.locals m) (r : Rd W s.heap v d)
  (h : ∀ s', View c W env (bs ++ σ) s' → Upd (fun b => b = env.locals) s s' → (∃ m, s'.heap.Ns env.locals m) → Q () s') : wpAny c.M A (assign t env v) Q E s := by
 cases T with
 | name hk => exact wpAny_assign_Name (set_local ok hk V hW hK hns r h)
 | pair hx hy =>
  cases r with
  | tup ha ht hl =>
   rename_i x y p q pt k d e a vs
   cases hl2 : vs.toList with
   | nil => rw [hl2] at hl; cases hl
   | cons u us =>
    rw [hl2] at hl
    cases hl with
    | cons r1 hl =>
     cases us with
     | nil => cases hl
     | cons u2 us =>
      cases hl with
      | cons r2 hl =>
       cases hl
       have hsz : vs.size = 2 := by rw [← Array.length_toList, hl2]; rfl
       refine wpAny_assign_Tuple hh ht (by rw [hsz]; rfl) (by rfl) fun h' hx' => ?_
       have k1 : Kt s { s with heap := h' } := ⟨⟨⟨_, s.toks, rfl⟩, fun b o e => hx' b o (Nat.ne_of_lt (Heap.lt_size e)) e⟩, Nat.le_refl _⟩
       have V1 := V.keeps k1
       have ns1 : ∃ m, h'.Ns env.locals m := by obtain ⟨m, n⟩ := hns; exact ⟨m, n.keeps k1.heap⟩
       rw [hl2]
       show wpAny _ _ (assignInOrder [assign (.Name x p) env, assign (.Name y q) env] [u, u2]) _ _ _
       show wpAny _ _ (do holding [u2] (assign (.Name x p) env u); assignInOrder [assign (.Name y q) env] [u2]) _ _ _
       refine wpAny_bind (wpAny_holding (wpAny_assign_Name (set_local ok hx V1 hW hK ns1 (r1.keeps k1.heap) fun s2 V2 U2 ns2 => ?_)))
       show wpAny _ _ (do holding [] (assign (.Name y q) env u2); pure ()) _ _ _
       refine wpAny_bind (wpAny_holding (wpAny_assign_Name (set_local ok hy V2 hW hK ns2 (U2.rd (fun a e => e ▸ hW) (r2.keeps k1.heap)) fun s3 V3 U3 ns3 => ?_)))
       exact wpAny_pure (h _ V3 (((Upd.of k1).trans U2).trans U3) ns3)
end
noncomputable def ownedKinds : List String := ["enumerate", "zip", "dict_itemiterator", "dict_reverseitemiterator", "odict_iterator", "itertools.zip_longest", "itertools.pairwise"]
theorem go_of {M : Model} {A : Around} {E : Value → Shared → Prop} {s : Shared} {I : Addr} {o : Obj} {n : String} {target : Expr} {v : Value} {Q : Unit → Shared → Prop} (ho : s.heap.get? I = some o) (hc : o.cls = .type n) (hn : ownedKinds.contains n = false) (h : Q () s) :
  wpAny M A (letOwnedTupleGo target (.ref I) v) Q E s := by
 have hn' : (["enumerate", "zip", "dict_itemiterator", "dict_reverseitemiterator", "odict_iterator", "itertools.zip_longest", "itertools.pairwise"].contains n) = false := hn
 have main : ∀ (a : Addr), wpAny M A (do
   let o ← load I
   match o.cls, o.data with
   | .type n, .fields vs =>
    if ["enumerate", "zip", "dict_itemiterator", "dict_reverseitemiterator", "odict_iterator", "itertools.zip_longest", "itertools.pairwise"].contains n && vs[0]? == some (rawInt a) then
     rule "for.unpacks-the-owned-tuple"
     updateField I 0 .none
   | _, _ => pure ()) Q E s := by
  intro a
  refine wpAny_bind (wpAny_load ho ?_)
  rw [hc]
  split
  ·rename_i n' vs h1 h2
   cases h1
   rw [hn', Bool.false_and]
   exact wpAny_pure h
  ·exact wpAny_pure h
 unfold letOwnedTupleGo
 split
 ·cases v with
  | ref a => exact main a
  | _ => exact wpAny_pure h
 ·cases v with
  | ref a => exact main a
  | _ => exact wpAny_pure h
 ·exact wpAny_pure h
structure Yd (c : Cx) (A : Around) (I : Addr) (fp : List Addr) (n : Nat) (P : Nat → Value → Prop) (St : Nat → Heap → Prop) : Prop where
 w : Walks c.prog c.w A I (I :: fp) [I] n P St
 cls : ∀ i h, St i h → ∃ o k vs, h.get? I = some o ∧ o.cls = .type k ∧ ownedKinds.contains k = false ∧ o.data = .fields vs
noncomputable def Itr (c : Cx) (A : Around) (d : D) (l : List D) : Prop :=
 ∀ (W : Addr → Prop) (s : Shared) (E : Value → Shared → Prop) (v : Value) (Q : Value → Shared → Prop), (∀ a, W a → ∃ o, s.heap.get? a = some o) → Rd W s.heap v d →
  (∀ I fp P St s', Kt s s' → s.heap.get? I = none → (∃ o, s'.heap.get? I = some o) → Yd c A I fp l.length P St → St 0 s'.heap → (∀ b ∈ fp, ¬ W b ∧ ∃ o, s.heap.get? b = some o) → (∀ i u, i < l.length → P i u → ∃ d', l[i]? = some d' ∧ Rd W s.heap u d') → Q (.ref I) s') →
  wpAny c.M A (pyIter v) Q E s
theorem size_none {h : Heap} : h.get? h.objs.size = none := by
 cases e : h.get? h.objs.size with
 | none => rfl
 | some o => exact absurd (Heap.lt_size e) (Nat.lt_irrefl _)
section
variable {c : Cx} {A : Around}
theorem Itr.lst (hh : A.handled = none) {l : List D} : Itr c A (.lst l) l := fun W s E v Q wo r h => by
 cases r with
 | lst ha hl hr =>
  rename_i a vs
  have hl := hl.isList
  have ne : a ≠ s.heap.objs.size := by obtain ⟨o, e, _⟩ := hl; exact Nat.ne_of_lt (Heap.lt_size e)
  have el : vs.size = l.length := by rw [← hr.length]; simp
  refine wpAny_pyIter_list hl (h _ [a] (fun i v => vs[i]? = some v) _ _ ⟨.push _, Nat.le_refl _⟩ size_none ⟨_, Heap.get?_push_size _ rfl⟩ ⟨el ▸ Walks.list hh s.heap.objs.size a ne vs, ?_⟩ ⟨⟨_, Heap.get?_push_size _ rfl, rfl, rfl⟩, hl.at fun o e => Heap.get?_push_of_some _ e⟩ ?_ ?_)
  ·rintro i h' ⟨⟨o, e, hc, hd⟩, _⟩
   exact ⟨o, _, _, e, hc, by decide, hd⟩
  ·intro b hb
   simp only [List.mem_singleton] at hb; subst hb
   obtain ⟨o, e, _⟩ := hl
   exact ⟨ha, o, e⟩
  ·intro i u hlt hu
   obtain ⟨v', e1, r1⟩ := hr.get (i := i) (d := l[i]) (by simp [hlt])
   have : v' = u := by rw [Array.getElem?_toList, hu] at e1; exact (Option.some.inj e1).symm
   subst this
   exact ⟨_, by simp [hlt], r1⟩
theorem Itr.str (hh : A.handled = none) {x : Str} : Itr c A (.str x) (x.cps.toList.map fun k => .str ⟨#[k]⟩) := fun W s E v Q wo r h => by
 cases r with
 | str x t =>
  have el : (x.cps.toList.map fun k => D.str ⟨#[k]⟩).length = x.cps.size := by simp
  have key : ∀ i u, i < (x.cps.toList.map fun k => D.str ⟨#[k]⟩).length → SignAt x i u → ∃ d', (x.cps.toList.map fun k => D.str ⟨#[k]⟩)[i]? = some d' ∧ Rd W s.heap u d' := by
   rintro i u _ ⟨k, t', e, rfl⟩
   exact ⟨.str ⟨#[k]⟩, by rw [List.getElem?_map, Array.getElem?_toList, e]; rfl, .str _ _⟩
  cases ha : x.cps.all (· < 128)
  ·refine wpAny_pyIter_wide ha (h _ [] (SignAt x) _ _ ⟨.push _, Nat.le_refl _⟩ size_none ⟨_, Heap.get?_push_size _ rfl⟩ ⟨el ▸ Walks.strWide hh s.heap.objs.size x t, ?_⟩ ⟨_, Heap.get?_push_size _ rfl, rfl, rfl⟩ (by simp) key)
   rintro i h' ⟨o, e, hc, hd⟩
   exact ⟨o, _, _, e, hc, by decide, hd⟩
  ·refine wpAny_pyIter_ascii ha (h _ [] (SignAt x) _ _ ⟨.push _, Nat.le_refl _⟩ size_none ⟨_, Heap.get?_push_size _ rfl⟩ ⟨el ▸ Walks.strAscii hh s.heap.objs.size x t, ?_⟩ ⟨_, Heap.get?_push_size _ rfl, rfl, rfl⟩ (by simp) key)
   rintro i h' ⟨o, e, hc, hd⟩
   exact ⟨o, _, _, e, hc, by decide, hd⟩
end
theorem turn_list (elt target iter : Expr) (ifs : List Expr) (scope : Scope) (pos : Pos) (it acc : Value) (env : Env) :
  compTurn (.ListComp elt [⟨target, iter, ifs, 0⟩] scope pos) 0 it acc env = (do
   standAt iter.pos
   match ← pyNext it with
   | none => pure (.done .next)
   | some v =>
    letOwnedTupleGo target it v
    assign target env v
    let ok ← (forIn ifs true fun c r => if r = true then do let ok ← isTrue c env (eval c env); pure (ForInStep.yield ok) else pure (ForInStep.yield r))
    if ok then
     (do let _ ← call (.builtin "list.append") [acc, ← eval elt env])
    again (.compLoop (.ListComp elt [⟨target, iter, ifs, 0⟩] scope pos) 0 it acc env)) := by rfl
section
variable {c : Cx} {A : Around} {R : Result → Shared → Prop} {s : Shared}
noncomputable abbrev NB (c : Cx) (A : Around) (env : Env) (R : Result → Shared → Prop) : Value → Shared → Prop := notedBy c.M A env fun e s' => R (.error e) s'
theorem compLoop_any {elt target iter : Expr} {ifs : List Expr} {scope : Scope} {pos : Pos} {it acc : Value} {env : Env} (I : Nat → Shared → Prop)
  (turn : ∀ n s, I n s → wpAny c.M A (pyNext it) (fun r s₁ => match r with
   | none => R (.ok .next) s₁
   | some v => wpAny c.M A (letOwnedTupleGo target it v) (fun _ s₁' => wpAny c.M A (assign target env v) (fun _ s₂ =>
     wpAny c.M A (forIn ifs true fun c r => if r = true then do let ok ← isTrue c env (eval c env); pure (ForInStep.yield ok) else pure (ForInStep.yield r)) (fun ok s₃ =>
      if ok = true then wpAny c.M A (eval elt env) (fun x s₄ =>
       wpAny c.M A (call (.builtin "list.append") [acc, x]) (fun _ s₅ => ∃ m, m < n ∧ I m s₅) (NB c A env R) s₄) (NB c A env R) s₃
      else ∃ m, m < n ∧ I m s₃) (NB c A env R) s₂) (NB c A env R) s₁') (NB c A env R) s₁) (NB c A env R) s)
  (n : Nat) (h : I n s) :
  codeAny c.M A (.compLoop (.ListComp elt [⟨target, iter, ifs, 0⟩] scope pos) 0 it acc env) R s := by
 refine codeAny_loop rfl I (fun n s hI => ?_) n h
 show wpAny _ A ((compTurn (.ListComp elt [⟨target, iter, ifs, 0⟩] scope pos) 0 it acc env).onRaise (fun x => do noteFrame x env; theTreesLotGoes x)) _ _ s
 refine wpAny_noted ?_
 rw [turn_list]
 refine wpAny_bind (wpAny_standAt (wpAny_bind (wpAny_mono (turn n s hI) (fun r s₁ h₁ => ?_) fun _ _ h' => h')))
 cases r with
 | none => exact wpAny_pure h₁
 | some v =>
  refine wpAny_bind (wpAny_mono h₁ (fun _ s₁' h₁' => wpAny_bind (wpAny_mono h₁' (fun _ s₂ h₂ => wpAny_bind (wpAny_mono h₂ (fun ok s₃ h₃ => ?_) fun _ _ h' => h')) fun _ _ h' => h')) fun _ _ h' => h')
  cases ok with
  | false => exact wpAny_pure ⟨rfl, h₃⟩
  | true =>
   exact wpAny_bind (wpAny_bind (wpAny_mono h₃ (fun x s₄ h₄ => wpAny_bind (wpAny_mono h₄ (fun _ s₅ h₅ => wpAny_pure (wpAny_pure ⟨rfl, h₅⟩)) fun _ _ h' => h')) fun _ _ h' => h'))
end
noncomputable def Ts (c : Cx) (A : Around) (env : Env) (σ : List (Str × D)) (ifs : List Expr) (b : Bool) : Prop :=
 ∀ (W : Addr → Prop) (s : Shared) (E : Value → Shared → Prop), View c W env σ s →
  wpAny c.M A (forIn ifs true fun c r => if r = true then do let ok ← isTrue c env (eval c env); pure (ForInStep.yield ok) else pure (ForInStep.yield r)) (fun ok s' => Kt s s' ∧ ok = b) E s
section
variable {c : Cx} {A : Around} {env : Env} {σ : List (Str × D)}
theorem Ts.nil : Ts c A env σ [] true := fun W s E V => wpAny_tests_nil ⟨.refl _, rfl⟩
theorem Ts.one {e : Expr} {b : Bool} (h : Tv c A env σ e b) : Ts c A env σ [e] b := fun W s E V => wpAny_tests_one (h W s E V)
theorem lookup_relabel_free {env : Env} : ∀ {names : List (Str × NameKind)} {x : Str}, names.lookup x = some .free →
  (names.map fun (n, k) => if (k == NameKind.free && env.scope.kind == .function && env.kindOf n == some .cell) then (n, NameKind.cell) else (n, k)).lookup x = some .free ∨
  (names.map fun (n, k) => if (k == NameKind.free && env.scope.kind == .function && env.kindOf n == some .cell) then (n, NameKind.cell) else (n, k)).lookup x = some .cell
 | [], _, h => by simp at h
 | (n, k) :: r, x, h => by
  have ih := @lookup_relabel_free env r x
  show List.lookup x ((if (k == NameKind.free && env.scope.kind == .function && env.kindOf n == some .cell) = true then (n, NameKind.cell) else (n, k)) :: _) = _ ∨ List.lookup x ((if (k == NameKind.free && env.scope.kind == .function && env.kindOf n == some .cell) = true then (n, NameKind.cell) else (n, k)) :: _) = _
  cases hx : x == n with
  | true =>
   simp only [List.lookup_cons, hx] at h
   cases h
   by_cases hc : (NameKind.free == NameKind.free && env.scope.kind == .function && env.kindOf n == some .cell) = true
   ·rw [if_pos hc]; exact .inr (by simp [List.lookup_cons, hx])
   ·rw [if_neg hc]; exact .inl (by simp [List.lookup_cons, hx])
  | false =>
   simp only [List.lookup_cons, hx] at h
   by_cases hc : (k == NameKind.free && env.scope.kind == .function && env.kindOf n == some .cell) = true
   ·rw [if_pos hc]; simp only [List.lookup_cons, hx]; exact ih h
   ·rw [if_neg hc]; simp only [List.lookup_cons, hx]; exact ih h
theorem compEnvC_ok (ok : EnvOk env) {scope : Scope} {cl : List (Str × Addr)} {C : Addr} (hkind : scope.kind = .function) : EnvOk (compEnvC scope cl C env) :=
 ⟨hkind, ok.glob, ok.blt⟩
structure Cap (env : Env) (scope : Scope) (cl : List (Str × Addr)) (σ σc : List (Str × D)) : Prop where
 h : ∀ x d, σc.lookup x = some d → σ.lookup x = some d ∧ (env.kindOf x = some .cell ∨ env.kindOf x = some .free) ∧ scope.names.lookup x = some .free ∧ cl.lookup x = env.cells.lookup x
theorem outs_succ (p : D → Bool) (f : D → D) (l : List D) (i : Nat) (d : D) (h : l[i]? = some d) : ((l.take (i + 1)).filter p).map f = ((l.take i).filter p).map f ++ (if p d then [f d] else []) := by
 rw [take_succ_filter p l i d h, List.map_append]
 cases p d <;> rfl
theorem Rd.grow {W W' : Addr → Prop} {h : Heap} (hw : ∀ a, W' a → W a ∨ h.get? a = none) {v : Value} {d : D} (r : Rd W h v d) : Rd W' h v d :=
 r.mono (fun b o _ e => e) fun b o n e h => (hw b h).elim n fun e' => by rw [e] at e'; cases e'
theorem RdL.grow {W W' : Addr → Prop} {h : Heap} (hw : ∀ a, W' a → W a ∨ h.get? a = none) {v : List Value} {d : List D} (r : RdL W h v d) : RdL W' h v d :=
 r.mono (fun b o _ e => e) fun b o n e h => (hw b h).elim n fun e' => by rw [e] at e'; cases e'
theorem comp_core {W : Addr → Prop} {elt target iter : Expr} {ifs : List Expr} {scope : Scope} {pos : Pos} {cl : List (Str × Addr)} {l : List D} {p : D → Bool} {f : D → D} {σc : List (Str × D)} {fp : List Addr} {P : Nat → Value → Prop} {St : Nat → Heap → Prop}
  {I : Addr} {s₂ : Shared} {RR : Value → Addr → Result → Shared → Prop} {E : Value → Shared → Prop} (hh : A.handled = none) (ok : EnvOk env)
  (Y : Yd c A I fp l.length P St) (hst : St 0 s₂.heap) (V : View c W env σ s₂) (hI : W I) (hIK : c.K I = none)
  (hfp : ∀ b ∈ fp, b ≠ I ∧ ∃ o, s₂.heap.get? b = some o) (hP : ∀ i u, i < l.length → P i u → ∃ d, l[i]? = some d ∧ Rd W s₂.heap u d) (hn : l.length ≤ 1000000)
  (hcell : ∀ y ∈ scope.names, y.2 ≠ .cell) (hkind : scope.kind = .function) (cap : Cap env scope cl σ σc)
  (step : ∀ C d, d ∈ l → ∃ bs, Tgt (compEnvC scope cl C env) target d bs ∧ Ts c A (compEnvC scope cl C env) (bs ++ σc) ifs (p d) ∧ (p d = true → Ev c A (compEnvC scope cl C env) (bs ++ σc) elt (f d)))
  (hRR : ∀ B C s', s₂.heap.get? B = none → s₂.heap.get? C = none → B ≠ C → (∃ m, s'.heap.Ns C m) → Upd (fun b => b = I) s₂ s' →
   (∃ ys, s'.heap.PlainList B ys ∧ RdL (fun a => W a ∨ a = C ∨ a = B) s'.heap ys.toList ((l.filter p).map f)) → RR (.ref B) C (.ok .next) s') :
  wpAny c.M A (newList []) (fun acc s₃ => wpAny c.M A (newFunctionEnv scope env.globals cl [] env.qual none .none (some env)) (fun cenv s₄ =>
   codeAny c.M A (.compStart (.ListComp elt [⟨target, iter, ifs, 0⟩] scope pos) 0 (.ref I) acc { cenv with scope := relabel scope env }) (RR acc cenv.locals) s₄) E s₃) E s₂ := by
 refine wpAny_newObj_type (wpAny_newFunctionEnv hcell (by intro y hy; simp at hy) (fun h₁ hns₁ hsb₁ => ?_) hkind)
 dsimp only at hns₁ hsb₁ ⊢
 obtain ⟨oI, eI⟩ := V.wold I hI
 generalize hH2 : s₂.heap.push { cls := .type "list", dict := none, data := .seq ([] : List Value).toArray } = H2 at hns₁ hsb₁ ⊢
 have hC : H2.objs.size = s₂.heap.objs.size + 1 := by rw [← hH2, Heap.size_push]
 have fresh : ∀ a, s₂.heap.objs.size ≤ a → s₂.heap.get? a = none := fun a ha => by
  cases e : s₂.heap.get? a with
  | none => rfl
  | some o' => exact absurd (Heap.lt_size e) (Nat.not_lt.mpr ha)
 have old : ∀ b o, s₂.heap.get? b = some o → h₁.get? b = some o := fun b o e =>
  hsb₁.extBut b o (by have := Heap.lt_size e; rw [hC]; exact Nat.ne_of_lt (Nat.lt_succ_of_lt this)) (Heap.get?_push_of_some _ (hH2 ▸ Heap.get?_push_of_some _ e))
 have hBC : s₂.heap.objs.size ≠ H2.objs.size := by rw [hC]; exact Nat.ne_of_lt (Nat.lt_succ_self _)
 have hacc : h₁.PlainList s₂.heap.objs.size #[] := ⟨_, hsb₁.extBut _ _ hBC (Heap.get?_push_of_some _ (hH2 ▸ Heap.get?_push_size _ rfl))⟩
 have freshB : s₂.heap.get? s₂.heap.objs.size = none := fresh _ (Nat.le_refl _)
 have freshC : s₂.heap.get? H2.objs.size = none := fresh _ (by rw [hC]; exact Nat.le_succ _)
 have main : ∀ (B C : Addr) (s₃ : Shared), B ≠ C → s₂.heap.get? B = none → s₂.heap.get? C = none → Upd (fun _ => False) s₂ s₃ → s₃.heap.PlainList B #[] → (∃ m, s₃.heap.Ns C m) →
   codeAny c.M A (.compLoop (.ListComp elt [⟨target, iter, ifs, 0⟩] scope pos) 0 (.ref I) (.ref B) (compEnvC scope cl C env)) (RR (.ref B) C) s₃ := by
  clear hBC freshB freshC hacc old fresh hC hns₁ hsb₁ hH2 H2 h₁
  intro B C s₃ hBC freshB freshC U₃ acc₃ ns₃
  have hIB : I ≠ B := by rintro rfl; rw [freshB] at eI; cases eI
  have hIC : I ≠ C := by rintro rfl; rw [freshC] at eI; cases eI
  have Kfresh : ∀ a, s₂.heap.get? a = none → c.K a = none := fun a e => by
   cases e' : c.K a with
   | none => rfl
   | some o => rw [V.base a o e'] at e; cases e
  have st₃ : St 0 s₃.heap := Y.w.frame _ _ _ hst fun b _ o e => U₃.keep b o id e
  have hRR' := hRR B C
  generalize hW' : (fun a => W a ∨ a = C ∨ a = B) = W' at hRR'
  have okc : EnvOk (compEnvC scope cl C env) := compEnvC_ok ok hkind
  have W'loc : W' C := by subst hW'; exact .inr (.inl rfl)
  have W'I : W' I := by subst hW'; exact .inl hI
  have W'B : W' B := by subst hW'; exact .inr (.inr rfl)
  have WW' : ∀ a, W' a → W a ∨ s₂.heap.get? a = none := fun a h => by
   subst hW'
   rcases h with h | rfl | rfl
   ·exact .inl h
   ·exact .inr freshC
   ·exact .inr freshB
  have capV : ∀ s', Upd (fun b => b = I ∨ b = C ∨ b = B) s₂ s' → (∃ o, s'.heap.get? I = some o) → (∃ o, s'.heap.get? C = some o) → (∃ o, s'.heap.get? B = some o) → View c W' (compEnvC scope cl C env) σc s' := by
   intro s' U e1 e2 e3
   have keepNot : ∀ b o, s₂.heap.get? b = some o → b ≠ I → s'.heap.get? b = some o := fun b o e n =>
    U.keep b o (by
     rintro (rfl | rfl | rfl)
     ·exact n rfl
     ·rw [freshC] at e; cases e
     ·rw [freshB] at e; cases e) e
   refine ⟨fun a o e => keepNot a o (V.base a o e) (by rintro rfl; rw [hIK] at e; cases e), ?_, Nat.lt_of_lt_of_le V.tok U.tk, ?_⟩
   ·intro a h
    by_cases z : a = I
    ·subst z; exact e1
    ·rcases WW' a h with h | h
     ·obtain ⟨o, e⟩ := V.wold a h; exact ⟨o, keepNot a o e z⟩
     ·subst hW'
      rcases h with h | rfl | rfl
      ·obtain ⟨o, e⟩ := V.wold a h; exact ⟨o, keepNot a o e z⟩
      ·exact e2
      ·exact e3
   ·intro x d hx
    obtain ⟨h1, h2, h3, h4⟩ := cap.h x d hx
    obtain ⟨v, b, r⟩ := V.vars x d h1
    refine ⟨v, ?_, U.rd (fun a h => by rcases h with rfl | rfl | rfl <;> assumption) (r.grow WW')⟩
    have b' : ∃ a o, env.cells.lookup x = some a ∧ s₂.heap.get? a = some o ∧ o.data = .cell (some v) := by
     unfold Bnd at b
     rcases h2 with h2 | h2 <;> (rw [h2] at b; exact b)
    obtain ⟨a, o, q1, q2, q3⟩ := b'
    have ne : a ≠ I := by
     rintro rfl
     obtain ⟨o', k, vs, q4, q5, _, q6⟩ := Y.cls 0 _ hst
     rw [q2] at q4; cases q4; rw [q3] at q6; cases q6
    have kk : (compEnvC scope cl C env).kindOf x = some .free ∨ (compEnvC scope cl C env).kindOf x = some .cell := lookup_relabel_free (env := env) h3
    unfold Bnd
    rcases kk with kk | kk
    ·rw [kk]; exact ⟨a, o, h4.trans q1, keepNot a o q2 ne, q3⟩
    ·rw [kk]; exact ⟨a, o, h4.trans q1, keepNot a o q2 ne, q3⟩
  have kC : c.K C = none := Kfresh _ freshC
  have exB : ∀ (h : Heap) (ys : Array Value), h.PlainList B ys → ∃ o, h.get? B = some o := fun h ys q => by obtain ⟨n, e⟩ := q; exact ⟨_, e⟩
  have exC : ∀ h : Heap, (∃ m, h.Ns C m) → ∃ o, h.get? C = some o := fun h q => by obtain ⟨m, o, _, _, e, _⟩ := q; exact ⟨o, e⟩
  have exI : ∀ (h : Heap) (i : Nat), St i h → ∃ o, h.get? I = some o := fun h i st => by obtain ⟨o, _, _, e, _⟩ := Y.cls _ _ st; exact ⟨o, e⟩
  have fpNot : ∀ b ∈ (I :: fp), b ≠ B ∧ b ≠ C := fun b hb => by
   rcases List.mem_cons.mp hb with rfl | hb
   ·exact ⟨hIB, hIC⟩
   ·obtain ⟨_, o, e⟩ := hfp b hb
    refine ⟨fun q => ?_, fun q => ?_⟩
    ·subst q; exact absurd (freshB.symm.trans e) (by simp)
    ·subst q; exact absurd (freshC.symm.trans e) (by simp)
  obtain ⟨Iv, hIv⟩ : ∃ Iv : Nat → Shared → Prop, ∀ k s', Iv k s' ↔ (∃ i ys, i ≤ l.length ∧ k = l.length + 1 - i ∧ Upd (fun b => b = I ∨ b = C ∨ b = B) s₂ s' ∧ St i s'.heap ∧ s'.heap.PlainList B ys ∧ RdL W' s'.heap ys.toList (((l.take i).filter p).map f) ∧ (∃ m, s'.heap.Ns C m)) := ⟨_, fun _ _ => Iff.rfl⟩
  refine compLoop_any Iv ?_ (l.length + 1) ((hIv _ _).mpr ⟨0, #[], Nat.zero_le _, rfl, U₃.mono (fun a h => h.elim), st₃, acc₃, .nil, ns₃⟩)
  rintro k s' hk0
  obtain ⟨i, ys, hi, rfl, U, st, pl, ry, ns⟩ := (hIv _ _).mp hk0
  clear hk0
  by_cases hlt : i < l.length
  ·have h0 : wpAny c.M A (pyNext (.ref I)) (fun r s₁ => s'.toks ≤ s₁.toks ∧ ∃ v, r = some v ∧ P i v ∧ St (i + 1) s₁.heap ∧ (∃ h tk, s₁ = { s' with heap := h, toks := tk }) ∧ ∀ b o, b ≠ I → s'.heap.get? b = some o → s₁.heap.get? b = some o) (NB c A (compEnvC scope cl C env) (RR (.ref B) C)) s' :=
    wpAny_mono (wpAny_toks_of (E := NB c A (compEnvC scope cl C env) (RR (.ref B) C)) (Nat.le_refl s'.toks) (Y.w.item i s' (fun r s₁ => ∃ v, r = some v ∧ P i v ∧ St (i + 1) s₁.heap ∧ (∃ h tk, s₁ = { s' with heap := h, toks := tk }) ∧ ∀ b o, b ≠ I → s'.heap.get? b = some o → s₁.heap.get? b = some o) _ hlt st
     fun v h' tk hv st' hk => ⟨v, rfl, hv, st', ⟨_, _, rfl⟩, fun b o n e => hk b o (by simpa using n) e⟩)) (fun _ _ q => q) fun _ _ q => q.2
   refine wpAny_mono h0 (fun r s₁ q => ?_) fun _ _ e => e
   obtain ⟨tk₁, v, rfl, hv, st₁, eq₁, k₁⟩ := q
   have U₁ : Upd (fun b => b = I) s' s₁ := ⟨eq₁, tk₁, fun b o n e => k₁ b o n e⟩
   have UU₁ := U.trans (U₁.mono (fun a h => .inl h))
   obtain ⟨o₁, k, vs₁, e₁, c₁, n₁, _⟩ := Y.cls _ _ st₁
   obtain ⟨d, hd, rd⟩ := hP i v hlt hv
   obtain ⟨bs, T, tst, el⟩ := step C d (List.mem_of_getElem? hd)
   have pl₁ : s₁.heap.PlainList B ys := pl.at fun o e => k₁ B o (Ne.symm hIB) e
   have ns₁ : ∃ m, s₁.heap.Ns C m := by obtain ⟨m, n⟩ := ns; exact ⟨m, n.at fun o e => k₁ C o (Ne.symm hIC) e⟩
   have V₁ := capV s₁ UU₁ ⟨_, e₁⟩ (exC _ ns₁) (exB _ _ pl₁)
   have r₁ : Rd W' s₁.heap v d := UU₁.rd (fun a h => by rcases h with rfl | rfl | rfl <;> assumption) (rd.grow WW')
   have ry₁ : RdL W' s₁.heap ys.toList (((l.take i).filter p).map f) := U₁.rdL (fun a h => by subst h; exact W'I) ry
   refine go_of e₁ c₁ n₁ ?_
   refine T.set okc hh V₁ W'loc kC ns₁ r₁ fun s₂' V₂ U₂ ns₂ => ?_
   have U₂' : Upd (fun b => b = C) s₁ s₂' := U₂
   have pl₂ : s₂'.heap.PlainList B ys := pl₁.at fun o e => U₂'.keep B o hBC e
   have ry₂ := U₂'.rdL (fun a h => by subst h; exact W'loc) ry₁
   have st₂ : St (i + 1) s₂'.heap := Y.w.frame _ _ _ st₁ fun b hb o e => U₂'.keep b o (fpNot b hb).2 e
   have UU₂ := UU₁.trans (U₂'.mono (fun a h => .inr (.inl h)))
   refine wpAny_mono (tst W' s₂' _ V₂) (fun ok s₃' q => ?_) fun _ _ e => e
   obtain ⟨K₃, rfl⟩ := q
   have UU₃ := UU₂.trans (.of K₃)
   have pl₃ := pl₂.at fun o e => K₃.heap B o e
   have ry₃ := ry₂.keeps K₃.heap
   have st₃ : St (i + 1) s₃'.heap := Y.w.frame _ _ _ st₂ fun b _ o e => K₃.heap b o e
   have ns₃ : ∃ m, s₃'.heap.Ns C m := by obtain ⟨m, n⟩ := ns₂; exact ⟨m, n.keeps K₃.heap⟩
   have V₃ := V₂.keeps K₃
   cases hpd : p d with
   | false =>
    rw [if_neg (by simp)]
    refine ⟨l.length + 1 - (i + 1), by omega, (hIv _ _).mpr ⟨i + 1, ys, hlt, rfl, UU₃, st₃, pl₃, ?_, ns₃⟩⟩
    rw [outs_succ p f l i d hd, hpd]; simpa using ry₃
   | true =>
    rw [if_pos rfl]
    refine (el hpd).use V₃ fun y s₄ K₄ V₄ r₄ => ?_
    have pl₄ := pl₃.at fun o e => K₄.heap B o e
    have hys : ys.size ≤ sizeLine := by
     have e1 := ry.length
     have e2 : (((l.take i).filter p).map f).length ≤ l.length := by
      rw [List.length_map]
      exact Nat.le_trans (List.length_filter_le _ _) (by rw [List.length_take]; omega)
     rw [Array.length_toList] at e1
     rw [sizeLine_eq]; omega
    refine wpAny_list_append_plain (hsz := hys) pl₄ fun h₅ pl₅ sb₅ => ?_
    have U₅ : Upd (fun b => b = B) s₄ { s₄ with heap := h₅ } := ⟨⟨_, s₄.toks, rfl⟩, Nat.le_refl _, fun b o n e => sb₅.extBut b o n e⟩
    refine ⟨l.length + 1 - (i + 1), by omega, (hIv _ _).mpr ⟨i + 1, ys.push y, hlt, rfl, (UU₃.trans (.of K₄)).trans (U₅.mono fun a h => .inr (.inr h)), ?_, pl₅, ?_, ?_⟩⟩
    ·exact Y.w.frame _ _ _ st₃ fun b hb o e => U₅.keep b o (fpNot b hb).1 (K₄.heap b o e)
    ·rw [outs_succ p f l i d hd, hpd, Array.toList_push]
     exact (U₅.rdL (fun a h => by subst h; exact W'B) (ry₃.keeps K₄.heap)).app (.cons (U₅.rd (fun a h => by subst h; exact W'B) r₄) .nil)
    ·obtain ⟨m, n⟩ := ns₃; exact ⟨m, (n.keeps K₄.heap).at fun o e => U₅.keep C o (Ne.symm hBC) e⟩
  ·have hieq : i = l.length := by omega
   subst hieq
   have h0 : wpAny c.M A (pyNext (.ref I)) (fun r s₁ => s'.toks ≤ s₁.toks ∧ r = none ∧ (∃ h tk, s₁ = { s' with heap := h, toks := tk }) ∧ ∀ b o, b ≠ I → s'.heap.get? b = some o → s₁.heap.get? b = some o) (NB c A (compEnvC scope cl C env) (RR (.ref B) C)) s' :=
    wpAny_mono (wpAny_toks_of (E := NB c A (compEnvC scope cl C env) (RR (.ref B) C)) (Nat.le_refl s'.toks) (Y.w.done s' (fun r s₁ => r = none ∧ (∃ h tk, s₁ = { s' with heap := h, toks := tk }) ∧ ∀ b o, b ≠ I → s'.heap.get? b = some o → s₁.heap.get? b = some o) _ st
     fun h' tk hk => ⟨rfl, ⟨_, _, rfl⟩, fun b o n e => hk b o (by simpa using n) e⟩)) (fun _ _ q => q) fun _ _ q => q.2
   refine wpAny_mono h0 (fun r s₁ q => ?_) fun _ _ e => e
   obtain ⟨tk₁, rfl, eq₁, k₁⟩ := q
   have U₁ : Upd (fun b => b = I) s' s₁ := ⟨eq₁, tk₁, fun b o n e => k₁ b o n e⟩
   have UU := U.trans (U₁.mono (fun a h => .inl h))
   refine hRR' s₁ freshB freshC hBC ?_ ⟨UU.eq, UU.tk, fun b o n e => ?_⟩ ⟨ys, pl.at fun o e => k₁ B o (Ne.symm hIB) e, ?_⟩
   ·obtain ⟨m, n⟩ := ns; exact ⟨m, n.at fun o e => k₁ C o (Ne.symm hIC) e⟩
   ·refine UU.keep b o ?_ e
    rintro (q | q | q)
    ·exact n q
    ·subst q; exact absurd (freshC.symm.trans e) (by simp)
    ·subst q; exact absurd (freshB.symm.trans e) (by simp)
   ·rw [List.take_length] at ry
    exact U₁.rdL (fun a h => by subst h; exact W'I) ry
 exact codeAny_compStart_list (main _ _ _ hBC freshB freshC ⟨⟨_, _, rfl⟩, Nat.le_add_right _ _, fun b o _ e => old b o e⟩ hacc ⟨_, hns₁⟩)
  (Y.w.self 0 _ _ _ (Y.w.frame _ _ _ hst fun b _ o e => old b o e) (main _ _ _ hBC freshB freshC ⟨⟨_, _, rfl⟩, Nat.le_add_right _ _, fun b o _ e => old b o e⟩ hacc ⟨_, hns₁⟩))
end
section
variable {c : Cx} {A : Around} {env : Env} {σ : List (Str × D)} {W : Addr → Prop} {s : Shared}
theorem View.kfresh (V : View c W env σ s) {a : Addr} (h : s.heap.get? a = none) : c.K a = none := by
 cases e : c.K a with
 | none => rfl
 | some o => rw [V.base a o e] at h; cases h
theorem View.growK (V : View c W env σ s) {W' : Addr → Prop} {s' : Shared} (K : Kt s s') (hW : ∀ a, W' a → W a ∨ s.heap.get? a = none) (hx : ∀ a, W' a → ∃ o, s'.heap.get? a = some o) : View c W' env σ s' :=
 {base := V.base.keeps K.heap
  wold := hx
  tok := Nat.lt_of_lt_of_le V.tok K.tk
  vars := fun x d e => let ⟨v, b, r⟩ := V.vars x d e; ⟨v, b.keeps K.heap, (r.grow hW).keeps K.heap⟩ }
theorem comp_pre {elt target iter : Expr} {ifs : List Expr} {scope : Scope} {pos : Pos} {cl : List (Str × Addr)} {l : List D} {p : D → Bool} {f : D → D} {σc : List (Str × D)} {di : D} {RR : Value → Addr → Result → Shared → Prop} {E : Value → Shared → Prop}
  (hh : A.handled = none) (ok : EnvOk env) (hi : Ev c A env σ iter di) (it : Itr c A di l) (hn : l.length ≤ 1000000)
  (hcell : ∀ y ∈ scope.names, y.2 ≠ .cell) (hkind : scope.kind = .function) (cap : Cap env scope cl σ σc)
  (step : ∀ C d, d ∈ l → ∃ bs, Tgt (compEnvC scope cl C env) target d bs ∧ Ts c A (compEnvC scope cl C env) (bs ++ σc) ifs (p d) ∧ (p d = true → Ev c A (compEnvC scope cl C env) (bs ++ σc) elt (f d)))
  (V : View c W env σ s)
  (hRR : ∀ B C s' ys, Upd (fun _ => False) s s' → s.heap.get? B = none → s.heap.get? C = none → B ≠ C → (∃ m, s'.heap.Ns C m) → s'.heap.PlainList B ys → RdL (fun a => W a ∨ a = C ∨ a = B) s'.heap ys.toList ((l.filter p).map f) → RR (.ref B) C (.ok .next) s') :
  wpAny c.M A (eval iter env) (fun x s₁ => wpAny c.M A (pyIter x) (fun it s₂ => wpAny c.M A (newList []) (fun acc s₃ => wpAny c.M A (newFunctionEnv scope env.globals cl [] env.qual none .none (some env)) (fun cenv s₄ =>
   codeAny c.M A (.compStart (.ListComp elt [⟨target, iter, ifs, 0⟩] scope pos) 0 it acc { cenv with scope := relabel scope env }) (RR acc cenv.locals) s₄) E s₃) E s₂) E s₁) E s := by
 refine hi.use V fun x s₁ K₁ V₁ r₁ => it W s₁ E x _ V₁.wold r₁ fun I fp P St s₂ K₂ hI hIex Y st hfp hP => ?_
 have gr : ∀ a, (W a ∨ a = I) → W a ∨ s₁.heap.get? a = none := fun a h => h.elim .inl fun e => .inr (by rw [e]; exact hI)
 refine comp_core (W := fun a => W a ∨ a = I) hh ok Y st (V₁.growK K₂ gr fun a h => ?_) (.inr rfl) (V₁.kfresh hI) (fun b hb => ?_) (fun i u hlt hu => ?_) hn hcell hkind cap step fun B C s' hB hC hBC ns U ⟨ys, pl, ry⟩ => ?_
 ·rcases h with h | rfl
  ·obtain ⟨o, e⟩ := V₁.wold a h; exact ⟨o, K₂.heap _ _ e⟩
  ·exact hIex
 ·obtain ⟨_, o, e⟩ := hfp b hb
  refine ⟨fun q => ?_, o, K₂.heap _ _ e⟩
  rw [q, hI] at e; cases e
 ·obtain ⟨d, hd, r⟩ := hP i u hlt hu
  exact ⟨d, hd, (r.grow gr).keeps K₂.heap⟩
 ·have back : ∀ a, s₂.heap.get? a = none → s.heap.get? a = none := fun a e => by
   cases q : s.heap.get? a with
   | none => rfl
   | some o => rw [K₂.heap _ _ (K₁.heap _ _ q)] at e; cases e
  have hIs : s.heap.get? I = none := by
   cases q : s.heap.get? I with
   | none => rfl
   | some o => rw [K₁.heap _ _ q] at hI; cases hI
  have KK := K₁.trans K₂
  refine hRR B C s' ys ⟨?_, Nat.le_trans KK.tk U.tk, fun b o _ e => U.keep b o (fun q => by rw [q, hIs] at e; cases e) (KK.heap b o e)⟩ (back B hB) (back C hC) hBC ns pl ?_
  ·obtain ⟨h1, t1, q1⟩ := KK.eq
   obtain ⟨h2, t2, q2⟩ := U.eq
   exact ⟨h2, t2, by rw [q2, q1]⟩
  ·exact ry.mono (fun b o _ e => e) fun b o n _ h => n (by rcases h with h | h; exact .inl (.inl h); exact .inr h)
theorem comp_list {B C : Addr} {s' : Shared} {h' : Heap} {ys : Array Value} {ds : List D} (V : View c W env σ s) (U : Upd (fun _ => False) s s') (hB : s.heap.get? B = none) (hBC : B ≠ C) (pl : s'.heap.PlainList B ys) (ry : RdL (fun a => W a ∨ a = C ∨ a = B) s'.heap ys.toList ds)
  (sb : ∀ b o, b ≠ C → s'.heap.get? b = some o → h'.get? b = some o) : Rd W h' (.ref B) (.lst ds) :=
 .lst (V.new hB) (toL (pl.at fun o e => sb B o hBC e)) (ry.mono (fun b o n e => sb b o (fun q => n (.inr (.inl q))) e) fun b o n _ h => n (.inl h))
theorem Ev.comp {elt target iter : Expr} {ifs : List Expr} {scope : Scope} {pos : Pos} {cl : List (Str × Addr)} {l : List D} {p : D → Bool} {f : D → D} {σc : List (Str × D)} {di : D}
  (hh : A.handled = Option.none) (ok : EnvOk env) (hi : Ev c A env σ iter di) (it : Itr c A di l) (hn : l.length ≤ 1000000)
  (hclos : closureFor scope env = pure cl) (hcell : ∀ y ∈ scope.names, y.2 ≠ .cell) (hkind : scope.kind = .function) (hnames : ∀ y ∈ scope.names, y.2 = .local → scope.names.lookup y.1 = some .local) (cap : Cap env scope cl σ σc)
  (step : ∀ C d, d ∈ l → ∃ bs, Tgt (compEnvC scope cl C env) target d bs ∧ Ts c A (compEnvC scope cl C env) (bs ++ σc) ifs (p d) ∧ (p d = true → Ev c A (compEnvC scope cl C env) (bs ++ σc) elt (f d)))
  (hs : ∀ x, foldedSetIterable iter env x = pure x := by intro _; rfl) : Ev c A env σ (.ListComp elt [⟨target, iter, ifs, 0⟩] scope pos) (.lst ((l.filter p).map f)) := .intro fun W s E V => by
 rw [eval_ListComp]
 refine wpAny_comprehension_free (use := Option.none) rfl hs hclos hkind hnames (comp_pre (RR := fun acc C => compPost c.M A E Option.none _ acc C) hh ok hi it hn hcell hkind cap step V fun B C s' ys U hB hC hBC ns pl ry => ?_)
 obtain ⟨m, ns⟩ := ns
 refine ⟨m, ns, fun h' sb => ⟨⟨?_, fun b o e => sb.extBut b o (fun q => by rw [q, hC] at e; cases e) (U.keep b o id e)⟩, comp_list V U hB hBC pl ry fun b o n e => sb.extBut b o n e⟩⟩
 obtain ⟨h1, t1, q1⟩ := U.eq
 exact ⟨h', t1, by rw [q1]⟩
end
theorem RdL.imp {W W' : Addr → Prop} {h h' : Heap} (kr : ∀ v d, Rd W h v d → Rd W' h' v d) : ∀ {vs : List Value} {ds : List D}, RdL W h vs ds → RdL W' h' vs ds
 | _, _, .nil => .nil
 | _, _, .cons a b => .cons (kr _ _ a) (b.imp kr)
inductive Own where
 | l (ds : List D)
 | d (kvs : List (Str × D))
noncomputable def OwnAt (c : Cx) (W : Addr → Prop) (h : Heap) (a : Addr) : Own → Prop
 | .l ds => ∃ vs, h.PlainList a vs ∧ RdL W h vs.toList ds
 | .d kvs => ∃ us : List (Str × Value), h.DictOf (strKind c.prog c.w) a us ∧ (us.map (·.1) = kvs.map (·.1) ∧ (a == sysModules) = false) ∧ RdL W h (us.map (·.2)) (kvs.map (·.2))
theorem OwnAt.keep {c : Cx} {W W' : Addr → Prop} {h h' : Heap} {a : Addr} {o : Own} (x : OwnAt c W h a o) (ka : ∀ ob, h.get? a = some ob → h'.get? a = some ob) (kr : ∀ v d, Rd W h v d → Rd W' h' v d) : OwnAt c W' h' a o := by
 cases o with
 | l ds => obtain ⟨vs, p, r⟩ := x; exact ⟨vs, p.at ka, r.imp kr⟩
 | d kvs => obtain ⟨us, p, k, r⟩ := x; exact ⟨us, p.at ka, k, r.imp kr⟩
theorem OwnAt.data {c : Cx} {W : Addr → Prop} {h : Heap} {a : Addr} {o : Own} (x : OwnAt c W h a o) : ∃ ob, h.get? a = some ob ∧ ((∃ vs n, ob.data = .seq vs n) ∨ ∃ es ep, ob.data = .dict es ep) ∧ ob.cls ≠ .type "tuple" := by
 cases o with
 | l ds => obtain ⟨vs, ⟨n, e⟩, r⟩ := x; exact ⟨_, e, .inl ⟨_, _, rfl⟩, fun q : Value.type "list" = Value.type "tuple" => absurd q (by decide)⟩
 | d kvs => obtain ⟨us, ⟨ob, es, ep, e, ⟨hc, _⟩, hd, _⟩, _⟩ := x; exact ⟨ob, e, .inr ⟨es, ep, hd⟩, fun q => by rw [hc] at q; exact absurd q (by decide)⟩
theorem OwnAt.ex {c : Cx} {W : Addr → Prop} {h : Heap} {a : Addr} {o : Own} (x : OwnAt c W h a o) : ∃ ob, h.get? a = some ob := let ⟨ob, e, _⟩ := x.data; ⟨ob, e⟩
theorem OwnAt.ne_cell {c : Cx} {W : Addr → Prop} {h : Heap} {a b : Addr} {o : Own} {u : Option Value} (x : OwnAt c W h a o) (y : h.IsCell b u) : a ≠ b := by
 rintro rfl
 obtain ⟨ob, e, q, _⟩ := x.data
 obtain ⟨o', e3, e4⟩ := y
 rw [e] at e3; cases e3
 rcases q with ⟨_, _, q⟩ | ⟨_, _, q⟩ <;> (rw [e4] at q; cases q)
/-- a running body: s₀ where it was entered, W₀ what must not be read into what it gives back, Md what it may change,
W what is not to be read now, σ the names, μ the lists of its own -/
structure Fr (c : Cx) (s₀ : Shared) (W₀ Md W : Addr → Prop) (env : Env) (σ : List (Str × D)) (μ : List (Addr × Own)) (s : Shared) : Prop where
 view : View c W env σ s
 base0 : HasK c.K s₀.heap
 up : Upd Md s₀ s
 w0 : ∀ a, W₀ a → W a
 wn : ∀ a, W a → W₀ a ∨ s₀.heap.get? a = none
 w0old : ∀ a, W₀ a → ∃ o, s₀.heap.get? a = some o
 mdW : ∀ a, Md a → W₀ a
 mdK : ∀ a, Md a → c.K a = none
 loc : W env.locals ∧ (Md env.locals ∨ s₀.heap.get? env.locals = none)
 ns : ∃ m, s.heap.Ns env.locals m
 cell : ∀ x a, env.kindOf x = some .cell → env.cells.lookup x = some a → W a ∧ (Md a ∨ s₀.heap.get? a = none) ∧ ∃ v, s.heap.IsCell a v
 inj : ∀ x y a, env.cells.lookup x = some a → env.cells.lookup y = some a → x = y
 own : ∀ a l, (a, l) ∈ μ → W a ∧ (Md a ∨ s₀.heap.get? a = none) ∧ a ≠ env.locals ∧ OwnAt c W s.heap a l
 nd : (μ.map (·.1)).Nodup
noncomputable def Mine' (env : Env) (μ : List (Addr × Own)) (a : Addr) : Prop :=
 a = env.locals ∨ (∃ x, env.kindOf x = some .cell ∧ env.cells.lookup x = some a) ∨ ∃ l, (a, l) ∈ μ
section
variable {c : Cx} {A : Around} {s₀ : Shared} {W₀ Md W : Addr → Prop} {env : Env} {σ : List (Str × D)} {μ : List (Addr × Own)} {s : Shared} {E : Value → Shared → Prop}
theorem Fr.md_of (F : Fr c s₀ W₀ Md W env σ μ s) {a : Addr} (h : Mine' env μ a) : W a ∧ (Md a ∨ s₀.heap.get? a = none) := by
 rcases h with rfl | ⟨x, h1, h2⟩ | ⟨l, h⟩
 ·exact F.loc
 ·exact ⟨(F.cell x a h1 h2).1, (F.cell x a h1 h2).2.1⟩
 ·exact ⟨(F.own a l h).1, (F.own a l h).2.1⟩
theorem Fr.kn (F : Fr c s₀ W₀ Md W env σ μ s) {a : Addr} (h : Md a ∨ s₀.heap.get? a = none) : c.K a = none := by
 rcases h with h | h
 ·exact F.mdK a h
 ·cases e : c.K a with
  | none => rfl
  | some o => rw [F.base0 a o e] at h; cases h
theorem cell_ne_ns {h : Heap} {a b : Addr} {v : Option Value} {m : Str → Option Value} (x : h.IsCell a v) (y : h.Ns b m) : a ≠ b := by
 rintro rfl
 obtain ⟨o, e1, e2⟩ := x; obtain ⟨o', es, ep, e3, e4, _⟩ := y
 rw [e1] at e3; cases e3; rw [e2] at e4; cases e4
theorem list_ne_ns {h : Heap} {a b : Addr} {v : Array Value} {m : Str → Option Value} (x : h.PlainList a v) (y : h.Ns b m) : a ≠ b := by
 rintro rfl
 obtain ⟨n, e1⟩ := x; obtain ⟨o', es, ep, e3, e4, _⟩ := y
 rw [e1] at e3; cases e3; cases e4
theorem list_ne_cell {h : Heap} {a b : Addr} {v : Array Value} {u : Option Value} (x : h.PlainList a v) (y : h.IsCell b u) : a ≠ b := by
 rintro rfl
 obtain ⟨n, e1⟩ := x; obtain ⟨o, e3, e4⟩ := y
 rw [e1] at e3; cases e3; cases e4
theorem IsCell.atK {h h' : Heap} {a : Addr} {v : Option Value} (x : h.IsCell a v) (k : ∀ o, h.get? a = some o → h'.get? a = some o) : h'.IsCell a v := let ⟨o, e, d⟩ := x; ⟨o, k o e, d⟩
theorem Fr.keeps (F : Fr c s₀ W₀ Md W env σ μ s) {s' : Shared} (K : Kt s s') : Fr c s₀ W₀ Md W env σ μ s' :=
 {F with
  view := F.view.keeps K
  up := F.up.trans (.of K)
  ns := let ⟨m, n⟩ := F.ns; ⟨m, n.keeps K.heap⟩
  cell := fun x a h1 h2 => let ⟨q1, q2, v, q3⟩ := F.cell x a h1 h2; ⟨q1, q2, v, q3.keeps K.heap⟩
  own := fun a l h => let ⟨q1, q2, q3, q4⟩ := F.own a l h; ⟨q1, q2, q3, q4.keep (fun o e => K.heap _ o e) fun v d r => r.keeps K.heap⟩ }
theorem Fr.set (ok : EnvOk env) (F : Fr c s₀ W₀ Md W env σ μ s) {x : Str} {v : Value} {d : D} {Q : Unit → Shared → Prop} (hk : env.kindOf x = some .local ∨ (env.kindOf x = some .cell ∧ ∃ a, env.cells.lookup x = some a)) (r : Rd W s.heap v d)
  (h : ∀ s', Fr c s₀ W₀ Md W env ((x, d) :: σ) μ s' → Upd (Mine' env []) s s' → Q () s') : wpAny c.M A (storeName env x v) Q E s := by
 rcases hk with hk | ⟨hk, a, ha⟩
 ·refine set_local ok hk F.view F.loc.1 (F.kn F.loc.2) F.ns r fun s' V' U' ns' => h s' ?_ (U'.mono fun a e => .inl e)
  obtain ⟨m, n⟩ := F.ns
  have hU : ∀ b o, b ≠ env.locals → s.heap.get? b = some o → s'.heap.get? b = some o := fun b o n e => U'.keep b o n e
  exact { F with
   view := V'
   up := ⟨by obtain ⟨h1, t1, q1⟩ := F.up.eq; obtain ⟨h2, t2, q2⟩ := U'.eq; exact ⟨h2, t2, by rw [q2, q1]⟩, Nat.le_trans F.up.tk U'.tk, fun b o hb e => hU b o (fun q => by
    subst q
    rcases F.loc.2 with q | q
    ·exact hb q
    ·rw [q] at e; cases e) (F.up.keep b o hb e)⟩
   ns := ns'
   cell := fun y b h1 h2 => let ⟨q1, q2, u, q3⟩ := F.cell y b h1 h2; ⟨q1, q2, u, IsCell.atK q3 fun o e => hU b o (cell_ne_ns q3 n) e⟩
   own := fun b l hb => let ⟨q1, q2, q3, q4⟩ := F.own b l hb; ⟨q1, q2, q3, q4.keep (fun o e => hU b o q3 e) fun v d r => U'.rd (fun a e => by subst e; exact F.loc.1) r⟩ }
 ·obtain ⟨hWa, hMa, u₀, hc⟩ := F.cell x a hk ha
  refine wpAny_storeName_cell ok.kind hk ha hc fun h' hc' sb => ?_
  have U' : Upd (fun b => b = a) s { s with heap := h' } := ⟨⟨h', s.toks, rfl⟩, Nat.le_refl _, fun b o n e => sb.extBut b o n e⟩
  have hm : ∀ b, b = a → W b := fun b e => by rw [e]; exact hWa
  obtain ⟨m, n⟩ := F.ns
  have neL : env.locals ≠ a := Ne.symm (cell_ne_ns hc n)
  refine h _ ?_ (U'.mono fun b e => .inr (.inl ⟨x, hk, by rw [e]; exact ha⟩))
  exact { F with
   view := F.view.upd U' (fun b e => by rw [e]; exact F.kn hMa) (fun b e => by rw [e]; obtain ⟨o, e, _⟩ := hc'; exact ⟨o, e⟩) fun y e hy => by
    rw [List.lookup_cons] at hy
    split at hy
    ·rename_i z
     have := eq_of_beq z; subst this; cases hy
     refine ⟨v, ?_, U'.rd hm r⟩
     unfold Bnd; rw [hk]
     obtain ⟨o, e1, e2⟩ := hc'
     exact ⟨a, o, ha, e1, e2⟩
    ·rename_i z
     obtain ⟨u, b, ru⟩ := F.view.vars y e hy
     refine ⟨u, ?_, U'.rd hm ru⟩
     have yx : y ≠ x := fun q => by subst q; simp at z
     have cne : ∀ b, env.cells.lookup y = some b → b ≠ a := fun b hb q => by subst q; exact yx (F.inj y x b hb ha)
     unfold Bnd at b ⊢
     split at b
     ·obtain ⟨m₀, n₀, e₀⟩ := b; exact ⟨m₀, n₀.at fun o e => sb.extBut _ o neL e, e₀⟩
     ·obtain ⟨b, o, e1, e2, e3⟩ := b; exact ⟨b, o, e1, sb.extBut b o (cne b e1) e2, e3⟩
     ·obtain ⟨b, o, e1, e2, e3⟩ := b; exact ⟨b, o, e1, sb.extBut b o (cne b e1) e2, e3⟩
     ·exact b
     ·exact b
   up := ⟨by obtain ⟨h1, t1, q1⟩ := F.up.eq; exact ⟨h', t1, by rw [q1]⟩, F.up.tk, fun b o hb e => sb.extBut b o (fun q => by
    subst q
    rcases hMa with q | q
    ·exact hb q
    ·rw [q] at e; cases e) (F.up.keep b o hb e)⟩
   ns := ⟨m, n.at fun o e => sb.extBut _ o neL e⟩
   cell := fun y b h1 h2 => by
    by_cases z : b = a
    ·subst z; exact ⟨hWa, hMa, _, hc'⟩
    ·obtain ⟨q1, q2, u, q3⟩ := F.cell y b h1 h2; exact ⟨q1, q2, u, IsCell.atK q3 fun o e => sb.extBut b o z e⟩
   own := fun b l hb => let ⟨q1, q2, q3, q4⟩ := F.own b l hb; ⟨q1, q2, q3, q4.keep (fun o e => sb.extBut b o (q4.ne_cell hc) e) fun v d r => U'.rd hm r⟩ }
theorem st_assign (ok : EnvOk env) (F : Fr c s₀ W₀ Md W env σ μ s) {x : Str} {px pos : Pos} {e : Expr} {d : D} {Q : Flow → Shared → Prop} (he : Ev c A env σ e d) (hk : env.kindOf x = some .local ∨ (env.kindOf x = some .cell ∧ ∃ a, env.cells.lookup x = some a))
  (h : ∀ s', Fr c s₀ W₀ Md W env ((x, d) :: σ) μ s' → Q .next s') (hs : swapsWith e (some (.Name x px)) pos.line env = pure false := by rfl) : wpAny c.M A (exec (.Assign [.Name x px] e pos) env) Q E s :=
 wpAny_Assign_Name (he.use F.view fun v s₁ K₁ V₁ r₁ => (F.keeps K₁).set ok hk r₁ fun s' F' _ => h s' F') hs
theorem st_if (F : Fr c s₀ W₀ Md W env σ μ s) {t : Expr} {body orelse : List Stmt} {pos : Pos} {b : Bool} {Q : Flow → Shared → Prop} (ht : Tv c A env σ t b)
  (h1 : b = true → ∀ s', Fr c s₀ W₀ Md W env σ μ s' → wpAny c.M A (execs body env) Q E s') (h2 : b = false → ∀ s', Fr c s₀ W₀ Md W env σ μ s' → wpAny c.M A (execs orelse env) Q E s') : wpAny c.M A (exec (.If t body orelse pos) env) Q E s :=
 wpAny_If (ht.use F.view fun s₁ K₁ V₁ => by
  cases b with
  | true => exact h1 rfl _ (F.keeps K₁)
  | false => exact h2 rfl _ (F.keeps K₁))
theorem st_return (F : Fr c s₀ W₀ Md W env σ μ s) {e : Expr} {pos : Pos} {d : D} {Q : Flow → Shared → Prop} (he : Ev c A env σ e d) (h : ∀ v s', Fr c s₀ W₀ Md W env σ μ s' → Rd W s'.heap v d → Q (.ret v) s') : wpAny c.M A (exec (.Return (some e) pos) env) Q E s :=
 wpAny_Return_some (he.use F.view fun v s₁ K₁ V₁ r₁ => h v s₁ (F.keeps K₁) r₁)
theorem Rd.less {W W' : Addr → Prop} {h : Heap} (hw : ∀ a, W' a → W a) {v : Value} {d : D} (r : Rd W h v d) : Rd W' h v d := r.grow fun a h => .inl (hw a h)
theorem RdL.less {W W' : Addr → Prop} {h : Heap} (hw : ∀ a, W' a → W a) {v : List Value} {d : List D} (r : RdL W h v d) : RdL W' h v d := r.grow fun a h => .inl (hw a h)
theorem Fr.freeze (F : Fr c s₀ W₀ Md W env σ μ s) {a : Addr} {l : List D} {μ' : List (Addr × Own)} (hμ : μ = (a, .l l) :: μ') (hf : s₀.heap.get? a = none) {σ' : List (Str × D)}
  (hσ : ∀ x d, σ'.lookup x = some d → σ.lookup x = some d ∨ (d = .lst l ∧ σ.lookup x = some (.val (.ref a)))) : Fr c s₀ W₀ Md (fun b => W b ∧ b ≠ a) env σ' μ' s := by
 subst hμ
 obtain ⟨q1, q2, qL, vs, q3, q4⟩ := F.own a (.l l) (List.mem_cons_self ..)
 obtain ⟨m, n⟩ := F.ns
 have nd := F.nd
 rw [List.map_cons, List.nodup_cons] at nd
 have less : ∀ b, W b ∧ b ≠ a → W b := fun b h => h.1
 exact { F with
  view := ⟨F.view.base, fun b h => F.view.wold b h.1, F.view.tok, fun x d hx => by
   rcases hσ x d hx with h | ⟨rfl, h⟩
   ·obtain ⟨v, b, r⟩ := F.view.vars x d h; exact ⟨v, b, r.less less⟩
   ·obtain ⟨v, b, r⟩ := F.view.vars x _ h
    cases r with
    | val => exact ⟨_, b, .lst (fun h => h.2 rfl) (toL q3) (q4.less less)⟩⟩
  wn := fun b h => F.wn b h.1
  w0 := fun b h => ⟨F.w0 b h, fun q => by subst q; obtain ⟨o, e⟩ := F.w0old b h; rw [hf] at e; cases e⟩
  loc := ⟨⟨F.loc.1, Ne.symm (list_ne_ns q3 n)⟩, F.loc.2⟩
  cell := fun x b h1 h2 => let ⟨p1, p2, u, p3⟩ := F.cell x b h1 h2; ⟨⟨p1, Ne.symm (list_ne_cell q3 p3)⟩, p2, u, p3⟩
  own := fun b k hb => let ⟨p1, p2, p3, p4⟩ := F.own b k (List.mem_cons_of_mem _ hb); ⟨⟨p1, fun q => by subst q; exact nd.1 (List.mem_map.mpr ⟨_, hb, rfl⟩)⟩, p2, p3, p4.keep (fun o e => e) fun v d r => r.less less⟩
  nd := nd.2 }
end
section
variable {c : Cx} {A : Around} {s₀ : Shared} {W₀ Md W : Addr → Prop} {env : Env} {σ : List (Str × D)} {μ : List (Addr × Own)} {s : Shared} {E : Value → Shared → Prop}
theorem Fr.sub (F : Fr c s₀ W₀ Md W env σ μ s) {σ' : List (Str × D)} (h : ∀ x d, σ'.lookup x = some d → σ.lookup x = some d) : Fr c s₀ W₀ Md W env σ' μ s :=
 {F with view := { F.view with vars := fun x d e => F.view.vars x d (h x d e) } }
theorem Fr.back (F : Fr c s₀ W₀ Md W env σ μ s) {a : Addr} (h : s.heap.get? a = none) : Md a ∨ s₀.heap.get? a = none := by
 cases e : s₀.heap.get? a with
 | none => exact .inr rfl
 | some o =>
  by_cases m : Md a
  ·exact .inl m
  ·rw [F.up.keep a o m e] at h; cases h
theorem Fr.fresh (F : Fr c s₀ W₀ Md W env σ μ s) {a : Addr} (h : s.heap.get? a = none) : s₀.heap.get? a = none := by
 cases e : s₀.heap.get? a with
 | none => rfl
 | some o =>
  by_cases m : Md a
  ·obtain ⟨o, q⟩ := F.view.wold a (F.w0 a (F.mdW a m)); rw [q] at h; cases h
  ·rw [F.up.keep a o m e] at h; cases h
theorem Fr.growK (F : Fr c s₀ W₀ Md W env σ μ s) {W' : Addr → Prop} {s' : Shared} (K : Kt s s') (hs : ∀ a, W a → W' a) (hW : ∀ a, W' a → W a ∨ s.heap.get? a = none) (hx : ∀ a, W' a → ∃ o, s'.heap.get? a = some o) : Fr c s₀ W₀ Md W' env σ μ s' :=
 {F with
  view := F.view.growK K hW hx
  up := F.up.trans (.of K)
  w0 := fun a h => hs a (F.w0 a h)
  wn := fun a h => (hW a h).elim (F.wn a) fun q => .inr (F.fresh q)
  loc := ⟨hs _ F.loc.1, F.loc.2⟩
  ns := let ⟨m, n⟩ := F.ns; ⟨m, n.keeps K.heap⟩
  cell := fun x a h1 h2 => let ⟨q1, q2, v, q3⟩ := F.cell x a h1 h2; ⟨hs _ q1, q2, v, q3.keeps K.heap⟩
  own := fun a l h => let ⟨q1, q2, q3, q4⟩ := F.own a l h; ⟨hs _ q1, q2, q3, q4.keep (fun o e => K.heap _ o e) fun v d r => (r.grow hW).keeps K.heap⟩ }
theorem Fr.adoptO (F : Fr c s₀ W₀ Md W env σ μ s) {s' : Shared} (K : Kt s s') {a : Addr} {o : Own} (ha : s.heap.get? a = none) (r : OwnAt c (fun b => W b ∨ b = a) s'.heap a o) :
  Fr c s₀ W₀ Md (fun b => W b ∨ b = a) env σ ((a, o) :: μ) s' := by
 have hW : ∀ b, (W b ∨ b = a) → W b ∨ s.heap.get? b = none := fun b h => h.elim .inl fun q => .inr (by rw [q]; exact ha)
 have G := F.growK (W' := fun b => W b ∨ b = a) K (fun b h => .inl h) hW (fun b h => by
  rcases h with h | rfl
  ·obtain ⟨o, e⟩ := F.view.wold b h; exact ⟨o, K.heap _ _ e⟩
  ·exact r.ex)
 exact { G with
  own := fun b k h => by
   rcases List.mem_cons.mp h with h | h
   ·cases h
    refine ⟨.inr rfl, .inr (F.fresh ha), fun q => ?_, r⟩
    obtain ⟨m, o', _, _, e, _⟩ := F.ns
    rw [← q, ha] at e; cases e
   ·exact G.own b k h
  nd := by
   rw [List.map_cons, List.nodup_cons]
   refine ⟨fun h => ?_, F.nd⟩
   obtain ⟨⟨b, k⟩, h1, h2⟩ := List.mem_map.mp h
   simp only at h2; subst h2
   obtain ⟨_, _, _, q⟩ := F.own b k h1
   obtain ⟨o', e⟩ := q.ex
   rw [ha] at e; cases e }
theorem Fr.adopt (F : Fr c s₀ W₀ Md W env σ μ s) {s' : Shared} (K : Kt s s') {a : Addr} {vs : Array Value} {l : List D} (ha : s.heap.get? a = none) (pl : s'.heap.PlainList a vs) (r : RdL (fun b => W b ∨ b = a) s'.heap vs.toList l) :
  Fr c s₀ W₀ Md (fun b => W b ∨ b = a) env σ ((a, .l l) :: μ) s' := F.adoptO K ha ⟨vs, pl, r⟩
theorem st_newlist (ok : EnvOk env) (F : Fr c s₀ W₀ Md W env σ μ s) {x : Str} {px pos lp : Pos} {Q : Flow → Shared → Prop} (hk : env.kindOf x = some .local ∨ (env.kindOf x = some .cell ∧ ∃ a, env.cells.lookup x = some a))
  (h : ∀ a s', s₀.heap.get? a = none → Fr c s₀ W₀ Md (fun b => W b ∨ b = a) env ((x, .val (.ref a)) :: σ) ((a, .l []) :: μ) s' → Q .next s') : wpAny c.M A (exec (.Assign [.Name x px] (.List [] lp) pos) env) Q E s := by
 refine wpAny_Assign_Name (List_ (Calls.spliced_nil (wpAny_newObj_type ?_)))
 have ha : s.heap.get? s.heap.objs.size = none := size_none
 have G := F.adopt (s' := { s with heap := s.heap.push { cls := .type "list", data := .seq ([] : List Value).toArray } }) (a := s.heap.objs.size) (vs := #[]) (l := []) ⟨.push _, Nat.le_refl _⟩ ha ⟨0, Heap.get?_push_size _ rfl⟩ .nil
 exact G.set ok hk (.val _) fun s' F' _ => h _ s' (F.fresh ha) F'
theorem Fr.putO (F : Fr c s₀ W₀ Md W env σ μ s) {W' : Addr → Prop} {a : Addr} {l l' : Own} {μ₁ μ₂ : List (Addr × Own)} (hμ : μ = μ₁ ++ (a, l) :: μ₂) {t : Shared} (U : Upd (fun b => b = a) s t)
  (hs : ∀ b, W b → W' b) (hW : ∀ b, W' b → W b ∨ s.heap.get? b = none) (hx : ∀ b, W' b → ∃ o, t.heap.get? b = some o) (r : OwnAt c W' t.heap a l') :
  Fr c s₀ W₀ Md W' env σ (μ₁ ++ (a, l') :: μ₂) t := by
 have hmem : (a, l) ∈ μ := by rw [hμ]; exact List.mem_append_right _ (List.mem_cons_self ..)
 obtain ⟨q1, q2, qL, q4⟩ := F.own a l hmem
 have kk : ∀ b o, b ≠ a → s.heap.get? b = some o → t.heap.get? b = some o := fun b o q e => U.keep b o q e
 have hm : ∀ b, b = a → W' b := fun b e => by rw [e]; exact hs _ q1
 obtain ⟨m, n⟩ := F.ns
 have nd := F.nd
 have neL : env.locals ≠ a := Ne.symm qL
 exact {
  view := ⟨fun b o e => kk b o (fun q => by rw [q, F.kn q2] at e; cases e) (F.view.base b o e), hx, Nat.lt_of_lt_of_le F.view.tok U.tk, fun y e hy => by
   obtain ⟨u, b, ru⟩ := F.view.vars y e hy
   refine ⟨u, ?_, U.rd hm (ru.grow hW)⟩
   unfold Bnd at b ⊢
   split at b
   ·obtain ⟨m₀, n₀, e₀⟩ := b; exact ⟨m₀, n₀.at fun o e => kk _ o neL e, e₀⟩
   ·obtain ⟨b, o, e1, e2, e3⟩ := b; exact ⟨b, o, e1, kk b o (Ne.symm (q4.ne_cell ⟨o, e2, e3⟩)) e2, e3⟩
   ·obtain ⟨b, o, e1, e2, e3⟩ := b; exact ⟨b, o, e1, kk b o (Ne.symm (q4.ne_cell ⟨o, e2, e3⟩)) e2, e3⟩
   ·exact b
   ·exact b⟩
  base0 := F.base0
  up := ⟨by obtain ⟨h1, t1, q1⟩ := F.up.eq; obtain ⟨h2, t2, q2⟩ := U.eq; exact ⟨h2, t2, by rw [q2, q1]⟩, Nat.le_trans F.up.tk U.tk, fun b o hb e => kk b o (fun q => by
   subst q
   rcases q2 with q | q
   ·exact hb q
   ·rw [q] at e; cases e) (F.up.keep b o hb e)⟩
  w0 := fun a h => hs a (F.w0 a h)
  wn := fun a h => (hW a h).elim (F.wn a) fun q => .inr (F.fresh q)
  w0old := F.w0old
  mdW := F.mdW
  mdK := F.mdK
  loc := ⟨hs _ F.loc.1, F.loc.2⟩
  inj := F.inj
  ns := ⟨m, n.at fun o e => kk _ o neL e⟩
  cell := fun y b h1 h2 => let ⟨p1, p2, u, p3⟩ := F.cell y b h1 h2; ⟨hs _ p1, p2, u, IsCell.atK p3 fun o e => kk b o (Ne.symm (q4.ne_cell p3)) e⟩
  own := fun b k hb => by
   by_cases z : b = a
   ·subst z
    have : k = l' := by
     rw [hμ, List.map_append, List.map_cons] at nd
     have nd' : ((μ₁ ++ (b, l') :: μ₂).map (·.1)).Nodup := by rw [List.map_append, List.map_cons]; exact nd
     clear nd
     rcases List.mem_append.mp hb with hb | hb
     ·exfalso
      rw [List.map_append, List.map_cons, List.nodup_append] at nd'
      exact nd'.2.2 b (List.mem_map.mpr ⟨_, hb, rfl⟩) b (List.mem_cons_self ..) rfl
     ·rcases List.mem_cons.mp hb with hb | hb
      ·cases hb; rfl
      ·exfalso
       rw [List.map_append, List.map_cons, List.nodup_append, List.nodup_cons] at nd'
       exact nd'.2.1.1 (List.mem_map.mpr ⟨_, hb, rfl⟩)
    subst this
    exact ⟨hs _ q1, q2, qL, r⟩
   ·have hb' : (b, k) ∈ μ := by
     rw [hμ]
     rcases List.mem_append.mp hb with hb | hb
     ·exact List.mem_append_left _ hb
     ·rcases List.mem_cons.mp hb with hb | hb
      ·cases hb; exact (z rfl).elim
      ·exact List.mem_append_right _ (List.mem_cons_of_mem _ hb)
    obtain ⟨p1, p2, p3, p4⟩ := F.own b k hb'
    exact ⟨hs _ p1, p2, p3, p4.keep (fun o e => kk b o z e) fun v d r => U.rd hm (r.grow hW)⟩
  nd := by
   have nd := F.nd
   rw [hμ] at nd
   rw [List.map_append, List.map_cons] at nd ⊢
   exact nd }
theorem Fr.putU (F : Fr c s₀ W₀ Md W env σ μ s) {a : Addr} {l : Own} {l' : Own} {μ₁ μ₂ : List (Addr × Own)} (hμ : μ = μ₁ ++ (a, l) :: μ₂) {t : Shared} (U : Upd (fun b => b = a) s t) (r : OwnAt c W t.heap a l') :
  Fr c s₀ W₀ Md W env σ (μ₁ ++ (a, l') :: μ₂) t :=
 F.putO hμ U (fun _ h => h) (fun _ h => .inl h) (fun b h => by
  by_cases z : b = a
  ·subst z; exact r.ex
  ·obtain ⟨o, e⟩ := F.view.wold b h; exact ⟨o, U.keep b o z e⟩) r
theorem upd_of {s : Shared} {a : Addr} {h' : Heap} (sb : Heap.SameBut a s.heap h') : Upd (fun b => b = a) s { s with heap := h' } := ⟨⟨h', s.toks, rfl⟩, Nat.le_refl _, fun b o n e => sb.extBut b o n e⟩
theorem st_append (F : Fr c s₀ W₀ Md W env σ μ s) {o e : Expr} {apos pos epos : Pos} {a : Addr} {l : List D} {d : D} {μ₁ μ₂ : List (Addr × Own)} {Q : Flow → Shared → Prop} (ho : Ev c A env σ o (.val (.ref a))) (he : Ev c A env σ e d) (hμ : μ = μ₁ ++ (a, .l l) :: μ₂) (hn : l.length ≤ 1000000)
  (hbase : attributeBase o "append" env (eval o env) = eval o env) (hs : starEach [e] env = [(false, eval e env)]) (hline : (apos.endLine == pos.line) = true)
  (h : ∀ s', Fr c s₀ W₀ Md W env σ (μ₁ ++ (a, .l (l ++ [d])) :: μ₂) s' → Q .next s') (hint : interactive env = false := by rfl) :
  wpAny c.M A (exec (.Expr (.Call (.Attribute o "append" apos) [e] [] pos) epos) env) Q E s := by
 refine wpAny_Expr (wpAny_Call_append hbase (by rw [hs]; rfl) hline (by rw [hs]; rfl) ?_) hint (by rfl)
 refine ho.use F.view fun v s₁ K₁ V₁ r₁ => ?_
 cases r₁
 have F₁ := F.keeps K₁
 have hmem : (a, .l l) ∈ μ := by rw [hμ]; exact List.mem_append_right _ (List.mem_cons_self ..)
 obtain ⟨q1, q2, qL, us, ⟨n, q3⟩, q4⟩ := F₁.own a (.l l) hmem
 refine ⟨a, us, rfl, ⟨_, n, q3, rfl, rfl, rfl⟩, he.use V₁ fun y s₂ K₂ V₂ r₂ => ?_⟩
 have F₂ := F₁.keeps K₂
 have el : us.size = l.length := by rw [← q4.length]; simp
 refine wpAny_list_append_plain (items := us) (hsz := by rw [el, sizeLine_eq]; omega) ⟨n, K₂.heap _ _ q3⟩ fun h' pl sb => ?_
 have hm : ∀ b, b = a → W b := fun b e => by rw [e]; exact q1
 refine h _ (F₂.putU hμ (upd_of sb) ⟨_, pl, ?_⟩)
 rw [Array.toList_push]
 exact (upd_of sb).rdL hm ((q4.keeps K₂.heap).app (.cons r₂ .nil))
theorem Fr.rebase (F : Fr c s₀ W₀ Md W env σ μ s) : Fr c s W (Mine' env μ) W env σ μ s :=
 {F with
  base0 := F.view.base
  up := .refl s
  w0 := fun a h => h
  wn := fun a h => .inl h
  w0old := F.view.wold
  mdW := fun a h => (F.md_of h).1
  mdK := fun a h => F.kn (F.md_of h).2
  loc := ⟨F.loc.1, .inl (.inl rfl)⟩
  cell := fun x a h1 h2 => let ⟨q1, q2, q3⟩ := F.cell x a h1 h2; ⟨q1, .inl (.inr (.inl ⟨x, h1, h2⟩)), q3⟩
  own := fun a l h => let ⟨q1, q2, q3⟩ := F.own a l h; ⟨q1, .inl (.inr (.inr ⟨l, h⟩)), q3⟩ }
theorem Fr.compose (F : Fr c s₀ W₀ Md W env σ μ s) {W' : Addr → Prop} {σ' : List (Str × D)} {μ' : List (Addr × Own)} {s' : Shared} (G : Fr c s W (Mine' env μ) W' env σ' μ' s') : Fr c s₀ W₀ Md W' env σ' μ' s' := by
 have tr : ∀ {a}, (Mine' env μ a ∨ s.heap.get? a = none) → Md a ∨ s₀.heap.get? a = none := fun h => h.elim (fun m => (F.md_of m).2) F.back
 exact { G with
  base0 := F.base0
  up := ⟨by obtain ⟨h1, t1, q1⟩ := F.up.eq; obtain ⟨h2, t2, q2⟩ := G.up.eq; exact ⟨h2, t2, by rw [q2, q1]⟩, Nat.le_trans F.up.tk G.up.tk, fun b o hb e => G.up.keep b o (fun m => by
   rcases (F.md_of m).2 with q | q
   ·exact hb q
   ·rw [q] at e; cases e) (F.up.keep b o hb e)⟩
  w0 := fun a h => G.w0 a (F.w0 a h)
  wn := fun a h => (G.wn a h).elim (F.wn a) fun q => .inr (F.fresh q)
  w0old := F.w0old
  mdW := F.mdW
  mdK := F.mdK
  loc := ⟨G.loc.1, F.loc.2⟩
  cell := fun x a h1 h2 => let ⟨q1, q2, q3⟩ := G.cell x a h1 h2; ⟨q1, tr q2, q3⟩
  own := fun a l h => let ⟨q1, q2, q3⟩ := G.own a l h; ⟨q1, tr q2, q3⟩ }
end
noncomputable def Nm (env : Env) (x : Str) : Prop := env.kindOf x = some .local ∨ (env.kindOf x = some .cell ∧ ∃ a, env.cells.lookup x = some a)
inductive TgtF (env : Env) : Expr → D → List (Str × D) → Prop
 | name {x : Str} {p : Pos} {d : D} : Nm env x → TgtF env (.Name x p) d [(x, d)]
 | pair {x y : Str} {p q pt : Pos} {k : Nat} {d e : D} : Nm env x → Nm env y → TgtF env (.Tuple [.Name x p, .Name y q] k pt) (.tup [d, e]) [(y, e), (x, d)]
section
variable {c : Cx} {A : Around} {s₀ : Shared} {W₀ Md W : Addr → Prop} {env : Env} {σ : List (Str × D)} {μ : List (Addr × Own)} {s : Shared} {E : Value → Shared → Prop}
theorem TgtF.set (ok : EnvOk env) (hh : A.handled = none) (F : Fr c s₀ W₀ Md W env σ μ s) {t : Expr} {d : D} {bs : List (Str × D)} (T : TgtF env t d bs) {v : Value} {Q : Unit → Shared → Prop} (r : Rd W s.heap v d)
  (h : ∀ s', Fr c s₀ W₀ Md W env (bs ++ σ) μ s' → Upd (Mine' env []) s s' → Q () s') : wpAny c.M A (assign t env v) Q E s := by
 cases T with
 | name hk => exact wpAny_assign_Name (F.set ok hk r h)
 | pair hx hy =>
  cases r with
  | tup ha ht hl =>
   rename_i x y p q pt k d e a vs
   cases hl2 : vs.toList with
   | nil => rw [hl2] at hl; cases hl
   | cons u us =>
    rw [hl2] at hl
    cases hl with
    | cons r1 hl =>
     cases us with
     | nil => cases hl
     | cons u2 us =>
      cases hl with
      | cons r2 hl =>
       cases hl
       have hsz : vs.size = 2 := by rw [← Array.length_toList, hl2]; rfl
       refine wpAny_assign_Tuple hh ht (by rw [hsz]; rfl) (by rfl) fun h' hx' => ?_
       have k1 : Kt s { s with heap := h' } := ⟨⟨⟨_, s.toks, rfl⟩, fun b o e => hx' b o (Nat.ne_of_lt (Heap.lt_size e)) e⟩, Nat.le_refl _⟩
       have F1 := F.keeps k1
       have hm : ∀ a, Mine' env [] a → W a := fun a h => (F.md_of (h.imp id (Or.imp id fun ⟨l, h⟩ => nomatch h))).1
       rw [hl2]
       show wpAny _ _ (do holding [u2] (assign (.Name x p) env u); assignInOrder [assign (.Name y q) env] [u2]) _ _ _
       refine wpAny_bind (wpAny_holding (wpAny_assign_Name (F1.set ok hx (r1.keeps k1.heap) fun s2 F2 U2 => ?_)))
       show wpAny _ _ (do holding [] (assign (.Name y q) env u2); pure ()) _ _ _
       refine wpAny_bind (wpAny_holding (wpAny_assign_Name (F2.set ok hy (U2.rd hm (r2.keeps k1.heap)) fun s3 F3 U3 => ?_)))
       exact wpAny_pure (h _ F3 (((Upd.of k1).trans U2).trans U3))
theorem iter_ne {h : Heap} {I : Addr} {o : Obj} {vs : Array Value} (e1 : h.get? I = some o) (e3 : o.data = .fields vs) :
  (∀ m, ¬ h.Ns I m) ∧ (∀ v, ¬ h.IsCell I v) := by
 refine ⟨?_, ?_⟩
 ·rintro m ⟨o', es, ep, q1, q2, _⟩; rw [e1] at q1; cases q1; rw [e3] at q2; cases q2
 ·rintro v ⟨o', q1, q2⟩; rw [e1] at q1; cases q1; rw [e3] at q2; cases q2
theorem Fr.bump (F : Fr c s₀ W₀ Md W env σ μ s) {I : Addr} {t : Shared} (U : Upd (fun b => b = I) s t) (hW : W I) (hK : c.K I = none) (h0 : s₀.heap.get? I = none) (hex : ∃ o, t.heap.get? I = some o)
  (hno : (∀ m, ¬ s.heap.Ns I m) ∧ (∀ v, ¬ s.heap.IsCell I v)) (hμ : ∀ o, (I, o) ∉ μ) : Fr c s₀ W₀ Md W env σ μ t := by
 have hm : ∀ b, b = I → W b := fun b e => by rw [e]; exact hW
 obtain ⟨m, n⟩ := F.ns
 have kk : ∀ b o, b ≠ I → s.heap.get? b = some o → t.heap.get? b = some o := fun b o q e => U.keep b o q e
 have neL : env.locals ≠ I := fun q => hno.1 m (q ▸ n)
 exact { F with
  view := F.view.upd U (fun b e => by rw [e]; exact hK) (fun b e => by rw [e]; exact hex) fun y e hy => by
   obtain ⟨u, b, ru⟩ := F.view.vars y e hy
   refine ⟨u, ?_, U.rd hm ru⟩
   unfold Bnd at b ⊢
   split at b
   ·obtain ⟨m₀, n₀, e₀⟩ := b; exact ⟨m₀, n₀.at fun o e => kk _ o neL e, e₀⟩
   ·obtain ⟨b, o, e1, e2, e3⟩ := b; exact ⟨b, o, e1, kk b o (fun q => hno.2 _ (q ▸ (⟨o, e2, e3⟩ : s.heap.IsCell b (some u)))) e2, e3⟩
   ·obtain ⟨b, o, e1, e2, e3⟩ := b; exact ⟨b, o, e1, kk b o (fun q => hno.2 _ (q ▸ (⟨o, e2, e3⟩ : s.heap.IsCell b (some u)))) e2, e3⟩
   ·exact b
   ·exact b
  up := ⟨by obtain ⟨h1, t1, q1⟩ := F.up.eq; obtain ⟨h2, t2, q2⟩ := U.eq; exact ⟨h2, t2, by rw [q2, q1]⟩, Nat.le_trans F.up.tk U.tk, fun b o hb e => kk b o (fun q => by rw [q, h0] at e; cases e) (F.up.keep b o hb e)⟩
  ns := ⟨m, n.at fun o e => kk _ o neL e⟩
  cell := fun y b h1 h2 => let ⟨p1, p2, u, p3⟩ := F.cell y b h1 h2; ⟨p1, p2, u, IsCell.atK p3 fun o e => kk b o (fun q => hno.2 _ (q ▸ p3)) e⟩
  own := fun b k hb => let ⟨p1, p2, p3, p4⟩ := F.own b k hb; ⟨p1, p2, p3, p4.keep (fun o e => kk b o (fun q => hμ k (q ▸ hb)) e) fun v d r => U.rd hm r⟩ }
theorem Fr.scrap (F : Fr c s₀ W₀ Md W env σ μ s) {I : Addr} {t : Shared} (U : Upd (fun b => b = I) s t) (hW : W I) (hK : c.K I = none) (h0 : s₀.heap.get? I = none)
  (neL : env.locals ≠ I) (hc : ∀ v, ¬ s.heap.IsCell I v) (hl : ∀ o, (I, o) ∉ μ) : Fr c s₀ W₀ Md (fun a => W a ∧ a ≠ I) env σ μ t := by
 have hm : ∀ b, b = I → W b := fun b e => by rw [e]; exact hW
 obtain ⟨m, n⟩ := F.ns
 have less : ∀ a, W a ∧ a ≠ I → W a := fun a h => h.1
 have kk : ∀ b o, b ≠ I → s.heap.get? b = some o → t.heap.get? b = some o := fun b o q e => U.keep b o q e
 exact { F with
  view := {
   base := fun a o e => kk a o (fun q => by rw [q, hK] at e; cases e) (F.view.base a o e)
   wold := fun a h => let ⟨o, e⟩ := F.view.wold a h.1; ⟨o, kk a o h.2 e⟩
   tok := Nat.lt_of_lt_of_le F.view.tok U.tk
   vars := fun y e hy => by
    obtain ⟨u, b, ru⟩ := F.view.vars y e hy
    refine ⟨u, ?_, (U.rd hm ru).less less⟩
    unfold Bnd at b ⊢
    split at b
    ·obtain ⟨m₀, n₀, e₀⟩ := b; exact ⟨m₀, n₀.at fun o e => kk _ o neL e, e₀⟩
    ·obtain ⟨b, o, e1, e2, e3⟩ := b; exact ⟨b, o, e1, kk b o (fun q => hc _ (q ▸ (⟨o, e2, e3⟩ : s.heap.IsCell b (some u)))) e2, e3⟩
    ·obtain ⟨b, o, e1, e2, e3⟩ := b; exact ⟨b, o, e1, kk b o (fun q => hc _ (q ▸ (⟨o, e2, e3⟩ : s.heap.IsCell b (some u)))) e2, e3⟩
    ·exact b
    ·exact b }
  up := ⟨by obtain ⟨h1, t1, q1⟩ := F.up.eq; obtain ⟨h2, t2, q2⟩ := U.eq; exact ⟨h2, t2, by rw [q2, q1]⟩, Nat.le_trans F.up.tk U.tk, fun b o hb e => kk b o (fun q => by rw [q, h0] at e; cases e) (F.up.keep b o hb e)⟩
  w0 := fun a h => ⟨F.w0 a h, fun q => by subst q; obtain ⟨o, e⟩ := F.w0old _ h; rw [h0] at e; cases e⟩
  wn := fun a h => F.wn a h.1
  loc := ⟨⟨F.loc.1, neL⟩, F.loc.2⟩
  ns := ⟨m, n.at fun o e => kk _ o neL e⟩
  cell := fun y b h1 h2 => let ⟨p1, p2, u, p3⟩ := F.cell y b h1 h2; have ne : b ≠ I := fun q => hc _ (q ▸ p3); ⟨⟨p1, ne⟩, p2, u, IsCell.atK p3 fun o e => kk b o ne e⟩
  own := fun b k hb => let ⟨p1, p2, p3, p4⟩ := F.own b k hb; have ne : b ≠ I := fun q => hl k (q ▸ hb); ⟨⟨p1, ne⟩, p2, p3, p4.keep (fun o e => kk b o ne e) fun v d r => (U.rd hm r).less less⟩ }
theorem st_forI (hh : A.handled = none) (ok : EnvOk env) (F : Fr c s₀ W₀ Md W env σ μ s) {target iter : Expr} {body : List Stmt} {pos : Pos} {di : D} {l : List D} {Q : Flow → Shared → Prop} (hi : Ev c A env σ iter di) (it : Itr c A di l)
  (Inv : Nat → List (Str × D) → List (Addr × Own) → Prop) (h0 : Inv 0 σ μ) (Ret : Nat → List (Str × D) → List (Addr × Own) → D → Prop)
  (hbody : ∀ i d σ₁ μ₁, l[i]? = some d → Inv i σ₁ μ₁ → ∃ bs, TgtF env target d bs ∧ ∀ (s₁ s₂ : Shared) (W₁ W₂ Md₁ : Addr → Prop) (E : Value → Shared → Prop), Fr c s₁ W₁ Md₁ W₂ env (bs ++ σ₁) μ₁ s₂ →
   wpAny c.M A (execs body env) (fun f s' => match f with
    | .next | .cont => ∃ σ₂ μ₂ W', Inv (i + 1) σ₂ μ₂ ∧ Fr c s₁ W₁ Md₁ W' env σ₂ μ₂ s'
    | .brk => False
    | .ret v => ∃ σ₂ μ₂ W' d', Ret i σ₂ μ₂ d' ∧ Fr c s₁ W₁ Md₁ W' env σ₂ μ₂ s' ∧ Rd W' s'.heap v d') E s₂)
  (hret : ∀ i σ₂ μ₂ d v s' W', i < l.length → Ret i σ₂ μ₂ d → Fr c s₀ W₀ Md W' env σ₂ μ₂ s' → Rd W' s'.heap v d → Q (.ret v) s')
  (hQ : ∀ σ₂ μ₂ s' W', Inv l.length σ₂ μ₂ → Fr c s₀ W₀ Md W' env σ₂ μ₂ s' → Q .next s')
  (hs : ∀ x, foldedSetIterable iter env x = pure x := by intro _; rfl) : wpAny c.M A (exec (.For target iter body [] pos) env) Q E s := by
 refine wpAny_For (hi.use F.view fun x s₁ K₁ V₁ r₁ => it W s₁ E x _ V₁.wold r₁ fun I fp P St s₂ K₂ hI hIex Y st hfp hP => ?_) hs
 have F₁ := F.keeps K₁
 have F₂ := F₁.growK (W' := fun b => W b ∨ b = I) K₂ (fun b h => .inl h) (fun b h => h.elim .inl fun q => .inr (by rw [q]; exact hI)) (fun b h => by
  rcases h with h | rfl
  ·obtain ⟨o, e⟩ := V₁.wold b h; exact ⟨o, K₂.heap _ _ e⟩
  ·exact hIex)
 have noMine : ∀ b ∈ (I :: fp), (∃ o, s₂.heap.get? b = some o) ∧ ¬ Mine' env μ b := by
  intro b hb
  rcases List.mem_cons.mp hb with rfl | hb
  ·refine ⟨hIex, fun m => ?_⟩
   have := (F₁.md_of m).1
   obtain ⟨o, e⟩ := V₁.wold _ this; rw [hI] at e; cases e
  ·obtain ⟨q, o, e⟩ := hfp b hb
   exact ⟨⟨o, K₂.heap _ _ e⟩, fun m => q (F₁.md_of m).1⟩
 have rdP : ∀ i u, i < l.length → P i u → ∃ d, l[i]? = some d ∧ Rd (fun b => W b ∨ b = I) s₂.heap u d := fun i u hlt hu => by
  obtain ⟨d, hd, r⟩ := hP i u hlt hu
  exact ⟨d, hd, (r.grow fun b h => h.elim .inl fun q => .inr (by rw [q]; exact hI)).keeps K₂.heap⟩
 generalize hWI : (fun b => W b ∨ b = I) = WI at F₂ rdP
 have WII : WI I := by subst hWI; exact .inr rfl
 clear K₁ K₂ hfp hP
 have hI0 : s₀.heap.get? I = none := F₁.fresh hI
 have hIK : c.K I = none := F₁.kn (.inr hI0)
 refine codeAny_forLoop_any (fun k s' => ∃ i σ₁ μ₁ W', i ≤ l.length ∧ k = l.length + 1 - i ∧ Inv i σ₁ μ₁ ∧ Fr c s₀ W₀ Md W' env σ₁ μ₁ s' ∧ St i s'.heap ∧ (∀ b ∈ (I :: fp), (∃ o, s'.heap.get? b = some o) ∧ ¬ Mine' env μ₁ b) ∧ W' I ∧
   (∀ j u, j < l.length → P j u → ∃ d, l[j]? = some d ∧ Rd W' s'.heap u d)) ?_ (l.length + 1)
  ⟨0, σ, μ, WI, Nat.zero_le _, rfl, h0, F₂, st, noMine, WII, rdP⟩
 rintro k s' ⟨i, σ₁, μ₁, W', hile, rfl, hinv, G, st', nm, WI', rd'⟩
 obtain ⟨oI, kI, vI, eI, cI, nI, dI⟩ := Y.cls _ _ st'
 by_cases hlt : i < l.length
 ·have h0 : wpAny c.M A (pyNext (.ref I)) (fun r s₁ => s'.toks ≤ s₁.toks ∧ ∃ v, r = some v ∧ P i v ∧ St (i + 1) s₁.heap ∧ (∃ h tk, s₁ = { s' with heap := h, toks := tk }) ∧ ∀ b o, b ≠ I → s'.heap.get? b = some o → s₁.heap.get? b = some o) (NB c A env fun r s' => match r with | .ok f => Q f s' | .error e => cameBackBy c.M A env E e s') s' :=
   wpAny_mono (wpAny_toks_of (E := NB c A env fun r s' => match r with | .ok f => Q f s' | .error e => cameBackBy c.M A env E e s') (Nat.le_refl s'.toks) (Y.w.item i s' (fun r s₁ => ∃ v, r = some v ∧ P i v ∧ St (i + 1) s₁.heap ∧ (∃ h tk, s₁ = { s' with heap := h, toks := tk }) ∧ ∀ b o, b ≠ I → s'.heap.get? b = some o → s₁.heap.get? b = some o) _ hlt st'
    fun v h' tk hv st' hk => ⟨v, rfl, hv, st', ⟨_, _, rfl⟩, fun b o n e => hk b o (by simpa using n) e⟩)) (fun _ _ q => q) fun _ _ q => q.2
  refine wpAny_mono h0 (fun r t q => ?_) fun _ _ e => e
  obtain ⟨tk₁, v, rfl, hv, st₁, eq₁, k₁⟩ := q
  obtain ⟨o₁, k, vs₁, e₁, c₁, n₁, d₁⟩ := Y.cls _ _ st₁
  refine go_of e₁ c₁ n₁ ?_
  have UI : Upd (fun b => b = I) s' t := ⟨eq₁, tk₁, fun b o n e => k₁ b o n e⟩
  have hmI : ∀ b, b = I → W' b := fun b e => by rw [e]; exact WI'
  have G' := G.bump UI WI' hIK hI0 ⟨_, e₁⟩ (iter_ne eI dI) (fun o h => (nm I (List.mem_cons_self ..)).2 (.inr (.inr ⟨o, h⟩)))
  have rdt : ∀ j u, j < l.length → P j u → ∃ d, l[j]? = some d ∧ Rd W' t.heap u d := fun j u hj hu => let ⟨d, hd, r⟩ := rd' j u hj hu; ⟨d, hd, UI.rd hmI r⟩
  have nmt : ∀ b ∈ (I :: fp), (∃ o, t.heap.get? b = some o) ∧ ¬ Mine' env μ₁ b := fun b hb => by
   obtain ⟨⟨o, e⟩, q⟩ := nm b hb
   by_cases z : b = I
   ·subst z; exact ⟨⟨_, e₁⟩, q⟩
   ·exact ⟨⟨o, UI.keep b o z e⟩, q⟩
  obtain ⟨d, hd, rv⟩ := rdt i v hlt hv
  obtain ⟨bs, T, hb⟩ := hbody i d σ₁ μ₁ hd hinv
  refine T.set ok hh G'.rebase rv fun t₂ H _ => ?_
  refine wpAny_mono (hb _ _ _ _ _ _ H) (fun f t₃ q => ?_) fun _ _ e => e
  have next : (∃ σ₂ μ₂ W'', Inv (i + 1) σ₂ μ₂ ∧ Fr c t W' (Mine' env μ₁) W'' env σ₂ μ₂ t₃) → ∃ m, m < l.length + 1 - i ∧ ∃ i σ₁ μ₁ W', i ≤ l.length ∧ m = l.length + 1 - i ∧ Inv i σ₁ μ₁ ∧ Fr c s₀ W₀ Md W' env σ₁ μ₁ t₃ ∧ St i t₃.heap ∧ (∀ b ∈ (I :: fp), (∃ o, t₃.heap.get? b = some o) ∧ ¬ Mine' env μ₁ b) ∧ W' I ∧
   (∀ j u, j < l.length → P j u → ∃ d, l[j]? = some d ∧ Rd W' t₃.heap u d) := by
   rintro ⟨σ₂, μ₂, W'', hinv', J⟩
   refine ⟨l.length + 1 - (i + 1), by omega, i + 1, σ₂, μ₂, W'', hlt, rfl, hinv', G'.compose J, ?_, ?_, J.w0 _ WI', ?_⟩
   ·exact Y.w.frame _ _ _ st₁ fun b hb o e => J.up.keep b o (nmt b hb).2 e
   ·intro b hb
    obtain ⟨⟨o, e⟩, q⟩ := nmt b hb
    refine ⟨⟨o, J.up.keep b o q e⟩, fun m => ?_⟩
    rcases (J.md_of m).2 with z | z
    ·exact q z
    ·rw [e] at z; cases z
   ·intro j u hj hu
    obtain ⟨d', hd', r'⟩ := rdt j u hj hu
    refine ⟨d', hd', ?_⟩
    have r2 : Rd (fun a => W' a ∨ W'' a) t.heap u d' := r'.grow fun a h => h.elim .inl (J.wn a)
    exact (J.up.rd (W := fun a => W' a ∨ W'' a) (fun a m => .inl (G'.md_of m).1) r2).less fun a h => .inr h
  cases f with
  | next => exact next q
  | cont => exact next q
  | brk => exact q.elim
  | ret v =>
   obtain ⟨σ₂, μ₂, W'', d', q1, J, r⟩ := q
   exact hret i σ₂ μ₂ d' v t₃ W'' hlt q1 (G'.compose J) r
 ·have hieq : i = l.length := by omega
  subst hieq
  have h0 : wpAny c.M A (pyNext (.ref I)) (fun r s₁ => s'.toks ≤ s₁.toks ∧ r = none ∧ (∃ h tk, s₁ = { s' with heap := h, toks := tk }) ∧ ∀ b o, b ≠ I → s'.heap.get? b = some o → s₁.heap.get? b = some o) (NB c A env fun r s' => match r with | .ok f => Q f s' | .error e => cameBackBy c.M A env E e s') s' :=
   wpAny_mono (wpAny_toks_of (E := NB c A env fun r s' => match r with | .ok f => Q f s' | .error e => cameBackBy c.M A env E e s') (Nat.le_refl s'.toks) (Y.w.done s' (fun r s₁ => r = none ∧ (∃ h tk, s₁ = { s' with heap := h, toks := tk }) ∧ ∀ b o, b ≠ I → s'.heap.get? b = some o → s₁.heap.get? b = some o) _ st'
    fun h' tk hk => ⟨rfl, ⟨_, _, rfl⟩, fun b o n e => hk b o (by simpa using n) e⟩)) (fun _ _ q => q) fun _ _ q => q.2
  refine wpAny_mono h0 (fun r t q => ?_) fun _ _ e => e
  obtain ⟨tk₁, rfl, eq₁, k₁⟩ := q
  have UI : Upd (fun b => b = I) s' t := ⟨eq₁, tk₁, fun b o n e => k₁ b o n e⟩
  have no := iter_ne eI dI
  refine wpAny_execs_nil (hQ σ₁ μ₁ t (fun a => W' a ∧ a ≠ I) hinv (G.scrap UI WI' hIK hI0 (fun q => ?_) no.2 (fun o h => (nm I (List.mem_cons_self ..)).2 (.inr (.inr ⟨o, h⟩)))))
  obtain ⟨m, n⟩ := G.ns
  exact no.1 m (q ▸ n)
theorem st_used (hh : A.handled = none) (ok : EnvOk env) (F : Fr c s₀ W₀ Md W env σ μ s) {elt target iter : Expr} {ifs : List Expr} {scope : Scope} {pos spos py : Pos} {cl : List (Str × Addr)} {l : List D} {p : D → Bool} {f : D → D} {σc : List (Str × D)} {di : D} {y : Str} {Q : Flow → Shared → Prop}
  (hi : Ev c A env σ iter di) (it : Itr c A di l) (hn : l.length ≤ 1000000)
  (hsw : swapsWith (.ListComp elt [⟨target, iter, ifs, 0⟩] scope pos) (some (.Name y py)) spos.line env = pure true)
  (hclos : closureFor scope env = pure cl) (hcell : ∀ y ∈ scope.names, y.2 ≠ .cell) (hkind : scope.kind = .function) (hnames : ∀ y ∈ scope.names, y.2 = .local → scope.names.lookup y.1 = some .local) (cap : Cap env scope cl σ σc)
  (step : ∀ C d, d ∈ l → ∃ bs, Tgt (compEnvC scope cl C env) target d bs ∧ Ts c A (compEnvC scope cl C env) (bs ++ σc) ifs (p d) ∧ (p d = true → Ev c A (compEnvC scope cl C env) (bs ++ σc) elt (f d)))
  (hy : env.kindOf y = some .local) (h : ∀ s' W', Fr c s₀ W₀ Md W' env ((y, .lst ((l.filter p).map f)) :: σ) μ s' → Q .next s')
  (hs : ∀ x, foldedSetIterable iter env x = pure x := by intro _; rfl) : wpAny c.M A (exec (.Assign [.Name y py] (.ListComp elt [⟨target, iter, ifs, 0⟩] scope pos) spos) env) Q E s := by
 rw [exec_Assign_Name_used _ _ _ _ hsw]
 refine wpAny_bind (wpAny_standAt (wpAny_bind ?_))
 show wpAny _ A (do let _ ← comprehension (.ListComp elt [⟨target, iter, ifs, 0⟩] scope pos) scope env _ (newList []) false (eval iter env) (some (assign (.Name y py) env))) _ _ s
 refine wpAny_bind (wpAny_mono (wpAny_comprehension_free (use := some (assign (.Name y py) env)) (Q := fun _ s' => Q .next s') rfl hs hclos hkind hnames
  (comp_pre (RR := fun acc C => compPost c.M A E (some (assign (.Name y py) env)) (fun _ s' => Q .next s') acc C) hh ok hi it hn hcell hkind cap step F.view fun B C s' ys U hB hC hBC ns pl ry => ?_)) (fun _ s' hq => wpAny_pure (wpAny_pure hq)) fun _ _ e => e)
 show wpAny _ A (assign (.Name y py) env (.ref B)) _ _ _
 have K := U.kt
 have hWn : ∀ a, (W a ∨ a = C) → W a ∨ s.heap.get? a = none := fun a h => h.elim .inl fun q => .inr (by rw [q]; exact hC)
 have exC : ∃ o, s'.heap.get? C = some o := by obtain ⟨m, o, _, _, e, _⟩ := ns; exact ⟨o, e⟩
 have F₁ := F.growK (W' := fun a => W a ∨ a = C) K (fun a h => .inl h) hWn (fun a h => by
  rcases h with h | rfl
  ·obtain ⟨o, e⟩ := F.view.wold a h; exact ⟨o, K.heap _ _ e⟩
  ·exact exC)
 have nWB : ¬ (W B ∨ B = C) := fun h => h.elim (F.view.new hB) hBC
 have r₁ : Rd (fun a => W a ∨ a = C) s'.heap (.ref B) (.lst ((l.filter p).map f)) := .lst nWB (toL pl) (ry.less fun a h => by rcases h with h | h; exact .inl h; exact .inr (.inl h))
 have nsL : env.locals ≠ C := fun q => by
  obtain ⟨m, o, _, _, e, _⟩ := F.ns
  rw [q, hC] at e; cases e
 refine wpAny_assign_Name (F₁.set ok (.inl hy) r₁ fun s₂ F₂ U₂ => ?_)
 have nC : ¬ Mine' env [] C := by
  rintro (q | ⟨x, q1, q2⟩ | ⟨_, q⟩)
  ·exact nsL q.symm
  ·obtain ⟨_, _, v, o, e, _⟩ := F.cell x C q1 q2; rw [hC] at e; cases e
  ·cases q
 obtain ⟨m, n⟩ := ns
 have n₂ : s₂.heap.Ns C m := n.at fun o e => U₂.keep C o nC e
 refine ⟨m, n₂, fun h' sb => ?_⟩
 have U₃ : Upd (fun b => b = C) s₂ { s₂ with heap := h' } := ⟨⟨h', s₂.toks, rfl⟩, Nat.le_refl _, fun b o n e => sb.extBut b o n e⟩
 exact h _ _ (F₂.scrap U₃ (.inr rfl) (F.view.kfresh hC) (F.fresh hC) nsL (fun v q => cell_ne_ns q n₂ rfl) (fun o q => by
  obtain ⟨_, _, _, x⟩ := F.own C o q
  obtain ⟨ob, e⟩ := x.ex
  rw [hC] at e; cases e))
end
inductive BR (W : Addr → Prop) (h : Heap) : List (Str × Value) → List (Str × D) → Prop
 | nil : BR W h [] []
 | cons {x : Str} {v : Value} {d : D} {b : List (Str × Value)} {σ : List (Str × D)} : Rd W h v d → BR W h b σ → BR W h ((x, v) :: b) ((x, d) :: σ)
theorem BR.names {W : Addr → Prop} {h : Heap} {b : List (Str × Value)} {σ : List (Str × D)} (r : BR W h b σ) : b.map (·.1) = σ.map (·.1) := by
 induction r with
 | nil => rfl
 | cons _ _ ih => rw [List.map_cons, List.map_cons, ih]
theorem BR.get {W : Addr → Prop} {h : Heap} {b : List (Str × Value)} {σ : List (Str × D)} (r : BR W h b σ) : ∀ {x : Str} {d : D}, σ.lookup x = some d → ∃ v, b.lookup x = some v ∧ Rd W h v d := by
 induction r with
 | nil => intro x d e; cases e
 | cons r q ih =>
  rename_i y _ _ _ _
  intro x d e
  rw [List.lookup_cons] at e ⊢
  cases z : x == y with
  | true => rw [z] at e; cases e; exact ⟨_, rfl, r⟩
  | false => rw [z] at e; exact ih e
theorem bindL_not {k : Str → Option NameKind} : ∀ {b : List (Str × Value)} {m : Str → Option Value} {x : Str}, b.lookup x = none → bindL k b m x = m x
 | [], _, _, _ => rfl
 | (n, v) :: r, m, x, h => by
  rw [List.lookup_cons] at h
  cases z : x == n with
  | true => rw [z] at h; cases h
  | false =>
   rw [z] at h
   unfold bindL
   rw [bindL_not h]
   split
   ·exact if_neg fun q => by subst q; simp at z
   ·rfl
theorem bindC_not {k : Str → Option NameKind} : ∀ {b : List (Str × Value)} {m : Str → Option Value} {x : Str}, b.lookup x = none → bindC k b m x = m x
 | [], _, _, _ => rfl
 | (n, v) :: r, m, x, h => by
  rw [List.lookup_cons] at h
  cases z : x == n with
  | true => rw [z] at h; cases h
  | false =>
   rw [z] at h
   unfold bindC
   rw [bindC_not h]
   split
   ·rfl
   ·exact if_neg fun q => by subst q; simp at z
theorem lookup_none {β : Type} : ∀ {l : List (Str × β)} {x : Str}, x ∉ l.map (·.1) → l.lookup x = none
 | [], _, _ => rfl
 | (n, v) :: r, x, h => by
  rw [List.map_cons, List.mem_cons, not_or] at h
  rw [List.lookup_cons]
  cases z : x == n with
  | true => exact (h.1 (eq_of_beq z)).elim
  | false => exact lookup_none h.2
theorem bindL_get {k : Str → Option NameKind} : ∀ {b : List (Str × Value)} {m : Str → Option Value} {x : Str} {v : Value}, (b.map (·.1)).Nodup → b.lookup x = some v → k x = some .local → bindL k b m x = some v
 | [], _, _, _, _, e, _ => by cases e
 | (n, u) :: r, m, x, v, nd, h, hk => by
  rw [List.map_cons, List.nodup_cons] at nd
  rw [List.lookup_cons] at h
  unfold bindL
  cases z : x == n with
  | true =>
   rw [z] at h; cases h
   have := eq_of_beq z; subst this
   rw [bindL_not (lookup_none nd.1), if_pos hk]
   exact if_pos rfl
  | false => rw [z] at h; exact bindL_get nd.2 h hk
theorem bindC_get {k : Str → Option NameKind} : ∀ {b : List (Str × Value)} {m : Str → Option Value} {x : Str} {v : Value}, (b.map (·.1)).Nodup → b.lookup x = some v → k x = some .cell → bindC k b m x = some v
 | [], _, _, _, _, e, _ => by cases e
 | (n, u) :: r, m, x, v, nd, h, hk => by
  rw [List.map_cons, List.nodup_cons] at nd
  rw [List.lookup_cons] at h
  unfold bindC
  cases z : x == n with
  | true =>
   rw [z] at h; cases h
   have := eq_of_beq z; subst this
   rw [bindC_not (lookup_none nd.1), if_neg (by rw [hk]; decide)]
   exact if_pos rfl
  | false => rw [z] at h; exact bindC_get nd.2 h hk
structure Fun (c : Cx) (fa : Addr) (fd : FuncData) (body : List Stmt) : Prop where
 at_ : ∀ h, HasK c.K h → ∃ o, h.get? fa = some o ∧ o.data = .func fd
 code : ∀ h, HasK c.K h → h.CodeRec fd.code fd.qualname
 co : fd.scope.isCoroutine = false
 gen : fd.scope.isGenerator = false
 kind : fd.scope.kind = .function
 body : fd.body = .stmts body
 clo : fd.closure = []
 glob : fd.globals = mainGlobals
 blt : fd.builtins = builtinsNs
section
variable {c : Cx} {A : Around} {s : Shared} {W₀ Md : Addr → Prop} {E : Value → Shared → Prop}
theorem enter_env {fa : Addr} {fd : FuncData} {body : List Stmt} {binds : List (Str × Value)} {σ : List (Str × D)} {μ : List (Addr × Own)} {R : Result → Shared → Prop}
  (fn : Fun c fa fd body) (base : HasK c.K s.heap) (tok : 0 < s.toks) (w0 : ∀ a, W₀ a → ∃ o, s.heap.get? a = some o) (md : ∀ a, Md a → W₀ a ∧ c.K a = none)
  (hkind : ∀ L, ∀ x ∈ binds, (callEnvC fd L fa).kindOf x.1 = some .local ∨ ((callEnvC fd L fa).kindOf x.1 = some .cell ∧ ((callEnvC fd L fa).cells.lookup x.1).isSome = true))
  (hnd : (binds.map (·.1)).Nodup) (br : BR W₀ s.heap binds σ) (hμ : ∀ a l, (a, l) ∈ μ → Md a ∧ OwnAt c W₀ s.heap a l) (ndμ : (μ.map (·.1)).Nodup)
  (h : ∀ L W s' E', s.heap.get? (callEnvC fd L fa).locals = none → Kt s s' → EnvOk (callEnvC fd L fa) → Fr c s W₀ Md W (callEnvC fd L fa) σ μ s' → wpAny c.M (A.deeper (callEnvC fd L fa)) (execs body (callEnvC fd L fa)) (fun f s'' => R (.ok (.ret (match f with | .ret v => v | _ => .none))) s'') E' s') :
  wpAny c.M A.in1 (newFunctionEnv fd.scope fd.globals fd.closure binds (fd.qualname ++ ".<locals>.") (some fa) fd.code none fd.builtins) (fun env s₂ => s₂.heap.NoLimit ∧ codeAny c.M A (.func body env) R s₂) E s := by
 rw [fn.clo]
 refine wpAny_mono (wpAny_toks_of (E := fun _ _ => False) (Nat.le_refl s.toks) (wpAny_newFunctionEnv_cells (Q := fun env s' => env = callEnvC fd s.heap.objs.size fa ∧ InCallC s env.locals (bindL env.kindOf binds fun _ => none) env.cells (bindC env.kindOf binds fun _ => none) s') fn.kind (hkind s.heap.objs.size) fun env he s' x => ⟨he, x⟩)) (fun env s' q => ?_) fun _ _ q => q.2.elim
 obtain ⟨tk, rfl, x⟩ := q
 have ok : EnvOk (callEnvC fd s.heap.objs.size fa) := ⟨fn.kind, fn.glob, fn.blt⟩
 have keep := x.toInCall.keep
 have K : Kt s s' := ⟨⟨x.toInCall.same, keep⟩, tk⟩
 have freshL : ∀ a, s.heap.objs.size ≤ a → s.heap.get? a = none := fun a ha => by
  cases e : s.heap.get? a with
  | none => rfl
  | some o' => exact absurd (Heap.lt_size e) (Nat.not_lt.mpr ha)
 have fL : s.heap.get? (callEnvC fd s.heap.objs.size fa).locals = none := freshL _ (Nat.le_refl _)
 have fC : ∀ y a, (callEnvC fd s.heap.objs.size fa).cells.lookup y = some a → s.heap.get? a = none := fun y a e => freshL a (Nat.le_of_lt (x.above _ _ (mem_of_lookup e)))
 refine ⟨(c.hl _ (base.keeps keep)), codeAny_func ?_⟩
 have hW : ∀ a, (W₀ a ∨ s.heap.get? a = none ∧ (a = (callEnvC fd s.heap.objs.size fa).locals ∨ ∃ y, (callEnvC fd s.heap.objs.size fa).cells.lookup y = some a)) → W₀ a ∨ s.heap.get? a = none := fun a h => h.imp id fun q => q.1
 refine h _ (fun a => W₀ a ∨ s.heap.get? a = none ∧ (a = (callEnvC fd s.heap.objs.size fa).locals ∨ ∃ y, (callEnvC fd s.heap.objs.size fa).cells.lookup y = some a)) s' _ fL K ok ?_
 exact {
  view := {
   base := base.keeps keep
   wold := fun a h => by
    rcases h with h | ⟨_, rfl | ⟨y, h⟩⟩
    ·obtain ⟨o, e⟩ := w0 a h; exact ⟨o, keep _ _ e⟩
    ·obtain ⟨o, _, _, e, _⟩ := x.toInCall.ns; exact ⟨o, e⟩
    ·obtain ⟨o, e, _⟩ := x.cell y a h; exact ⟨o, e⟩
   tok := Nat.lt_of_lt_of_le tok tk
   vars := fun y d hy => by
    obtain ⟨v, hv, r⟩ := br.get hy
    refine ⟨v, ?_, (r.grow hW).keeps keep⟩
    have hk := hkind s.heap.objs.size (y, v) (mem_of_lookup hv)
    unfold Bnd
    rcases hk with hk | ⟨hk, hc⟩
    ·simp only at hk; rw [hk]; exact ⟨_, x.toInCall.ns, bindL_get hnd hv hk⟩
    ·simp only at hk hc; rw [hk]
     obtain ⟨a, ha⟩ := Option.isSome_iff_exists.mp hc
     obtain ⟨o, e1, e2⟩ := x.cell y a ha
     exact ⟨a, o, ha, e1, by rw [e2, bindC_get hnd hv hk]⟩ }
  base0 := base
  up := .of K
  w0 := fun a h => .inl h
  wn := hW
  w0old := w0
  mdW := fun a h => (md a h).1
  mdK := fun a h => (md a h).2
  loc := ⟨.inr ⟨fL, .inl rfl⟩, .inr fL⟩
  ns := ⟨_, x.toInCall.ns⟩
  cell := fun y a h1 h2 => ⟨.inr ⟨fC y a h2, .inr ⟨y, h2⟩⟩, .inr (fC y a h2), _, x.cell y a h2⟩
  inj := fun y z a h1 h2 => name_of_addr x.apart (mem_of_lookup h1) (mem_of_lookup h2)
  own := fun a l ha => by
   obtain ⟨q1, q2⟩ := hμ a l ha
   refine ⟨.inl (md a q1).1, .inl q1, fun q => ?_, q2.keep (fun o e => keep _ _ e) fun v d r => (r.grow hW).keeps keep⟩
   obtain ⟨ob, e⟩ := q2.ex
   rw [q, fL] at e; cases e
  nd := ndμ }
theorem enter {n : Nat} (room : Room A (n + 1)) {fa : Addr} {fd : FuncData} {body : List Stmt} {pos : List Value} {kw : List (Str × Value)} {binds : List (Str × Value)} {σ : List (Str × D)} {μ : List (Addr × Own)} {Q : Value → Shared → Prop}
  (fn : Fun c fa fd body) (base : HasK c.K s.heap) (tok : 0 < s.toks) (w0 : ∀ a, W₀ a → ∃ o, s.heap.get? a = some o) (md : ∀ a, Md a → W₀ a ∧ c.K a = none)
  (hbind : BindsTo s fd ⟨pos, kw⟩ binds) (hkind : ∀ L, ∀ x ∈ binds, (callEnvC fd L fa).kindOf x.1 = some .local ∨ ((callEnvC fd L fa).kindOf x.1 = some .cell ∧ ((callEnvC fd L fa).cells.lookup x.1).isSome = true))
  (hnd : (binds.map (·.1)).Nodup) (br : BR W₀ s.heap binds σ) (hμ : ∀ a l, (a, l) ∈ μ → Md a ∧ OwnAt c W₀ s.heap a l) (ndμ : (μ.map (·.1)).Nodup)
  (h : ∀ L W s' E', s.heap.get? (callEnvC fd L fa).locals = none → Kt s s' → EnvOk (callEnvC fd L fa) → Fr c s W₀ Md W (callEnvC fd L fa) σ μ s' → wpAny c.M (A.deeper (callEnvC fd L fa)) (execs body (callEnvC fd L fa)) (fun f s'' => Q (match f with | .ret v => v | _ => .none) s'') E' s') :
  wpAny c.M A (call (.ref fa) pos kw) Q E s := by
 obtain ⟨fo, ho, hd⟩ := fn.at_ _ base
 exact wpAny_call (codeAny_call_function (room.lim) ho hd fn.co fn.gen fn.body (fn.code _ base) (hbind _ _ _ _ (enter_env fn base tok w0 md hkind hnd br hμ ndμ h)))
theorem enterG {n : Nat} (room : Room A (n + 1)) {fa : Addr} {fd : FuncData} {body : List Stmt} {pos : List Value} {kw : List (Str × Value)} {names : List Str} {σ : List (Str × D)} {μ : List (Addr × Own)} {R : Result → Shared → Prop}
  (fn : Fun c fa fd body) (base : HasK c.K s.heap) (tok : 0 < s.toks) (w0 : ∀ a, W₀ a → ∃ o, s.heap.get? a = some o) (md : ∀ a, Md a → W₀ a ∧ c.K a = none)
  (hbind : ∀ (R' : List (Str × Value) → Shared → Prop) (E' : Value → Shared → Prop), (∀ binds s₁, Kt s s₁ → binds.map (·.1) = names → BR W₀ s₁.heap binds σ → R' binds s₁) → wpAny c.M A.in1 (bindArgs fd ⟨pos, kw⟩) R' E' s)
  (hkind : ∀ L, ∀ x ∈ names, (callEnvC fd L fa).kindOf x = some .local ∨ ((callEnvC fd L fa).kindOf x = some .cell ∧ ((callEnvC fd L fa).cells.lookup x).isSome = true))
  (hnd : names.Nodup) (hμ : ∀ a l, (a, l) ∈ μ → Md a ∧ OwnAt c W₀ s.heap a l) (ndμ : (μ.map (·.1)).Nodup)
  (h : ∀ s₁ L W s' E', Kt s s₁ → s₁.heap.get? (callEnvC fd L fa).locals = none → Kt s₁ s' → EnvOk (callEnvC fd L fa) → Fr c s₁ W₀ Md W (callEnvC fd L fa) σ μ s' → wpAny c.M (A.deeper (callEnvC fd L fa)) (execs body (callEnvC fd L fa)) (fun f s'' => R (.ok (.ret (match f with | .ret v => v | _ => .none))) s'') E' s') :
  codeAny c.M A (.call (.ref fa) ⟨pos, kw⟩) R s := by
 obtain ⟨fo, ho, hd⟩ := fn.at_ _ base
 refine codeAny_call_function (room.lim) ho hd fn.co fn.gen fn.body (fn.code _ base) (hbind _ _ fun binds s₁ K1 e1 br => ?_)
 refine enter_env fn (base.keeps K1.heap) (Nat.lt_of_lt_of_le tok K1.tk) (fun a q => let ⟨o, e⟩ := w0 a q; ⟨o, K1.heap _ _ e⟩) md (fun L x hx => hkind L x.1 (e1 ▸ List.mem_map.mpr ⟨x, hx, rfl⟩)) (e1 ▸ hnd) br (fun a l q => ⟨(hμ a l q).1, (hμ a l q).2.keep (fun o e => K1.heap _ o e) fun v d r => r.keeps K1.heap⟩) ndμ fun L W s' E' => h s₁ L W s' E' K1
end
structure Kls (c : Cx) (k N : Addr) (mN : Str → Option Value) : Prop where
 at_ : ∀ h, HasK c.K h → ClsAt h k N mN
 ga : mN "__getattribute__" = none
 gt : mN "__getattr__" = none
 sa : mN "__setattr__" = none
noncomputable def EvA (c : Cx) (A : Around) (env : Env) (σ : List (Str × D)) (args : List (Bool × Sem Value)) (kws : List (Option Str × Sem Value)) (ds : List D) (ks : List (Str × D)) : Prop :=
 ∀ (W : Addr → Prop) (s : Shared) (E : Value → Shared → Prop) (f : Value), View c W env σ s → wpAny c.M A (evalArgs f true args kws) (fun x s' => Kt s s' ∧ RdL W s'.heap x.pos ds ∧ BR W s'.heap x.kw ks) E s
section
variable {c : Cx} {A : Around} {env : Env} {σ : List (Str × D)} {W : Addr → Prop} {s : Shared} {E : Value → Shared → Prop}
theorem EvA.plain {x : Sem Value} {rest : List (Bool × Sem Value)} {ds : List D} (h : EvL c A env σ ((false, x) :: rest) ds) : EvA c A env σ ((false, x) :: rest) [] ds [] := fun W s E f V =>
 evalArgs_plain (h.use V fun vs s' K V' r => ⟨K, r, .nil⟩)
theorem EvA.kw1 {x : Sem Value} {rest : List (Bool × Sem Value)} {ds : List D} {n : Str} {t : Sem Value} {d : D} (h : EvL c A env σ ((false, x) :: rest) ds) (hk : Et c A env σ t d) : EvA c A env σ ((false, x) :: rest) [(some n, t)] ds [(n, d)] := fun W s E f V =>
 evalArgs_kw rfl (h.use V fun vs s₁ K₁ V₁ r₁ => wpAny_evalAll_cons (hk.use V₁ fun v s₂ K₂ V₂ r₂ => wpAny_evalAll_nil ⟨K₁.trans K₂, r₁.keeps K₂.heap, .cons r₂ .nil⟩))
theorem Et.kw {e : Expr} {d : D} {pos : Pos} (h : Ev c A env σ e d) : Et c A env σ (do let v ← eval e env; standAt pos; pure v) d := fun W s E V =>
 wpAny_bind (wpAny_mono (h W s E V) (fun v s' q => wpAny_bind (wpAny_standAt (wpAny_pure q))) fun _ _ e => e)
noncomputable def Pf (c : Cx) (A : Around) (fa : Addr) (ds : List D) (ks : List (Str × D)) (d : D) : Prop :=
 ∀ (W : Addr → Prop) (s : Shared) (E : Value → Shared → Prop) (vs : List Value) (kvs : List (Str × Value)), HasK c.K s.heap → 0 < s.toks → (∀ a, W a → ∃ o, s.heap.get? a = some o) → RdL W s.heap vs ds → BR W s.heap kvs ks →
  wpAny c.M A (call (.ref fa) vs kvs) (fun v s' => Kt s s' ∧ Rd W s'.heap v d) E s
theorem fun_call {x : Str} {np pos : Pos} {es : List Expr} {kws : List Keyword} {fa : Addr} {fd : FuncData} {body : List Stmt} {ds : List D} {ks : List (Str × D)} {Q : Value → Shared → Prop} (hf : Ev c A env σ (.Name x np) (.val (.ref fa))) (fn : Fun c fa fd body)
  (ha : EvA c A env σ (backTo pos (starEach es env)) (backToKw pos (keywordEach kws env)) ds ks) (V : View c W env σ s)
  (h : ∀ vs kvs s', Kt s s' → View c W env σ s' → RdL W s'.heap vs ds → BR W s'.heap kvs ks → wpAny c.M A (call (.ref fa) vs kvs) Q E s') : wpAny c.M A (eval (.Call (.Name x np) es kws pos) env) Q E s :=
 wpAny_Call_Name_kw (hf.use V fun v s₁ K₁ V₁ r₁ => by
  cases r₁
  obtain ⟨o, ho, hd⟩ := fn.at_ _ V₁.base
  refine callWith_function_kw (o := o) (fd := fd) (wpAny_mono (ha W s₁ E _ V₁) (fun x s₂ q => ?_) fun _ _ e => e)
  obtain ⟨K₂, r, b⟩ := q
  exact ⟨⟨K₂.heap _ _ ho, hd⟩, h x.pos x.kw s₂ (K₁.trans K₂) (V₁.keeps K₂) r b⟩)
theorem Ev.call {x : Str} {np pos : Pos} {es : List Expr} {kws : List Keyword} {fa : Addr} {fd : FuncData} {body : List Stmt} {ds : List D} {ks : List (Str × D)} {d : D} (hf : Ev c A env σ (.Name x np) (.val (.ref fa))) (fn : Fun c fa fd body)
  (ha : EvA c A env σ (backTo pos (starEach es env)) (backToKw pos (keywordEach kws env)) ds ks) (hp : Pf c A fa ds ks d) : Ev c A env σ (.Call (.Name x np) es kws pos) d := fun W s E V =>
 fun_call hf fn ha V fun vs kvs s' K V' r b => wpAny_mono (hp W s' E vs kvs V'.base V'.tok V'.wold r b) (fun v s'' q => ⟨K.trans q.1, q.2⟩) fun _ _ e => e
noncomputable def D.notB : D → Bool
 | .val (.builtin _) => false
 | _ => true
theorem Rd.handed {h : Heap} {v : Value} {d : D} (r : Rd W h v d) (n : d.notB = true) : handedOut v = pure v := by
 cases r with
 | val v => cases v <;> first | rfl | cases n
 | _ => rfl
theorem Rd.inst {h : Heap} {v : Value} {k : Addr} {fs : List (Str × D)} (r : Rd W h v (.ins k fs)) : ∃ t m, v = .ref t ∧ h.Inst t k m ∧ (∀ x, fs.lookup x = Option.none → m x = Option.none) ∧ RdF W h m fs := by
 cases r with
 | ins ha hb ht ho hn hx hf => exact ⟨_, _, rfl, ⟨_, ht, ho.1, ho.2.1, .inr ⟨_, ho.2.2.1, ho.2.2.2, hn⟩⟩, hx, hf⟩
theorem Ev.attr {x a : Str} {xp pos : Pos} {k N : Addr} {mN : Str → Option Value} {fs : List (Str × D)} {d : D} (C : Kls c k N mN) (ho : Ev c A env σ (.Name x xp) (.ins k fs)) (hf : fs.lookup a = some d) (nb : d.notB = true) (hna : mN a = Option.none) (hB : typeLookup (.type "object") a = pure Option.none) :
  Ev c A env σ (.Attribute (.Name x xp) a pos) d := .intro fun W s E V =>
 Attribute_name (ho.use V fun v s₁ K₁ V₁ r₁ => by
  obtain ⟨t, m, rfl, I, hx, rf⟩ := r₁.inst
  obtain ⟨u, hu, ru⟩ := rf.get hf
  have X := C.at_ _ V₁.base
  obtain ⟨nm, q, bs, sn, sub, col, dd, k0, k1, k2, k3, k5, hC⟩ := X.obj
  have K₁' := K₁.toKq
  revert hC X I ru V₁ K₁' r₁ rf
  obtain ⟨hh, g, d, tk, os⟩ := s₁
  intro r₁ V₁ I rf ru X hC K₁'
  exact load_attr hC X.ns C.ga hna hB I hu (ru.handed nb) ⟨K₁'.trans (.tok _), ru⟩)
theorem meth_call {x a : Str} {xp apos pos : Pos} {es : List Expr} {kws : List Keyword} {k N fa : Addr} {mN : Str → Option Value} {fs : List (Str × D)} {fd : FuncData} {body : List Stmt} {ds : List D} {ks : List (Str × D)} {y : Option Value} {Q : Value → Shared → Prop} (C : Kls c k N mN) (ho : Ev c A env σ (.Name x xp) (.ins k fs))
  (hm : mN a = some (.ref fa)) (fn : Fun c fa fd body) (hfc : ∀ h o, HasK c.K h → h.get? fa = some o → o.cls = .type "function") (hsh : fs.lookup a = Option.none) (hB : typeLookup (.type "object") a = pure y)
  (hform : methodCallForm (es.length + kws.length) (backTo pos (starEach es env)) (backToKw pos (keywordEach kws env)) = true) (hline : (apos.endLine == pos.line) = true)
  (ha : EvA c A env σ (backTo pos (starEach es env)) (backToKw pos (keywordEach kws env)) ds ks) (V : View c W env σ s)
  (h : ∀ ov vs kvs s', Kt s s' → View c W env σ s' → Rd W s'.heap ov (.ins k fs) → RdL W s'.heap vs ds → BR W s'.heap kvs ks → wpAny c.M A (call (.ref fa) (ov :: vs) kvs) Q E s') :
  wpAny c.M A (eval (.Call (.Attribute (.Name x xp) a apos) es kws pos) env) Q E s := by
 rw [arm_eval_Call]
 have hbase : attributeBase (.Name x xp) a env (eval (.Name x xp) env) = eval (.Name x xp) env := rfl
 rw [hbase]
 refine wpAny_bind (ho.use V fun ov s₁ K₁ V₁ r₁ => wpAny_bind (wpAny_standAt ?_))
 have hpos : methodCallPos true (.Name x xp) env apos pos = pure pos := by unfold methodCallPos; simp [hline]
 unfold methodCall
 rw [hform]
 obtain ⟨o, hfo, hd⟩ := fn.at_ _ V₁.base
 have hfc' := hfc _ _ V₁.base hfo
 have goal : ∀ pl, wpAny c.M A (getMethod ov a pl) (fun p s' => p = (.ref fa, [ov]) ∧ s' = s₁) E s₁ := by
  intro pl
  obtain ⟨t, m, rfl, I, hx, rf⟩ := r₁.inst
  have X := C.at_ _ V₁.base
  obtain ⟨nm, q, bs, sn, sub, col, dd, k0, k1, k2, k3, k5, hC⟩ := X.obj
  clear r₁ V₁ K₁ rf
  obtain ⟨hh, g, d, tk, os⟩ := s₁
  exact method_of hC X.ns C.ga C.gt hm hfo hfc' hB I (hx a hsh) ⟨rfl, rfl⟩
 refine wpAny_bind (wpAny_holding (wpAny_mono (goal _) (fun p s' q => ?_) fun _ _ e => e))
 obtain ⟨rfl, rfl⟩ := q
 refine wpAny_bind (wpAny_of_eq hpos ?_)
 refine callWith_function_kw (o := o) (fd := fd) (wpAny_mono (ha W _ E _ V₁) (fun x s₂ q => ?_) fun _ _ e => e)
 obtain ⟨K₂, r, b⟩ := q
 exact ⟨⟨K₂.heap _ _ hfo, hd⟩, h ov x.pos x.kw s₂ (K₁.trans K₂) (V₁.keeps K₂) (r₁.keeps K₂.heap) r b⟩
theorem Ev.meth {x a : Str} {xp apos pos : Pos} {es : List Expr} {kws : List Keyword} {k N fa : Addr} {mN : Str → Option Value} {fs : List (Str × D)} {fd : FuncData} {body : List Stmt} {ds : List D} {ks : List (Str × D)} {y : Option Value} {d : D} (C : Kls c k N mN) (ho : Ev c A env σ (.Name x xp) (.ins k fs))
  (hm : mN a = some (.ref fa)) (fn : Fun c fa fd body) (hfc : ∀ h o, HasK c.K h → h.get? fa = some o → o.cls = .type "function") (hsh : fs.lookup a = Option.none) (hB : typeLookup (.type "object") a = pure y)
  (hform : methodCallForm (es.length + kws.length) (backTo pos (starEach es env)) (backToKw pos (keywordEach kws env)) = true) (hline : (apos.endLine == pos.line) = true)
  (ha : EvA c A env σ (backTo pos (starEach es env)) (backToKw pos (keywordEach kws env)) ds ks) (hp : Pf c A fa (.ins k fs :: ds) ks d) : Ev c A env σ (.Call (.Attribute (.Name x xp) a apos) es kws pos) d := fun W s E V =>
 meth_call C ho hm fn hfc hsh hB hform hline ha V fun ov vs kvs s' K V' ro r b => wpAny_mono (hp W s' E (ov :: vs) kvs V'.base V'.tok V'.wold (.cons ro r) b) (fun v s'' q => ⟨K.trans q.1, q.2⟩) fun _ _ e => e
theorem Tv.bool {e : Expr} {b : Bool} (h : Ev c A env σ e (.val (.bool b))) (he : ∀ whole, isTrue e env whole = (do let v ← whole; standAt e.pos; holding [v] (truthy v)) := by intro _; rfl) : Tv c A env σ e b := fun W s E V =>
 isTrue_plain (h.use V fun v s₁ K₁ V₁ r₁ => by cases r₁; exact wpAny_truthy_bool ⟨K₁, rfl⟩) (he _)
theorem Tv.none {e : Expr} (h : Ev c A env σ e (.val .none)) (he : ∀ whole, isTrue e env whole = (do let v ← whole; standAt e.pos; holding [v] (truthy v)) := by intro _; rfl) : Tv c A env σ e false := fun W s E V =>
 isTrue_plain (h.use V fun v s₁ K₁ V₁ r₁ => by cases r₁; exact truthy_none ⟨K₁, rfl⟩) (he _)
theorem Tv.not {e : Expr} {pos : Pos} {b : Bool} (h : Tv c A env σ e b) : Tv c A env σ (.UnaryOp .Not e pos) (!b) := fun W s E V =>
 isTrue_not (wpAny_mono (h W s E V) (fun v s' q => ⟨q.1, by rw [q.2]⟩) fun _ _ e => e)
theorem Tv.or2 {e f : Expr} {pos : Pos} {a b : Bool} (h : Tv c A env σ e a) (k : a = false → Tv c A env σ f b) : Tv c A env σ (.BoolOp .Or [e, f] pos) (a || b) := fun W s E V =>
 isTrue_or (wpAny_mono (h W s E V) (fun v s' q => by
  obtain ⟨K, rfl⟩ := q
  cases v with
  | true => exact ⟨K, rfl⟩
  | false => exact isTrue_or (wpAny_mono (k rfl W s' E (V.keeps K)) (fun v s'' q => by
    obtain ⟨K', rfl⟩ := q
    cases v with
    | true => exact ⟨K.trans K', rfl⟩
    | false => exact isTrue_or_nil ⟨K.trans K', rfl⟩) fun _ _ e => e)) fun _ _ e => e)
theorem Ev.ifExp {t e f : Expr} {pos : Pos} {b : Bool} {d : D} (ht : Tv c A env σ t b) (he : b = true → Ev c A env σ e d) (hf : b = false → Ev c A env σ f d) : Ev c A env σ (.IfExp t e f pos) d := fun W s E V =>
 wpAny_IfExp (wpAny_mono (ht W s E V) (fun v s' q => by
  obtain ⟨K, rfl⟩ := q
  cases v with
  | true => exact wpAny_mono (he rfl W s' E (V.keeps K)) (fun _ _ q => ⟨K.trans q.1, q.2⟩) fun _ _ e => e
  | false => exact wpAny_mono (hf rfl W s' E (V.keeps K)) (fun _ _ q => ⟨K.trans q.1, q.2⟩) fun _ _ e => e) fun _ _ e => e)
end
theorem pick_from (items : Array Value) (a : Nat) : slicePick items (some a) none none = (items.toList.drop a).toArray := by
 have e : sliceBounds (some (a : Int)) none none items.size = (((min a items.size : Nat) : Int), (items.size : Int), 1) := by
  simp only [sliceBounds, Option.getD_none]
  have h1 : ¬ ((a : Int) < 0) := by omega
  simp only [h1, if_false, show (1 : Int) > 0 by decide, if_true]
  congr 1
  omega
 unfold slicePick
 rw [e]
 simp only [sliceRange_one, pick_run]
 rw [List.take_of_length_le (by simp)]
 by_cases h : a ≤ items.size
 ·rw [Nat.min_eq_left h]
 ·rw [Nat.min_eq_right (by omega), List.drop_of_length_le (by simp), List.drop_of_length_le (by simp; omega)]
theorem pick_upto (items : Array Value) (b : Nat) : slicePick items none (some b) none = (items.toList.take b).toArray := by
 have e : sliceBounds none (some (b : Int)) none items.size = (((0 : Nat) : Int), ((min b items.size : Nat) : Int), 1) := by
  simp only [sliceBounds, Option.getD_none]
  have h2 : ¬ ((b : Int) < 0) := by omega
  simp only [h2, if_false, show (1 : Int) > 0 by decide, if_true]
  congr 1
  congr 1; omega
 unfold slicePick
 rw [e]
 simp only [sliceRange_one, pick_run]
 simp only [List.drop_zero, Nat.sub_zero]
 by_cases h : b ≤ items.size
 ·rw [Nat.min_eq_left h]
 ·rw [Nat.min_eq_right (by omega), List.take_of_length_le (by simp), List.take_of_length_le (by simp; omega)]
section
variable {c : Cx} {A : Around} {env : Env} {σ : List (Str × D)} {W : Addr → Prop} {s : Shared} {E : Value → Shared → Prop}
theorem slice_end {s₃ : Shared} {vl vu : Value} {l' : List D} {vs' : Array Value} (V : View c W env σ s) (K : Kt s s₃) (hr : RdL W s₃.heap vs'.toList l') :
  Kt s { s₃ with heap := (s₃.heap.push { cls := .type "slice", data := .fields #[vl, vu, .none] }).push { cls := .type "list", data := .seq vs' } } ∧
  Rd W ((s₃.heap.push { cls := .type "slice", data := .fields #[vl, vu, .none] }).push { cls := .type "list", data := .seq vs' }) (.ref (s₃.heap.objs.size + 1)) (.lst l') := by
 have k : ∀ b o, s₃.heap.get? b = some o → ((s₃.heap.push { cls := .type "slice", data := .fields #[vl, vu, .none] }).push { cls := .type "list", data := .seq vs' }).get? b = some o :=
  fun b o e => Heap.get?_push_of_some _ (Heap.get?_push_of_some _ e)
 refine ⟨K.trans ⟨.with k, Nat.le_refl _⟩, .lst ?_ ⟨_, 0, by rw [← Heap.size_push s₃.heap]; exact Heap.get?_push_size _ rfl, rfl, rfl, rfl⟩ (hr.keeps k)⟩
 intro h
 obtain ⟨o, e⟩ := V.wold _ h
 exact absurd (Heap.lt_size (K.heap _ _ e)) (Nat.not_lt.mpr (Nat.le_succ _))
theorem Ev.sliceFrom {value e : Expr} {p pos : Pos} {l : List D} {a : Nat} (hv : Ev c A env σ value (.lst l)) (he : Ev c A env σ e (.int a)) (hn : l.length ≤ 1000000) (ht : ∀ o r, letTemporaryGo value o r = pure () := by intro _ _; rfl) :
  Ev c A env σ (.Subscript value (.Slice (some e) Option.none Option.none p) pos) (.lst (l.drop a)) := fun W s E V =>
 wpAny_Subscript_list_slice (hv.use V fun v s₁ K₁ V₁ r₁ => wpAny_evalPart_some (he.use V₁ fun u s₂ K₂ V₂ r₂ => by
  cases r₂
  refine wpAny_evalPart_none ?_
  cases r₁.keeps K₂.heap with
  | lst ha ht hr =>
   rename_i t b vs
   have el : vs.size = l.length := by rw [← hr.length]; simp
   refine ⟨b, vs, some (a : Int), Option.none, rfl, ht.isList, by rw [el, sizeLine_eq]; omega, .int _ _, .none, ?_⟩
   rw [pick_from]
   exact slice_end V (K₁.trans K₂) (by rw [List.toList_toArray]; exact hr.drop a))) ht
theorem Ev.sliceTo {value e : Expr} {p pos : Pos} {l : List D} {a : Nat} (hv : Ev c A env σ value (.lst l)) (he : Ev c A env σ e (.int a)) (hn : l.length ≤ 1000000) (ht : ∀ o r, letTemporaryGo value o r = pure () := by intro _ _; rfl) :
  Ev c A env σ (.Subscript value (.Slice Option.none (some e) Option.none p) pos) (.lst (l.take a)) := fun W s E V =>
 wpAny_Subscript_list_slice (hv.use V fun v s₁ K₁ V₁ r₁ => wpAny_evalPart_none (wpAny_evalPart_some (he.use V₁ fun u s₂ K₂ V₂ r₂ => by
  cases r₂
  cases r₁.keeps K₂.heap with
  | lst ha ht hr =>
   rename_i t b vs
   have el : vs.size = l.length := by rw [← hr.length]; simp
   refine ⟨b, vs, Option.none, some (a : Int), rfl, ht.isList, by rw [el, sizeLine_eq]; omega, .none, .int _ _, ?_⟩
   rw [pick_upto]
   exact slice_end V (K₁.trans K₂) (by rw [List.toList_toArray]; exact hr.take a)))) ht
noncomputable def D.typ : D → Option String
 | .int _ => some "int"
 | .str _ => some "str"
 | .tup _ => some "tuple"
 | .lst _ => some "list"
 | _ => Option.none
theorem Ev.typeOf {x : Str} {np p : Pos} {e : Expr} {d : D} {T : String} (hf : Ev c A env σ (.Name x np) (.val (.type "type"))) (hs : starEach [e] env = [(false, eval e env)]) (he : Ev c A env σ e d) (hT : d.typ = some T) :
  Ev c A env σ (.Call (.Name x np) [e] [] p) (.val (.type T)) :=
 .callT1 hf hs he fun W s E v _ _ r => by
  cases r with
  | int => cases hT; exact call_type_of (typeIs_int _ _ _) (by decide) ⟨.refl _, .val _⟩
  | str => cases hT; exact call_type_of (typeIs_str _ _ _) (by decide) ⟨.refl _, .val _⟩
  | tup ha ht hr => cases hT; exact call_type_of ht.typeIs (by decide) ⟨.refl _, .val _⟩
  | lst ha ht hr => cases hT; exact call_type_of ht.isList.typeIs (by decide) ⟨.refl _, .val _⟩
  | _ => cases hT
theorem Ev.lower {o : Expr} {apos pos : Pos} {x : Str} (ho : Ev c A env σ o (.str x)) (hbase : attributeBase o "lower" env (eval o env) = eval o env) (hline : (apos.endLine == pos.line) = true) (hfit : Builtin.Str.tooLong (Txt.lower x).length = false) :
  Ev c A env σ (.Call (.Attribute o "lower" apos) [] [] pos) (.str (Txt.lower x)) := .intro fun W s E V =>
 Call_method0 hbase hline (ho.use V fun v s₁ K₁ V₁ r₁ => by cases r₁; exact SB.lower hfit ⟨K₁.toKq.trans (.tok _), .str _ _⟩)
theorem strs_of {h : Heap} : ∀ {xs : List Str} {vs : List Value}, RdL W h vs (xs.map .str) → ∃ l : List (Str × Tok), vs = strValues l ∧ l.map (·.1) = xs := by
 intro xs
 induction xs with
 | nil => intro vs r; cases r; exact ⟨[], rfl, rfl⟩
 | cons x xs ih =>
  intro vs r
  rw [List.map_cons] at r
  cases r with
  | cons a b =>
   cases a
   obtain ⟨l, h1, h2⟩ := ih b
   exact ⟨(x, _) :: l, by rw [h1]; rfl, by rw [List.map_cons, h2]⟩
theorem Ev.join {o e : Expr} {apos pos : Pos} {x : Str} {xs : List Str} (ho : Ev c A env σ o (.str x)) (he : Ev c A env σ e (.lst (xs.map .str))) (hbase : attributeBase o "join" env (eval o env) = eval o env) (hs : starEach [e] env = [(false, eval e env)]) (hline : (apos.endLine == pos.line) = true) (hok : JoinOk x xs = true) :
  Ev c A env σ (.Call (.Attribute o "join" apos) [e] [] pos) (.str (Txt.join x xs)) := .intro fun W s E V =>
 Call_method1 hbase hs hline (ho.use V fun v s₁ K₁ V₁ r₁ => by
  cases r₁
  refine SB.join (he.use V₁ fun u s₂ K₂ V₂ r₂ => ?_)
  cases r₂ with
  | lst ha ht hr =>
   rename_i t b vs
   obtain ⟨l, h1, h2⟩ := strs_of hr
   refine ⟨b, l, rfl, ?_, xs, h2, hok, fun t' k => ⟨(K₁.trans K₂).toKq.trans (.tok _), .str _ _⟩⟩
   rw [← h1]; simpa using ht.isList)
end
section
variable {prog : Program} {w : World} {A : Around} {E : Value → Shared → Prop} {s : Shared}
end
section
variable {prog : Program} {w : World} {A : Around} {E : Value → Shared → Prop} {s : Shared}
end
noncomputable def pairsOf (a b : List D) : List D := (a.zip b).map fun p => .tup [p.1, p.2]
section
variable {prog : Program} {w : World} {A : Around} {R : Result → Shared → Prop}
end
theorem apartN (N l1 l2 : Nat) (h1 : l1 < N) (h2 : l2 < N) : ZipApart (N + 4) (N + 2) (N + 3) N (N + 1) l1 l2 := by
 constructor <;> (show ¬ ((_ : Nat) = _)) <;> omega
section
variable {c : Cx} {A : Around} {env : Env} {σ : List (Str × D)}
end
section
variable {c : Cx} {A : Around} {env : Env} {σ : List (Str × D)}
end
section
variable {prog : Program} {w : World} {A : Around} {E : Value → Shared → Prop} {s : Shared}
end
section
variable {c : Cx} {A : Around} {s₀ : Shared} {W₀ Md W : Addr → Prop} {env : Env} {σ : List (Str × D)} {μ : List (Addr × Own)} {s : Shared} {E : Value → Shared → Prop}
end
structure InsAt (h : Heap) (x dx k : Addr) (m : Str → Option Value) : Prop where
 inst : h.Inst x k m
 dict : ∀ o, h.get? x = some o → o.dict = some dx
theorem InsAt.at {h h' : Heap} {x dx k : Addr} {m : Str → Option Value} (I : InsAt h x dx k m) (kp : ∀ b o, b = x ∨ b = dx → h.get? b = some o → h'.get? b = some o) : InsAt h' x dx k m := by
 obtain ⟨o, e, c, nc, hd⟩ := id I.inst
 have d := I.dict o e
 have e' := kp x o (.inl rfl) e
 refine ⟨⟨o, e', c, nc, ?_⟩, fun o' q => by rw [e'] at q; cases q; exact d⟩
 rcases hd with ⟨n, _⟩ | ⟨d', h1, h2, h3⟩
 ·rw [d] at n; cases n
 ·rw [d] at h1; cases h1
  exact .inr ⟨dx, d, h2, h3.at fun o e => kp dx o (.inr rfl) e⟩
theorem InsAt.ns1 {h : Heap} {x dx k : Addr} {m : Str → Option Value} (I : InsAt h x dx k m) : h.Ns1 dx m ∧ dx ≠ x := by
 obtain ⟨o, e, c, nc, hd⟩ := I.inst
 have d := I.dict o e
 rcases hd with ⟨n, _⟩ | ⟨d', h1, h2, h3⟩
 ·rw [d] at n; cases n
 ·rw [d] at h1; cases h1; exact ⟨h3, h2⟩
section
variable {c : Cx} {A : Around} {s₀ : Shared} {W₀ Md W : Addr → Prop} {env : Env} {σ : List (Str × D)} {μ : List (Addr × Own)} {s : Shared} {E : Value → Shared → Prop}
theorem Fr.bumpP (F : Fr c s₀ W₀ Md W env σ μ s) {Mo : Addr → Prop} {t : Shared} (U : Upd Mo s t) (hm : ∀ a, Mo a → W a) (h0 : ∀ a, Mo a → Md a ∨ s₀.heap.get? a = none) (hex : ∀ a, Mo a → ∃ o, t.heap.get? a = some o)
  (neL : ¬ Mo env.locals) (hc : ∀ y b, env.cells.lookup y = some b → ¬ Mo b) (hl : ∀ a o, Mo a → (a, o) ∉ μ) : Fr c s₀ W₀ Md W env σ μ t := by
 obtain ⟨m, n⟩ := F.ns
 have kk : ∀ b o, ¬ Mo b → s.heap.get? b = some o → t.heap.get? b = some o := U.keep
 exact { F with
  view := F.view.upd U (fun b e => F.kn (h0 b e)) hex fun y e hy => by
   obtain ⟨u, b, ru⟩ := F.view.vars y e hy
   refine ⟨u, ?_, U.rd hm ru⟩
   unfold Bnd at b ⊢
   split at b
   ·obtain ⟨m₀, n₀, e₀⟩ := b; exact ⟨m₀, n₀.at fun o e => kk _ o neL e, e₀⟩
   ·obtain ⟨b, o, e1, e2, e3⟩ := b; exact ⟨b, o, e1, kk b o (hc _ b e1) e2, e3⟩
   ·obtain ⟨b, o, e1, e2, e3⟩ := b; exact ⟨b, o, e1, kk b o (hc _ b e1) e2, e3⟩
   ·exact b
   ·exact b
  up := ⟨by obtain ⟨h1, t1, q1⟩ := F.up.eq; obtain ⟨h2, t2, q2⟩ := U.eq; exact ⟨h2, t2, by rw [q2, q1]⟩, Nat.le_trans F.up.tk U.tk, fun b o hb e => kk b o (fun q => by
   rcases h0 b q with z | z
   ·exact hb z
   ·rw [z] at e; cases e) (F.up.keep b o hb e)⟩
  ns := ⟨m, n.at fun o e => kk _ o neL e⟩
  cell := fun y b h1 h2 => let ⟨p1, p2, u, p3⟩ := F.cell y b h1 h2; ⟨p1, p2, u, IsCell.atK p3 fun o e => kk b o (hc _ b h2) e⟩
  own := fun b k hb => let ⟨p1, p2, p3, p4⟩ := F.own b k hb; ⟨p1, p2, p3, p4.keep (fun o e => kk b o (fun q => hl b k q hb) e) fun v d r => U.rd hm r⟩ }
theorem st_setattr (F : Fr c s₀ W₀ Md W env σ μ s) {o value : Expr} {a : Str} {p pos : Pos} {x dx k N : Addr} {mN m : Str → Option Value} {d : D} {ns : List Str} {Q : Flow → Shared → Prop} (C : Kls c k N mN) (hv : Ev c A env σ value d) (ho : Ev c A env σ o (.val (.ref x)))
  (I : InsAt s.heap x dx k m) (hMx : Md x) (hMd : Md dx) (neL : env.locals ≠ x ∧ env.locals ≠ dx) (neO : ∀ o, (x, o) ∉ μ ∧ (dx, o) ∉ μ) (neC : ∀ y b, env.cells.lookup y = some b → b ≠ x ∧ b ≠ dx) (hna : mN a = none) (hB : typeLookup (.type "object") a = pure none) (hw : Within m ns) (hsz : ns.length ≤ sizeLine)
  (h : ∀ v s', Rd W s'.heap v d → InsAt s'.heap x dx k (fun y => if y = a then some v else m y) → Fr c s₀ W₀ Md W env σ μ s' → Q .next s')
  (hs : swapsWith value (some (.Attribute o a p)) pos.line env = pure false := by rfl) :
  wpAny c.M A (exec (.Assign [.Attribute o a p] value pos) env) Q E s := by
 refine plainObj_wpAny_Assign_Attribute (hv.use F.view fun v s₁ K₁ V₁ r₁ => ho.use V₁ fun u s₂ K₂ V₂ r₂ => ?_) hs
 cases r₂
 have KK := K₁.trans K₂
 have F₂ := F.keeps KK
 have I₂ := I.at (h' := s₂.heap) fun b o _ e => KK.heap b o e
 have r₁' := r₁.keeps K₂.heap
 have X := C.at_ _ V₂.base
 obtain ⟨nm, q, bs, sn, sub, col, dd, k0, k1, k2, k3, k5, hC⟩ := X.obj
 have Wx := F.w0 _ (F.mdW _ hMx)
 have Wd := F.w0 _ (F.mdW _ hMd)
 have hxC : x ≠ k := by
  intro e; subst e
  obtain ⟨o', e1, e2, e3, _⟩ := I₂.inst
  rw [hC] at e1; cases e1; cases e2
 obtain ⟨ox, hx, hcx, hncx, hdx⟩ := id I₂.inst
 have hdd := I₂.dict ox hx
 have ns1 := I₂.ns1
 have key : wpAny c.M A (setAttr (.ref x) a v) (fun _ s' => s₂.toks ≤ s'.toks ∧ (∃ h tk, s' = { s₂ with heap := h, toks := tk }) ∧ InsAt s'.heap x dx k (fun y => if y = a then some v else m y) ∧ ∀ b o, b ≠ x → b ≠ dx → s₂.heap.get? b = some o → s'.heap.get? b = some o) E s₂ := by
  refine wpAny_mono (wpAny_toks_of (E := E) (Nat.le_refl s₂.toks) (Q := fun _ s' => (∃ h tk, s' = { s₂ with heap := h, toks := tk }) ∧ InsAt s'.heap x dx k (fun y => if y = a then some v else m y) ∧ ∀ b o, b ≠ x → b ≠ dx → s₂.heap.get? b = some o → s'.heap.get? b = some o) ?_) (fun _ _ q => q) fun _ _ q => q.2
  clear h F₂ V₂ r₁' KK K₂ V₁ r₁ I K₁
  obtain ⟨hh, g, dr, t, os⟩ := s₂
  refine store_attr PySem.F.store_object hC X.ns C.sa hna hB hxC I₂.inst (fun h' tk' I' hk hsame => ⟨⟨_, _, rfl⟩, ⟨I', fun o' e' => ?_⟩, fun b o h1 h2 e => hk b o h1 (fun o₀ d' e₀ ed => ?_) e⟩) hw hsz
  ·obtain ⟨o₁, e₁, _, _, _, dk⟩ := hsame ox hx
   rw [e₁] at e'; cases e'
   exact dk dx hdd
  ·obtain rfl := Option.some.inj (hx.symm.trans e₀); obtain rfl := Option.some.inj (hdd.symm.trans ed); exact h2
 refine wpAny_mono key (fun _ s₃ q => ?_) fun _ _ e => e
 obtain ⟨tk, eq, I₃, kp⟩ := q
 have U : Upd (fun b => b = x ∨ b = dx) s₂ s₃ := ⟨eq, tk, fun b o n e => kp b o (fun z => n (.inl z)) (fun z => n (.inr z)) e⟩
 have hm : ∀ b, (b = x ∨ b = dx) → W b := fun b h => h.elim (fun e => by rw [e]; exact Wx) fun e => by rw [e]; exact Wd
 have nsd : s₂.heap.Ns dx m := ns1.1.ns
 have nx : ∀ oo, s₂.heap.get? x = some oo → oo.cls = .ref k := fun oo e => by rw [hx] at e; cases e; exact hcx
 refine h v s₃ (U.rd hm r₁') I₃ (F₂.bumpP U hm (fun b h => .inl (h.elim (fun e => by rw [e]; exact hMx) fun e => by rw [e]; exact hMd)) (fun b h => ?_) (fun h => h.elim neL.1 neL.2) (fun y b e h => h.elim (neC y b e).1 (neC y b e).2) (fun b o h q => h.elim (fun e => (neO o).1 (e ▸ q)) fun e => (neO o).2 (e ▸ q)))
 ·rcases h with rfl | rfl
  ·obtain ⟨o', e, _⟩ := I₃.inst; exact ⟨o', e⟩
  ·obtain ⟨⟨o', _, _, e, _⟩, _⟩ := I₃.ns1; exact ⟨o', e⟩
end
theorem under_depth (A : Around) (k : Addr) (vs : List Value) : (A.under (.builtin "type.__call__" ⟨.ref k :: vs, []⟩)).depth = A.depth + 1 := rfl
theorem Room.under {A : Around} {n : Nat} (r : Room A (n + 1)) (k : Addr) (vs : List Value) : Room (A.under (.builtin "type.__call__" ⟨.ref k :: vs, []⟩)) n := by
 refine ⟨r.hh, ?_, ?_⟩
 ·rw [under_depth]; have := r.depth; omega
 ·have : (A.under (.builtin "type.__call__" ⟨.ref k :: vs, []⟩)).units = A.units + 1 := rfl
  rw [this]; have := r.units; omega
section
variable {c : Cx} {A : Around} {env : Env} {σ : List (Str × D)} {W : Addr → Prop} {s : Shared} {E : Value → Shared → Prop}
theorem make_call {k N fI : Addr} {mN : Str → Option Value} {fd : FuncData} {body : List Stmt} {vs : List Value} {Q : Value → Shared → Prop} (C : Kls c k N mN) (hi : mN "__init__" = some (.ref fI)) (fn : Fun c fI fd body) (hfc : ∀ h o, HasK c.K h → h.get? fI = some o → o.cls = .type "function") (base : HasK c.K s.heap)
  (h : ∀ x dx s', Kt s s' → s.heap.get? x = none → s.heap.get? dx = none → InsAt s'.heap x dx k (fun _ => none) →
   wpAny c.M (A.under (.builtin "type.__call__" ⟨.ref k :: vs, []⟩)) (call (.ref fI) (.ref x :: vs)) (fun r s'' => r = .none ∧ Q (.ref x) s'') E s') :
  wpAny c.M A (call (.ref k) vs) Q E s := by
 have X := C.at_ _ base
 obtain ⟨nm, q, bs, sn, sub, col, dd, k0, k1, k2, k3, k5, hC⟩ := X.obj
 obtain ⟨o, ho, hd⟩ := fn.at_ _ base
 have hfc' := hfc _ _ base ho
 obtain ⟨hh, g, d, t, os⟩ := s
 exact wpAny_call_obj_init PySem.F.objNew hC X.ns hi ho hfc' fun h' x dx Mk => h x dx ⟨h', g, d, t, os⟩ ⟨⟨⟨_, _, rfl⟩, Mk.keeps⟩, Nat.le_refl _⟩ Mk.newX Mk.newD ⟨Mk.inst, Mk.dict⟩
theorem cls_call0 {x : Str} {np pos : Pos} {k N : Addr} {mN : Str → Option Value} {Q : Value → Shared → Prop} (C : Kls c k N mN) (hf : Ev c A env σ (.Name x np) (.val (.ref k))) (V : View c W env σ s)
  (h : ∀ s', Kt s s' → View c W env σ s' → wpAny c.M A (call (.ref k) []) Q E s') : wpAny c.M A (eval (.Call (.Name x np) [] [] pos) env) Q E s :=
 wpAny_Call_Name_kw (hf.use V fun v s₁ K₁ V₁ r₁ => by
  cases r₁
  exact callWith_cls0 (h₀ := s₁.heap) (C.at_ _ V₁.base) (fun b o e => e) (h s₁ K₁ V₁))
end
section
variable {c : Cx} {A : Around} {env : Env} {σ : List (Str × D)}
theorem Cmp.inSet {i : Int} {a : Addr} {S : Int → Bool} {n : Nat} (hS : ∀ h, HasK c.K h → h.SetOf (intKind c.prog c.w) a S n) : Cmp c A .In (.int i) (.val (.ref a)) (S i) := fun W s E u v base ru rv => by
 cases ru; cases rv
 rename_i t
 exact wpAny_inSet_of (intKind_is _ _ i t) rfl (hS _ base) ⟨⟨.tok _, Nat.le_succ _⟩, rfl⟩
theorem Ev.dictGet {o e : Expr} {apos pos : Pos} {a : Addr} {i : Int} {f : Int → Option Value} {r : D} (hM : ∀ h, HasK c.K h → h.MapOf (intKind c.prog c.w) a f) (hd : (a == sysModules) = false) (ho : Ev c A env σ o (.val (.ref a))) (he : Ev c A env σ e (.int i))
  (hr : ∀ W h, Rd W h ((f i).getD Value.none) r) (hbase : attributeBase o "get" env (eval o env) = eval o env) (hs : starEach [e] env = [(false, eval e env)]) (hline : (apos.endLine == pos.line) = true) :
  Ev c A env σ (.Call (.Attribute o "get" apos) [e] [] pos) r := .intro fun W s E V =>
 Call_method1 hbase hs hline (ho.use V fun v s₁ K₁ V₁ r₁ => by
  cases r₁
  have M := hM _ V₁.base
  refine ⟨"dict", "dict.get", PySem.F.plainAttrs_dict, PySem.F.slot_dict_get, PySem.F.type_dict_get, M.typeIs, M.noDict, wpAny_dict_get1 (knd := intKind c.prog c.w) hd (he.use V₁ fun u s₂ K₂ V₂ r₂ => ?_)⟩
  cases r₂
  rename_i t
  exact ⟨i, f, intKind_is _ _ i t, hM _ V₂.base, (K₁.trans K₂).toKq.trans (.tok _), hr _ _⟩)
end
theorem mapOf_entries {prog : Program} {w : World} {h : Heap} {a : Addr} {o : Obj} {es : Array DictEntry} {ep : Nat} {L : List (Int × Str)} (ho : h.get? a = some o) (hx : o.ExactDict) (hd : o.data = .dict es ep)
  (hp : ∃ ts : List (Tok × Tok), ts.length = L.length ∧ es.toList = (L.zip ts).map fun p => ⟨(intKind prog w).hash p.1.1, .int p.1.1 p.2.1, .str p.1.2 p.2.2⟩) :
  ∃ f : Int → Option Value, h.MapOf (intKind prog w) a f ∧ ∀ i, match L.lookup i with
   | some x => ∃ t, f i = some (.str x t)
   | none => f i = none := by
 obtain ⟨ts, hl, he⟩ := hp
 refine ⟨fun k => findBy (intKind prog w).is es k, ⟨o, es, ep, ho, hx, hd, fun e hm => ?_, fun _ => rfl⟩, fun i => ?_⟩
 ·have hm' : e ∈ es.toList := by simpa using hm
  rw [he] at hm'
  obtain ⟨p, _, rfl⟩ := List.mem_map.mp hm'
  exact ⟨p.1.1, intKind_is _ _ _ _, rfl⟩
 ·unfold findBy
  simp only []
  rw [← Array.find?_toList, he]
  clear he ho hx hd
  show match L.lookup i with
   | some x => ∃ t, (List.find? (fun e : DictEntry => Value.isInt i e.key) ((L.zip ts).map fun p => (⟨(intKind prog w).hash p.1.1, .int p.1.1 p.2.1, .str p.1.2 p.2.2⟩ : DictEntry))).map (fun x : DictEntry => x.val) = some (.str x t)
   | none => (List.find? (fun e : DictEntry => Value.isInt i e.key) ((L.zip ts).map fun p => (⟨(intKind prog w).hash p.1.1, .int p.1.1 p.2.1, .str p.1.2 p.2.2⟩ : DictEntry))).map (fun x : DictEntry => x.val) = none
  induction L generalizing ts with
  | nil => rfl
  | cons x L ih =>
   cases ts with
   | nil => simp at hl
   | cons t ts =>
    obtain ⟨j, y⟩ := x
    rw [List.lookup_cons, List.zip_cons_cons, List.map_cons, List.find?_cons]
    by_cases z : i = j
    ·subst z
     have e1 : (i == i) = true := by simp
     have e2 : Value.isInt i (.int i t.1) = true := by simp [Value.isInt]
     simp only [e1, e2]
     exact ⟨t.2, rfl⟩
    ·have e1 : (i == j) = false := beq_eq_false_iff_ne.mpr z
     have e2 : Value.isInt i (.int j t.1) = false := by
      cases q : Value.isInt i (.int j t.1) with
      | false => rfl
      | true => obtain ⟨u, e⟩ := Value.isInt_shape q; cases e; exact (z rfl).elim
     simp only [e1, e2]
     exact ih ts (by simpa using hl)
theorem admitted_none {m : Sre.M} {good : Nat → Prop} (hin : ∀ c, good c → ∀ seen, ∃ seen', Sre.inSet m.code c m.code.size 5 true seen = .ok (false, seen')) :
  ∀ (fuel s : Nat) (seen : Sre.Seen), (∀ i, s ≤ i → i < m.lim → good (m.text.getD i 0)) → ∃ seen', Sre.M.admitted m fuel s seen = .ok (none, seen')
 | 0, s, seen, _ => ⟨seen, rfl⟩
 | fuel + 1, s, seen, h => by
  unfold Sre.M.admitted
  by_cases hs : s ≥ m.lim
  ·rw [if_pos hs]; exact ⟨_, rfl⟩
  ·rw [if_neg hs]
   obtain ⟨seen', e⟩ := hin _ (h s (Nat.le_refl _) (by omega)) seen
   rw [e]
   exact admitted_none hin fuel (s + 1) seen' fun i h1 h2 => h i (by omega) h2
noncomputable def nameCode : Array Nat := #[14, 10, 4, 1, 1, 22, 0, 31, 16, 127, 0, 13, 7, 22, 0, 31, 16, 127, 0, 1]
noncomputable def valueCode : Array Nat := #[14, 14, 4, 1, 1, 9, 4294966783, 0, 0, 2147483648, 0, 0, 0, 0, 0, 13, 11, 9, 4294966783, 0, 0, 2147483648, 0, 0, 0, 0, 0, 1]
theorem name_out (c : Nat) (h1 : 31 < c) (h2 : c ≠ 127) (seen : Sre.Seen) : ∃ seen', Sre.inSet nameCode c nameCode.size 5 true seen = .ok (false, seen') := by
 have e1 : ¬ ((0 ≤ c && c ≤ 31) = true) := by simp; omega
 have e2 : ¬ ((c == 127) = true) := by simpa using h2
 show ∃ seen', (if (0 ≤ c && c ≤ 31) = true then _ else _) = _
 rw [if_neg e1]
 show ∃ seen', (if (c == 127) = true then _ else _) = _
 rw [if_neg e2]
 exact ⟨_, rfl⟩
theorem value_out (c : Nat) (h : 31 < c ∧ c ≠ 127 ∨ c = 9) (seen : Sre.Seen) : ∃ seen', Sre.inSet valueCode c valueCode.size 5 true seen = .ok (false, seen') := by
 have e1 : ¬ ((c < 256 && (valueCode.getD (5 + (1 + c / 32)) 0).testBit (c % 32)) = true) := by
  by_cases z : c < 256
  ·have : ∀ c, c < 256 → (31 < c ∧ c ≠ 127 ∨ c = 9) → (valueCode.getD (5 + (1 + c / 32)) 0).testBit (c % 32) = false := by decide +kernel
   rw [this c z h]; simp
  ·simp [z]
 show ∃ seen', (if (c < 256 && (valueCode.getD (5 + (1 + c / 32)) 0).testBit (c % 32)) = true then _ else _) = _
 rw [if_neg e1]
 exact ⟨_, rfl⟩
theorem adm_ok {m : Sre.M} {code text : Array Nat} {good : Nat → Prop} (hin : ∀ c, good c → ∀ seen, ∃ seen', Sre.inSet code c code.size 5 true seen = .ok (false, seen')) (hgood : ∀ i, i < text.size → good (text.getD i 0)) {fuel s : Nat} {seen : Sre.Seen} {r : Except String (Option Nat × Sre.Seen)}
  (e : Sre.M.admitted m fuel s seen = r) (h1 : m.code = code) (h2 : m.text = text) (h3 : m.lim = text.size) : ∃ seen', r = .ok (none, seen') := by
 subst h1 h2
 obtain ⟨seen', e'⟩ := admitted_none hin fuel s seen fun i _ h => hgood i (by rw [← h3]; exact h)
 exact ⟨seen', by rw [← e, e']⟩
theorem search_none {code text : Array Nat} {good : Nat → Prop} (hin : ∀ c, good c → ∀ seen, ∃ seen', Sre.inSet code c code.size 5 true seen = .ok (false, seen')) (hs : ∀ m : Sre.M, m.code = code → m.hasFirstSet = true)
  (hgood : ∀ i, i < text.size → good (text.getD i 0)) : ∃ m', Sre.forSearch code text 0 0 text.size false = m' ∧ m'.answer = some false ∧ m'.frames = [] ∧ m'.outcome = none := by
 refine ⟨_, rfl, ?_⟩
 unfold Sre.forSearch
 simp only []
 split
 ·exact ⟨rfl, rfl, rfl⟩
 ·unfold Sre.M.attemptFrom
  rw [hs _ rfl]
  simp only [Bool.not_true, Bool.false_eq_true, if_false]
  split
  ·rename_i s seen e
   obtain ⟨seen', e'⟩ := adm_ok hin hgood e rfl rfl rfl
   cases e'
  ·exact ⟨rfl, rfl, rfl⟩
  ·rename_i why e
   obtain ⟨seen', e'⟩ := adm_ok hin hgood e rfl rfl rfl
   cases e'
section
variable {prog : Program} {w : World} {A : Around} {E : Value → Shared → Prop} {s : Shared}
theorem runToEnd_none {m : Sre.M} {Q : Option Sre.M → Shared → Prop} (h1 : m.answer = some false) (h2 : m.frames = []) (h3 : m.outcome = none) (h : Q none s) : wpAny (model prog w) A (Builtin.Re.reRunToEnd m) Q E s := by
 obtain ⟨m', hm', ho⟩ : ∃ m', m.runFor Builtin.Re.reTurnSteps = m' ∧ m'.outcome = some .failed := by
  refine ⟨_, rfl, ?_⟩
  show (Sre.M.runFor (3 + 1) m).outcome = _
  have e1 : m.step = { m with outcome := some .failed } := by
   unfold Sre.M.step
   rw [h3, h1, h2]; rfl
  unfold Sre.M.runFor
  rw [h3, e1]
  rfl
 unfold Builtin.Re.reRunToEnd
 have e2 : (2 : Nat) ^ 64 = 18446744073709551615 + 1 := by decide
 rw [e2]
 refine wpAny_bind ?_
 unfold Builtin.Re.reDrive
 simp only [hm', ho, Option.isSome_some, if_true]
 refine wpAny_pure ?_
 refine wpAny_bind ?_
 refine wpAny_forIn_list _ (fun _ _ s' => s' = s) _ ?_ ?_ _ _ rfl
 ·intro i rest _ s' hs'
  subst hs'
  by_cases hb : m'.seen.has i = true
  ·simp only [hb, if_true]; exact wpAny_bind (wpAny_rule (wpAny_pure rfl))
  ·simp only [Bool.not_eq_true] at hb; simp only [hb, Bool.false_eq_true, if_false]; exact wpAny_pure rfl
 ·intro _ s' hs'
  subst hs'
  rw [ho]
  exact wpAny_pure h
end
theorem plainAttrs_re : PlainAttrs "re.Pattern" :=
 ⟨⟨"object.__getattribute__", by rw [typeLookup_type, builtinLookup_eq_fast]; kernel_rfl, by decide +kernel⟩, by rw [typeLookup_type, builtinLookup_eq_fast]; kernel_rfl⟩
theorem slot_re_search : Slot "re.Pattern" "search" "re.Pattern.search" :=
 .of (owner := "re.Pattern") (n := "search") (by rw [typeLookup_type, builtinLookup_eq_fast]; kernel_rfl) (by decide +kernel) (by decide +kernel) (by decide +kernel)
  (by first | exact .inl (by decide +kernel) | exact .inr (by decide +kernel)) (by rw [isSubtype_type]; kernel_rfl)
theorem type_re_search : typeOf (.builtin "re.Pattern.search") = pure (.type "method_descriptor") := by show builtinType _ = _; rw [builtinType_eq_fast]; kernel_rfl
theorem entry_re_search : entryFor table "re.Pattern.search" = some Builtin.«re.Pattern.search» := entryFor_of_tree (by kernel_rfl)
theorem owner_re : Manifest.owners.lookup (String.ofList ['n', 'r', 'e', 't', 't', 'a', 'P', '.', 'e', 'r'].reverse) = some Manifest.sig_re_Pattern := by kernel_rfl
theorem args_re_search (a b : Value) : argsOk "re.Pattern.search" ⟨[a, b], []⟩ := by
 unfold argsOk; rw [signature?_of (id := "re.Pattern.search") (n := ['h', 'c', 'r', 'a', 'e', 's']) (o := ['n', 'r', 'e', 't', 't', 'a', 'P', '.', 'e', 'r']) (by kernel_rfl) owner_re]; kernel_rfl
theorem named_search (v : Value) : Builtin.Re.reNamed "re.Pattern.search" "search" ["string", "pos", "endpos"] 1 [v] [] = pure [some v, none, none] := by rfl
theorem text_str (x : Str) (t : Tok) : Builtin.Re.reTextOf (.str x t) = pure (x.cps, 0) := by rfl
section
variable {prog : Program} {w : World} {A : Around} {E : Value → Shared → Prop} {s : Shared}
theorem call_search {p ci : Addr} {pat : Value} {fl : Value} {cs : Array Value} {cn : Nat} {x : Str} {t : Tok} {Q : Value → Shared → Prop} {good : Nat → Prop} {code : Array Nat}
  (hp : s.heap.get? p = some ⟨.type "re.Pattern", none, .fields #[pat, fl, .int 0 0, .none, .none, .ref ci, .int 0 0], #[]⟩) (hc : s.heap.get? ci = some ⟨.type "tuple", none, .seq cs cn, #[]⟩) (hcode : (cs.map Builtin.Re.reRawOf).map (·.toNat) = code)
  (hin : ∀ c, good c → ∀ seen, ∃ seen', Sre.inSet code c code.size 5 true seen = .ok (false, seen')) (hs : ∀ m : Sre.M, m.code = code → m.hasFirstSet = true) (hgood : ∀ i, i < x.cps.size → good (x.cps.getD i 0)) (hsz : x.cps.size ≤ 1000000) (h : Q .none s) :
  wpAny (model prog w) A (call (.builtin "re.Pattern.search") [.ref p, .str x t]) Q E s := by
 have hT : s.TypeIs (.ref p) "re.Pattern" := ⟨_, hp, rfl⟩
 refine wpAny_call_entry slot_re_search hT entry_re_search ?_ (args_re_search _ _)
 unfold Builtin.«re.Pattern.search» Builtin.Re.reTarget
 refine wpAny_bind ?_
 show wpAny _ A.in1 (Builtin.Re.reNamed "re.Pattern.search" "search" ["string", "pos", "endpos"] 1 [.str x t] [] >>= _) _ _ _
 rw [named_search]
 refine wpAny_bind (wpAny_pure ?_)
 simp only []
 refine wpAny_bind (wpAny_pure ?_)
 refine wpAny_bind (wpAny_pure ?_)
 refine wpAny_bind (wpAny_fieldsOf hp rfl ?_)
 rw [text_str]
 refine wpAny_bind (wpAny_pure ?_)
 show wpAny _ A.in1 (do
   Builtin.Re.reNoCollectionInside (.str x t) 0
   let is ← Builtin.Re.reRawItems (.ref ci)
   pure ({ pattern := .ref p, string := .str x t, code := is.map (fun x => x.toNat), text := x.cps, kind := 0, groups := 0, pos := min (Int.toNat 0) x.cps.size, lim := min (2 ^ 63 - 1 : Int).toNat x.cps.size } : Builtin.Re.ReTarget)) _ _ _
 refine wpAny_bind (m := Builtin.Re.reNoCollectionInside (.str x t) 0) (wpAny_pure ?_)
 refine wpAny_bind ?_
 unfold Builtin.Re.reRawItems
 refine wpAny_bind (wpAny_seqItems hc rfl (wpAny_pure ?_))
 refine wpAny_pure ?_
 have e1 : min (Int.toNat 0) x.cps.size = 0 := by simp
 have e2 : min (2 ^ 63 - 1 : Int).toNat x.cps.size = x.cps.size := by
  have : (2 ^ 63 - 1 : Int).toNat = 9223372036854775807 := by decide
  rw [this]; omega
 rw [e1, e2]
 simp only [Option.getD_some]
 rw [hcode]
 obtain ⟨m', em, a1, a2, a3⟩ := search_none hin hs hgood
 rw [em]
 unfold Builtin.Re.reAnswer
 refine wpAny_bind (runToEnd_none a1 a2 a3 ?_)
 exact wpAny_pure ⟨_, rfl, h⟩
end
section
variable {c : Cx} {A : Around} {env : Env} {σ : List (Str × D)}
structure Pat (c : Cx) (p : Addr) (good : Nat → Prop) : Prop where
 at_ : ∃ (ci : Addr) (pat fl : Value) (cs : Array Value) (cn : Nat) (code : Array Nat), (∀ h, HasK c.K h → h.get? p = some ⟨.type "re.Pattern", none, .fields #[pat, fl, .int 0 0, .none, .none, .ref ci, .int 0 0], #[]⟩ ∧ h.get? ci = some ⟨.type "tuple", none, .seq cs cn, #[]⟩) ∧
  (cs.map Builtin.Re.reRawOf).map (·.toNat) = code ∧ (∀ c, good c → ∀ seen, ∃ seen', Sre.inSet code c code.size 5 true seen = .ok (false, seen')) ∧ (∀ m : Sre.M, m.code = code → m.hasFirstSet = true)
theorem Ev.search {o e : Expr} {apos pos : Pos} {p : Addr} {x : Str} {good : Nat → Prop} (P : Pat c p good) (ho : Ev c A env σ o (.val (.ref p))) (he : Ev c A env σ e (.str x)) (hgood : ∀ k ∈ x.cps.toList, good k) (hsz : x.cps.size ≤ 1000000)
  (hbase : attributeBase o "search" env (eval o env) = eval o env) (hs : starEach [e] env = [(false, eval e env)]) (hline : (apos.endLine == pos.line) = true) :
  Ev c A env σ (.Call (.Attribute o "search" apos) [e] [] pos) (.val .none) := .intro fun W s E V =>
 Call_method1 hbase hs hline (ho.use V fun v s₁ K₁ V₁ r₁ => by
  cases r₁
  obtain ⟨ci, pat, fl, cs, cn, code, hat, hcode, hin, hfs⟩ := P.at_
  obtain ⟨h1, _⟩ := hat _ V₁.base
  refine ⟨"re.Pattern", "re.Pattern.search", plainAttrs_re, slot_re_search, type_re_search, ⟨_, h1, rfl⟩, fun a q => by cases q; exact ⟨_, h1, rfl⟩, ?_⟩
  refine Calls.callWith_builtin rfl (Calls.evalArgs_plain (Calls.spliced_cons (he.use V₁ fun u s₂ K₂ V₂ r₂ => Calls.spliced_nil ?_)))
  cases r₂
  obtain ⟨h3, h4⟩ := hat _ V₂.base
  exact call_search h3 h4 hcode hin hfs (fun i h => by
   have e : x.cps.getD i 0 = x.cps[i] := by simp [Array.getD, h]
   rw [e]; exact hgood _ (by simp)) hsz ⟨(K₁.trans K₂).toKq, .val _⟩)
end
theorem pat_name {c : Cx} {p ci : Addr} {pat fl : Value} {cs : Array Value} {cn : Nat} (h : ∀ h, HasK c.K h → h.get? p = some ⟨.type "re.Pattern", none, .fields #[pat, fl, .int 0 0, .none, .none, .ref ci, .int 0 0], #[]⟩ ∧ h.get? ci = some ⟨.type "tuple", none, .seq cs cn, #[]⟩)
  (hc : (cs.map Builtin.Re.reRawOf).map (·.toNat) = nameCode) : Pat c p (fun k => 31 < k ∧ k ≠ 127) :=
 ⟨ci, pat, fl, cs, cn, nameCode, h, hc, fun k g seen => name_out k g.1 g.2 seen, fun m e => by unfold Sre.M.hasFirstSet; rw [e]; rfl⟩
theorem pat_value {c : Cx} {p ci : Addr} {pat fl : Value} {cs : Array Value} {cn : Nat} (h : ∀ h, HasK c.K h → h.get? p = some ⟨.type "re.Pattern", none, .fields #[pat, fl, .int 0 0, .none, .none, .ref ci, .int 0 0], #[]⟩ ∧ h.get? ci = some ⟨.type "tuple", none, .seq cs cn, #[]⟩)
  (hc : (cs.map Builtin.Re.reRawOf).map (·.toNat) = valueCode) : Pat c p (fun k => 31 < k ∧ k ≠ 127 ∨ k = 9) :=
 ⟨ci, pat, fl, cs, cn, valueCode, h, hc, fun k g seen => value_out k g seen, fun m e => by unfold Sre.M.hasFirstSet; rw [e]; rfl⟩
section
variable {c : Cx} {A : Around} {s₀ : Shared} {W₀ Md W : Addr → Prop} {env : Env} {σ : List (Str × D)} {μ : List (Addr × Own)} {s : Shared} {E : Value → Shared → Prop}
theorem st_pairSwapped (hh : A.handled = none) (ok : EnvOk env) (F : Fr c s₀ W₀ Md W env σ μ s) {x y : Str} {p q pt pos : Pos} {k : Nat} {value : Expr} {d e : D} {Q : Flow → Shared → Prop} (hv : Ev c A env σ value (.tup [d, e])) (hx : Nm env x) (hy : Nm env y)
  (h : ∀ s', Fr c s₀ W₀ Md W env ((x, d) :: (y, e) :: σ) μ s' → Q .next s')
  (hs : swapsWithSole [.Tuple [.Name x p, .Name y q] k pt] value pos.line env = pure false := by rfl) (hw : swappedStores [.Tuple [.Name x p, .Name y q] k pt] value env = pure (some [x, y]) := by rfl) :
  wpAny c.M A (exec (.Assign [.Tuple [.Name x p, .Name y q] k pt] value pos) env) Q E s := by
 refine Assign_Tuple_swapped (hv.use F.view fun v s₁ K₁ V₁ r₁ => ?_) hs hw
 cases r₁ with
 | tup ha ht hl =>
  rename_i a vs
  cases hl2 : vs.toList with
  | nil => rw [hl2] at hl; cases hl
  | cons u us =>
   rw [hl2] at hl
   cases hl with
   | cons r1 hl =>
    cases us with
    | nil => cases hl
    | cons u2 us =>
     cases hl with
     | cons r2 hl =>
      cases hl
      have hsz : vs.size = 2 := by rw [← Array.length_toList, hl2]; rfl
      have e2 : ([x, y] : List Str).length = vs.size := by rw [hsz]; rfl
      rw [e2]
      refine wpAny_unpackItems_tuple hh ht fun h' hx' => ?_
      have k1 : Kt s₁ { s₁ with heap := h' } := ⟨⟨⟨_, s₁.toks, rfl⟩, fun b o e => hx' b o (Nat.ne_of_lt (Heap.lt_size e)) e⟩, Nat.le_refl _⟩
      have F1 := F.keeps (K₁.trans k1)
      have hm : ∀ a, Mine' env [] a → W a := fun a h => (F.md_of (h.imp id (Or.imp id fun ⟨l, h⟩ => nomatch h))).1
      rw [hl2]
      show wpAny _ _ (do holding [u] (bindName env y u2); assignInOrder [fun v => bindName env x v] [u]) _ _ _
      refine wpAny_bind (wpAny_holding (wpAny_bindName (F1.set ok hy (r2.keeps k1.heap) fun s2 F2 U2 => ?_)))
      show wpAny _ _ (do holding [] (bindName env x u); pure ()) _ _ _
      refine wpAny_bind (wpAny_holding (wpAny_bindName (F2.set ok hx (U2.rd hm (r1.keeps k1.heap)) fun s3 F3 U3 => ?_)))
      exact wpAny_pure (h _ F3)
end
section
variable {c : Cx} {A : Around} {W : Addr → Prop} {s : Shared} {E : Value → Shared → Prop}
end
mutual
noncomputable def flat : D → Bool
 | .val _ => true
 | .int _ => true
 | .str _ => true
 | .tup l => flats l
 | .lst _ => false
 | .rng _ _ _ => false
 | .ins _ _ => false
 | .dct _ _ _ => false
 | .byt _ => true
noncomputable def flats : List D → Bool
 | [] => true
 | d :: r => flat d && flats r
end
noncomputable def flat1 : D → Bool
 | .val _ => true
 | .int _ => true
 | .str _ => true
 | .byt _ => true
 | _ => false
theorem Rd.any1 {W W' : Addr → Prop} {h : Heap} {v : Value} {d : D} (r : Rd W h v d) (f : flat1 d = true) : Rd W' h v d := by
 cases r <;> first | exact .val _ | exact .int _ _ | exact .str _ _ | exact .byt _ _ | cases f
theorem Rd.avoid2 {W X : Addr → Prop} {h : Heap} (pl : ∀ l, X l → ∃ o, h.get? l = some o ∧ o.cls ≠ .type "tuple") :
  (∀ v d, Rd W h v d → flat d = true → Rd (fun a => W a ∨ X a) h v d) ∧ (∀ vs ds, RdL W h vs ds → flats ds = true → RdL (fun a => W a ∨ X a) h vs ds) := by
 refine ⟨@Rd.rec W h (fun v d _ => flat d = true → Rd (fun a => W a ∨ X a) h v d) (fun vs ds _ => flats ds = true → RdL (fun a => W a ∨ X a) h vs ds) (fun _ _ _ => True) (fun v _ => .val v) (fun i t _ => .int i t) (fun x t _ => .str x t) ?tup ?lst ?rng ?ins ?dct (fun b t _ => .byt b t) (fun _ => .nil) ?cons trivial (fun _ _ _ _ _ => trivial),
  @RdL.rec W h (fun v d _ => flat d = true → Rd (fun a => W a ∨ X a) h v d) (fun vs ds _ => flats ds = true → RdL (fun a => W a ∨ X a) h vs ds) (fun _ _ _ => True) (fun v _ => .val v) (fun i t _ => .int i t) (fun x t _ => .str x t) ?tup ?lst ?rng ?ins ?dct (fun b t _ => .byt b t) (fun _ => .nil) ?cons trivial (fun _ _ _ _ _ => trivial)⟩
 case tup =>
  intro a vs l ha ht _ ih f
  refine .tup (fun q => q.elim ha fun q => ?_) ht (ih (by rw [flat] at f; exact f))
  obtain ⟨o, e, n⟩ := pl _ q
  obtain ⟨o', e', c, _⟩ := ht
  rw [e] at e'; cases e'; exact n c
 case lst => exact fun _ _ _ _ f => by rw [flat] at f; cases f
 case rng => exact fun _ _ f => by rw [flat] at f; cases f
 case ins => exact fun _ _ _ _ _ _ _ _ f => by rw [flat] at f; cases f
 case dct => exact fun _ _ _ _ _ f => by rw [flat] at f; cases f
 case cons => exact fun _ _ a b f => by rw [flats, Bool.and_eq_true] at f; exact .cons (a f.1) (b f.2)
theorem RdL.avoid {W X : Addr → Prop} {h : Heap} (pl : ∀ l, X l → ∃ o, h.get? l = some o ∧ o.cls ≠ .type "tuple") {vs : List Value} {ds : List D} (r : RdL W h vs ds) (f : flats ds = true) : RdL (fun a => W a ∨ X a) h vs ds := (Rd.avoid2 pl).2 _ _ r f
inductive Rel2 (R : D → D → Prop) : List (Str × D) → List (Str × D) → Prop
 | nil : Rel2 R [] []
 | cons {x : Str} {d e : D} {σ τ : List (Str × D)} : R d e → Rel2 R σ τ → Rel2 R ((x, d) :: σ) ((x, e) :: τ)
theorem Rel2.get {R : D → D → Prop} {σ τ : List (Str × D)} (s : Rel2 R σ τ) : ∀ {x : Str} {e : D}, τ.lookup x = some e → ∃ d, σ.lookup x = some d ∧ R d e := by
 induction s with
 | nil => intro x e q; cases q
 | @cons y _ _ _ _ r _ ih =>
  intro x e q
  rw [List.lookup_cons] at q ⊢
  cases z : x == y with
  | true => rw [z] at q; cases q; exact ⟨_, rfl, r⟩
  | false => rw [z] at q; exact ih q
theorem Rel2.refl {R : D → D → Prop} (h : ∀ d, R d d) : ∀ σ : List (Str × D), Rel2 R σ σ
 | [] => .nil
 | (x, d) :: r => .cons (h d) (Rel2.refl h r)
theorem Rel2.mono {R S : D → D → Prop} (h : ∀ d e, R d e → S d e) {σ τ : List (Str × D)} (s : Rel2 R σ τ) : Rel2 S σ τ := by
 induction s with
 | nil => exact .nil
 | cons r _ ih => exact .cons (h _ _ r) ih
mutual
inductive Res (c : Cx) (μ : List (Addr × Own)) : D → D → Prop
 | same (d : D) : Res c μ d d
 | lst {a : Addr} {l l' : List D} : (a, .l l) ∈ μ → ResL c μ l l' → Res c μ (.val (.ref a)) (.lst l')
 | dct {a : Addr} {kvs kvs' : List (Str × D)} : (a, .d kvs) ∈ μ → kvs.map (·.1) = kvs'.map (·.1) → ResL c μ (kvs.map (·.2)) (kvs'.map (·.2)) → Res c μ (.val (.ref a)) (.dct c.prog c.w kvs')
 | fld {k : Addr} {x : Str} {d e : D} : Res c μ d e → Res c μ (.ins k [(x, d)]) (.ins k [(x, e)])
inductive ResL (c : Cx) (μ : List (Addr × Own)) : List D → List D → Prop
 | nil : ResL c μ [] []
 | cons {d e : D} {l m : List D} : Res c μ d e → ResL c μ l m → ResL c μ (d :: l) (e :: m)
end
theorem ResL.same {c : Cx} {μ : List (Addr × Own)} : ∀ l : List D, ResL c μ l l
 | [] => .nil
 | d :: r => .cons (.same d) (ResL.same r)
noncomputable def NotOwn (W : Addr → Prop) (μ : List (Addr × Own)) (b : Addr) : Prop := W b ∧ ∀ o, (b, o) ∉ μ
theorem Res.rd {c : Cx} {W : Addr → Prop} {h : Heap} {μ : List (Addr × Own)} (own : ∀ a o, (a, o) ∈ μ → OwnAt c W h a o) {d e : D} (S : Res c μ d e) : ∀ {v : Value}, Rd W h v d → Rd (NotOwn W μ) h v e := by
 refine @Res.rec c μ (fun d e _ => ∀ {v : Value}, Rd W h v d → Rd (NotOwn W μ) h v e) (fun l m _ => ∀ {vs : List Value}, RdL W h vs l → RdL (NotOwn W μ) h vs m) ?_ ?_ ?_ ?_ ?_ ?_ d e S
 ·exact fun d v r => r.less fun b h => h.1
 ·intro a l l' hm _ ih v r
  cases r
  obtain ⟨vs, pl, rl⟩ := own _ _ hm
  exact .lst (fun q => q.2 _ hm) (toL pl) (ih rl)
 ·intro a kvs kvs' hm hk _ ih v r
  cases r
  obtain ⟨us, dt, ks, rl⟩ := own _ _ hm
  exact .dct (fun q => q.2 _ hm) dt (ih rl) ⟨ks.1.trans hk, ks.2⟩
 ·intro k x d e _ ih v r
  cases r with
  | ins ha hb ht ho hn hx hf =>
   refine .ins (fun q => ha q.1) (fun q => hb q.1) ht ho hn (fun y q => hx y ?_) ?_
   ·rw [List.lookup_cons] at q ⊢
    split at q
    ·cases q
    ·rfl
   ·cases hf with
    | cons e1 r1 _ => exact .cons e1 (ih r1) .nil
 ·intro vs r; cases r; exact .nil
 ·intro d e l m _ _ i1 i2 vs r
  cases r with
  | cons r1 r2 => exact .cons (i1 r1) (i2 r2)
section
variable {c : Cx} {A : Around} {s₀ : Shared} {W₀ Md W : Addr → Prop} {env : Env} {σ : List (Str × D)} {μ : List (Addr × Own)} {s : Shared} {E : Value → Shared → Prop}
theorem View.peek (V : View c W env σ s) {W' : Addr → Prop} {σ' : List (Str × D)} (hW : ∀ a, W' a → W a) (hσ : Rel2 (fun d0 d => ∀ v, Rd W s.heap v d0 → Rd W' s.heap v d) σ σ') : View c W' env σ' s :=
 ⟨V.base, fun a h => V.wold a (hW a h), V.tok, fun x d hx => let ⟨d0, h0, k⟩ := hσ.get hx; let ⟨v, b, r⟩ := V.vars x d0 h0; ⟨v, b, k v r⟩⟩
theorem Fr.look (F : Fr c s₀ W₀ Md W env σ μ s) {σ' : List (Str × D)} (hσ : Rel2 (Res c μ) σ σ') : View c (NotOwn W μ) env σ' s :=
 F.view.peek (fun _ h => h.1) (hσ.mono fun d e (S : Res c μ d e) v (hv : Rd W s.heap v d) => S.rd (fun a o h => (F.own a o h).2.2.2) hv)
theorem Fr.lookEv (F : Fr c s₀ W₀ Md W env σ μ s) {σ' : List (Str × D)} (hσ : Rel2 (Res c μ) σ σ') {e : Expr} {d : D} (he : Ev c A env σ' e d) (hf : flat1 d = true) :
  wpAny c.M A (eval e env) (fun v s' => Kt s s' ∧ Rd W s'.heap v d) E s :=
 wpAny_mono (he _ s E (F.look hσ)) (fun v s' q => ⟨q.1, q.2.any1 hf⟩) fun _ _ e => e
theorem Fr.lookTv (F : Fr c s₀ W₀ Md W env σ μ s) {σ' : List (Str × D)} (hσ : Rel2 (Res c μ) σ σ') {e : Expr} {b : Bool} {E : Value → Shared → Prop} (he : Tv c A env σ' e b) :
  wpAny c.M A (isTrue e env (eval e env)) (fun v s' => Kt s s' ∧ v = b) E s := he _ s E (F.look hσ)
theorem Fr.freezeAll (F : Fr c s₀ W₀ Md W env σ μ s) (hf : ∀ a o, (a, o) ∈ μ → s₀.heap.get? a = none) {σ' : List (Str × D)} (hσ : Rel2 (Res c μ) σ σ') : Fr c s₀ W₀ Md (NotOwn W μ) env σ' [] s :=
 {F with
  view := F.look hσ
  wn := fun b h => F.wn b h.1
  w0 := fun b h => ⟨F.w0 b h, fun o q => by obtain ⟨ob, e⟩ := F.w0old b h; rw [hf b o q] at e; cases e⟩
  loc := ⟨⟨F.loc.1, fun o q => (F.own _ o q).2.2.1 rfl⟩, F.loc.2⟩
  cell := fun x b h1 h2 => let ⟨p1, p2, u, p3⟩ := F.cell x b h1 h2; ⟨⟨p1, fun o q => (F.own b o q).2.2.2.ne_cell p3 rfl⟩, p2, u, p3⟩
  own := fun b k hb => nomatch hb
  nd := .nil }
theorem st_ifW (F : Fr c s₀ W₀ Md W env σ μ s) {t : Expr} {body orelse : List Stmt} {pos : Pos} {b : Bool} {Q : Flow → Shared → Prop} (ht : ∀ E, wpAny c.M A (isTrue t env (eval t env)) (fun v s' => Kt s s' ∧ v = b) E s)
  (h1 : b = true → ∀ s', Fr c s₀ W₀ Md W env σ μ s' → wpAny c.M A (execs body env) Q E s') (h2 : b = false → ∀ s', Fr c s₀ W₀ Md W env σ μ s' → wpAny c.M A (execs orelse env) Q E s') : wpAny c.M A (exec (.If t body orelse pos) env) Q E s :=
 wpAny_If (wpAny_mono (ht E) (fun v s₁ q => by
  obtain ⟨K, rfl⟩ := q
  cases v with
  | true => exact h1 rfl _ (F.keeps K)
  | false => exact h2 rfl _ (F.keeps K)) fun _ _ e => e)
theorem st_expr (F : Fr c s₀ W₀ Md W env σ μ s) {e : Expr} {pos : Pos} {d : D} {Q : Flow → Shared → Prop} (he : Ev c A env σ e d) (h : ∀ s', Fr c s₀ W₀ Md W env σ μ s' → Q .next s') (hi : interactive env = false := by rfl) (hs : swapsWith e none pos.line env = pure false := by rfl) :
  wpAny c.M A (exec (.Expr e pos) env) Q E s :=
 wpAny_Expr_any (he.use F.view fun v s₁ K₁ V₁ r₁ => h _ (F.keeps K₁)) hi hs
end
section
variable {prog : Program} {w : World} {A : Around} {E : Value → Shared → Prop} {s : Shared} {env : Env}
end
section
variable {c : Cx} {A : Around} {env : Env} {σ : List (Str × D)} {W : Addr → Prop} {s : Shared} {E : Value → Shared → Prop}
end
section
variable {c : Cx} {A : Around} {s : Shared} {W₀ Md : Addr → Prop} {E : Value → Shared → Prop}
end
section
variable {c : Cx} {A : Around} {s₀ : Shared} {W₀ Md W : Addr → Prop} {env : Env} {σ : List (Str × D)} {μ : List (Addr × Own)} {s : Shared} {E : Value → Shared → Prop}
theorem Fr.stand (F : Fr c s₀ W₀ Md W env σ μ s) {W' : Addr → Prop} {σ' : List (Str × D)} (hW : ∀ a, W' a → W a) (hM : ∀ a, Mine' env [] a → W' a) (hσ : Rel2 (fun d0 d => ∀ v, Rd W s.heap v d0 → Rd W' s.heap v d) σ σ') :
  Fr c s W' (Mine' env []) W' env σ' [] s :=
 {view := F.view.peek hW hσ
  base0 := F.view.base
  up := .refl s
  w0 := fun a h => h
  wn := fun a h => .inl h
  w0old := fun a h => F.view.wold a (hW a h)
  mdW := hM
  mdK := fun a h => F.kn (F.md_of (h.imp id (Or.imp id fun ⟨l, h⟩ => nomatch h))).2
  loc := ⟨hM _ (.inl rfl), .inl (.inl rfl)⟩
  ns := F.ns
  cell := fun x a h1 h2 => let ⟨q1, q2, q3⟩ := F.cell x a h1 h2; ⟨hM _ (.inr (.inl ⟨x, h1, h2⟩)), .inl (.inr (.inl ⟨x, h1, h2⟩)), q3⟩
  inj := F.inj
  own := fun a l h => nomatch h
  nd := .nil }
theorem Fr.rebaseX (F : Fr c s₀ W₀ Md W env σ μ s) {X : Addr → Prop} (hX : ∀ a, X a → W a ∧ c.K a = none) : Fr c s W (fun a => Mine' env μ a ∨ X a) W env σ μ s :=
 {F with
  base0 := F.view.base
  up := .refl s
  w0 := fun a h => h
  wn := fun a h => .inl h
  w0old := F.view.wold
  mdW := fun a h => h.elim (fun h => (F.md_of h).1) fun h => (hX a h).1
  mdK := fun a h => h.elim (fun h => F.kn (F.md_of h).2) fun h => (hX a h).2
  loc := ⟨F.loc.1, .inl (.inl (.inl rfl))⟩
  cell := fun x a h1 h2 => let ⟨q1, q2, q3⟩ := F.cell x a h1 h2; ⟨q1, .inl (.inl (.inr (.inl ⟨x, h1, h2⟩))), q3⟩
  own := fun a l h => let ⟨q1, q2, q3⟩ := F.own a l h; ⟨q1, .inl (.inl (.inr (.inr ⟨l, h⟩))), q3⟩ }
end
structure YT (c : Cx) (A : Around) (W : Addr → Prop) (s s' : Shared) (I : Addr) (fp wr : List Addr) (l : List D) (Pt : Nat → Array Value → Prop) (St : Nat → Heap → Prop) (Mid : Nat → Addr → Heap → Prop) : Prop where
 w : WalksT c.prog c.w A I fp wr l.length Pt St Mid
 st : St 0 s'.heap
 kt : Kt s s'
 me : I ∈ wr
 fresh : ∀ b ∈ wr, s.heap.get? b = none ∧ ∃ o, s'.heap.get? b = some o
 there : ∀ i h, (St i h ∨ ∃ T, Mid i T h) → ∀ b ∈ wr, (∃ o, h.get? b = some o) ∧ (∀ m, ¬ h.Ns b m) ∧ (∀ v, ¬ h.IsCell b v)
 fpo : ∀ b ∈ fp, b ∈ wr ∨ (¬ W b ∧ ∃ o, s.heap.get? b = some o) ∨ (s.heap.get? b = none ∧ ∃ o, s'.heap.get? b = some o)
 pt : ∀ i vals, i < l.length → Pt i vals → ∃ d e u v, l[i]? = some (.tup [d, e]) ∧ vals = #[u, v] ∧ Rd (fun b => W b ∨ b ∈ wr) s'.heap u d ∧ Rd (fun b => W b ∨ b ∈ wr) s'.heap v e
noncomputable def ItrE (c : Cx) (A : Around) (env : Env) (σ : List (Str × D)) (iter : Expr) (l : List D) : Prop :=
 ∀ (W : Addr → Prop) (s : Shared) (E : Value → Shared → Prop) (Q : Value → Shared → Prop), View c W env σ s →
  (∀ I fp wr Pt St Mid s', YT c A W s s' I fp wr l Pt St Mid → Q (.ref I) s') → wpAny c.M A (eval iter env) (fun x s₁ => wpAny c.M A (pyIter x) Q E s₁) E s
section
variable {c : Cx} {A : Around} {s₀ : Shared} {W₀ Md W : Addr → Prop} {env : Env} {σ : List (Str × D)} {μ : List (Addr × Own)} {s : Shared} {E : Value → Shared → Prop}
theorem Fr.scrapP (F : Fr c s₀ W₀ Md W env σ μ s) {Mo : Addr → Prop} {t : Shared} (U : Upd Mo s t) (hW : ∀ a, Mo a → W a) (h0 : ∀ a, Mo a → s₀.heap.get? a = none)
  (neL : ¬ Mo env.locals) (hc : ∀ a, Mo a → ∀ v, ¬ s.heap.IsCell a v) (hl : ∀ a o, Mo a → (a, o) ∉ μ) : Fr c s₀ W₀ Md (fun a => W a ∧ ¬ Mo a) env σ μ t := by
 obtain ⟨m, n⟩ := F.ns
 have less : ∀ a, W a ∧ ¬ Mo a → W a := fun a h => h.1
 have kk : ∀ b o, ¬ Mo b → s.heap.get? b = some o → t.heap.get? b = some o := U.keep
 exact { F with
  view := {
   base := fun a o e => kk a o (fun q => by rw [F.kn (.inr (h0 a q))] at e; cases e) (F.view.base a o e)
   wold := fun a h => let ⟨o, e⟩ := F.view.wold a h.1; ⟨o, kk a o h.2 e⟩
   tok := Nat.lt_of_lt_of_le F.view.tok U.tk
   vars := fun y e hy => by
    obtain ⟨u, b, ru⟩ := F.view.vars y e hy
    refine ⟨u, ?_, (U.rd hW ru).less less⟩
    unfold Bnd at b ⊢
    split at b
    ·obtain ⟨m₀, n₀, e₀⟩ := b; exact ⟨m₀, n₀.at fun o e => kk _ o neL e, e₀⟩
    ·obtain ⟨b, o, e1, e2, e3⟩ := b; exact ⟨b, o, e1, kk b o (fun q => hc b q _ (⟨o, e2, e3⟩ : s.heap.IsCell b (some u))) e2, e3⟩
    ·obtain ⟨b, o, e1, e2, e3⟩ := b; exact ⟨b, o, e1, kk b o (fun q => hc b q _ (⟨o, e2, e3⟩ : s.heap.IsCell b (some u))) e2, e3⟩
    ·exact b
    ·exact b }
  up := ⟨by obtain ⟨h1, t1, q1⟩ := F.up.eq; obtain ⟨h2, t2, q2⟩ := U.eq; exact ⟨h2, t2, by rw [q2, q1]⟩, Nat.le_trans F.up.tk U.tk, fun b o hb e => kk b o (fun q => by rw [h0 b q] at e; cases e) (F.up.keep b o hb e)⟩
  w0 := fun a h => ⟨F.w0 a h, fun q => by obtain ⟨o, e⟩ := F.w0old _ h; rw [h0 a q] at e; cases e⟩
  wn := fun a h => F.wn a h.1
  loc := ⟨⟨F.loc.1, neL⟩, F.loc.2⟩
  ns := ⟨m, n.at fun o e => kk _ o neL e⟩
  cell := fun y b h1 h2 => let ⟨p1, p2, u, p3⟩ := F.cell y b h1 h2; have ne : ¬ Mo b := fun q => hc b q _ p3; ⟨⟨p1, ne⟩, p2, u, IsCell.atK p3 fun o e => kk b o ne e⟩
  own := fun b k hb => let ⟨p1, p2, p3, p4⟩ := F.own b k hb; have ne : ¬ Mo b := fun q => hl b k q hb; ⟨⟨p1, ne⟩, p2, p3, p4.keep (fun o e => kk b o ne e) fun v d r => (U.rd hW r).less less⟩ }
theorem Fr.bumpQ (F : Fr c s₀ W₀ Md W env σ μ s) {Mo : Addr → Prop} {t : Shared} (U : Upd Mo s t) (hm : ∀ a, Mo a → W a) (h0 : ∀ a, Mo a → s₀.heap.get? a = none) (hex : ∀ a, Mo a → ∃ o, t.heap.get? a = some o)
  (neL : ¬ Mo env.locals) (hc : ∀ a, Mo a → ∀ v, ¬ s.heap.IsCell a v) (hl : ∀ a o, Mo a → (a, o) ∉ μ) : Fr c s₀ W₀ Md W env σ μ t := by
 obtain ⟨m, n⟩ := F.ns
 have kk : ∀ b o, ¬ Mo b → s.heap.get? b = some o → t.heap.get? b = some o := U.keep
 exact { F with
  view := F.view.upd U (fun b e => F.kn (.inr (h0 b e))) hex fun y e hy => by
   obtain ⟨u, b, ru⟩ := F.view.vars y e hy
   refine ⟨u, ?_, U.rd hm ru⟩
   unfold Bnd at b ⊢
   split at b
   ·obtain ⟨m₀, n₀, e₀⟩ := b; exact ⟨m₀, n₀.at fun o e => kk _ o neL e, e₀⟩
   ·obtain ⟨b, o, e1, e2, e3⟩ := b; exact ⟨b, o, e1, kk b o (fun q => hc b q _ (⟨o, e2, e3⟩ : s.heap.IsCell b (some u))) e2, e3⟩
   ·obtain ⟨b, o, e1, e2, e3⟩ := b; exact ⟨b, o, e1, kk b o (fun q => hc b q _ (⟨o, e2, e3⟩ : s.heap.IsCell b (some u))) e2, e3⟩
   ·exact b
   ·exact b
  up := ⟨by obtain ⟨h1, t1, q1⟩ := F.up.eq; obtain ⟨h2, t2, q2⟩ := U.eq; exact ⟨h2, t2, by rw [q2, q1]⟩, Nat.le_trans F.up.tk U.tk, fun b o hb e => kk b o (fun q => by rw [h0 b q] at e; cases e) (F.up.keep b o hb e)⟩
  ns := ⟨m, n.at fun o e => kk _ o neL e⟩
  cell := fun y b h1 h2 => let ⟨p1, p2, u, p3⟩ := F.cell y b h1 h2; ⟨p1, p2, u, IsCell.atK p3 fun o e => kk b o (fun q => hc b q _ p3) e⟩
  own := fun b k hb => let ⟨p1, p2, p3, p4⟩ := F.own b k hb; ⟨p1, p2, p3, p4.keep (fun o e => kk b o (fun q => hl b k q hb) e) fun v d r => U.rd hm r⟩ }
theorem st_forT (hh : A.handled = none) (ok : EnvOk env) (F : Fr c s₀ W₀ Md W env σ μ s) {x y : Str} {px py pt : Pos} {kk : Nat} {iter : Expr} {body : List Stmt} {pos : Pos} {l : List D} {Q : Flow → Shared → Prop} (hi : ItrE c A env σ iter l) (hx : Nm env x) (hy : Nm env y)
  (Inv : Nat → List (Str × D) → List (Addr × Own) → Prop) (h0 : Inv 0 σ μ)
  (hbody : ∀ i d e σ₁ μ₁, l[i]? = some (.tup [d, e]) → Inv i σ₁ μ₁ → ∀ (s₁ s₂ : Shared) (W₁ W₂ Md₁ : Addr → Prop) (E : Value → Shared → Prop), Fr c s₁ W₁ Md₁ W₂ env ((y, e) :: (x, d) :: σ₁) μ₁ s₂ →
   wpAny c.M A (execs body env) (fun f s' => match f with
    | .next | .cont => ∃ σ₂ μ₂ W', Inv (i + 1) σ₂ μ₂ ∧ Fr c s₁ W₁ Md₁ W' env σ₂ μ₂ s'
    | .brk => False
    | .ret v => False) E s₂)
  (hQ : ∀ σ₂ μ₂ s' W', Inv l.length σ₂ μ₂ → Fr c s₀ W₀ Md W' env σ₂ μ₂ s' → Q .next s')
  (hs : ∀ x, foldedSetIterable iter env x = pure x := by intro _; rfl) : wpAny c.M A (exec (.For (.Tuple [.Name x px, .Name y py] kk pt) iter body [] pos) env) Q E s := by
 refine wpAny_For (hi W s E _ F.view fun I fp wr Pt St Mid s₂ Y => ?_) hs
 have hWR : ∀ b, (W b ∨ b ∈ wr) → W b ∨ s.heap.get? b = none := fun b h => h.imp id fun q => (Y.fresh b q).1
 have F₂ := F.growK (W' := fun b => W b ∨ b ∈ wr) Y.kt (fun b h => .inl h) hWR (fun b h => by
  rcases h with h | h
  ·obtain ⟨o, e⟩ := F.view.wold b h; exact ⟨o, Y.kt.heap _ _ e⟩
  ·exact (Y.fresh b h).2)
 have noMine : ∀ b ∈ fp, (∃ o, s₂.heap.get? b = some o) ∧ ¬ Mine' env μ b := by
  intro b hb
  rcases Y.fpo b hb with h | ⟨h, o, e⟩ | ⟨h, o, e⟩
  ·refine ⟨(Y.fresh b h).2, fun m => ?_⟩
   obtain ⟨o, e⟩ := F.view.wold _ (F.md_of m).1
   rw [(Y.fresh b h).1] at e; cases e
  ·exact ⟨⟨o, Y.kt.heap _ _ e⟩, fun m => h (F.md_of m).1⟩
  ·refine ⟨⟨o, e⟩, fun m => ?_⟩
   obtain ⟨o, e'⟩ := F.view.wold _ (F.md_of m).1
   rw [h] at e'; cases e'
 have wrf : ∀ b ∈ wr, s₀.heap.get? b = none := fun b hb => F.fresh (Y.fresh b hb).1
 have rdP := Y.pt
 have yw := Y.w
 have yth := Y.there
 have yst := Y.st
 have yme := Y.me
 generalize hWI : (fun b => W b ∨ b ∈ wr) = WI at F₂ rdP
 have WIw : ∀ b ∈ wr, WI b := fun b hb => by subst hWI; exact .inr hb
 clear Y
 refine codeAny_forLoop_any (fun k s' => ∃ i σ₁ μ₁ W', i ≤ l.length ∧ k = l.length + 1 - i ∧ Inv i σ₁ μ₁ ∧ Fr c s₀ W₀ Md W' env σ₁ μ₁ s' ∧ St i s'.heap ∧ (∀ b ∈ fp, (∃ o, s'.heap.get? b = some o) ∧ ¬ Mine' env μ₁ b) ∧ (∀ b ∈ wr, W' b) ∧
   (∀ j vals, j < l.length → Pt j vals → ∃ d e u v, l[j]? = some (.tup [d, e]) ∧ vals = #[u, v] ∧ Rd W' s'.heap u d ∧ Rd W' s'.heap v e)) ?_ (l.length + 1)
  ⟨0, σ, μ, WI, Nat.zero_le _, rfl, h0, F₂, yst, noMine, WIw, rdP⟩
 rintro k s' ⟨i, σ₁, μ₁, W', hile, rfl, hinv, G, st', nm, WI', rd'⟩
 have hwr : ∀ b ∈ wr, b ∈ fp := yw.sub
 have neL' : ¬ (env.locals ∈ wr) := fun q => (nm _ (hwr _ q)).2 (.inl rfl)
 have noO : ∀ a o, a ∈ wr → (a, o) ∉ μ₁ := fun a o q h => (nm _ (hwr _ q)).2 (.inr (.inr ⟨o, h⟩))
 have cl' : ∀ a ∈ wr, ∀ v, ¬ s'.heap.IsCell a v := fun a q => (yth i _ (.inl st') a q).2.2
 by_cases hlt : i < l.length
 ·have h0 : wpAny c.M A (pyNext (.ref I)) (fun r s₁ => s'.toks ≤ s₁.toks ∧ ∃ T vals, r = some (.ref T) ∧ Pt i vals ∧ s'.heap.objs.size ≤ T ∧ s₁.heap.IsTuple T vals ∧ Mid i T s₁.heap ∧ (∃ h tk, s₁ = { s' with heap := h, toks := tk }) ∧ ∀ b o, b ∉ wr → s'.heap.get? b = some o → s₁.heap.get? b = some o) (NB c A env fun r s' => match r with | .ok f => Q f s' | .error e => cameBackBy c.M A env E e s') s' :=
   wpAny_mono (wpAny_toks_of (E := NB c A env fun r s' => match r with | .ok f => Q f s' | .error e => cameBackBy c.M A env E e s') (Nat.le_refl s'.toks) (yw.item i s' (fun r s₁ => ∃ T vals, r = some (.ref T) ∧ Pt i vals ∧ s'.heap.objs.size ≤ T ∧ s₁.heap.IsTuple T vals ∧ Mid i T s₁.heap ∧ (∃ h tk, s₁ = { s' with heap := h, toks := tk }) ∧ ∀ b o, b ∉ wr → s'.heap.get? b = some o → s₁.heap.get? b = some o) _ hlt st'
    fun T vals h' tk hP hT hle hm hk => ⟨T, vals, rfl, hP, hT, hle, hm, ⟨_, _, rfl⟩, hk⟩)) (fun _ _ q => q) fun _ _ q => q.2
  refine wpAny_mono h0 (fun r t q => ?_) fun _ _ e => e
  obtain ⟨tk₁, T, vals, rfl, hv, hle, hT, hm, eq₁, k₁⟩ := q
  refine yw.go [.Name x px, .Name y py] kk pt i T t _ _ hm fun h' st₁ k₂ => ?_
  have hTw : T ∉ wr := yw.apart i T _ hm
  have UI : Upd (fun b => b ∈ wr) s' { t with heap := h' } := ⟨by obtain ⟨h1, t1, q1⟩ := eq₁; exact ⟨h', t1, by rw [q1]⟩, tk₁, fun b o n e => k₂ b o n (k₁ b o n e)⟩
  have hT2 : h'.IsTuple T vals := by obtain ⟨o, e, r⟩ := hT; exact ⟨o, k₂ T o hTw e, r⟩
  have hT3 : ({ t with heap := h' } : Shared).heap.IsTuple T vals := hT2
  have st₁' : St (i + 1) ({ t with heap := h' } : Shared).heap := st₁
  show wpAny c.M A (assign (.Tuple [.Name x px, .Name y py] kk pt) env (.ref T)) _ _ { t with heap := h' }
  generalize ({ t with heap := h' } : Shared) = t2 at UI hT3 st₁' ⊢
  have ex2 : ∀ a ∈ wr, ∃ o, t2.heap.get? a = some o := fun a q => (yth (i + 1) _ (.inl st₁') a q).1
  have G' := G.bumpQ UI WI' wrf ex2 neL' cl' noO
  have rdt : ∀ j vals, j < l.length → Pt j vals → ∃ d e u v, l[j]? = some (.tup [d, e]) ∧ vals = #[u, v] ∧ Rd W' t2.heap u d ∧ Rd W' t2.heap v e := fun j vals hj hu => let ⟨d, e, u, v, a1, a2, a3, a4⟩ := rd' j vals hj hu; ⟨d, e, u, v, a1, a2, UI.rd WI' a3, UI.rd WI' a4⟩
  have nmt : ∀ b ∈ fp, (∃ o, t2.heap.get? b = some o) ∧ ¬ Mine' env μ₁ b := fun b hb => by
   obtain ⟨⟨o, e⟩, q⟩ := nm b hb
   by_cases z : b ∈ wr
   ·exact ⟨ex2 b z, q⟩
   ·exact ⟨⟨o, UI.keep b o z e⟩, q⟩
  obtain ⟨d, e, u, v, hd, hvals, ru, rv⟩ := rdt i vals hlt hv
  have rT : Rd W' t2.heap (.ref T) (.tup [d, e]) := .tup (fun h => by
   obtain ⟨o, e⟩ := G.view.wold T h
   exact absurd (Heap.lt_size e) (Nat.not_lt.mpr hle)) hT3 (by rw [hvals]; exact .cons ru (.cons rv .nil))
  refine (TgtF.pair hx hy).set ok hh G'.rebase rT fun t₂ H _ => ?_
  ·refine wpAny_mono (hbody i d e σ₁ μ₁ hd hinv _ _ _ _ _ _ H) (fun f t₃ q => ?_) fun _ _ e => e
   have next : (∃ σ₂ μ₂ W'', Inv (i + 1) σ₂ μ₂ ∧ Fr c t2 W' (Mine' env μ₁) W'' env σ₂ μ₂ t₃) → ∃ m, m < l.length + 1 - i ∧ ∃ i σ₁ μ₁ W', i ≤ l.length ∧ m = l.length + 1 - i ∧ Inv i σ₁ μ₁ ∧ Fr c s₀ W₀ Md W' env σ₁ μ₁ t₃ ∧ St i t₃.heap ∧ (∀ b ∈ fp, (∃ o, t₃.heap.get? b = some o) ∧ ¬ Mine' env μ₁ b) ∧ (∀ b ∈ wr, W' b) ∧
     (∀ j vals, j < l.length → Pt j vals → ∃ d e u v, l[j]? = some (.tup [d, e]) ∧ vals = #[u, v] ∧ Rd W' t₃.heap u d ∧ Rd W' t₃.heap v e) := by
    rintro ⟨σ₂, μ₂, W'', hinv', J⟩
    have tr : ∀ {v : Value} {d : D}, Rd W' t2.heap v d → Rd W'' t₃.heap v d := fun r => by
     have r2 : Rd (fun a => W' a ∨ W'' a) t2.heap _ _ := r.grow fun a h => h.elim .inl (J.wn a)
     exact (J.up.rd (W := fun a => W' a ∨ W'' a) (fun a m => .inl (G'.md_of m).1) r2).less fun a h => .inr h
    refine ⟨l.length + 1 - (i + 1), by omega, i + 1, σ₂, μ₂, W'', hlt, rfl, hinv', G'.compose J, ?_, ?_, fun b hb => J.w0 _ (WI' b hb), ?_⟩
    ·exact yw.frame _ _ _ st₁' fun b hb o e => J.up.keep b o (nmt b hb).2 e
    ·intro b hb
     obtain ⟨⟨o, e⟩, q⟩ := nmt b hb
     refine ⟨⟨o, J.up.keep b o q e⟩, fun m => ?_⟩
     rcases (J.md_of m).2 with z | z
     ·exact q z
     ·rw [e] at z; cases z
    ·intro j vals hj hu
     obtain ⟨d', e', u', v', a1, a2, a3, a4⟩ := rdt j vals hj hu
     exact ⟨d', e', u', v', a1, a2, tr a3, tr a4⟩
   cases f with
   | next => exact next q
   | cont => exact next q
   | brk => exact q.elim
   | ret v => exact q.elim
 ·have hieq : i = l.length := by omega
  subst hieq
  have h0 : wpAny c.M A (pyNext (.ref I)) (fun r s₁ => s'.toks ≤ s₁.toks ∧ r = none ∧ (∃ h tk, s₁ = { s' with heap := h, toks := tk }) ∧ ∀ b o, b ∉ wr → s'.heap.get? b = some o → s₁.heap.get? b = some o) (NB c A env fun r s' => match r with | .ok f => Q f s' | .error e => cameBackBy c.M A env E e s') s' :=
   wpAny_mono (wpAny_toks_of (E := NB c A env fun r s' => match r with | .ok f => Q f s' | .error e => cameBackBy c.M A env E e s') (Nat.le_refl s'.toks) (yw.done s' (fun r s₁ => r = none ∧ (∃ h tk, s₁ = { s' with heap := h, toks := tk }) ∧ ∀ b o, b ∉ wr → s'.heap.get? b = some o → s₁.heap.get? b = some o) _ st'
    fun h' tk hk => ⟨rfl, ⟨_, _, rfl⟩, hk⟩)) (fun _ _ q => q) fun _ _ q => q.2
  refine wpAny_mono h0 (fun r t q => ?_) fun _ _ e => e
  obtain ⟨tk₁, rfl, eq₁, k₁⟩ := q
  have UI : Upd (fun b => b ∈ wr) s' t := ⟨eq₁, tk₁, fun b o n e => k₁ b o n e⟩
  exact wpAny_execs_nil (hQ σ₁ μ₁ t _ hinv (G.scrapP UI WI' wrf neL' cl' noO))
end
noncomputable def enumD (l : List D) : List D := l.zipIdx.map fun p => .tup [.int (p.2 : Int), p.1]
theorem enumD_len (l : List D) : (enumD l).length = l.length := by unfold enumD; simp
theorem enumD_at {l : List D} {i : Nat} {d : D} (h : l[i]? = some d) : (enumD l)[i]? = some (.tup [.int (i : Int), d]) := by
 unfold enumD
 rw [List.getElem?_map, List.getElem?_zipIdx, h]; simp
section
variable {c : Cx} {A : Around} {env : Env} {σ : List (Str × D)}
theorem fields_no {h : Heap} {I : Addr} {o : Obj} {vs : Array Value} (e1 : h.get? I = some o) (e3 : o.data = .fields vs) :
  (∃ o, h.get? I = some o) ∧ (∀ m, ¬ h.Ns I m) ∧ (∀ v, ¬ h.IsCell I v) := ⟨⟨_, e1⟩, (iter_ne e1 e3).1, (iter_ne e1 e3).2⟩
theorem ItrE.enum (hh : A.handled = none) {x : Str} {np p : Pos} {e : Expr} {l : List D} (hf : Ev c A env σ (.Name x np) (.val (.type "enumerate"))) (hs : starEach [e] env = [(false, eval e env)]) (he : Ev c A env σ e (.lst l)) : ItrE c A env σ (.Call (.Name x np) [e] [] p) (enumD l) := fun W s E Q V h =>
 Call_name1 hs (hf.use V fun f s₁ k₁ V₁ r₁ => by
  cases r₁
  refine PySem.callWith_type1 (he.use V₁ fun v s₂ k₂ V₂ r₂ => ?_)
  cases r₂ with
  | lst ha ht hr =>
   rename_i a vs
   have hl := ht.isList
   have la : a < s₂.heap.objs.size := by obtain ⟨o, e, _⟩ := hl; exact Heap.lt_size e
   have el : vs.size = l.length := by rw [← hr.length]; simp
   have kk := k₁.trans k₂
   have Wk := WalksT.enumerate (prog := c.prog) (w := c.w) hh (s₂.heap.objs.size + 1) s₂.heap.objs.size a (Nat.succ_ne_self _) (Nat.ne_of_lt (Nat.lt_succ_of_lt la)) (Nat.ne_of_lt la) vs
   rw [el, ← enumD_len l] at Wk
   refine call_enumerate_list hl fun h' hE hI hsz hk => wpAny_pyIter_enum hE (h (s₂.heap.objs.size + 1) [s₂.heap.objs.size + 1, s₂.heap.objs.size, a] [s₂.heap.objs.size + 1, s₂.heap.objs.size] _ _ _ { s₂ with heap := h' }
    {w := Wk
     st := ⟨⟨_, by simpa using hE⟩, hI, hl.at fun o e => hk a o e⟩
     kt := kk.trans ⟨.with hk, Nat.le_refl _⟩
     me := List.mem_cons_self ..
     fresh := fun b hb => ?_
     there := fun i g hg b hb => ?_
     fpo := fun b hb => ?_
     pt := fun i vals hi hp => ?_ })
   ·have none_of : ∀ b, s₂.heap.objs.size ≤ b → s.heap.get? b = none := fun b hb => by
     cases q : s.heap.get? b with
     | none => rfl
     | some o => exact absurd (Heap.lt_size (kk.heap _ _ q)) (Nat.not_lt.mpr hb)
    simp only [List.mem_cons, List.not_mem_nil, or_false] at hb
    rcases hb with rfl | rfl
    ·exact ⟨none_of _ (Nat.le_succ _), _, hE⟩
    ·obtain ⟨o, e, _⟩ := hI; exact ⟨none_of _ (Nat.le_refl _), o, e⟩
   ·simp only [List.mem_cons, List.not_mem_nil, or_false] at hb
    rcases hg with ⟨⟨old, g1⟩, ⟨o, g2, _, g3⟩, _⟩ | ⟨T, ⟨y, g1⟩, ⟨o, g2, _, g3⟩, _⟩
    ·rcases hb with rfl | rfl
     ·exact fields_no g1 rfl
     ·exact fields_no g2 g3
    ·rcases hb with rfl | rfl
     ·exact fields_no g1 rfl
     ·exact fields_no g2 g3
   ·simp only [List.mem_cons, List.not_mem_nil, or_false] at hb
    rcases hb with rfl | rfl | rfl
    ·exact .inl (List.mem_cons_self ..)
    ·exact .inl (List.mem_cons_of_mem _ (List.mem_cons_self ..))
    ·cases q : s.heap.get? b with
     | some o => exact .inr (.inl ⟨ha, o, rfl⟩)
     | none => obtain ⟨o, e, _⟩ := hl; exact .inr (.inr ⟨rfl, o, hk _ _ e⟩)
   ·obtain ⟨t, y, hy, rfl⟩ := hp
    rw [enumD_len] at hi
    obtain ⟨d, hd⟩ : ∃ d, l[i]? = some d := ⟨l[i], by simp [hi]⟩
    obtain ⟨v', hv', rv⟩ := hr.get hd
    rw [Array.getElem?_toList, hy] at hv'
    cases hv'
    refine ⟨_, d, _, _, enumD_at hd, rfl, .int _ _, ?_⟩
    have gr : ∀ b, (W b ∨ b ∈ [s₂.heap.objs.size + 1, s₂.heap.objs.size]) → W b ∨ s₂.heap.get? b = none := fun b hb => hb.imp id fun q => by
     simp only [List.mem_cons, List.not_mem_nil, or_false] at q
     rcases q with rfl | rfl
     ·cases z : s₂.heap.get? (s₂.heap.objs.size + 1) with
      | none => rfl
      | some o => exact absurd (Heap.lt_size z) (Nat.not_lt.mpr (Nat.le_succ _))
     ·exact size_none
    exact (rv.grow gr).keeps hk)
end
theorem seq_no {h : Heap} {I : Addr} {o : Obj} {vs : Array Value} {n : Nat} (e1 : h.get? I = some o) (e3 : o.data = .seq vs n) :
  (∃ o, h.get? I = some o) ∧ (∀ m, ¬ h.Ns I m) ∧ (∀ v, ¬ h.IsCell I v) := by
 refine ⟨⟨_, e1⟩, ?_, ?_⟩
 ·rintro m ⟨o', es, ep, q1, q2, _⟩; rw [e1] at q1; cases q1; rw [e3] at q2; cases q2
 ·rintro v ⟨o', q1, q2⟩; rw [e1] at q1; cases q1; rw [e3] at q2; cases q2
theorem pairsOf_at {a b : List D} {i : Nat} {x y : D} (hx : a[i]? = some x) (hy : b[i]? = some y) : (pairsOf a b)[i]? = some (.tup [x, y]) := by
 unfold pairsOf
 rw [List.getElem?_map, (List.getElem?_zip_eq_some (z := (x, y))).mpr ⟨hx, hy⟩]; rfl
theorem pairsOf_len {a b : List D} : (pairsOf a b).length = min a.length b.length := by unfold pairsOf; simp
section
variable {c : Cx} {A : Around} {env : Env} {σ : List (Str × D)}
theorem ItrE.zip (hh : A.handled = none) {x : Str} {np p : Pos} {e f : Expr} {dx dy : List D} (hz : Ev c A env σ (.Name x np) (.val (.type "zip"))) (hs2 : starEach [e, f] env = [(false, eval e env), (false, eval f env)])
  (he : Ev c A env σ e (.lst dx)) (hf : Ev c A env σ f (.lst dy)) : ItrE c A env σ (.Call (.Name x np) [e, f] [] p) (pairsOf dx dy) := fun W s E Q V h =>
 wpAny_Call_Name_kw (hz.use V fun v s₂ K₂ V₂ r₂ => by
  cases r₂
  rw [hs2]
  refine PySem.callWith_type (by rfl) (Calls.evalArgs_plain (wpAny_mono (EvL.cons (t := eval e env) he (EvL.cons (t := eval f env) hf EvL.nil) W s₂ E V₂) (fun vs s₃ q => ?_) fun _ _ e => e))
  obtain ⟨K₃, r₃⟩ := q
  have V₃ := V₂.keeps K₃
  have KK := K₂.trans K₃
  clear V₂ K₂ K₃
  cases r₃ with
  | cons ra r₃ =>
   cases r₃ with
   | cons rb r₃ =>
    cases r₃
    cases ra with
    | lst ha hta hra =>
     cases rb with
     | lst hb htb hrb =>
      rename_i l1 xs l2 ys
      have h1 := hta.isList
      have h2 := htb.isList
      have lt1 : l1 < s₃.heap.objs.size := by obtain ⟨o, e, _⟩ := h1; exact Heap.lt_size e
      have lt2 : l2 < s₃.heap.objs.size := by obtain ⟨o, e, _⟩ := h2; exact Heap.lt_size e
      have e1 : xs.size = dx.length := by rw [← hra.length]; simp
      have e2 : ys.size = dy.length := by rw [← hrb.length]; simp
      have Wk := WalksT.zip2 (prog := c.prog) (w := c.w) hh _ _ _ _ _ l1 l2 (apartN s₃.heap.objs.size l1 l2 lt1 lt2) xs ys
      rw [e1, e2, ← pairsOf_len] at Wk
      refine call_zip_2 h1 h2 fun h' z ti tO i1 i2 sz kp => wpAny_pyIter_zip z (h _ [s₃.heap.objs.size + 4, s₃.heap.objs.size + 2, s₃.heap.objs.size + 3, s₃.heap.objs.size, s₃.heap.objs.size + 1, l1, l2] [s₃.heap.objs.size + 4, s₃.heap.objs.size + 3, s₃.heap.objs.size, s₃.heap.objs.size + 1] _ _ _ { s₃ with heap := h' }
       {w := Wk
        st := ⟨z, ti, ⟨_, _, tO⟩, i1, i2, h1.at fun o e => kp _ o e, h2.at fun o e => kp _ o e⟩
        kt := KK.trans ⟨.with kp, Nat.le_refl _⟩
        me := List.mem_cons_self ..
        fresh := fun b hb => ?_
        there := fun i g hg b hb => ?_
        fpo := fun b hb => ?_
        pt := fun i vals hi hp => ?_ })
      ·have none_of : ∀ b, s₃.heap.objs.size ≤ b → s.heap.get? b = none := fun b hb => by
        cases q : s.heap.get? b with
        | none => rfl
        | some o => exact absurd (Heap.lt_size (KK.heap _ _ q)) (Nat.not_lt.mpr hb)
       simp only [List.mem_cons, List.not_mem_nil, or_false] at hb
       rcases hb with rfl | rfl | rfl | rfl
       ·exact ⟨none_of _ (Nat.le_add_right _ _), _, z⟩
       ·exact ⟨none_of _ (Nat.le_add_right _ _), _, tO⟩
       ·obtain ⟨o, e, _⟩ := i1; exact ⟨none_of _ (Nat.le_refl _), o, e⟩
       ·obtain ⟨o, e, _⟩ := i2; exact ⟨none_of _ (Nat.le_add_right _ _), o, e⟩
      ·simp only [List.mem_cons, List.not_mem_nil, or_false] at hb
       rcases hg with ⟨g1, _, ⟨_, _, g3⟩, ⟨o4, g4, _, d4⟩, ⟨o5, g5, _, d5⟩, _⟩ | ⟨T, g1, _, ⟨_, _, g3⟩, ⟨o4, g4, _, d4⟩, ⟨o5, g5, _, d5⟩, _⟩
       ·rcases hb with rfl | rfl | rfl | rfl
        ·exact fields_no g1 rfl
        ·exact seq_no g3 rfl
        ·exact fields_no g4 d4
        ·exact fields_no g5 d5
       ·rcases hb with rfl | rfl | rfl | rfl
        ·exact fields_no g1 rfl
        ·exact seq_no g3 rfl
        ·exact fields_no g4 d4
        ·exact fields_no g5 d5
      ·have old : ∀ l vs, s₃.heap.IsList l vs → ¬ W l → (¬ W l ∧ ∃ o, s.heap.get? l = some o) ∨ (s.heap.get? l = none ∧ ∃ o, h'.get? l = some o) := fun l vs hl hw => by
        cases q : s.heap.get? l with
        | some o => exact .inl ⟨hw, o, rfl⟩
        | none => obtain ⟨o, e, _⟩ := hl; exact .inr ⟨rfl, o, kp _ _ e⟩
       simp only [List.mem_cons, List.not_mem_nil, or_false] at hb
       rcases hb with rfl | rfl | rfl | rfl | rfl | rfl | rfl
       ·exact .inl (by simp)
       ·refine .inr (.inr ⟨?_, _, ti⟩)
        cases q : s.heap.get? (s₃.heap.objs.size + 2) with
        | none => rfl
        | some o => exact absurd (Heap.lt_size (KK.heap _ _ q)) (Nat.not_lt.mpr (Nat.le_add_right _ _))
       ·exact .inl (by simp)
       ·exact .inl (by simp)
       ·exact .inl (by simp)
       ·exact .inr (old _ _ h1 ha)
       ·exact .inr (old _ _ h2 hb)
      ·obtain ⟨u, v, hu, hv, rfl⟩ := hp
       rw [pairsOf_len] at hi
       obtain ⟨d, hd⟩ : ∃ d, dx[i]? = some d := ⟨dx[i]'(Nat.lt_of_lt_of_le hi (Nat.min_le_left ..)), List.getElem?_eq_getElem _⟩
       obtain ⟨d', hd'⟩ : ∃ d, dy[i]? = some d := ⟨dy[i]'(Nat.lt_of_lt_of_le hi (Nat.min_le_right ..)), List.getElem?_eq_getElem _⟩
       obtain ⟨u', hu', ru⟩ := hra.get hd
       obtain ⟨v', hv', rv⟩ := hrb.get hd'
       rw [Array.getElem?_toList, hu] at hu'
       rw [Array.getElem?_toList, hv] at hv'
       cases hu'; cases hv'
       have gr : ∀ b, (W b ∨ b ∈ [s₃.heap.objs.size + 4, s₃.heap.objs.size + 3, s₃.heap.objs.size, s₃.heap.objs.size + 1]) → W b ∨ s₃.heap.get? b = none := fun b hb => hb.imp id fun q => by
        have : s₃.heap.objs.size ≤ b := by
         simp only [List.mem_cons, List.not_mem_nil, or_false] at q
         rcases q with rfl | rfl | rfl | rfl
         ·exact Nat.le_add_right _ _
         ·exact Nat.le_add_right _ _
         ·exact Nat.le_refl _
         ·exact Nat.le_add_right _ _
        cases z : s₃.heap.get? b with
        | none => rfl
        | some o => exact absurd (Heap.lt_size z) (Nat.not_lt.mpr this)
       exact ⟨d, d', _, _, pairsOf_at hd hd', rfl, (ru.grow gr).keeps kp, (rv.grow gr).keeps kp⟩)
end
section
variable {c : Cx} {A : Around} {env : Env} {σ : List (Str × D)}
theorem comp_coreT {W : Addr → Prop} {elt iter : Expr} {x y : Str} {px py pt : Pos} {kk : Nat} {ifs : List Expr} {scope : Scope} {pos : Pos} {cl : List (Str × Addr)} {l : List D} {p : D → Bool} {f : D → D} {σc : List (Str × D)} {fp wr : List Addr} {Pt : Nat → Array Value → Prop} {St : Nat → Heap → Prop} {Mid : Nat → Addr → Heap → Prop}
  {I : Addr} {s₂ : Shared} {RR : Value → Addr → Result → Shared → Prop} {E : Value → Shared → Prop} (hh : A.handled = none) (ok : EnvOk env)
  (Yw : WalksT c.prog c.w A I fp wr l.length Pt St Mid) (Yth : ∀ i h, (St i h ∨ ∃ T, Mid i T h) → ∀ b ∈ wr, (∃ o, h.get? b = some o) ∧ (∀ m, ¬ h.Ns b m) ∧ (∀ v, ¬ h.IsCell b v)) (hst : St 0 s₂.heap) (V : View c W env σ s₂) (hI : ∀ b ∈ wr, W b) (hIK : ∀ b ∈ wr, c.K b = none)
  (hfp : ∀ b ∈ fp, ∃ o, s₂.heap.get? b = some o) (hP : ∀ i vals, i < l.length → Pt i vals → ∃ d e u v, l[i]? = some (.tup [d, e]) ∧ vals = #[u, v] ∧ Rd W s₂.heap u d ∧ Rd W s₂.heap v e) (hn : l.length ≤ 1000000)
  (hcell : ∀ y ∈ scope.names, y.2 ≠ .cell) (hkind : scope.kind = .function) (cap : Cap env scope cl σ σc)
  (hx : ∀ C, (compEnvC scope cl C env).kindOf x = some .local) (hy : ∀ C, (compEnvC scope cl C env).kindOf y = some .local)
  (step : ∀ C d e, .tup [d, e] ∈ l → Ts c A (compEnvC scope cl C env) ((y, e) :: (x, d) :: σc) ifs (p (.tup [d, e])) ∧ (p (.tup [d, e]) = true → Ev c A (compEnvC scope cl C env) ((y, e) :: (x, d) :: σc) elt (f (.tup [d, e]))))
  (hRR : ∀ B C s', s₂.heap.get? B = none → s₂.heap.get? C = none → B ≠ C → (∃ m, s'.heap.Ns C m) → Upd (fun b => b ∈ wr) s₂ s' →
   (∃ ys, s'.heap.PlainList B ys ∧ RdL (fun a => W a ∨ a = C ∨ a = B) s'.heap ys.toList ((l.filter p).map f)) → RR (.ref B) C (.ok .next) s') :
  wpAny c.M A (newList []) (fun acc s₃ => wpAny c.M A (newFunctionEnv scope env.globals cl [] env.qual none .none (some env)) (fun cenv s₄ =>
   codeAny c.M A (.compStart (.ListComp elt [⟨.Tuple [.Name x px, .Name y py] kk pt, iter, ifs, 0⟩] scope pos) 0 (.ref I) acc { cenv with scope := relabel scope env }) (RR acc cenv.locals) s₄) E s₃) E s₂ := by
 refine wpAny_newObj_type (wpAny_newFunctionEnv hcell (by intro y hy; simp at hy) (fun h₁ hns₁ hsb₁ => ?_) hkind)
 dsimp only at hns₁ hsb₁ ⊢
 generalize hH2 : s₂.heap.push { cls := .type "list", dict := none, data := .seq ([] : List Value).toArray } = H2 at hns₁ hsb₁ ⊢
 have hC : H2.objs.size = s₂.heap.objs.size + 1 := by rw [← hH2, Heap.size_push]
 have fresh : ∀ a, s₂.heap.objs.size ≤ a → s₂.heap.get? a = none := fun a ha => by
  cases e : s₂.heap.get? a with
  | none => rfl
  | some o' => exact absurd (Heap.lt_size e) (Nat.not_lt.mpr ha)
 have old : ∀ b o, s₂.heap.get? b = some o → h₁.get? b = some o := fun b o e =>
  hsb₁.extBut b o (by have := Heap.lt_size e; rw [hC]; exact Nat.ne_of_lt (Nat.lt_succ_of_lt this)) (Heap.get?_push_of_some _ (hH2 ▸ Heap.get?_push_of_some _ e))
 have hBC : s₂.heap.objs.size ≠ H2.objs.size := by rw [hC]; exact Nat.ne_of_lt (Nat.lt_succ_self _)
 have hacc : h₁.PlainList s₂.heap.objs.size #[] := ⟨_, hsb₁.extBut _ _ hBC (Heap.get?_push_of_some _ (hH2 ▸ Heap.get?_push_size _ rfl))⟩
 have freshB : s₂.heap.get? s₂.heap.objs.size = none := fresh _ (Nat.le_refl _)
 have freshC : s₂.heap.get? H2.objs.size = none := fresh _ (by rw [hC]; exact Nat.le_succ _)
 have main : ∀ (B C : Addr) (s₃ : Shared), B ≠ C → s₂.heap.get? B = none → s₂.heap.get? C = none → Upd (fun _ => False) s₂ s₃ → s₃.heap.PlainList B #[] → (∃ m, s₃.heap.Ns C m) →
   codeAny c.M A (.compLoop (.ListComp elt [⟨.Tuple [.Name x px, .Name y py] kk pt, iter, ifs, 0⟩] scope pos) 0 (.ref I) (.ref B) (compEnvC scope cl C env)) (RR (.ref B) C) s₃ := by
  clear hBC freshB freshC hacc old fresh hC hns₁ hsb₁ hH2 H2 h₁
  intro B C s₃ hBC freshB freshC U₃ acc₃ ns₃
  have exW : ∀ b ∈ wr, ∃ o, s₂.heap.get? b = some o := fun b hb => V.wold b (hI b hb)
  have hIB : B ∉ wr := fun q => by obtain ⟨o, e⟩ := exW _ q; rw [freshB] at e; cases e
  have hIC : C ∉ wr := fun q => by obtain ⟨o, e⟩ := exW _ q; rw [freshC] at e; cases e
  have Kfresh : ∀ a, s₂.heap.get? a = none → c.K a = none := fun a e => by
   cases e' : c.K a with
   | none => rfl
   | some o => rw [V.base a o e'] at e; cases e
  have st₃ : St 0 s₃.heap := Yw.frame _ _ _ hst fun b _ o e => U₃.keep b o id e
  have hRR' := hRR B C
  generalize hW' : (fun a => W a ∨ a = C ∨ a = B) = W' at hRR'
  have okc : EnvOk (compEnvC scope cl C env) := compEnvC_ok ok hkind
  have W'loc : W' C := by subst hW'; exact .inr (.inl rfl)
  have W'I : ∀ b ∈ wr, W' b := fun b hb => by subst hW'; exact .inl (hI b hb)
  have W'B : W' B := by subst hW'; exact .inr (.inr rfl)
  have WW' : ∀ a, W' a → W a ∨ s₂.heap.get? a = none := fun a h => by
   subst hW'
   rcases h with h | rfl | rfl
   ·exact .inl h
   ·exact .inr freshC
   ·exact .inr freshB
  have capV : ∀ s', Upd (fun b => b ∈ wr ∨ b = C ∨ b = B) s₂ s' → (∀ b ∈ wr, ∃ o, s'.heap.get? b = some o) → (∃ o, s'.heap.get? C = some o) → (∃ o, s'.heap.get? B = some o) → View c W' (compEnvC scope cl C env) σc s' := by
   intro s' U e1 e2 e3
   have keepNot : ∀ b o, s₂.heap.get? b = some o → b ∉ wr → s'.heap.get? b = some o := fun b o e n =>
    U.keep b o (by
     rintro (q | rfl | rfl)
     ·exact n q
     ·rw [freshC] at e; cases e
     ·rw [freshB] at e; cases e) e
   refine ⟨fun a o e => keepNot a o (V.base a o e) (fun q => by rw [hIK _ q] at e; cases e), ?_, Nat.lt_of_lt_of_le V.tok U.tk, ?_⟩
   ·intro a h
    by_cases z : a ∈ wr
    ·exact e1 a z
    ·rcases WW' a h with h | h
     ·obtain ⟨o, e⟩ := V.wold a h; exact ⟨o, keepNot a o e z⟩
     ·subst hW'
      rcases h with h | rfl | rfl
      ·obtain ⟨o, e⟩ := V.wold a h; exact ⟨o, keepNot a o e z⟩
      ·exact e2
      ·exact e3
   ·intro x d hx
    obtain ⟨h1, h2, h3, h4⟩ := cap.h x d hx
    obtain ⟨v, b, r⟩ := V.vars x d h1
    refine ⟨v, ?_, U.rd (fun a h => by rcases h with h | rfl | rfl; exact W'I a h; assumption; assumption) (r.grow WW')⟩
    have b' : ∃ a o, env.cells.lookup x = some a ∧ s₂.heap.get? a = some o ∧ o.data = .cell (some v) := by
     unfold Bnd at b
     rcases h2 with h2 | h2 <;> (rw [h2] at b; exact b)
    obtain ⟨a, o, q1, q2, q3⟩ := b'
    have ne : a ∉ wr := fun q => (Yth 0 _ (.inl hst) a q).2.2 _ ⟨o, q2, q3⟩
    have kk : (compEnvC scope cl C env).kindOf x = some .free ∨ (compEnvC scope cl C env).kindOf x = some .cell := lookup_relabel_free (env := env) h3
    unfold Bnd
    rcases kk with kk | kk
    ·rw [kk]; exact ⟨a, o, h4.trans q1, keepNot a o q2 ne, q3⟩
    ·rw [kk]; exact ⟨a, o, h4.trans q1, keepNot a o q2 ne, q3⟩
  have kC : c.K C = none := Kfresh _ freshC
  have exB : ∀ (h : Heap) (ys : Array Value), h.PlainList B ys → ∃ o, h.get? B = some o := fun h ys q => by obtain ⟨n, e⟩ := q; exact ⟨_, e⟩
  have exC : ∀ h : Heap, (∃ m, h.Ns C m) → ∃ o, h.get? C = some o := fun h q => by obtain ⟨m, o, _, _, e, _⟩ := q; exact ⟨o, e⟩
  have exI : ∀ (h : Heap) (i : Nat), St i h → ∀ b ∈ wr, ∃ o, h.get? b = some o := fun h i st b hb => (Yth i h (.inl st) b hb).1
  have fpNot : ∀ b ∈ fp, b ≠ B ∧ b ≠ C := fun b hb => by
   obtain ⟨o, e⟩ := hfp b hb
   refine ⟨fun q => ?_, fun q => ?_⟩
   ·subst q; exact absurd (freshB.symm.trans e) (by simp)
   ·subst q; exact absurd (freshC.symm.trans e) (by simp)
  obtain ⟨Iv, hIv⟩ : ∃ Iv : Nat → Shared → Prop, ∀ k s', Iv k s' ↔ (∃ i ys, i ≤ l.length ∧ k = l.length + 1 - i ∧ Upd (fun b => b ∈ wr ∨ b = C ∨ b = B) s₂ s' ∧ St i s'.heap ∧ s'.heap.PlainList B ys ∧ RdL W' s'.heap ys.toList (((l.take i).filter p).map f) ∧ (∃ m, s'.heap.Ns C m)) := ⟨_, fun _ _ => Iff.rfl⟩
  refine compLoop_any Iv ?_ (l.length + 1) ((hIv _ _).mpr ⟨0, #[], Nat.zero_le _, rfl, U₃.mono (fun a h => h.elim), st₃, acc₃, .nil, ns₃⟩)
  rintro k s' hk0
  obtain ⟨i, ys, hi, rfl, U, st, pl, ry, ns⟩ := (hIv _ _).mp hk0
  clear hk0
  by_cases hlt : i < l.length
  ·have h0 : wpAny c.M A (pyNext (.ref I)) (fun r s₁ => s'.toks ≤ s₁.toks ∧ ∃ T vals, r = some (.ref T) ∧ Pt i vals ∧ s'.heap.objs.size ≤ T ∧ s₁.heap.IsTuple T vals ∧ Mid i T s₁.heap ∧ (∃ h tk, s₁ = { s' with heap := h, toks := tk }) ∧ ∀ b o, b ∉ wr → s'.heap.get? b = some o → s₁.heap.get? b = some o) (NB c A (compEnvC scope cl C env) (RR (.ref B) C)) s' :=
    wpAny_mono (wpAny_toks_of (E := NB c A (compEnvC scope cl C env) (RR (.ref B) C)) (Nat.le_refl s'.toks) (Yw.item i s' (fun r s₁ => ∃ T vals, r = some (.ref T) ∧ Pt i vals ∧ s'.heap.objs.size ≤ T ∧ s₁.heap.IsTuple T vals ∧ Mid i T s₁.heap ∧ (∃ h tk, s₁ = { s' with heap := h, toks := tk }) ∧ ∀ b o, b ∉ wr → s'.heap.get? b = some o → s₁.heap.get? b = some o) _ hlt st
     fun T vals h' tk hP hT hle hm hk => ⟨T, vals, rfl, hP, hT, hle, hm, ⟨_, _, rfl⟩, hk⟩)) (fun _ _ q => q) fun _ _ q => q.2
   refine wpAny_mono h0 (fun r s₀' q => ?_) fun _ _ e => e
   obtain ⟨tk₁, T, vals, rfl, hv, hle, hT, hmid, eq₁, k₁⟩ := q
   refine Yw.go [.Name x px, .Name y py] kk pt i T s₀' _ _ hmid fun h' stg kg => ?_
   have hTw : T ∉ wr := Yw.apart i T _ hmid
   have U₁ : Upd (fun b => b ∈ wr) s' { s₀' with heap := h' } := ⟨by obtain ⟨h1, t1, q1⟩ := eq₁; exact ⟨h', t1, by rw [q1]⟩, tk₁, fun b o n e => kg b o n (k₁ b o n e)⟩
   have hT3 : ({ s₀' with heap := h' } : Shared).heap.IsTuple T vals := by obtain ⟨o, e, r⟩ := hT; exact ⟨o, kg T o hTw e, r⟩
   have st₁ : St (i + 1) ({ s₀' with heap := h' } : Shared).heap := stg
   show wpAny c.M A (assign (.Tuple [.Name x px, .Name y py] kk pt) (compEnvC scope cl C env) (.ref T)) _ _ { s₀' with heap := h' }
   generalize ({ s₀' with heap := h' } : Shared) = s₁ at U₁ hT3 st₁ ⊢
   have UU₁ := U.trans (U₁.mono (fun a h => .inl h))
   obtain ⟨d₁, e₁, u₁, v₁, hd, hvals, rd1, rd2⟩ := hP i vals hlt hv
   obtain ⟨tst, el⟩ := step C d₁ e₁ (List.mem_of_getElem? hd)
   have pl₁ : s₁.heap.PlainList B ys := pl.at fun o e => U₁.keep B o hIB e
   have ns₁ : ∃ m, s₁.heap.Ns C m := by obtain ⟨m, n⟩ := ns; exact ⟨m, n.at fun o e => U₁.keep C o hIC e⟩
   have V₁ := capV s₁ UU₁ (exI _ _ st₁) (exC _ ns₁) (exB _ _ pl₁)
   have hmU : ∀ a, (a ∈ wr ∨ a = C ∨ a = B) → W' a := fun a h => by rcases h with h | rfl | rfl; exact W'I a h; assumption; assumption
   have nT : ¬ W' T := fun h => by
    obtain ⟨o, e⟩ := (capV s' U (exI _ _ st) (exC _ ns) (exB _ _ pl)).wold T h
    exact absurd (Heap.lt_size e) (Nat.not_lt.mpr hle)
   have r₁ : Rd W' s₁.heap (.ref T) (.tup [d₁, e₁]) := .tup nT hT3 (by rw [hvals]; exact .cons (UU₁.rd hmU (rd1.grow WW')) (.cons (UU₁.rd hmU (rd2.grow WW')) .nil))
   have ry₁ : RdL W' s₁.heap ys.toList (((l.take i).filter p).map f) := U₁.rdL W'I ry
   refine (Tgt.pair (hx C) (hy C)).set okc hh V₁ W'loc kC ns₁ r₁ fun s₂' V₂ U₂ ns₂ => ?_
   have U₂' : Upd (fun b => b = C) s₁ s₂' := U₂
   have pl₂ : s₂'.heap.PlainList B ys := pl₁.at fun o e => U₂'.keep B o hBC e
   have ry₂ := U₂'.rdL (fun a h => by subst h; exact W'loc) ry₁
   have st₂ : St (i + 1) s₂'.heap := Yw.frame _ _ _ st₁ fun b hb o e => U₂'.keep b o (fpNot b hb).2 e
   have UU₂ := UU₁.trans (U₂'.mono (fun a h => .inr (.inl h)))
   refine wpAny_mono (tst W' s₂' _ V₂) (fun ok s₃' q => ?_) fun _ _ e => e
   obtain ⟨K₃, rfl⟩ := q
   have UU₃ := UU₂.trans (.of K₃)
   have pl₃ := pl₂.at fun o e => K₃.heap B o e
   have ry₃ := ry₂.keeps K₃.heap
   have st₃ : St (i + 1) s₃'.heap := Yw.frame _ _ _ st₂ fun b _ o e => K₃.heap b o e
   have ns₃ : ∃ m, s₃'.heap.Ns C m := by obtain ⟨m, n⟩ := ns₂; exact ⟨m, n.keeps K₃.heap⟩
   have V₃ := V₂.keeps K₃
   cases hpd : p (.tup [d₁, e₁]) with
   | false =>
    rw [if_neg (by simp)]
    refine ⟨l.length + 1 - (i + 1), by omega, (hIv _ _).mpr ⟨i + 1, ys, hlt, rfl, UU₃, st₃, pl₃, ?_, ns₃⟩⟩
    rw [outs_succ p f l i (.tup [d₁, e₁]) hd, hpd]; simpa using ry₃
   | true =>
    rw [if_pos rfl]
    refine (el hpd).use V₃ fun y s₄ K₄ V₄ r₄ => ?_
    have pl₄ := pl₃.at fun o e => K₄.heap B o e
    have hys : ys.size ≤ sizeLine := by
     have e1 := ry.length
     have e2 : (((l.take i).filter p).map f).length ≤ l.length := by
      rw [List.length_map]
      exact Nat.le_trans (List.length_filter_le _ _) (by rw [List.length_take]; omega)
     rw [Array.length_toList] at e1
     rw [sizeLine_eq]; omega
    refine wpAny_list_append_plain (hsz := hys) pl₄ fun h₅ pl₅ sb₅ => ?_
    have U₅ : Upd (fun b => b = B) s₄ { s₄ with heap := h₅ } := ⟨⟨_, s₄.toks, rfl⟩, Nat.le_refl _, fun b o n e => sb₅.extBut b o n e⟩
    refine ⟨l.length + 1 - (i + 1), by omega, (hIv _ _).mpr ⟨i + 1, ys.push y, hlt, rfl, (UU₃.trans (.of K₄)).trans (U₅.mono fun a h => .inr (.inr h)), ?_, pl₅, ?_, ?_⟩⟩
    ·exact Yw.frame _ _ _ st₃ fun b hb o e => U₅.keep b o (fpNot b hb).1 (K₄.heap b o e)
    ·rw [outs_succ p f l i (.tup [d₁, e₁]) hd, hpd, Array.toList_push]
     exact (U₅.rdL (fun a h => by subst h; exact W'B) (ry₃.keeps K₄.heap)).app (.cons (U₅.rd (fun a h => by subst h; exact W'B) r₄) .nil)
    ·obtain ⟨m, n⟩ := ns₃; exact ⟨m, (n.keeps K₄.heap).at fun o e => U₅.keep C o (Ne.symm hBC) e⟩
  ·have hieq : i = l.length := by omega
   subst hieq
   have h0 : wpAny c.M A (pyNext (.ref I)) (fun r s₁ => s'.toks ≤ s₁.toks ∧ r = none ∧ (∃ h tk, s₁ = { s' with heap := h, toks := tk }) ∧ ∀ b o, b ∉ wr → s'.heap.get? b = some o → s₁.heap.get? b = some o) (NB c A (compEnvC scope cl C env) (RR (.ref B) C)) s' :=
    wpAny_mono (wpAny_toks_of (E := NB c A (compEnvC scope cl C env) (RR (.ref B) C)) (Nat.le_refl s'.toks) (Yw.done s' (fun r s₁ => r = none ∧ (∃ h tk, s₁ = { s' with heap := h, toks := tk }) ∧ ∀ b o, b ∉ wr → s'.heap.get? b = some o → s₁.heap.get? b = some o) _ st
     fun h' tk hk => ⟨rfl, ⟨_, _, rfl⟩, hk⟩)) (fun _ _ q => q) fun _ _ q => q.2
   refine wpAny_mono h0 (fun r s₁ q => ?_) fun _ _ e => e
   obtain ⟨tk₁, rfl, eq₁, k₁⟩ := q
   have U₁ : Upd (fun b => b ∈ wr) s' s₁ := ⟨eq₁, tk₁, fun b o n e => k₁ b o n e⟩
   have UU := U.trans (U₁.mono (fun a h => .inl h))
   refine hRR' s₁ freshB freshC hBC ?_ ⟨UU.eq, UU.tk, fun b o n e => ?_⟩ ⟨ys, pl.at fun o e => k₁ B o hIB e, ?_⟩
   ·obtain ⟨m, n⟩ := ns; exact ⟨m, n.at fun o e => k₁ C o hIC e⟩
   ·refine UU.keep b o ?_ e
    rintro (q | q | q)
    ·exact n q
    ·subst q; exact absurd (freshC.symm.trans e) (by simp)
    ·subst q; exact absurd (freshB.symm.trans e) (by simp)
   ·rw [List.take_length] at ry
    exact U₁.rdL W'I ry
 exact codeAny_compStart_list (main _ _ _ hBC freshB freshC ⟨⟨_, _, rfl⟩, Nat.le_add_right _ _, fun b o _ e => old b o e⟩ hacc ⟨_, hns₁⟩)
  (Yw.self 0 _ _ _ (Yw.frame _ _ _ hst fun b _ o e => old b o e) (main _ _ _ hBC freshB freshC ⟨⟨_, _, rfl⟩, Nat.le_add_right _ _, fun b o _ e => old b o e⟩ hacc ⟨_, hns₁⟩))
end
section
variable {c : Cx} {A : Around} {env : Env} {σ : List (Str × D)} {W : Addr → Prop} {s : Shared}
theorem comp_preT {elt iter : Expr} {x y : Str} {px py pt : Pos} {kk : Nat} {ifs : List Expr} {scope : Scope} {pos : Pos} {cl : List (Str × Addr)} {l : List D} {p : D → Bool} {f : D → D} {σc : List (Str × D)} {RR : Value → Addr → Result → Shared → Prop} {E : Value → Shared → Prop}
  (hh : A.handled = none) (ok : EnvOk env) (hi : ItrE c A env σ iter l) (hn : l.length ≤ 1000000)
  (hcell : ∀ y ∈ scope.names, y.2 ≠ .cell) (hkind : scope.kind = .function) (cap : Cap env scope cl σ σc) (hx : ∀ C, (compEnvC scope cl C env).kindOf x = some .local) (hy : ∀ C, (compEnvC scope cl C env).kindOf y = some .local)
  (step : ∀ C d e, .tup [d, e] ∈ l → Ts c A (compEnvC scope cl C env) ((y, e) :: (x, d) :: σc) ifs (p (.tup [d, e])) ∧ (p (.tup [d, e]) = true → Ev c A (compEnvC scope cl C env) ((y, e) :: (x, d) :: σc) elt (f (.tup [d, e]))))
  (V : View c W env σ s)
  (hRR : ∀ B C s' ys, Upd (fun _ => False) s s' → s.heap.get? B = none → s.heap.get? C = none → B ≠ C → (∃ m, s'.heap.Ns C m) → s'.heap.PlainList B ys → RdL (fun a => W a ∨ a = C ∨ a = B) s'.heap ys.toList ((l.filter p).map f) → RR (.ref B) C (.ok .next) s') :
  wpAny c.M A (eval iter env) (fun xv s₁ => wpAny c.M A (pyIter xv) (fun it s₂ => wpAny c.M A (newList []) (fun acc s₃ => wpAny c.M A (newFunctionEnv scope env.globals cl [] env.qual none .none (some env)) (fun cenv s₄ =>
   codeAny c.M A (.compStart (.ListComp elt [⟨.Tuple [.Name x px, .Name y py] kk pt, iter, ifs, 0⟩] scope pos) 0 it acc { cenv with scope := relabel scope env }) (RR acc cenv.locals) s₄) E s₃) E s₂) E s₁) E s := by
 refine hi W s E _ V fun I fp wr Pt St Mid s₂ Y => ?_
 have gr : ∀ a, (W a ∨ a ∈ wr) → W a ∨ s.heap.get? a = none := fun a h => h.imp id fun q => (Y.fresh a q).1
 have KK := Y.kt
 refine comp_coreT (W := fun a => W a ∨ a ∈ wr) hh ok Y.w Y.there Y.st (V.growK KK gr fun a h => ?_) (fun b hb => .inr hb) (fun b hb => V.kfresh (Y.fresh b hb).1) (fun b hb => ?_) Y.pt hn hcell hkind cap hx hy step fun B C s' hB hC hBC ns U ⟨ys, pl, ry⟩ => ?_
 ·rcases h with h | h
  ·obtain ⟨o, e⟩ := V.wold a h; exact ⟨o, KK.heap _ _ e⟩
  ·exact (Y.fresh a h).2
 ·rcases Y.fpo b hb with h | ⟨_, o, e⟩ | ⟨_, h⟩
  ·exact (Y.fresh b h).2
  ·exact ⟨o, KK.heap _ _ e⟩
  ·exact h
 ·have back : ∀ a, s₂.heap.get? a = none → s.heap.get? a = none := fun a e => by
   cases q : s.heap.get? a with
   | none => rfl
   | some o => rw [KK.heap _ _ q] at e; cases e
  refine hRR B C s' ys ⟨?_, Nat.le_trans KK.tk U.tk, fun b o _ e => U.keep b o (fun q => by rw [(Y.fresh b q).1] at e; cases e) (KK.heap b o e)⟩ (back B hB) (back C hC) hBC ns pl ?_
  ·obtain ⟨h1, t1, q1⟩ := KK.eq
   obtain ⟨h2, t2, q2⟩ := U.eq
   exact ⟨h2, t2, by rw [q2, q1]⟩
  ·exact ry.mono (fun b o _ e => e) fun b o n _ h => n (by rcases h with h | h; exact .inl (.inl h); exact .inr h)
theorem Ev.compT {elt iter : Expr} {x y : Str} {px py pt : Pos} {kk : Nat} {ifs : List Expr} {scope : Scope} {pos : Pos} {cl : List (Str × Addr)} {l : List D} {p : D → Bool} {f : D → D} {σc : List (Str × D)}
  (hh : A.handled = Option.none) (ok : EnvOk env) (hi : ItrE c A env σ iter l) (hn : l.length ≤ 1000000)
  (hclos : closureFor scope env = pure cl) (hcell : ∀ y ∈ scope.names, y.2 ≠ .cell) (hkind : scope.kind = .function) (hnames : ∀ y ∈ scope.names, y.2 = .local → scope.names.lookup y.1 = some .local) (cap : Cap env scope cl σ σc)
  (hx : ∀ C, (compEnvC scope cl C env).kindOf x = some .local) (hy : ∀ C, (compEnvC scope cl C env).kindOf y = some .local)
  (step : ∀ C d e, .tup [d, e] ∈ l → Ts c A (compEnvC scope cl C env) ((y, e) :: (x, d) :: σc) ifs (p (.tup [d, e])) ∧ (p (.tup [d, e]) = true → Ev c A (compEnvC scope cl C env) ((y, e) :: (x, d) :: σc) elt (f (.tup [d, e]))))
  (hs : ∀ x, foldedSetIterable iter env x = pure x := by intro _; rfl) : Ev c A env σ (.ListComp elt [⟨.Tuple [.Name x px, .Name y py] kk pt, iter, ifs, 0⟩] scope pos) (.lst ((l.filter p).map f)) := .intro fun W s E V => by
 rw [eval_ListComp]
 refine wpAny_comprehension_free (use := Option.none) rfl hs hclos hkind hnames (comp_preT (RR := fun acc C => compPost c.M A E Option.none _ acc C) hh ok hi hn hcell hkind cap hx hy step V fun B C s' ys U hB hC hBC ns pl ry => ?_)
 obtain ⟨m, ns⟩ := ns
 refine ⟨m, ns, fun h' sb => ⟨⟨?_, fun b o e => sb.extBut b o (fun q => by rw [q, hC] at e; cases e) (U.keep b o id e)⟩, comp_list V U hB hBC pl ry fun b o n e => sb.extBut b o n e⟩⟩
 obtain ⟨h1, t1, q1⟩ := U.eq
 exact ⟨h', t1, by rw [q1]⟩
end
section
variable {c : Cx} {A : Around} {s₀ : Shared} {W₀ Md W : Addr → Prop} {env : Env} {σ : List (Str × D)} {μ : List (Addr × Own)} {s : Shared} {E : Value → Shared → Prop}
theorem st_usedT (hh : A.handled = none) (ok : EnvOk env) (F : Fr c s₀ W₀ Md W env σ μ s) {elt iter : Expr} {a b : Str} {pa pb pt : Pos} {kk : Nat} {ifs : List Expr} {scope : Scope} {pos spos py : Pos} {cl : List (Str × Addr)} {l : List D} {p : D → Bool} {f : D → D} {σc : List (Str × D)} {y : Str} {Q : Flow → Shared → Prop}
  (hi : ItrE c A env σ iter l) (hn : l.length ≤ 1000000)
  (hsw : swapsWith (.ListComp elt [⟨.Tuple [.Name a pa, .Name b pb] kk pt, iter, ifs, 0⟩] scope pos) (some (.Name y py)) spos.line env = pure true)
  (hclos : closureFor scope env = pure cl) (hcell : ∀ y ∈ scope.names, y.2 ≠ .cell) (hkind : scope.kind = .function) (hnames : ∀ y ∈ scope.names, y.2 = .local → scope.names.lookup y.1 = some .local) (cap : Cap env scope cl σ σc)
  (ha : ∀ C, (compEnvC scope cl C env).kindOf a = some .local) (hb : ∀ C, (compEnvC scope cl C env).kindOf b = some .local)
  (step : ∀ C d e, .tup [d, e] ∈ l → Ts c A (compEnvC scope cl C env) ((b, e) :: (a, d) :: σc) ifs (p (.tup [d, e])) ∧ (p (.tup [d, e]) = true → Ev c A (compEnvC scope cl C env) ((b, e) :: (a, d) :: σc) elt (f (.tup [d, e]))))
  (hy : env.kindOf y = some .local) (h : ∀ s' W', Fr c s₀ W₀ Md W' env ((y, .lst ((l.filter p).map f)) :: σ) μ s' → Q .next s')
  (hs : ∀ x, foldedSetIterable iter env x = pure x := by intro _; rfl) : wpAny c.M A (exec (.Assign [.Name y py] (.ListComp elt [⟨.Tuple [.Name a pa, .Name b pb] kk pt, iter, ifs, 0⟩] scope pos) spos) env) Q E s := by
 rw [exec_Assign_Name_used _ _ _ _ hsw]
 refine wpAny_bind (wpAny_standAt (wpAny_bind ?_))
 show wpAny _ A (do let _ ← comprehension (.ListComp elt [⟨.Tuple [.Name a pa, .Name b pb] kk pt, iter, ifs, 0⟩] scope pos) scope env _ (newList []) false (eval iter env) (some (assign (.Name y py) env))) _ _ s
 refine wpAny_bind (wpAny_mono (wpAny_comprehension_free (use := some (assign (.Name y py) env)) (Q := fun _ s' => Q .next s') rfl hs hclos hkind hnames
  (comp_preT (RR := fun acc C => compPost c.M A E (some (assign (.Name y py) env)) (fun _ s' => Q .next s') acc C) hh ok hi hn hcell hkind cap ha hb step F.view fun B C s' ys U hB hC hBC ns pl ry => ?_)) (fun _ s' hq => wpAny_pure (wpAny_pure hq)) fun _ _ e => e)
 show wpAny _ A (assign (.Name y py) env (.ref B)) _ _ _
 have K := U.kt
 have hWn : ∀ a, (W a ∨ a = C) → W a ∨ s.heap.get? a = none := fun a h => h.elim .inl fun q => .inr (by rw [q]; exact hC)
 have exC : ∃ o, s'.heap.get? C = some o := by obtain ⟨m, o, _, _, e, _⟩ := ns; exact ⟨o, e⟩
 have F₁ := F.growK (W' := fun a => W a ∨ a = C) K (fun a h => .inl h) hWn (fun a h => by
  rcases h with h | rfl
  ·obtain ⟨o, e⟩ := F.view.wold a h; exact ⟨o, K.heap _ _ e⟩
  ·exact exC)
 have nWB : ¬ (W B ∨ B = C) := fun h => h.elim (F.view.new hB) hBC
 have r₁ : Rd (fun a => W a ∨ a = C) s'.heap (.ref B) (.lst ((l.filter p).map f)) := .lst nWB (toL pl) (ry.less fun a h => by rcases h with h | h; exact .inl h; exact .inr (.inl h))
 have nsL : env.locals ≠ C := fun q => by
  obtain ⟨m, o, _, _, e, _⟩ := F.ns
  rw [q, hC] at e; cases e
 refine wpAny_assign_Name (F₁.set ok (.inl hy) r₁ fun s₂ F₂ U₂ => ?_)
 have nC : ¬ Mine' env [] C := by
  rintro (q | ⟨x, q1, q2⟩ | ⟨_, q⟩)
  ·exact nsL q.symm
  ·obtain ⟨_, _, v, o, e, _⟩ := F.cell x C q1 q2; rw [hC] at e; cases e
  ·cases q
 obtain ⟨m, n⟩ := ns
 have n₂ : s₂.heap.Ns C m := n.at fun o e => U₂.keep C o nC e
 refine ⟨m, n₂, fun h' sb => ?_⟩
 have U₃ : Upd (fun b => b = C) s₂ { s₂ with heap := h' } := ⟨⟨h', s₂.toks, rfl⟩, Nat.le_refl _, fun b o n e => sb.extBut b o n e⟩
 exact h _ _ (F₂.scrap U₃ (.inr rfl) (F.view.kfresh hC) (F.fresh hC) nsL (fun v q => cell_ne_ns q n₂ rfl) (fun o q => by
  obtain ⟨_, _, _, x⟩ := F.own C o q
  obtain ⟨ob, e⟩ := x.ex
  rw [hC] at e; cases e))
end
noncomputable def dset (kvs : List (Str × D)) (k : Str) (d : D) : List (Str × D) :=
 if kvs.any (fun kv => kv.1 = k) then kvs.map (fun kv => if kv.1 = k then (kv.1, d) else kv) else kvs ++ [(k, d)]
theorem keys_any {us : List (Str × Value)} {kvs : List (Str × D)} {k : Str} (h : us.map (·.1) = kvs.map (·.1)) : us.any (fun kv => kv.1 = k) = kvs.any (fun kv => kv.1 = k) := by
 induction us generalizing kvs with
 | nil => cases kvs with | nil => rfl | cons => simp at h
 | cons u us ih =>
  cases kvs with
  | nil => simp at h
  | cons q kvs =>
   simp only [List.map_cons, List.cons.injEq] at h
   rw [List.any_cons, List.any_cons, ih h.2, h.1]
theorem swap_rd {W : Addr → Prop} {hh : Heap} {v : Value} {d : D} {k : Str} (r : Rd W hh v d) : ∀ {us : List (Str × Value)} {kvs : List (Str × D)}, us.map (·.1) = kvs.map (·.1) → RdL W hh (us.map (·.2)) (kvs.map (·.2)) →
  (us.map (fun kv => if kv.1 = k then (kv.1, v) else kv)).map (·.1) = (kvs.map (fun kv => if kv.1 = k then (kv.1, d) else kv)).map (·.1) ∧ RdL W hh ((us.map (fun kv => if kv.1 = k then (kv.1, v) else kv)).map (·.2)) ((kvs.map (fun kv => if kv.1 = k then (kv.1, d) else kv)).map (·.2))
 | [], [], _, _ => ⟨rfl, .nil⟩
 | [], _ :: _, h, _ => by simp at h
 | _ :: _, [], h, _ => by simp at h
 | u :: us, q :: kvs, h, rl => by
  simp only [List.map_cons, List.cons.injEq] at h
  rw [List.map_cons, List.map_cons] at rl
  cases rl with
  | cons r1 r2 =>
   obtain ⟨a1, a2⟩ := swap_rd r h.2 r2
   simp only [List.map_cons]
   by_cases z : u.1 = k
   ·rw [if_pos z, if_pos (h.1 ▸ z)]
    exact ⟨by rw [a1, h.1], .cons r a2⟩
   ·rw [if_neg z, if_neg (h.1 ▸ z)]
    exact ⟨by rw [a1, h.1], .cons r1 a2⟩
theorem stored_rd {W : Addr → Prop} {hh : Heap} {v : Value} {d : D} {k : Str} {us : List (Str × Value)} {kvs : List (Str × D)} (r : Rd W hh v d) (h : us.map (·.1) = kvs.map (·.1)) (rl : RdL W hh (us.map (·.2)) (kvs.map (·.2))) :
  (stored us k v).map (·.1) = (dset kvs k d).map (·.1) ∧ RdL W hh ((stored us k v).map (·.2)) ((dset kvs k d).map (·.2)) := by
 unfold stored dset
 rw [keys_any h]
 split
 ·exact swap_rd r h rl
 ·rw [List.map_append, List.map_append, List.map_append, List.map_append, h]
  exact ⟨rfl, rl.app (.cons r .nil)⟩
section
variable {c : Cx} {A : Around} {s₀ : Shared} {W₀ Md W : Addr → Prop} {env : Env} {σ : List (Str × D)} {μ : List (Addr × Own)} {s : Shared} {E : Value → Shared → Prop}
theorem st_newdict (ok : EnvOk env) (F : Fr c s₀ W₀ Md W env σ μ s) {x : Str} {px pos dp : Pos} {Q : Flow → Shared → Prop} (hk : Nm env x)
  (h : ∀ a s', s₀.heap.get? a = none → Fr c s₀ W₀ Md (fun b => W b ∨ b = a) env ((x, .val (.ref a)) :: σ) ((a, .d []) :: μ) s' → Q .next s') : wpAny c.M A (exec (.Assign [.Name x px] (.Dict [] [] dp) pos) env) Q E s := by
 refine wpAny_Assign_Name (wpAny_Dict_empty ?_)
 have ha : s.heap.get? s.heap.objs.size = none := size_none
 have G := F.adoptO (s' := { s with heap := s.heap.push { cls := .type "dict", data := .dict #[] } }) (a := s.heap.objs.size) (o := .d []) ⟨.push _, Nat.le_refl _⟩ ha ⟨[], Heap.DictOf.new _, ⟨rfl, by
  obtain ⟨mc, ⟨o, _, _, e, _⟩, _⟩ := c.hl _ F.view.base
  have := Heap.lt_size e
  have e2 : cStatics = 2 := rfl
  have e3 : sysModules = 1 := rfl
  rw [e2] at this
  rw [e3]
  exact beq_false_of_ne fun q => absurd this (by rw [q]; decide)⟩, .nil⟩
 exact G.set ok hk (.val _) fun s' F' _ => h _ s' (F.fresh ha) F'
theorem st_dictset (F : Fr c s₀ W₀ Md W env σ μ s) {o i value : Expr} {pos' pos : Pos} {a : Addr} {kvs : List (Str × D)} {k : Str} {d : D} {μ₁ μ₂ : List (Addr × Own)} {Q : Flow → Shared → Prop} (hv : Ev c A env σ value d) (ho : Ev c A env σ o (.val (.ref a))) (hi : Ev c A env σ i (.str k)) (hμ : μ = μ₁ ++ (a, .d kvs) :: μ₂) (hn : kvs.length ≤ 1000000)
  (h : ∀ s', Fr c s₀ W₀ Md W env σ (μ₁ ++ (a, .d (dset kvs k d)) :: μ₂) s' → Q .next s') (hs : swapsWith value (some (.Subscript o i pos')) pos.line env = pure false := by rfl) :
  wpAny c.M A (exec (.Assign [.Subscript o i pos'] value pos) env) Q E s :=
 wpAny_Assign_Subscript (hv.use F.view fun v s₁ K₁ V₁ r₁ => ho.use V₁ fun u s₂ K₂ V₂ r₂ => hi.use V₂ fun w s₃ K₃ V₃ r₃ => by
  cases r₂; cases r₃
  have F₃ := F.keeps ((K₁.trans K₂).trans K₃)
  have hmem : (a, .d kvs) ∈ μ := by rw [hμ]; exact List.mem_append_right _ (List.mem_cons_self ..)
  obtain ⟨q1, q2, qL, us, dt, ks, rl⟩ := F₃.own a (.d kvs) hmem
  have rv := (r₁.keeps K₂.heap).keeps K₃.heap
  have hm : ∀ b, b = a → W b := fun b e => by rw [e]; exact q1
  have hlen : us.length ≤ sizeLine := by
   have : us.length = kvs.length := by have := congrArg List.length ks.1; simpa using this
   rw [this, sizeLine_eq]; omega
  refine wpAny_setItem_pairs (knd := strKind c.prog c.w) (strKind_is _ _ _ _) dt (fun h' dt' sb => ?_) hlen
  have U : Upd (fun b => b = a) s₃ { s₃ with heap := h', toks := s₃.toks + 1 } := ⟨⟨_, _, rfl⟩, Nat.le_succ _, fun b o n e => sb.extBut b o n e⟩
  obtain ⟨k1, k2⟩ := stored_rd (k := k) rv ks.1 rl
  exact h _ (F₃.putU hμ U ⟨_, dt', ⟨k1, ks.2⟩, U.rdL hm k2⟩)) hs
end
section
variable {prog : Program} {w : World} {A : Around} {E : Value → Shared → Prop} {s : Shared}
theorem setItem_plain {l : Addr} {items : Array Value} {k : Int} {t : Tok} {v : Value} {Q : Unit → Shared → Prop} (hl : s.heap.PlainList l items) (h0 : 0 ≤ k) (hfit : k < 2 ^ 63) (hn : k < items.size)
  (hQ : ∀ h', h'.PlainList l (items.setIfInBounds k.toNat v) → Heap.SameBut l s.heap h' → Q () { s with heap := h' }) :
  wpAny (model prog w) A (setItem (.ref l) (.int k t) v) Q E s := by
 have hlL := hl.isList
 obtain ⟨n, ho⟩ := hl
 unfold setItem
 try with_reducible refine wpAny_holding ?_
 first | refine wpAny_bind (wpAny_pure ?_) | skip
 refine wpAny_bind (wpAny_sequenceKey hlL.typeIs (by decide) ?_)
 refine wpAny_bind (wpAny_callSpecial?_slot (name := Str.ofString "__setitem__") hlL.typeIs PySem.slot_list_setitem
  (wpAny_call_entry PySem.slot_list_setitem hlL.typeIs PySem.entry_list_setitem ?_ (PySem.args_list_setitem _ _ _)))
 show wpAny _ _ (Builtin.List.listSubscript? (.int k t) >>= _) _ _ s
 refine wpAny_bind (wpAny_listSubscript_int (fitsIndex_of h0 hfit) ?_)
 clear hfit
 obtain ⟨j, rfl⟩ := Int.eq_ofNat_of_zero_le h0
 have hj : j < items.size := by omega
 have hx' : items[j]? = some items[j] := Array.getElem?_eq_getElem hj
 show wpAny _ _ ((seqItemAt l j >>= fun r => pure (r.map (j, ·))) >>= _) _ _ s
 refine wpAny_bind (wpAny_bind (wpAny_seqItemAt ho rfl (wpAny_pure ?_)))
 rw [hx']
 show wpAny _ _ (setSeqItemAt l j v >>= _) _ _ s
 have hfin : (s.heap.update l (Obj.mapSeq (·.setIfInBounds j v))).PlainList l (items.setIfInBounds j v) := by
  have e1 := Heap.get?_update_self (Obj.mapSeq (·.setIfInBounds j v)) ho rfl
  obtain ⟨n', hd'⟩ := Obj.data_mapSeq (o := { cls := .type "list", data := .seq items n }) rfl (·.setIfInBounds j v)
  refine ⟨n', e1.trans ?_⟩
  congr 1
  generalize hO : Obj.mapSeq (·.setIfInBounds j v) { cls := .type "list", data := .seq items n } = O at hd'
  have k1 : O.cls = .type "list" := by rw [← hO]; rfl
  have k2 : O.dict = none := by rw [← hO]; rfl
  have k3 : O.slots = #[] := by rw [← hO]; rfl
  obtain ⟨a1, a2, a3, a4⟩ := O
  simp only at k1 k2 k3 hd'
  rw [k1, k2, k3, hd']
 refine wpAny_bind (wpAny_setSeqItemAt ho rfl ?_)
 first
  | exact wpAny_bind (wpAny_pure (wpAny_pure ⟨.none, rfl, wpAny_pure (hQ _ hfin (Heap.SameBut.update ..))⟩))
  | exact wpAny_pure ⟨.none, rfl, wpAny_pure (hQ _ hfin (Heap.SameBut.update ..))⟩
end
theorem RdL.set {W : Addr → Prop} {h : Heap} : ∀ {vs : List Value} {ds : List D} (j : Nat) {v : Value} {d : D}, Rd W h v d → RdL W h vs ds → RdL W h (vs.set j v) (ds.set j d)
 | _, _, _, _, _, _, .nil => .nil
 | _, _, 0, _, _, r, .cons _ b => .cons r b
 | _, _, j + 1, _, _, r, .cons a b => .cons a (RdL.set j r b)
section
variable {c : Cx} {A : Around} {s₀ : Shared} {W₀ Md W : Addr → Prop} {env : Env} {σ : List (Str × D)} {μ : List (Addr × Own)} {s : Shared} {E : Value → Shared → Prop}
end
section
variable {prog : Program} {w : World} {A : Around} {E : Value → Shared → Prop} {s : Shared}
theorem dictPut_new {d : Addr} {kvs : List (Str × Value)} {k : Str} {key v : Value} {Q : Unit → Shared → Prop} (hkey : (strKind prog w).is k key = true) (hm : s.heap.DictOf (strKind prog w) d kvs) (hnot : k ∉ kvs.map (·.1))
  (hQ : ∀ h', h'.DictOf (strKind prog w) d (kvs ++ [(k, v)]) → Heap.SameBut d s.heap h' → Q () { s with heap := h' }) (hsz : kvs.length ≤ sizeLine) :
  wpAny (model prog w) A (dictPut d ((strKind prog w).hash k) key v) Q E s := by
 obtain ⟨o, es, ep, ho, hc, hd, hk, hp, hn⟩ := hm
 have hes : es.size ≤ sizeLine := by
  have e1 := hp.length
  have e2 : es.toList.length = es.size := by simp
  omega
 unfold dictPut
 refine wpAny_bind (wpAny_dictFind_of hkey ho hd hk ?_)
 have hidx : (es.findIdx? fun e => (strKind prog w).is k e.key) = kvs.findIdx? fun kv => decide (kv.1 = k) := by
  rw [← hp.findIdx k]; obtain ⟨l⟩ := es; simp
 have hnone : (es.findIdx? fun e => (strKind prog w).is k e.key) = none := by
  rw [hidx, List.findIdx?_eq_none_iff]
  intro x hx
  exact decide_eq_false fun q => hnot (List.mem_map.mpr ⟨x, hx, q⟩)
 rw [hnone]
 refine wpAny_updateDictKeys (hz := hes) ho hd (hQ _ ⟨_, _, ep + 1, Heap.get?_update_self _ ho (Obj.isFreed_of_dict (Obj.data_mapDictKeys hd _)),
   hc.mapDictKeys _, Obj.data_mapDictKeys hd _, hk.push hkey _, ?_, ?_⟩ (Heap.SameBut.update ..))
 ·have := hp.append hkey ((strKind prog w).hash k) v
  obtain ⟨l⟩ := es
  simpa using this
 ·rw [List.map_append, List.nodup_append]
  refine ⟨hn, by simp, ?_⟩
  intro a ha b hb
  simp only [List.map_cons, List.map_nil, List.mem_singleton] at hb
  subst hb
  exact fun e => hnot (e ▸ ha)
theorem merge_new {d a : Addr} {kvs : List (Str × Value)} {Q : Unit → Shared → Prop} (hda : d ≠ a) (haS : (a == sysModules) = false) (hd : s.heap.DictOf (strKind prog w) d []) (ha : s.heap.DictOf (strKind prog w) a kvs)
  (hQ : ∀ h', h'.DictOf (strKind prog w) d kvs → Heap.SameBut d s.heap h' → Q () { s with heap := h' }) (hsz : kvs.length ≤ sizeLine) :
  wpAny (model prog w) A (mergeMapping d (.ref a) true) Q E s := by
 obtain ⟨od, esd, epd, hod, hcd, hdd, hkd, hpd, hnd⟩ := id hd
 obtain ⟨oa, esa, epa, hoa, hca, hda', hka, hpa, hna⟩ := id ha
 have hlen : kvs.length = esa.size := by rw [← hpa.length]; simp
 unfold mergeMapping
 refine wpAny_bind (wpAny_isInstance ha.typeIs isSubtype_dict_dict ?_)
 rw [if_pos rfl]
 refine wpAny_bind (wpAny_specialOf ha.typeIs F.slot_dict_iter.lookup ?_)
 refine wpAny_bind (wpAny_pure ?_)
 rw [beq_self_eq_true]
 dsimp only
 rw [if_neg (by rw [haS]; exact Bool.false_ne_true)]
 refine wpAny_bind (wpAny_dictEntries hod hdd ?_)
 have hesd : esd = #[] := by
  have := hpd.length
  simp only [List.length_nil, Array.length_toList] at this
  exact Array.eq_empty_of_size_eq_zero this
 subst hesd
 rw [if_pos (show (#[] : Array DictEntry).isEmpty = true from rfl)]
 refine wpAny_bind (wpAny_dictEntries hoa hda' ?_)
 refine wpAny_bind (MeetsSeq2.wpAny_forIn_array _ (fun rest _ s' => s = s' ∧ ∀ e ∈ rest, e ∈ esa.toList) _ ?_ ?_ _ _ ⟨rfl, fun e h => h⟩)
 ·rintro x rest b s' ⟨rfl, hm⟩
  obtain ⟨k, hk, _⟩ := hka x (Array.mem_toList_iff.mp (hm x (List.mem_cons_self ..)))
  obtain ⟨t, ht⟩ := Value.isStrOf_shape hk
  rw [ht]
  exact wpAny_pure ⟨rfl, fun e h => hm e (List.mem_cons_of_mem _ h)⟩
 ·rintro b s' ⟨rfl, _⟩
  refine wpAny_bind (wpAny_dictEntries hoa hda' ?_)
  refine wpAny_bind (wpAny_dictEpoch hoa hda' ?_)
  refine wpAny_bind ?_
  refine wpAny_forIn_list _
   (fun rest _ s' => ∃ h' i, s' = { s with heap := h' } ∧ rest = List.range' i (esa.size - i) ∧ i ≤ esa.size ∧ h'.DictOf (strKind prog w) d (kvs.take i) ∧ h'.get? a = some oa ∧ Heap.SameBut d s.heap h')
   _ ?_ ?_ _ _ ⟨s.heap, 0, rfl, by simp [List.range_eq_range'], Nat.zero_le _, by simpa using hd, hoa, Heap.SameBut.refl _ _⟩
  ·rintro x rest b s' ⟨h', i, rfl, hr, hi, hd', hoa', hs'⟩
   have hlt : i < esa.size := by
    rcases Nat.lt_or_ge i esa.size with h | h
    ·exact h
    ·rw [Nat.sub_eq_zero_of_le h] at hr; simp at hr
   obtain ⟨rfl, hrest⟩ : x = i ∧ rest = List.range' (i + 1) (esa.size - (i + 1)) := by
    have e : esa.size - i = (esa.size - (i + 1)) + 1 := by omega
    rw [e, List.range'_succ] at hr
    injection hr with h1 h2
    exact ⟨h1, h2⟩
   refine wpAny_bind (wpAny_dictEntries hoa' hda' ?_)
   rw [Array.getElem?_eq_getElem hlt]
   obtain ⟨kv, hkv⟩ : ∃ kv, kvs[x]? = some kv := ⟨kvs[x]'(by rw [hlen]; exact hlt), List.getElem?_eq_getElem _⟩
   obtain ⟨k, v⟩ := kv
   obtain ⟨hkey, hval⟩ := hpa.get? (e := esa[x]) (by simp [hlt]) hkv
   obtain ⟨k', hkey', hhash⟩ := hka esa[x] (Array.getElem_mem hlt)
   obtain rfl : k' = k := (strKind prog w).inj _ _ _ hkey' hkey
   have hnot : k' ∉ (kvs.take x).map (·.1) := fun q => by
    rw [List.map_take] at q
    obtain ⟨j, hj, e⟩ := List.mem_take_iff_getElem.mp q
    rw [List.getElem_map] at e
    have hj' : j < x := by omega
    have e2 : (kvs.map (·.1))[x]'(by rw [List.length_map, hlen]; exact hlt) = k' := by
     rw [List.getElem_map]
     have := List.getElem?_eq_some_iff.mp hkv
     obtain ⟨_, q⟩ := this
     rw [q]
    exact (List.pairwise_iff_getElem.mp hna) j x (by rw [List.length_map, hlen]; omega) (by rw [List.length_map, hlen]; exact hlt) hj' (by rw [e2]; simpa using e)
   obtain ⟨od', esd', epd', hod', hcd', hdd', hkd', hpd', hnd'⟩ := id hd'
   have hidx : (esd'.findIdx? fun e => (strKind prog w).is k' e.key) = none := by
    have : (esd'.findIdx? fun e => (strKind prog w).is k' e.key) = (kvs.take x).findIdx? fun kv => decide (kv.1 = k') := by
     rw [← hpd'.findIdx k']; obtain ⟨l⟩ := esd'; simp
    rw [this, List.findIdx?_eq_none_iff]
    intro y hy
    exact decide_eq_false fun q => hnot (List.mem_map.mpr ⟨y, hy, q⟩)
   show wpAny _ _ (holding [esa[x].key, esa[x].val] (do
         if (← dictFind d esa[x].key esa[x].hash).isSome = true then do rule "dict.merge.duplicate-key"; raiseNew (← newExc (.type "KeyError") [esa[x].key])
         dictPut d esa[x].hash esa[x].key esa[x].val) >>= _) _ _ _
   rw [hhash, hval]
   refine wpAny_bind (wpAny_holding (wpAny_bind (wpAny_dictFind_of hkey hod' hdd' hkd' ?_)))
   rw [hidx]
   rw [if_neg (show ¬ (none : Option Nat).isSome = true from by decide)]
   refine dictPut_new hkey hd' hnot (fun h'' hd'' hs'' => ?_) (by rw [List.length_take]; omega)
   have hoa'' : h''.get? a = some oa := (hs''.2 a (Ne.symm hda)).trans hoa'
   refine wpAny_bind (wpAny_dictEpoch hoa'' hda' ?_)
   rw [if_neg (by simp)]
   exact wpAny_pure ⟨h'', x + 1, rfl, hrest, hlt, by rw [List.take_add_one, hkv]; exact hd'', hoa'', hs'.trans hs''⟩
  ·rintro b s' ⟨h', i, rfl, hr, hi, hd', hoa', hs'⟩
   have hin : i = esa.size := by
    rcases Nat.lt_or_ge i esa.size with h | h
    ·have e : esa.size - i = (esa.size - (i + 1)) + 1 := by omega
     rw [e, List.range'_succ] at hr; exact nomatch hr
    ·exact Nat.le_antisymm hi h
   refine wpAny_pure (hQ h' ?_ hs')
   rw [hin, ← hlen, List.take_length] at hd'; exact hd'
end
end Mine
end
section
open PySem PySem.W PyProof.Rows PySem.Calls Builtin Builtin.ObjectAttr
namespace Mine
theorem lk_fn_set : typeLookup (.type "function") "__set__" = pure none := by rw [typeLookup_type, builtinLookup_eq_fast]; kernel_rfl
theorem lk_fn_delete : typeLookup (.type "function") "__delete__" = pure none := by rw [typeLookup_type, builtinLookup_eq_fast]; kernel_rfl
section
variable {prog : Program} {w : World} {A : Around} {E : Value → Shared → Prop} {h : Heap} {g : Array GenState} {d : Drawn} {t : Nat} {os : OsState}
variable {nm q : Str} {C N x : Addr} {bs : List Value} {sn : List Str} {sub : List Value} {ab : Bool} {col : Option Bool} {dd : Option Addr} {k0 k1 k2 k3 k5 : Option Value} {newId : String}
 {mN mA : Str → Option Value} {name : Str} {v : Value}
theorem bound_entry {tk : Tok} {f : Addr} {of : Obj} {Q : Fin → Shared → Prop}
  (hC : h.get? C = some (excClassObj nm q C N bs [.type "object"] true sn sub ab col dd k0 k1 k2 k3 k5 newId)) (hn : h.Ns N mN) (hna : mN name = some (.ref f)) (hng : mN "__getattr__" = none)
  (hfo : h.get? f = some of) (hfc : of.cls = .type "function")
  (hB : typeLookup (.type "object") name = pure none) (I : h.Inst x C mA) {y : Str} {u : Value} (hy : mA y = some u) (hv : mA name = none) (hcn : (["__module__", "__name__", "__qualname__", "__doc__", "__annotations__"] : List Str).contains name = false)
  (hq : Q (.done (.ret (.ref h.objs.size))) ⟨h.push { cls := .type "method", data := .fields #[.ref f, .ref x] }, g, d, t, os⟩) :
  wpAny (model prog w) A (Builtin.«proto.getattr_hooked» ⟨[.ref x, .str name tk], []⟩) Q E ⟨h, g, d, t, os⟩ := by
 obtain ⟨o, hx, hc, hnc, hd⟩ := I
 have hTf : (⟨h, g, d, t, os⟩ : Shared).TypeIs (.ref f) "function" := ⟨_, hfo, hfc⟩
 have hlk := KF.slot_fn.lookup
 unfold Builtin.«proto.getattr_hooked»
 repeat (first | (with_reducible refine wpAny_loadPart_at hx ?_; rw [hc]) | (with_reducible refine wpAny_typeLookup_exc hC hn F.mro_object hB ?_; rw [hna]) | (with_reducible refine wpAny_typeLookup_exc hC hn F.mro_object F.lk_object_getattr ?_; rw [hng]) | (with_reducible refine wpAny_specialOf hTf hlk ?_) | wp_step)
 rw [lk_fn_set]
 repeat wp_step
 rw [lk_fn_delete]
 repeat wp_step
 split
 ·rename_i c hcd
  exact absurd hcd (hnc c)
 unfold instanceDict
 repeat (first | (with_reducible refine wpAny_loadPart_at hx ?_; rw [hc]) | with_reducible refine wpAny_loadPart_at hC ?_ | wp_step)
 rcases hd with ⟨_, hmA⟩ | ⟨dx, hdx, hne, hns⟩
 ·rw [hmA y] at hy; cases hy
 rw [hdx]
 repeat (first | (with_reducible refine wpAny_nsGet hns.ns ?_; rw [hv]) | wp_step)
 rw [if_neg (by rw [hcn]; decide)]
 repeat (first | (with_reducible refine wpAny_typeLookup_exc hC hn F.mro_object F.lk_object_getattr ?_; rw [hng]) | wp_step)
 refine codeAny_call_builtin KF.slot_fn.plain KF.entry_fn (KF.slot_fn.check _ _ _ _ _ _ _ _ hTf (KF.args_fn _ _ _) ?_)
 repeat k_node
 exact hq
theorem bound_attr {f : Addr} {of : Obj} {expr : Bool} {Q : Value → Shared → Prop}
  (hC : h.get? C = some (excClassObj nm q C N bs [.type "object"] true sn sub ab col dd k0 k1 k2 k3 k5 newId)) (hn : h.Ns N mN) (hna : mN name = some (.ref f)) (hng : mN "__getattr__" = none) (hga : mN "__getattribute__" = none)
  (hfo : h.get? f = some of) (hfc : of.cls = .type "function")
  (hB : typeLookup (.type "object") name = pure none) (I : h.Inst x C mA) {y : Str} {u : Value} (hy : mA y = some u) (hv : mA name = none) (hcn : (["__module__", "__name__", "__qualname__", "__doc__", "__annotations__"] : List Str).contains name = false)
  (hq : Q (.ref h.objs.size) ⟨h.push { cls := .type "method", data := .fields #[.ref f, .ref x] }, g, d, t + 1, os⟩) :
  wpAny (model prog w) A (getAttr (.ref x) name expr) Q E ⟨h, g, d, t, os⟩ := by
 obtain ⟨o, hx, hc, _⟩ := id I
 unfold getAttr getAttrBy
 repeat (first | (with_reducible refine wpAny_loadPart_at hx ?_; rw [hc]) | (with_reducible refine wpAny_typeLookup_exc hC hn F.mro_object F.lk_object_ga ?_; rw [hga]) | wp_step)
 show wpAny _ _ ((runValue (.builtin "proto.getattr_hooked" ⟨[.ref x, .str name t], []⟩)).onRaise (noteIf true (.ref x) (.str name t))) _ _ _
 refine wpAny_onRaise (wpAny_runValue (codeAny_builtin F.plainObj_entry_getattr_hooked (bound_entry hC hn hna hng hfo hfc hB I hy hv hcn ?_)))
 show wpAny _ _ (handedOut (.ref h.objs.size)) _ _ _
 exact handed_on rfl hq
end
end Mine
end
section
open PySem PySem.W PyProof.Rows PySem.Calls
namespace Mine
section
variable {c : Cx} {A : Around} {env : Env} {σ : List (Str × D)} {W : Addr → Prop} {s : Shared} {E : Value → Shared → Prop}
theorem merged_kw {f : Value} {t : Sem Value} {kvs : List (Str × D)} {Q : Addr → Shared → Prop} (ht : Et c A env σ t (.dct c.prog c.w kvs)) (V : View c W env σ s) (hn : kvs.length ≤ 1000000)
  (h : ∀ d us s', Kt s s' → s'.heap.DictOf (strKind c.prog c.w) d us → us.map (·.1) = kvs.map (·.1) → RdL W s'.heap (us.map (·.2)) (kvs.map (·.2)) → Q d s') :
  wpAny c.M A (mergedKeywords f [(none, t)]) Q E s := by
 unfold mergedKeywords
 refine wpAny_bind (wpAny_alloc ?_)
 have K1 : Kt s { s with heap := s.heap.push { cls := .type "dict", data := .dict #[] } } := ⟨.push _, Nat.le_refl _⟩
 have D1 : ({ s with heap := s.heap.push { cls := .type "dict", data := .dict #[] } } : Shared).heap.DictOf (strKind c.prog c.w) s.heap.objs.size [] := Heap.DictOf.new _
 have d0 : s.heap.get? s.heap.objs.size = none := size_none
 have gr : ∀ b, (W b ∨ b = s.heap.objs.size) → W b ∨ s.heap.get? b = none := fun b q => q.imp id fun q => by rw [q]; exact d0
 have V1 := V.growK (W' := fun b => W b ∨ b = s.heap.objs.size) K1 gr fun b q => by
  rcases q with q | rfl
  ·obtain ⟨o, e⟩ := V.wold b q; exact ⟨o, K1.heap _ _ e⟩
  ·obtain ⟨o, _, _, e, _⟩ := D1; exact ⟨o, e⟩
 generalize ({ s with heap := s.heap.push { cls := .type "dict", data := .dict #[] } } : Shared) = s1 at K1 D1 V1 ⊢
 generalize s.heap.objs.size = d at D1 V1 d0 gr ⊢
 refine wpAny_bind (wpAny_holding (wpAny_bind ?_))
 rw [List.forIn_cons]
 dsimp only
 rw [if_pos (show ([] : List (Str × Sem Value)).isEmpty = true from rfl)]
 refine wpAny_bind (wpAny_bind (wpAny_pure ?_))
 refine wpAny_bind (ht.use V1 fun v s2 K2 V2 r2 => ?_)
 cases r2 with
 | dct ha hd hl he =>
  rename_i a us
  have lw : ∀ b, W b → W b ∨ b = d := fun b q => .inl q
  refine wpAny_bind (wpAny_onRaise (wpAny_holding (wpAny_tryCatch (wpAny_onRaise (merge_new (fun q => ha (.inr q.symm)) he.2 (D1.at fun o e => K2.heap _ o e) hd (fun h' hd' sb => ?_) ?_)))))
  ·refine wpAny_pure ?_
   dsimp only
   rw [List.forIn_nil]
   refine wpAny_pure ?_
   rw [if_pos (show ([] : List (Str × Sem Value)).isEmpty = true from rfl)]
   refine wpAny_pure ?_
   have U : Upd (fun b => b = d) s2 { s2 with heap := h' } := ⟨⟨h', s2.toks, rfl⟩, Nat.le_refl _, fun b o n e => sb.extBut b o n e⟩
   refine wpAny_pure (h d us _ ?_ hd' he.1 ?_)
   ·have KK := K1.trans K2
    refine ⟨⟨?_, fun b o e => U.keep b o (fun q => by rw [q, d0] at e; cases e) (KK.heap b o e)⟩, Nat.le_trans KK.tk U.tk⟩
    obtain ⟨h1, t1, q1⟩ := KK.eq
    exact ⟨h', t1, by rw [q1]⟩
   ·exact (U.rdL (fun b q => .inr q) hl).less lw
  ·have : us.length = kvs.length := by have := congrArg List.length he.1; simpa using this
   rw [this, sizeLine_eq]; omega
theorem keywords_in {f : Value} {d : Addr} {us : List (Str × Value)} {Q : List (Str × Value) → Shared → Prop} (hd : s.heap.DictOf (strKind c.prog c.w) d us) (h : Q us s) : wpAny c.M A (keywordsIn f d) Q E s := by
 obtain ⟨o, es, ep, ho, hc, hdt, hk, hp, hn⟩ := hd
 unfold keywordsIn
 refine wpAny_bind (wpAny_dictEntries ho hdt (wpAny_bind ?_))
 refine MeetsSeq2.wpAny_forIn_array _ (fun rest acc s' => s = s' ∧ ∃ us', Pairs (strKind c.prog c.w) rest us' ∧ us = acc ++ us') _ ?_ ?_ _ _ ⟨rfl, us, hp, rfl⟩
 ·rintro e rest acc s' ⟨rfl, us', p, e1⟩
  cases p with
  | cons hk hv p =>
   rename_i kv kvs
   obtain ⟨t, ht⟩ := Value.isStrOf_shape hk
   rw [ht]
   refine wpAny_pure ⟨rfl, kvs, p, ?_⟩
   rw [e1, hv]; simp
 ·rintro acc s' ⟨rfl, us', p, e1⟩
  cases p
  rw [List.append_nil] at e1
  exact wpAny_pure (e1 ▸ h)
theorem br_of {h : Heap} : ∀ {us : List (Str × Value)} {kvs : List (Str × D)}, us.map (·.1) = kvs.map (·.1) → RdL W h (us.map (·.2)) (kvs.map (·.2)) → BR W h us kvs
 | [], [], _, _ => .nil
 | [], _ :: _, e, _ => by simp at e
 | _ :: _, [], e, _ => by simp at e
 | (x, v) :: us, (y, d) :: kvs, e, r => by
  simp only [List.map_cons, List.cons.injEq] at e
  obtain ⟨rfl, e⟩ := e
  cases r with
  | cons r1 r2 => exact .cons r1 (br_of e r2)
theorem EvA.star {x : Sem Value} {rest : List (Bool × Sem Value)} {ds : List D} {t : Sem Value} {kvs : List (Str × D)} (h : EvL c A env σ ((false, x) :: rest) ds) (hk : Et c A env σ t (.dct c.prog c.w kvs)) (hn : kvs.length ≤ 1000000) : EvA c A env σ ((false, x) :: rest) [(Option.none, t)] ds kvs := fun W s E f V => by
 unfold evalArgs
 show wpAny c.M A (spliced ((false, x) :: rest) >>= _) _ _ _
 refine wpAny_bind (h.use V fun vs s1 K1 V1 r1 => wpAny_holding ?_)
 simp only [show ([(Option.none, t)] : List (Option Str × Sem Value)).all (·.1.isSome) = false from rfl, Bool.false_eq_true, if_false]
 refine wpAny_bind (merged_kw hk V1 hn fun d us s2 K2 hd e1 rl => ?_)
 refine wpAny_bind (wpAny_pure ?_)
 refine wpAny_bind (wpAny_holding (keywords_in hd ?_))
 exact wpAny_pure ⟨K1.trans K2, r1.keeps K2.heap, br_of e1 rl⟩
end
section
variable {c : Cx} {A : Around} {env : Env} {σ : List (Str × D)} {W : Addr → Prop} {s : Shared} {E : Value → Shared → Prop}
theorem call_bound {prog : Program} {w : World} {b f : Addr} {x : Value} {a : Args} {R : Result → Shared → Prop} (hb : s.heap.get? b = some { cls := .type "method", dict := none, data := .fields #[.ref f, x], slots := #[] })
  (hq : codeAny (model prog w) A (.call (.ref f) { a with pos := x :: a.pos }) R s) : codeAny (model prog w) A (.call (.ref b) a) R s := by
 refine codeAny_of_tree ?_
 show wpAny _ A.in1 (callAny (.ref b) a) _ _ _
 unfold callAny
 refine wpAny_bind (wpAny_load hb ?_)
 exact wpAny_pure ⟨rfl, hq⟩
theorem meth_callB {x a : Str} {xp apos pos : Pos} {es : List Expr} {kws : List Keyword} {k N fa : Addr} {mN : Str → Option Value} {fs : List (Str × D)} {fd : FuncData} {body : List Stmt} {ds : List D} {ks : List (Str × D)} {z : Str} {zd : D} {Q : Value → Shared → Prop} (C : Kls c k N mN) (ho : Ev c A env σ (.Name x xp) (.ins k fs))
  (hm : mN a = some (.ref fa)) (fn : Fun c fa fd body) (hfc : ∀ h o, HasK c.K h → h.get? fa = some o → o.cls = .type "function") (hsh : fs.lookup a = none) (hz : fs.lookup z = some zd) (hB : typeLookup (.type "object") a = pure none)
  (hcn : (["__module__", "__name__", "__qualname__", "__doc__", "__annotations__"] : List Str).contains a = false)
  (hform : methodCallForm (es.length + kws.length) (backTo pos (starEach es env)) (backToKw pos (keywordEach kws env)) = false)
  (hstar : ((backTo pos (starEach es env)).any (·.1) || (backToKw pos (keywordEach kws env)).any (·.1.isNone)) = true)
  (ha : EvA c A env σ (backTo pos (starEach es env)) (backToKw pos (keywordEach kws env)) ds ks) (V : View c W env σ s)
  (h : ∀ ov vs kvs s', Kt s s' → View c W env σ s' → Rd W s'.heap ov (.ins k fs) → RdL W s'.heap vs ds → BR W s'.heap kvs ks →
   codeAny c.M A (.call (.ref fa) ⟨ov :: vs, kvs⟩) (fun r s' => match r with | .ok (.ret v) => Q v s' | .ok _ => False | .error e => E e s') s') :
  wpAny c.M A (eval (.Call (.Attribute (.Name x xp) a apos) es kws pos) env) Q E s := by
 rw [arm_eval_Call]
 have hbase : attributeBase (.Name x xp) a env (eval (.Name x xp) env) = eval (.Name x xp) env := rfl
 rw [hbase]
 refine wpAny_bind (ho.use V fun ov s₁ K₁ V₁ r₁ => wpAny_bind (wpAny_standAt ?_))
 unfold methodCall
 rw [hform]
 obtain ⟨o, hfo, hd⟩ := fn.at_ _ V₁.base
 have hfc' := hfc _ _ V₁.base hfo
 have goal : wpAny c.M A (getAttr ov a true) (fun p s' => Kt s₁ s' ∧ ∃ t b, ov = .ref t ∧ p = .ref b ∧ s'.heap.get? b = some { cls := .type "method", dict := none, data := .fields #[.ref fa, .ref t], slots := #[] }) E s₁ := by
  obtain ⟨t, m, rfl, I, hx, rf⟩ := r₁.inst
  obtain ⟨u, hu, _⟩ := rf.get hz
  have X := C.at_ _ V₁.base
  obtain ⟨nm, q, bs, sn, sub, col, dd, k0, k1, k2, k3, k5, hC⟩ := X.obj
  have kp : ∀ ob, Kt s₁ { s₁ with heap := s₁.heap.push ob, toks := s₁.toks + 1 } := fun ob => ⟨⟨⟨_, _, rfl⟩, fun b o e => Heap.get?_push_of_some _ e⟩, Nat.le_succ _⟩
  clear r₁ V₁ K₁ rf
  obtain ⟨hh, g, d, tk, os⟩ := s₁
  exact bound_attr hC X.ns hm C.gt C.ga hfo hfc' hB I hu (hx a hsh) hcn ⟨kp _, t, _, rfl, rfl, Heap.get?_push_size _ rfl⟩
 refine wpAny_bind (wpAny_holding ?_)
 unfold calleeOf
 rw [if_neg (by decide)]
 refine wpAny_bind (wpAny_mono goal (fun p s₂ q => wpAny_pure ?_) fun _ _ e => e)
 obtain ⟨K₂, t, b, rfl, rfl, hb⟩ := q
 have hpos : methodCallPos false (.Name x xp) env apos pos = pure pos := rfl
 refine wpAny_bind (wpAny_of_eq hpos ?_)
 have V₂ := V₁.keeps K₂
 unfold callWith
 refine wpAny_bind (wpAny_holding (wpAny_mono (ha W _ E _ V₂) (fun y s₃ q => wpAny_bind (wpAny_standAt ?_)) fun _ _ e => e))
 obtain ⟨K₃, rv, rb⟩ := q
 have hb₃ := K₃.heap _ _ hb
 have hf₃ := K₃.heap _ _ (K₂.heap _ _ hfo)
 have keeper : wpAny c.M A (keeperOf (.ref b)) (fun k s' => k = .boundFrame ∧ s' = s₃) E s₃ := by
  unfold keeperOf
  refine wpAny_bind (wpAny_load hb₃ ?_)
  dsimp only
  rw [if_neg (by decide)]
  show wpAny _ _ (load fa >>= _) _ _ _
  refine wpAny_bind (wpAny_load hf₃ ?_)
  rw [hd]
  exact wpAny_pure ⟨rfl, rfl⟩
 rw [hstar]
 refine wpAny_bind (wpAny_mono keeper (fun kp s' q => ?_) fun _ _ e => e)
 obtain ⟨rfl, rfl⟩ := q
 dsimp only
 refine wpAny_bind (wpAny_operating (wpAny_mono (Q := Q) (E := E) ?_ (fun r s₂ hr => wpAny_bind (wpAny_holding (wpAny_point (wpAny_pure hr)))) fun _ _ x => x))
 refine wpAny_call (call_bound (a := ⟨y.pos, y.kw⟩) hb₃ ?_)
 exact h (.ref t) y.pos y.kw s' ((K₁.trans K₂).trans K₃) (V₂.keeps K₃) ((r₁.keeps K₂.heap).keeps K₃.heap) rv rb
end
theorem entry_itemiter_iter : entryFor table "dict_itemiterator.__iter__" = some Builtin.«dict_keyiterator.__iter__» :=
 entryFor_alias (id' := "dict_keyiterator.__iter__") (by kernel_rfl) rfl (by decide +kernel) (by kernel_rfl)
theorem walksT_items {prog : Program} {w : World} {A : Around} (hh : A.handled = none) (I d : Addr) (hne : d ≠ I) (kvs : List (Str × Value)) (ep : Nat) :
  WalksT prog w A I [I, d] [I] kvs.length
   (fun i vals => ∃ k v key, kvs[i]? = some (k, v) ∧ (strKind prog w).is k key = true ∧ vals = #[key, v])
   (fun i h => (∃ ok ov, IsItemIter h I d i kvs.length ep ok ov) ∧ h.DictAt (strKind prog w) d kvs ep)
   (fun i T h => (∃ ok ov, IsItemIterOut h I d (i + 1) kvs.length ep ok ov T) ∧ h.DictAt (strKind prog w) d kvs ep ∧ T ≠ I) where
 sub := fun b hb => by
  simp only [List.mem_cons, List.not_mem_nil, or_false] at hb ⊢
  exact .inl hb
 frame := fun i h h' hst hk => by
  obtain ⟨⟨ok, ov, he⟩, hd⟩ := hst
  exact ⟨⟨ok, ov, hk I (by simp) _ he⟩, hd.at fun o x => hk d (by simp) o x⟩
 item := fun i s Q E hi hst hQ => by
  obtain ⟨⟨ok, ov, he⟩, hd⟩ := hst
  obtain ⟨k, v, hx⟩ : ∃ k v, kvs[i]? = some (k, v) := ⟨kvs[i].1, kvs[i].2, by rw [List.getElem?_eq_getElem hi]⟩
  refine wpAny_pyNext_items_item he hd hx fun key h' hkey ho hT hsz hk => ?_
  have hI : I < s.heap.objs.size := Heap.lt_size he
  exact hQ s.heap.objs.size #[key, v] h' s.toks ⟨k, v, key, hx, hkey, rfl⟩ (Nat.le_refl _) ⟨_, hT, rfl, _, rfl⟩
   ⟨⟨key, v, ho⟩, hd.at fun o x => hk d o hne x, Nat.ne_of_gt hI⟩
   fun b o hb x => hk b o (fun e' => hb (by simp [e'])) x
 go := fun elts k pos i T s Q E hm hQ => by
  obtain ⟨⟨ok, ov, ho⟩, hd, hTe⟩ := hm
  refine wpAny_letOwnedTupleGo_items ho fun h' he' hs' => hQ h' ⟨⟨ok, ov, he'⟩, hd.at fun o y => (hs'.2 d hne).trans y⟩ fun b o hb y => ?_
  exact (hs'.2 b fun e' => hb (by simp [e'])).trans y
 apart := fun i T h hm hT => by
  obtain ⟨_, _, hTe⟩ := hm
  simp only [List.mem_cons, List.not_mem_nil, or_false] at hT
  exact hTe hT
 done := fun s Q E hst hQ => by
  obtain ⟨⟨ok, ov, he⟩, hd⟩ := hst
  exact wpAny_pyNext_items_end hh he hd (List.getElem?_eq_none (Nat.le_refl _)) fun h' hx => hQ h' s.toks fun b o hb y => hx b o (fun e' => hb (by simp [e'])) y
 self := fun i s Q E hst hQ => by
  obtain ⟨⟨ok, ov, he⟩, _⟩ := hst
  have hT : s.TypeIs (.ref I) "dict_itemiterator" := ⟨_, he, rfl⟩
  refine wpAny_pyIter_slot hT F.slot_dict_itemiterator_iter (wpAny_call_entry F.slot_dict_itemiterator_iter hT entry_itemiter_iter ?_ (F.args_dict_itemiterator_iter_1 _))
  show wpAny _ _ (ret (.ref I)) _ _ s
  exact wpAny_pure ⟨_, rfl, "dict_itemiterator", _, hT, F.slot_dict_itemiterator_next.lookup, hQ⟩
noncomputable def itemsD (kvs : List (Str × D)) : List D := kvs.map fun kv => .tup [.str kv.1, kv.2]
section
variable {c : Cx} {A : Around} {env : Env} {σ : List (Str × D)}
theorem ItrE.items (hh : A.handled = none) {o : Expr} {apos p : Pos} {kvs : List (Str × D)} (ho : Ev c A env σ o (.dct c.prog c.w kvs)) (hbase : attributeBase o "items" env (eval o env) = eval o env) (hline : (apos.endLine == p.line) = true) :
  ItrE c A env σ (.Call (.Attribute o "items" apos) [] [] p) (itemsD kvs) := fun W s E Q V h => by
 refine wpAny_Call_method (T := "dict") (id := "dict.items") hbase rfl hline F.plainAttrs_dict F.slot_dict_items F.type_dict_items (ho.use V fun v s₁ K₁ V₁ r₁ => ?_)
 cases r₁ with
 | dct ha hd hl he =>
  rename_i d us
  refine ⟨hd.typeIs, hd.mapOf.noDict, ?_⟩
  show wpAny _ _ (callWith p (.builtin "dict.items") [.ref d] [] []) _ _ _
  refine method_meetsIn F.slot_dict_items F.entry_dict_items rfl (PySem.evalArgs_none ⟨rfl, hd.typeIs, F.args_dict_items_1 _, _, meets_dict_items (strKind c.prog c.w) d he.2, ⟨us, hd⟩, ?_⟩)
  obtain ⟨o, es, ep, e1, e2, e3, e4, e5, e6⟩ := id hd
  have K2 : Kt s₁ { s₁ with heap := s₁.heap.push { cls := .type "dict_items", data := .fields #[.ref d] } } := ⟨.push _, Nat.le_refl _⟩
  have hv : ({ s₁ with heap := s₁.heap.push { cls := .type "dict_items", data := .fields #[.ref d] } } : Shared).heap.IsItemsView s₁.heap.objs.size d := ⟨_, Heap.get?_push_size _ rfl, rfl, rfl⟩
  show wpAny _ _ (pyIter (.ref s₁.heap.objs.size)) _ _ _
  generalize ({ s₁ with heap := s₁.heap.push { cls := .type "dict_items", data := .fields #[.ref d] } } : Shared) = s₂ at K2 hv ⊢
  generalize s₁.heap.objs.size = vw at hv ⊢
  have hm : s₂.heap.DictAt (strKind c.prog c.w) d us ep := ⟨o, es, K2.heap _ _ e1, e2, e3, e4, e5, e6⟩
  have KK := K₁.trans K2
  have hl2 := hl.keeps K2.heap
  have ul : us.length = kvs.length := by have := congrArg List.length he.1; simpa using this
  have ilen : (itemsD kvs).length = us.length := by unfold itemsD; rw [List.length_map, ul]
  have none_of : s.heap.get? s₂.heap.objs.size = none := by
   cases q : s.heap.get? s₂.heap.objs.size with
   | none => rfl
   | some o => exact absurd (Heap.lt_size (KK.heap _ _ q)) (Nat.lt_irrefl _)
  have dI : d ≠ s₂.heap.objs.size := fun q => by have := Heap.lt_size (K2.heap _ _ e1); rw [← q] at this; exact Nat.lt_irrefl _ this
  have Wk := walksT_items (prog := c.prog) (w := c.w) hh s₂.heap.objs.size d dI us ep
  rw [← ilen] at Wk
  refine wpAny_pyIter_items hv hm ?_
  have K3 : Kt s₂ { s₂ with heap := s₂.heap.push { cls := .type "dict_itemiterator", data := .fields #[.none, .bool false, .ref d, .int 0 0, .int us.length 0, .int ep 0, .none, .none] } } := ⟨.push _, Nat.le_refl _⟩
  refine h s₂.heap.objs.size [s₂.heap.objs.size, d] [s₂.heap.objs.size] _ _ _ _
   {w := Wk
    st := ⟨⟨.none, .none, by rw [ilen]; exact Heap.get?_push_size _ rfl⟩, hm.at fun o e => K3.heap _ _ e⟩
    kt := KK.trans K3
    me := List.mem_cons_self ..
    fresh := fun b hb => by
     simp only [List.mem_cons, List.not_mem_nil, or_false] at hb
     subst hb
     exact ⟨none_of, _, Heap.get?_push_size _ rfl⟩
    there := fun i g hg b hb => by
     simp only [List.mem_cons, List.not_mem_nil, or_false] at hb
     subst hb
     rcases hg with ⟨⟨ok, ov, g1⟩, _⟩ | ⟨T, ⟨ok, ov, g1⟩, _⟩
     ·exact fields_no g1 rfl
     ·exact fields_no g1 rfl
    fpo := fun b hb => by
     simp only [List.mem_cons, List.not_mem_nil, or_false] at hb
     rcases hb with rfl | rfl
     ·exact .inl (List.mem_cons_self ..)
     ·cases q : s.heap.get? b with
      | some o => exact .inr (.inl ⟨ha, o, rfl⟩)
      | none => exact .inr (.inr ⟨rfl, o, K3.heap _ _ (K2.heap _ _ e1)⟩)
    pt := fun i vals hi hp => ?_ }
  obtain ⟨k, v, key, hk, hkey, rfl⟩ := hp
  have hik : i < kvs.length := by rw [ilen, ul] at hi; exact hi
  have e2' : (us.map (·.1))[i]? = (kvs.map (·.1))[i]? := by rw [he.1]
  rw [List.getElem?_map, List.getElem?_map, hk, List.getElem?_eq_getElem hik] at e2'
  have hd2 : (kvs.map (·.2))[i]? = some kvs[i].2 := by rw [List.getElem?_map, List.getElem?_eq_getElem hik]; rfl
  obtain ⟨v', hv', rv⟩ := hl2.get hd2
  rw [List.getElem?_map, hk] at hv'
  simp only [Option.map_some, Option.some.injEq] at hv' e2'
  subst hv'
  obtain ⟨t, ht⟩ := Value.isStrOf_shape hkey
  subst ht
  refine ⟨.str k, kvs[i].2, _, v, ?_, rfl, .str _ _, ?_⟩
  ·unfold itemsD
   rw [List.getElem?_map, List.getElem?_eq_getElem hik, e2']; rfl
  ·exact (rv.grow fun b hb => hb.imp id fun q => by
    simp only [List.mem_cons, List.not_mem_nil, or_false] at q
    rw [q]; exact size_none).keeps K3.heap
end
end Mine
end
section
open PySem PySem.W PyProof.Rows PySem.Calls Builtin Builtin.Str
namespace Mine
theorem meets_colon (a b : PySem.Str) (u v t : Tok) (adr : Addr) (ha : a.length ≤ 1000000) (hb : b.length ≤ 1000000) :
  Meets («str.__mod__» ⟨[.str ⟨#[37, 115, 58, 32, 37, 115]⟩ t, .ref adr], []⟩) (fun _ R s => IsTup s.heap adr #[.str a u, .str b v] ∧ ∀ t' k, R (.ok (.ret (.str (a ++ PySem.Str.ofString ": " ++ b) t'))) { s with toks := k }) := by
 kpt_run
section
variable {c : Cx} {A : Around} {env : Env} {σ : List (Str × D)} {W : Addr → Prop} {s : Shared} {E : Value → Shared → Prop}
theorem Bop.mod2 {X X' a b : PySem.Str} {T : PySem.Str} (hX : X = X')
  (hm : ∀ (u v t : Tok) (adr : Addr), Meets («str.__mod__» ⟨[.str X' t, .ref adr], []⟩) (fun _ R s => IsTup s.heap adr #[.str a u, .str b v] ∧ ∀ t' k, R (.ok (.ret (.str T t'))) { s with toks := k })) :
  Bop c A .Mod (.str X) (.tup [.str a, .str b]) (.str T) := fun W s E u v _ _ ru rv => by
 subst hX
 cases ru
 cases rv with
 | tup ha ht hl =>
  rename_i t adr vs
  obtain ⟨vl⟩ := vs
  have hl : RdL W s.heap vl [.str a, .str b] := hl
  cases vl with
  | nil => cases hl
  | cons p ps =>
   cases hl with
   | cons r1 hl =>
    cases ps with
    | nil => cases hl
    | cons q qs =>
     cases hl with
     | cons r2 hl =>
      cases hl
      cases r1; cases r2
      have hT : s.TypeIs (.ref adr) "tuple" := by
       obtain ⟨o, ho, hc, _⟩ := ht
       exact ⟨o, ho, hc⟩
      exact KPt.bin_left (T := "str") (U := "tuple") (op := .Mod) (by decide) (typeIs_str s X t) hT F.fills_str_mod KPt.fills_tuple F.slot_str_mod
       (call_meets F.slot_str_mod (typeIs_str s X t) F.entry_str_mod (F.args_str_mod_2 _ _) (hm _ _ _ _) ⟨ht, fun t' k => ⟨(fun e => nomatch e), ⟨⟨_, k, rfl⟩, fun _ _ e => e⟩, .str _ _⟩⟩)
end
end Mine
end
section
open PySem PySem.W PyProof.Rows PySem.Calls
namespace Mine
section
variable {c : Cx} {A : Around} {env : Env} {σ : List (Str × D)} {W : Addr → Prop} {s : Shared} {E : Value → Shared → Prop}
theorem Ev.replace {o : Expr} {apos pos p1 p2 : Pos} {k1 k2 : Nat} {x y z : Str} (ho : Ev c A env σ o (.str x)) (hbase : attributeBase o "replace" env (eval o env) = eval o env) (hline : (apos.endLine == pos.line) = true)
  (hyz : (y == z) = false) (hb : x.length + (x.length + 1) * z.length ≤ 16777216) :
  Ev c A env σ (.Call (.Attribute o "replace" apos) [.Constant (.str y) k1 p1, .Constant (.str z) k2 p2] [] pos) (.str (Txt.replace x y z)) := .intro fun W s E V =>
 Call_method2 hbase (by rfl) hline (ho.use V fun v s₁ K₁ V₁ r₁ => by
  cases r₁
  rename_i t
  refine ⟨"str", "str.replace", F.plainAttrs_str, F.slot_str_replace, F.type_str_replace, typeIs_str _ _ _, (fun _ e => nomatch e), ?_⟩
  refine Calls.callWith_builtin rfl (Calls.evalArgs_plain (Calls.spliced_cons (Calls.Constant_str (Calls.spliced_cons (Calls.Constant_str (Calls.spliced_nil ?_))))))
  have tk := V₁.tok
  refine SC.replace (by show s₁.toks ≠ 0; omega) (by show s₁.toks + 1 ≠ 0; omega) (by show s₁.toks ≠ s₁.toks + 1; omega) hyz hb fun t' k => ⟨K₁.toKq.trans ⟨⟨_, k, rfl⟩, fun _ _ e => e⟩, .str _ _⟩)
theorem str_of_own {prog : Program} {w : World} {A : Around} {E : Value → Shared → Prop} {s : Shared} {x C f : Addr} {B : String} {Q : Value → Shared → Prop} (hu : A.in1.in1.units < cLine) (X : s.heap.OwnSpecial x C f B "__str__")
  (h : wpAny (model prog w) A.in1.in1 (call (.ref f) [.ref x]) (fun r s' => ∃ y u, r = .str y u ∧ Q r s') E s) : wpAny (model prog w) A (call (.type "str") [.ref x]) Q E s := by
 refine callType_codes (T := "str") (Bi := Builtin.«object.__init__») (Q₁ := fun r s₁ => ∃ y u, r = .str y u ∧ Q r s₁) PySem.F.called_str (PySem.F.typeCall_str_1 _) PySem.F.entry_object_init ?_ ?_
 ·refine codeAny_of_tree ?_
  show wpAny _ A.in1.in1 (do checkBuiltinCall "str.__new__" ⟨[.type "str", .ref x], []⟩; again (.builtin "str.__new__" ⟨[.type "str", .ref x], []⟩)) _ _ s
  refine wpAny_bind (wpAny_of_eq (PySem.F.newCall_str_1 _) (wpAny_pure ⟨plainId_quiet (by decide +kernel) _, codeAny_builtin PySem.F.entry_str_new ?_⟩))
  rw [Around.under_plainId (by decide +kernel) _]
  rw [str_new_tree]
  refine wpAny_bind (wpAny_pure ?_)
  refine wpAny_bind (wpAny_of_eq isSubtype_str_str ?_)
  refine wpAny_bind (wpAny_mono (Q := fun r s₁ => ∃ y u, r = .str y u ∧ Q r s₁) (E := E) ?_ (fun r s₁ hr => wpAny_pure hr) fun _ _ y => y)
  unfold PySem.Builtin.Str.strOf
  rw [show PySem.Builtin.Str.isExactStr (.ref x) = false from rfl]
  refine wpAny_bind (m := cRoomFor _ _) (wpAny_cRoomFor hu ?_)
  obtain ⟨hh, g, d, tk, os⟩ := s
  refine wpAny_bind (m := callSpecial? (.ref x) (Str.ofString "__str__")) (wpAny_callSpecial?_own X (wpAny_mono h (fun r s' hr => ?_) fun _ _ y => y))
  obtain ⟨y, u, rfl, hq⟩ := hr
  exact wpAny_pure ⟨y, u, rfl, hq⟩
 ·rintro obj s₁ ⟨y, u, rfl, hq⟩
  exact ⟨typeIs_str _ _ _, PySem.F.args_object_init_2 _ _, object_init_meets PySem.F.called_str.init.lookup PySem.F.called_str.made (by decide) prog w A.in1 _ s₁ ⟨typeIs_str _ _ _, rfl, hq⟩⟩
theorem obj_str : ∃ y, typeLookup (.type "object") "__str__" = pure y := ⟨some (.builtin "object.__str__"), by rw [typeLookup_type, builtinLookup_eq_fast]; kernel_rfl⟩
theorem Ev.strOwn {x : Str} {np p : Pos} {e : Expr} {k N fa : Addr} {mN : Str → Option Value} {fs : List (Str × D)} {fd : FuncData} {body : List Stmt} {X : Str} (C : Kls c k N mN) (hf : Ev c A env σ (.Name x np) (.val (.type "str"))) (he : Ev c A env σ e (.ins k fs)) (hs : starEach [e] env = [(false, eval e env)])
  (hm : mN "__str__" = some (.ref fa)) (fn : Fun c fa fd body) (hfc : ∀ h o, HasK c.K h → h.get? fa = some o → o.cls = .type "function") (hu : A.in1.in1.units < cLine) (hp : Pf c A.in1.in1 fa [.ins k fs] [] (.str X)) :
  Ev c A env σ (.Call (.Name x np) [e] [] p) (.str X) := fun W s E V =>
 Call_name1 hs (hf.use V fun f s₁ k₁ V₁ r₁ => by
  cases r₁
  refine PySem.callWith_type1 (he.use V₁ fun v s₂ k₂ V₂ r₂ => ?_)
  obtain ⟨t, m, rfl, I, hx, rf⟩ := r₂.inst
  obtain ⟨o, hfo, hd⟩ := fn.at_ _ V₂.base
  have hfc' := hfc _ _ V₂.base hfo
  have Xc := C.at_ _ V₂.base
  obtain ⟨nm, q, bs, sn, sub, col, dd, k0, k1, k2, k3, k5, hC⟩ := Xc.obj
  obtain ⟨y, hy⟩ := obj_str
  obtain ⟨ot, e1, e2, _⟩ := I
  refine str_of_own (B := "object") hu ⟨ot, o, nm, q, _, bs, _, _, sn, sub, _, col, dd, k0, k1, k2, k3, k5, _, mN, y, e1, e2, hC, Xc.ns, hm, hfo, hfc', F.mro_object, hy⟩ ?_
  refine wpAny_mono (hp W s₂ E [.ref t] [] V₂.base V₂.tok V₂.wold (.cons r₂ .nil) .nil) (fun r s₃ q => ?_) fun _ _ e => e
  obtain ⟨K, rr⟩ := q
  cases rr
  exact ⟨_, _, rfl, (k₁.trans k₂).trans K, .str _ _⟩)
end
section
variable {prog : Program} {w : World} {A : Around} {E : Value → Shared → Prop} {d : Addr}
theorem ns_put {s : Shared} {es : List DictEntry} {n : Nat} {k : Str} {v : Value} {Q : Unit → Shared → Prop} (D : s.heap.get? d = some (dictOf es n))
  (hs : ∀ e ∈ es, e.key.isStr k = false) (hr : ∀ e ∈ es, e.refKey = false)
  (h : ∀ h', h'.get? d = some (dictOf (es ++ [⟨PyData.keyHash w.params k, .str k s.toks, v⟩]) (n + 1)) → Heap.SameBut d s.heap h' → Q () { s with heap := h', toks := s.toks + 1 }) :
  wpAny (model prog w) A (nsSet d k v) Q E s := by
 have e1 : es.any (·.key.isStr k) = false := by
  cases q : es.any (·.key.isStr k) with
  | false => rfl
  | true => obtain ⟨e, he, z⟩ := List.any_eq_true.mp q; rw [hs e he] at z; cases z
 have e2 : es.any (·.refKey) = false := by
  cases q : es.any (·.refKey) with
  | false => rfl
  | true => obtain ⟨e, he, z⟩ := List.any_eq_true.mp q; rw [hr e he] at z; cases z
 have e : Obj.putName k (PyData.keyHash w.params k) (.str k s.toks) v (dictOf es n) = dictOf (es ++ [⟨PyData.keyHash w.params k, .str k s.toks, v⟩]) (n + 1) := by
  rw [putName_dict, putL_new hs]
  show dictOf _ (if es.any (·.key.isStr k) then n else n + 1) = _
  rw [e1, if_neg Bool.false_ne_true]
 have c : aRefKeyMayBeTheName k es.toArray = false := by
  rw [aRefKeyMayBeTheName_at, ← Array.any_toList, ← Array.any_toList]
  show (!es.any (·.key.isStr k) && es.any (·.refKey)) = false
  rw [e2, Bool.and_false]
 unfold nsSet
 refine wpAny_bind (wpAny_bind (wpAny_askSetting (wpAny_pure (wpAny_bind (wpAny_mkText (wpAny_bind (wpAny_loadPart D ?_)))))))
 dsimp only
 rw [c]
 refine wpAny_updatePart D (h _ ?_ (Heap.SameBut.update ..))
 rw [← e]
 exact Heap.get?_update_self _ D (by show (Obj.putName k (PyData.keyHash w.params k) (.str k s.toks) v (dictOf es n)).isFreed = false; rw [e]; rfl)
theorem ns_fill {Q : PUnit → Shared → Prop} : ∀ (ex : List (Str × Value)) (s : Shared) (es : List DictEntry) (n : Nat), s.heap.get? d = some (dictOf es n) →
  (∀ e ∈ es, ∀ x ∈ ex, e.key.isStr x.1 = false) → (∀ e ∈ es, e.refKey = false) → (ex.map (·.1)).Nodup →
  (∀ h', h'.get? d = some (dictOf (es ++ kwEs w.params s.toks ex) (n + ex.length)) → Heap.SameBut d s.heap h' → Q ⟨⟩ { s with heap := h', toks := s.toks + ex.length }) →
  wpAny (model prog w) A (forIn ex PUnit.unit fun x _ => (nsSet d x.1 x.2 >>= fun _ => pure (ForInStep.yield PUnit.unit))) Q E s
 | [], s, es, n, D, _, _, _, h => by
  rw [List.forIn_nil]
  refine wpAny_pure (h s.heap ?_ (Heap.SameBut.refl _ _))
  show s.heap.get? d = some (dictOf (es ++ []) n)
  rw [List.append_nil]; exact D
 | x :: r, s, es, n, D, hs, hr, hn, h => by
  obtain ⟨hn1, hn2⟩ := List.nodup_cons.mp (show (x.1 :: r.map (·.1)).Nodup from hn)
  rw [List.forIn_cons]
  refine wpAny_bind (wpAny_bind (ns_put D (fun e he => hs e he x (.head _)) hr fun h' D' sb => wpAny_pure ?_))
  show wpAny (model prog w) A (forIn r PUnit.unit fun x _ => (nsSet d x.1 x.2 >>= fun _ => pure (ForInStep.yield PUnit.unit))) Q E { s with heap := h', toks := s.toks + 1 }
  refine ns_fill r { s with heap := h', toks := s.toks + 1 } _ _ D' (fun e he y hy => ?_) (fun e he => ?_) hn2 fun h'' D'' sb' => ?_
  ·rcases List.mem_append.mp he with he | he
   ·exact hs e he y (.tail _ hy)
   ·obtain rfl := List.mem_singleton.mp he
    show (x.1 == y.1) = false
    exact beq_eq_false_iff_ne.mpr fun q => hn1 (by rw [q]; exact List.mem_map_of_mem hy)
  ·rcases List.mem_append.mp he with he | he
   ·exact hr e he
   ·obtain rfl := List.mem_singleton.mp he
    rfl
  ·have t1 : s.toks + 1 + r.length = s.toks + (r.length + 1) := by omega
   have t2 : n + 1 + r.length = n + (r.length + 1) := by omega
   show Q ⟨⟩ { s with heap := h'', toks := s.toks + 1 + r.length }
   rw [t1]
   refine h h'' ?_ (sb.trans sb')
   rw [t2, List.append_assoc] at D''
   exact D''
end
theorem br_vals {W : Addr → Prop} {h : Heap} : ∀ {us : List (Str × Value)} {kvs : List (Str × D)}, BR W h us kvs → RdL W h (us.map (·.2)) (kvs.map (·.2))
 | _, _, .nil => .nil
 | _, _, .cons r b => .cons r (br_vals b)
theorem bind_kw {c : Cx} {A : Around} {E' : Value → Shared → Prop} {s : Shared} {fd : FuncData} {x y z nm : Str} {a b v : Value} {kvs : List (Str × Value)} {W : Addr → Prop} {da db dv : D} {kds : List (Str × D)} {R : List (Str × Value) → Shared → Prop}
  (h1 : fd.params.posonlyargs = []) (h2 : fd.params.args.map (·.arg) = [x, y, z]) (h3 : fd.params.kwonlyargs = []) (h4 : fd.params.vararg = none) (h5 : fd.params.kwarg.map (·.arg) = some nm) (h6 : fd.defaults = .none)
  (nxy : x ≠ y) (nxz : x ≠ z) (nyz : y ≠ z) (base : HasK c.K s.heap) (wo : ∀ a, W a → ∃ o, s.heap.get? a = some o)
  (ra : Rd W s.heap a da) (rb : Rd W s.heap b db) (rv : Rd W s.heap v dv) (rk : BR W s.heap kvs kds) (hn : (kds.map (·.1)).Nodup) (hd : ∀ k ∈ kds.map (·.1), k ∉ [x, y, z]) (hl : kds.length ≤ 1000000)
  (h : ∀ binds s₁, Kt s s₁ → binds.map (·.1) = [x, y, z, nm] → BR W s₁.heap binds [(x, da), (y, db), (z, dv), (nm, .dct c.prog c.w kds)] → R binds s₁) :
  wpAny c.M A (bindArgs fd ⟨[a, b, v], kvs⟩) R E' s := by
 have ek := rk.names
 obtain ⟨ka, hka, rfl⟩ := Option.map_eq_some_iff.mp h5
 unfold bindArgs
 simp only [h1, h2, h3, h4, hka, h6, List.map_nil, List.nil_append, List.append_nil]
 refine wpAny_bind ?_
 refine wpAny_forIn_list _ (fun rest acc s' => s = s' ∧ acc.1 = [(x, a), (y, b), (z, v)] ∧ acc.2 ++ rest = kvs ∧ ∀ q ∈ rest, ¬ q.1 ∈ [x, y, z]) _ ?_ ?_ _ _ ⟨rfl, rfl, rfl, fun q hq => hd q.1 (ek ▸ List.mem_map.mpr ⟨q, hq, rfl⟩)⟩
 ·rintro q rest acc s' ⟨rfl, e1, e2, hq⟩
  have hc : ([x, y, z].contains q.1 || [].contains q.1) = false := by
   have := hq q (List.mem_cons_self ..)
   rw [Bool.or_eq_false_iff]
   refine ⟨?_, rfl⟩
   cases e : [x, y, z].contains q.1 with
   | false => rfl
   | true => exact (this (List.contains_iff_mem.mp e)).elim
  rw [if_neg (by rw [hc]; decide), if_pos (by rfl)]
  exact wpAny_pure ⟨rfl, e1, by rw [← e2]; simp, fun p hp => hq p (List.mem_cons_of_mem _ hp)⟩
 ·rintro acc s' ⟨rfl, e1, e2, hq⟩
  obtain ⟨sl, ex⟩ := acc
  simp only [List.append_nil] at e1 e2
  subst e1 e2
  dsimp only
  have l1 : List.lookup x [(x, a), (y, b), (z, v)] = some a := by simp [List.lookup_cons]
  have l2 : List.lookup y [(x, a), (y, b), (z, v)] = some b := by
   rw [List.lookup_cons, beq_false_of_ne (Ne.symm nxy), List.lookup_cons, beq_self_eq_true]
  have l3 : List.lookup z [(x, a), (y, b), (z, v)] = some v := by
   rw [List.lookup_cons, beq_false_of_ne (Ne.symm nxz), List.lookup_cons, beq_false_of_ne (Ne.symm nyz), List.lookup_cons, beq_self_eq_true]
  refine wpAny_bind (wpAny_of_eq (a := Option.none) rfl ?_)
  rw [if_neg (by simp)]
  rw [if_neg (by simp [l1, l2, l3])]
  refine wpAny_bind (wpAny_of_eq (a := [(x, a), (y, b), (z, v)]) (by simp) ?_)
  refine wpAny_bind (wpAny_of_eq (a := ([(x, a), (y, b), (z, v)], [])) (by simp) ?_)
  dsimp only
  rw [if_neg (by simp)]
  rw [if_neg (by
   have : ex.length = kds.length := by have := congrArg List.length ek; simpa using this
   rw [this, sizeLine_eq]; omega)]
  refine wpAny_bind (wpAny_alloc ?_)
  have ef : (List.filterMap (fun n => Option.map (fun x => (n, x)) (List.lookup n [(x, a), (y, b), (z, v)])) [x, y, z]) = [(x, a), (y, b), (z, v)] := by simp [l1, l2, l3]
  rw [ef]
  have K1 : Kt s { s with heap := s.heap.push { cls := .type "dict", data := .dict #[] } } := ⟨.push _, Nat.le_refl _⟩
  have hnx : (ex.map (·.1)).Nodup := ek ▸ hn
  have d0 : s.heap.get? s.heap.objs.size = none := size_none
  have hne : (s.heap.objs.size == sysModules) = false := by
   obtain ⟨mc, ⟨o, _, _, e, _⟩, _⟩ := c.hl _ base
   have := Heap.lt_size e
   have e2 : cStatics = 2 := rfl
   have e3 : sysModules = 1 := rfl
   rw [e2] at this
   rw [e3]
   exact beq_false_of_ne fun q => absurd this (by rw [q]; decide)
  have D1 : ({ s with heap := s.heap.push { cls := .type "dict", data := .dict #[] } } : Shared).heap.get? s.heap.objs.size = some (dictOf [] 0) := Heap.get?_push_size _ rfl
  generalize ({ s with heap := s.heap.push { cls := .type "dict", data := .dict #[] } } : Shared) = s1 at K1 D1 ⊢
  generalize s.heap.objs.size = d at D1 d0 hne ⊢
  refine wpAny_bind (ns_fill ex s1 [] 0 D1 (fun e he => nomatch he) (fun e he => nomatch he) hnx fun h' D2 sb => wpAny_pure ?_)
  have K2 : Kt s { s1 with heap := h', toks := s1.toks + ex.length } := by
   refine ⟨⟨?_, fun b o e => sb.extBut b o (fun q => by rw [q, d0] at e; cases e) (K1.heap b o e)⟩, Nat.le_trans K1.tk (Nat.le_add_right _ _)⟩
   obtain ⟨h1, t1, q1⟩ := K1.eq
   exact ⟨h', _, by rw [q1]⟩
  have dd : h'.DictOf (strKind c.prog c.w) d ex := Heap.dictOf_iff.mpr ⟨_, D2, kp_isDict s1.toks (0 + ex.length) hnx⟩
  have nW : ¬ W d := fun q => by obtain ⟨o, e⟩ := wo d q; rw [d0] at e; cases e
  refine h _ _ K2 rfl (.cons (ra.keeps K2.heap) (.cons (rb.keeps K2.heap) (.cons (rv.keeps K2.heap) (.cons (.dct nW dd ?_ ⟨ek, hne⟩) .nil))))
  exact (br_vals rk).keeps K2.heap
section
variable {c : Cx} {A : Around} {env : Env} {σ : List (Str × D)} {W : Addr → Prop} {s : Shared} {E : Value → Shared → Prop}
theorem Tv.and2 {e f : Expr} {pos : Pos} {a b : Bool} (h : Tv c A env σ e a) (k : a = true → Tv c A env σ f b) : Tv c A env σ (.BoolOp .And [e, f] pos) (a && b) := fun W s E V =>
 isTrue_and (wpAny_mono (h W s E V) (fun v s' q => by
  obtain ⟨K, rfl⟩ := q
  cases v with
  | false => exact ⟨K, rfl⟩
  | true => exact isTrue_and (wpAny_mono (k rfl W s' E (V.keeps K)) (fun v s'' q => by
    obtain ⟨K', rfl⟩ := q
    cases v with
    | false => exact ⟨K.trans K', rfl⟩
    | true => exact isTrue_and_nil ⟨K.trans K', rfl⟩) fun _ _ e => e)) fun _ _ e => e)
theorem Tv.cast {e : Expr} {a b : Bool} (h : Tv c A env σ e a) (q : a = b) : Tv c A env σ e b := q ▸ h
theorem Ev.cast {e : Expr} {a b : D} (h : Ev c A env σ e a) (q : a = b) : Ev c A env σ e b := q ▸ h
theorem Tv.int {e : Expr} {i : Int} (h : Ev c A env σ e (.int i)) (he : ∀ whole, isTrue e env whole = (do let v ← whole; standAt e.pos; holding [v] (truthy v)) := by intro _; rfl) : Tv c A env σ e (i != 0) := fun W s E V =>
 isTrue_plain (h.use V fun v s₁ K₁ V₁ r₁ => by cases r₁; exact PyProof.Rows.truthy_int ⟨K₁, rfl⟩) (he _)
theorem Cmp.gt {i j : Int} : Cmp c A .Gt (.int i) (.int j) (decide (i > j)) := fun W s E u v _ ru rv => by
 cases ru; cases rv
 exact PyProof.Rows.gt_int ⟨.refl _, rfl⟩
theorem Ev.lenS {x : Str} {np p : Pos} {e : Expr} {y : Str} (hf : Ev c A env σ (.Name x np) (.val (.builtin "len"))) (hs : starEach [e] env = [(false, eval e env)]) (he : Ev c A env σ e (.str y)) (hz : y.length < 10000000) :
  Ev c A env σ (.Call (.Name x np) [e] [] p) (.int y.length) :=
 .call1 hf hs he fun W s E v _ _ r => by
  cases r
  exact PyProof.Rows.len_str (by omega) ⟨⟨⟨_, _, rfl⟩, fun _ _ e => e⟩, .int _ _⟩
theorem Ev.fmtS {e : Expr} {pos : Pos} {x : Str} (h : Ev c A env σ e (.str x)) (hz : x.length ≤ 10000000) : Ev c A env σ (.FormattedValue e 115 Option.none pos) (.str x) := .intro fun W s E V => by
 rw [arm_eval_FormattedValue]
 refine wpAny_bind (h.use V fun v s₁ K₁ V₁ r₁ => ?_)
 cases r₁
 rename_i t
 refine wpAny_bind (wpAny_standAt ?_)
 have hz' : x.length ≤ sizeLine := by rw [sizeLine_eq]; omega
 show wpAny _ _ (do let v' ← holding [.str x t] (habitSame "fstring-hands-on-the-str" (.str x t)); formatField v' Str.empty) _ _ _
 refine wpAny_bind (wpAny_holding (PyProof.Rows.habitSame_str (fun t' tk => PyProof.Rows.formatField_str (fun t'' tk' => ?_) hz') hz'))
 exact ⟨K₁.toKq.trans ⟨⟨_, _, rfl⟩, fun _ _ e => e⟩, .str _ _⟩
inductive EvJ (c : Cx) (A : Around) (env : Env) (σ : List (Str × D)) : List Expr → List Str → Prop
 | nil : EvJ c A env σ [] []
 | cons {e : Expr} {es : List Expr} {x : Str} {xs : List Str} : Ev c A env σ e (.str x) → EvJ c A env σ es xs → EvJ c A env σ (e :: es) (x :: xs)
theorem EvJ.joins {Q : Value → Shared → Prop} {es : List Expr} {xs : List Str} (r : EvJ c A env σ es xs) : ∀ {acc : Str} {s : Shared}, View c W env σ s → acc.length + (xs.map (·.length)).sum ≤ 10000000 →
  (∀ s', Kt s s' → ∀ t k, Q (.str (xs.foldl (· ++ ·) acc) t) { s' with toks := s'.toks + k }) → Joins (model c.prog c.w) A E (evalEach es env) acc (fun out s₁ => out.length ≤ sizeLine ∧ Q (.str out s₁.toks) { s₁ with toks := s₁.toks + 1 }) s := by
 induction r with
 | nil => exact fun V hz h => ⟨by rw [sizeLine_eq]; simp at hz; omega, h _ (.refl _) _ 1⟩
 | @cons _ _ x _ he r ih =>
  intro acc s V hz h
  have hl : (acc ++ x).length = acc.length + x.length := by rw [PySem.Str.length_append]
  simp only [List.map_cons, List.sum_cons] at hz
  refine he.use V fun v s₁ K₁ V₁ r₁ => ?_
  cases r₁
  refine ⟨x, _, rfl, by rw [sizeLine_eq, hl]; omega, ih V₁ (by rw [hl]; omega) fun s' K' t k => h s' (K₁.trans K') t k⟩
theorem Ev.joined {e₁ e₂ : Expr} {es : List Expr} {pos : Pos} {xs : List Str} (h : EvJ c A env σ (e₁ :: e₂ :: es) xs) (hz : (xs.map (·.length)).sum ≤ 10000000) : Ev c A env σ (.JoinedStr (e₁ :: e₂ :: es) pos) (.str (xs.foldl (· ++ ·) Str.empty)) := fun W s E V =>
 wpAny_JoinedStr (EvJ.joins (Q := fun v s' => Kt s s' ∧ Rd W s'.heap v (.str (xs.foldl (· ++ ·) Str.empty))) (acc := Str.empty) h V (by show 0 + _ ≤ _; omega) fun s' K' t k => ⟨K'.trans ⟨⟨⟨_, _, rfl⟩, fun _ _ e => e⟩, Nat.le_add_right _ _⟩, .str _ _⟩)
theorem empty_app (x : Str) : Str.empty ++ x = x := KPc.empty_app x
theorem Ev.compM {elt iter : Expr} {x : Str} {px : Pos} {scope : Scope} {pos : Pos} {cl : List (Str × Addr)} {di : D} {α : Type} {xs : List α} {g f : α → D} {σc : List (Str × D)}
  (hh : A.handled = Option.none) (ok : EnvOk env) (hi : Ev c A env σ iter di) (it : Itr c A di (xs.map g)) (hinj : ∀ a b, g a = g b → a = b) (hn : xs.length ≤ 1000000)
  (hclos : closureFor scope env = pure cl) (hcell : ∀ y ∈ scope.names, y.2 ≠ .cell) (hkind : scope.kind = .function) (hnames : ∀ y ∈ scope.names, y.2 = .local → scope.names.lookup y.1 = some .local) (cap : Cap env scope cl σ σc)
  (hx : ∀ C, (compEnvC scope cl C env).kindOf x = some .local)
  (step : ∀ C a, a ∈ xs → Ev c A (compEnvC scope cl C env) ((x, g a) :: σc) elt (f a)) (hs : ∀ x, foldedSetIterable iter env x = pure x := by intro _; rfl) :
  Ev c A env σ (.ListComp elt [⟨.Name x px, iter, [], 0⟩] scope pos) (.lst (xs.map f)) := by
 classical
 have key : ((xs.map g).filter (fun _ => true)).map (fun d => if h : ∃ a ∈ xs, g a = d then f h.choose else .val .none) = xs.map f := by
  rw [List.filter_eq_self.mpr (by simp), List.map_map]
  refine List.map_congr_left fun a ha => ?_
  have h : ∃ b ∈ xs, g b = g a := ⟨a, ha, rfl⟩
  show (if h : ∃ b ∈ xs, g b = g a then f h.choose else .val .none) = f a
  rw [dif_pos h]
  exact congrArg f (hinj _ _ h.choose_spec.2)
 rw [← key]
 refine Ev.comp hh ok hi it (by rw [List.length_map]; exact hn) hclos hcell hkind hnames cap (fun C d hd => ?_) hs
 obtain ⟨a, ha, rfl⟩ := List.mem_map.mp hd
 refine ⟨_, .name (hx C), .nil, fun _ => ?_⟩
 have h : ∃ b ∈ xs, g b = g a := ⟨a, ha, rfl⟩
 rw [dif_pos h, hinj _ _ h.choose_spec.2]
 exact step C a ha
end
section
variable {c : Cx} {A : Around} {s₀ : Shared} {W₀ Md W : Addr → Prop} {env : Env} {σ : List (Str × D)} {μ : List (Addr × Own)} {s : Shared} {E : Value → Shared → Prop}
theorem new_own (F : Fr c s₀ W₀ Md W env σ μ s) {vs : List Value} {ds : List D} {Q : Value → Shared → Prop} (r : RdL W s.heap vs ds) (hn : ds.length ≤ 1000000)
  (h : ∀ a s', s₀.heap.get? a = none → Fr c s₀ W₀ Md (fun b => W b ∨ b = a) env σ ((a, .l ds) :: μ) s' → Q (.ref a) s') : wpAny c.M A (newList vs) Q E s := by
 refine wpAny_newObj_type ?_ (by show vs.toArray.size ≤ 2 ^ 24; rw [List.size_toArray, r.length]; omega)
 have ha : s.heap.get? s.heap.objs.size = none := size_none
 have K : Kt s { s with heap := s.heap.push { cls := .type "list", data := .seq vs.toArray } } := ⟨.push _, Nat.le_refl _⟩
 exact h _ _ (F.fresh ha) (F.adopt K ha ⟨0, Heap.get?_push_size _ rfl⟩ (by rw [List.toList_toArray]; exact (r.grow fun b q => q.imp id fun q => by rw [q]; exact ha).keeps K.heap))
theorem ev_ownlist (F : Fr c s₀ W₀ Md W env σ μ s) {es : List Expr} {p : Pos} {ds : List D} {Q : Value → Shared → Prop} (he : EvL c A env σ (backTo p (starEach es env)) ds) (hn : ds.length ≤ 1000000)
  (h : ∀ a s', s₀.heap.get? a = none → Fr c s₀ W₀ Md (fun b => W b ∨ b = a) env σ ((a, .l ds) :: μ) s' → Q (.ref a) s') : wpAny c.M A (eval (.List es p) env) Q E s :=
 List_ (he.use F.view fun vs s₁ K₁ V₁ r₁ => new_own (F.keeps K₁) r₁ hn h)
theorem st_assignN (ok : EnvOk env) {x : Str} {px pos : Pos} {e : Expr} {Q : Flow → Shared → Prop} (hk : Nm env x)
  (he : wpAny c.M A (eval e env) (fun v s₁ => ∃ W₁ μ₁ d, Fr c s₀ W₀ Md W₁ env σ μ₁ s₁ ∧ Rd W₁ s₁.heap v d ∧ ∀ s', Fr c s₀ W₀ Md W₁ env ((x, d) :: σ) μ₁ s' → Q .next s') E s)
  (hs : swapsWith e (some (.Name x px)) pos.line env = pure false := by rfl) : wpAny c.M A (exec (.Assign [.Name x px] e pos) env) Q E s :=
 wpAny_Assign_Name (wpAny_mono he (fun v s₁ q => by
  obtain ⟨W₁, μ₁, d, F₁, r, h⟩ := q
  exact F₁.set ok hk r fun s' F' _ => h s' F') fun _ _ e => e) hs
theorem st_appendN (F : Fr c s₀ W₀ Md W env σ μ s) {o e : Expr} {apos pos epos : Pos} {a : Addr} {l₀ : List D} {Q : Flow → Shared → Prop} (ho : ∀ E, wpAny c.M A (eval o env) (fun v s' => Kt s s' ∧ v = .ref a) E s) (hm : (a, .l l₀) ∈ μ)
  (he : ∀ s₁ E, Fr c s₀ W₀ Md W env σ μ s₁ → wpAny c.M A (eval e env) (fun y s₂ => ∃ W₁ μ₁ μ₂ l d, Fr c s₀ W₀ Md W₁ env σ (μ₁ ++ (a, .l l) :: μ₂) s₂ ∧ Rd W₁ s₂.heap y d ∧ l.length ≤ 1000000 ∧ ∀ s', Fr c s₀ W₀ Md W₁ env σ (μ₁ ++ (a, .l (l ++ [d])) :: μ₂) s' → Q .next s') E s₁)
  (hbase : attributeBase o "append" env (eval o env) = eval o env) (hs : starEach [e] env = [(false, eval e env)]) (hline : (apos.endLine == pos.line) = true) (hint : interactive env = false := by rfl) :
  wpAny c.M A (exec (.Expr (.Call (.Attribute o "append" apos) [e] [] pos) epos) env) Q E s := by
 refine wpAny_Expr (wpAny_Call_append hbase (by rw [hs]; rfl) hline (by rw [hs]; rfl) ?_) hint (by rfl)
 refine wpAny_mono (ho E) (fun v s₁ q => ?_) fun _ _ e => e
 obtain ⟨K₁, rfl⟩ := q
 have F₁ := F.keeps K₁
 obtain ⟨q1, q2, qL, us, ⟨n, q3⟩, q4⟩ := F₁.own a (.l l₀) hm
 refine ⟨a, us, rfl, ⟨_, n, q3, rfl, rfl, rfl⟩, wpAny_mono (he s₁ E F₁) (fun y s₂ q => ?_) fun _ _ e => e⟩
 obtain ⟨W₁, μ₁, μ₂, l, d, F₂, r₂, hn, h⟩ := q
 have hmem : (a, Own.l l) ∈ μ₁ ++ (a, .l l) :: μ₂ := List.mem_append_right _ (List.mem_cons_self ..)
 obtain ⟨p1, p2, pL, ws, ⟨k, p3⟩, p4⟩ := F₂.own a (.l l) hmem
 have el : ws.size = l.length := by rw [← p4.length]; simp
 refine wpAny_list_append_plain (items := ws) (hsz := by rw [el, sizeLine_eq]; omega) ⟨k, p3⟩ fun h' pl sb => ?_
 have hm : ∀ b, b = a → W₁ b := fun b e => by rw [e]; exact p1
 refine h _ (F₂.putU rfl (upd_of sb) ⟨_, pl, ?_⟩)
 rw [Array.toList_push]
 exact (upd_of sb).rdL hm (p4.app (.cons r₂ .nil))
theorem st_listsetN {o i value : Expr} {pos' pos : Pos} {a : Addr} {j : Nat} {Q : Flow → Shared → Prop}
  (hv : wpAny c.M A (eval value env) (fun v s₁ => ∃ W₁ μ₁ μ₂ l d, Fr c s₀ W₀ Md W₁ env σ (μ₁ ++ (a, .l l) :: μ₂) s₁ ∧ Rd W₁ s₁.heap v d ∧ j < l.length ∧ l.length ≤ 1000000 ∧ (∀ E, wpAny c.M A (eval o env) (fun u s₂ => Kt s₁ s₂ ∧ u = .ref a) E s₁) ∧ ∀ s', Fr c s₀ W₀ Md W₁ env σ (μ₁ ++ (a, .l (l.set j d)) :: μ₂) s' → Q .next s') E s)
  (hi : Ev c A env σ i (.int (j : Int))) (hs : swapsWith value (some (.Subscript o i pos')) pos.line env = pure false := by rfl) :
  wpAny c.M A (exec (.Assign [.Subscript o i pos'] value pos) env) Q E s :=
 wpAny_Assign_Subscript (wpAny_mono hv (fun v s₁ q => by
  obtain ⟨W₁, μ₁, μ₂, l, d, F₁, r₁, hj, hn, ho, h⟩ := q
  refine wpAny_mono (ho E) (fun u s₂ q => ?_) fun _ _ e => e
  obtain ⟨K₂, rfl⟩ := q
  refine hi.use (F₁.view.keeps K₂) fun w s₃ K₃ V₃ r₃ => ?_
  cases r₃
  have F₃ := (F₁.keeps K₂).keeps K₃
  have hmem : (a, Own.l l) ∈ μ₁ ++ (a, .l l) :: μ₂ := List.mem_append_right _ (List.mem_cons_self ..)
  obtain ⟨q1, q2, qL, us, pl, rl⟩ := F₃.own a (.l l) hmem
  have rv := (r₁.keeps K₂.heap).keeps K₃.heap
  have hm : ∀ b, b = a → W₁ b := fun b e => by rw [e]; exact q1
  have el : us.size = l.length := by rw [← rl.length]; simp
  refine setItem_plain pl (Int.natCast_nonneg j) (by omega) (by omega) fun h' pl' sb => ?_
  refine h _ (F₃.putU rfl (upd_of sb) ⟨_, pl', (upd_of sb).rdL hm ?_⟩)
  rw [Array.toList_setIfInBounds]
  exact rl.set j rv) fun _ _ e => e) hs
theorem ev_pickT {α : Type} {f : α → D} {xs : List α} {value slice : Expr} {p : Pos} {k : Nat} {d : α} (hv : Ev c A env σ value (.tup (xs.map f))) (hi : Ev c A env σ slice (.int (k : Nat))) (h : k < xs.length) (hl : xs.length ≤ 1000000)
  (hs : ∀ (a : Addr) (u : Tok), subscripted slice false (.ref a) (.int (k : Nat) u) = operate [.ref a, .int (k : Nat) u] (getItem (.ref a) (.int (k : Nat) u)) := by intro _ _; rfl) : Ev c A env σ (.Subscript value slice p) (f (xs.getD k d)) :=
 Ev.subT (j := k) hv hi (by omega) (by omega) (by
  rw [List.length_map]
  unfold seqIndex?
  rw [if_neg (show ¬ ((k : Nat) : Int) < 0 by omega)]
  simp; omega) (by rw [List.getElem?_map, List.getElem?_eq_getElem h]; simp [List.getD_eq_getElem?_getD, List.getElem?_eq_getElem h]) hs
theorem cmp_eqI {n : Nat} (r : Room A (n + 1)) {i j : Int} (hi : i.natAbs < 100000000) (hj : j.natAbs < 100000000) : Cmp c A .Eq (.int i) (.int j) (decide (i = j)) := by
 classical
 have := Cmp.eq (c := c) (A := A) r (by have := r.units; show A.units + 64 < 9900; omega) (d := .int i) (e := .int j) (by rw [okD]) (by rw [okD])
 have e : decide (D.int i = D.int j) = decide (i = j) := by
  by_cases z : i = j
  ·subst z; simp
  ·rw [decide_eq_false z, decide_eq_false fun q => z (by injection q)]
 rw [e] at this; exact this
theorem st_ifEq {n : Nat} (r : Room A (n + 1)) (F : Fr c s₀ W₀ Md W env σ μ s) {l t : Expr} {p pos : Pos} {body orelse : List Stmt} {k j : Nat} {Q : Flow → Shared → Prop} (hl : Ev c A env σ l (.int (k : Nat))) (hk : k < 100000) (ht : Ev c A env σ t (.int (j : Nat))) (hj : j < 100000)
  (h1 : k = j → ∀ s', Fr c s₀ W₀ Md W env σ μ s' → wpAny c.M A (execs body env) Q E s') (h2 : k ≠ j → ∀ s', Fr c s₀ W₀ Md W env σ μ s' → wpAny c.M A (execs orelse env) Q E s') (hm : behindInMarks .Eq t = false := by rfl) :
  wpAny c.M A (exec (.If (.Compare l [.Eq] [t] p) body orelse pos) env) Q E s :=
 st_if F (b := decide ((k : Int) = (j : Int))) (Tv.cmp hl ht (cmp_eqI r (by omega) (by omega)) hm) (fun e => h1 (by have := of_decide_eq_true e; omega)) (fun e => h2 (by have := of_decide_eq_false e; omega))
end
section
variable {c : Cx} {A : Around} {env : Env} {σ : List (Str × D)} {W : Addr → Prop} {s : Shared} {E : Value → Shared → Prop}
theorem Ev.subS {value slice : Expr} {p : Pos} {x : Str} {k : Nat} {y : Nat} (hv : Ev c A env σ value (.str x)) (hi : Ev c A env σ slice (.int (k : Nat))) (hk : k < 1000000) (hd : x.cps[k]? = some y)
  (hs : ∀ (t u : Tok), subscripted slice false (.str x t) (.int (k : Nat) u) = operate [.str x t, .int (k : Nat) u] (getItem (.str x t) (.int (k : Nat) u)) := by intro _ _; rfl) : Ev c A env σ (.Subscript value slice p) (.str ⟨#[y]⟩) :=
 fun W s E V => Subscript_ (hv.use V fun v s₁ k₁ V₁ r₁ => hi.use V₁ fun i s₂ k₂ V₂ r₂ => by
  cases r₂
  cases r₁
  rename_i t u
  have hlt : k < x.cps.size := by
   rcases Nat.lt_or_ge k x.cps.size with h | h
   ·exact h
   ·rw [Array.getElem?_eq_none h] at hd; cases hd
  refine tail_any (typeIs_str _ x _) slot_str_getitem.lookup (PyProof.Rows.getItem_str (c := y) ?_ ?_ ⟨(k₁.trans k₂).trans ⟨.tok _, Nat.le_succ _⟩, .str _ _⟩) (hs _ _)
  ·rw [decide_eq_false (show ¬ ((k : Nat) : Int) < -(2 ^ 63 : Int) by omega), decide_eq_false (show ¬ ((k : Nat) : Int) ≥ 2 ^ 63 by omega)]; rfl
  ·unfold seqIndex?
   rw [if_neg (show ¬ ((k : Nat) : Int) < 0 by omega)]
   have e1 : decide (((k : Nat) : Int) < (x.length : Nat)) = true := decide_eq_true (by have : x.length = x.cps.size := rfl; omega)
   have e2 : decide (0 ≤ ((k : Nat) : Int)) = true := decide_eq_true (by omega)
   dsimp only
   rw [e1, e2, if_pos (by rfl), Int.toNat_natCast]
   exact hd)
theorem ev_negI {e : Expr} {p : Pos} {i : Int} (he : Ev c A env σ e (.int i)) : Ev c A env σ (.UnaryOp .USub e p) (.int (-i)) := fun W s E V =>
 wpAny_UnaryOp (he.use V fun v s₁ K₁ V₁ r₁ => by
  cases r₁
  exact neg_int ⟨K₁.trans ⟨.tok _, Nat.le_succ _⟩, .int _ _⟩)
theorem ev_lastL {value slice : Expr} {p : Pos} {l : List D} {d : D} (hv : Ev c A env σ value (.lst (l ++ [d]))) (hi : Ev c A env σ slice (.int (-1))) (hl : l.length ≤ 1000000)
  (hs : ∀ (a : Addr) (u : Tok), subscripted slice false (.ref a) (.int (-1) u) = operate [.ref a, .int (-1) u] (getItem (.ref a) (.int (-1) u)) := by intro _ _; rfl) : Ev c A env σ (.Subscript value slice p) d :=
 Ev.subL (j := l.length) hv hi (by omega) (by omega) (by
  unfold seqIndex?
  simp only [show (-1 : Int) < 0 by decide, if_true, List.length_append, List.length_cons, List.length_nil]
  rw [decide_eq_true (show (0 : Int) ≤ -1 + ((l.length + (0 + 1) : Nat) : Int) by omega), decide_eq_true (show -1 + ((l.length + (0 + 1) : Nat) : Int) < ((l.length + (0 + 1) : Nat) : Int) by omega), if_pos (by rfl)]
  congr 1; omega) (by simp) hs
theorem ev_itemL {value slice : Expr} {p : Pos} {l : List D} {k : Nat} {d : D} (hv : Ev c A env σ value (.lst l)) (hi : Ev c A env σ slice (.int (k : Nat))) (hd : l[k]? = some d) (hl : l.length ≤ 1000000)
  (hs : ∀ (a : Addr) (u : Tok), subscripted slice false (.ref a) (.int (k : Nat) u) = operate [.ref a, .int (k : Nat) u] (getItem (.ref a) (.int (k : Nat) u)) := by intro _ _; rfl) : Ev c A env σ (.Subscript value slice p) d := by
 have h : k < l.length := (List.getElem?_eq_some_iff.mp hd).1
 exact Ev.subL (j := k) hv hi (by omega) (by omega) (by
  unfold seqIndex?
  rw [if_neg (show ¬ ((k : Nat) : Int) < 0 by omega)]
  simp; omega) hd hs
end
theorem lookup_relabel_cell {env : Env} : ∀ {names : List (Str × NameKind)} {x : Str}, names.lookup x = some .cell →
  (names.map fun (n, k) => if (k == NameKind.free && env.scope.kind == .function && env.kindOf n == some .cell) then (n, NameKind.cell) else (n, k)).lookup x = some .cell
 | [], _, h => by simp at h
 | (n, k) :: r, x, h => by
  have ih := @lookup_relabel_cell env r x
  show List.lookup x ((if (k == NameKind.free && env.scope.kind == .function && env.kindOf n == some .cell) = true then (n, NameKind.cell) else (n, k)) :: _) = _
  cases hx : x == n with
  | true =>
   simp only [List.lookup_cons, hx] at h
   cases h
   rw [if_neg (by simp)]
   simp [List.lookup_cons, hx]
  | false =>
   simp only [List.lookup_cons, hx] at h
   by_cases hc : (k == NameKind.free && env.scope.kind == .function && env.kindOf n == some .cell) = true
   ·rw [if_pos hc]; simp only [List.lookup_cons, hx]; exact ih h
   ·rw [if_neg hc]; simp only [List.lookup_cons, hx]; exact ih h
section
variable {c : Cx} {A : Around} {env : Env} {σ : List (Str × D)}
theorem comp_coreC {W : Addr → Prop} {elt iter : Expr} {x : Str} {px : Pos} {ifs : List Expr} {scope : Scope} {pos : Pos} {cl : List (Str × Addr)} {l : List D} {p : D → Bool} {f : D → D} {σc : List (Str × D)} {fp : List Addr} {P : Nat → Value → Prop} {St : Nat → Heap → Prop}
  {I : Addr} {s₂ : Shared} {RR : Value → Addr → Result → Shared → Prop} {E : Value → Shared → Prop} (hh : A.handled = none) (ok : EnvOk env)
  (Y : Yd c A I fp l.length P St) (hst : St 0 s₂.heap) (V : View c W env σ s₂) (hI : W I) (hIK : c.K I = none)
  (hfp : ∀ b ∈ fp, b ≠ I ∧ ∃ o, s₂.heap.get? b = some o) (hP : ∀ i u, i < l.length → P i u → ∃ d, l[i]? = some d ∧ Rd W s₂.heap u d) (hn : l.length ≤ 1000000)
  (hcells : ∀ (i : Nat) (acc : List (Str × Addr)), cellsFrom i scope.names acc = (x, i) :: acc) (hpush : ∀ h : Heap, pushCells h scope.names = h.push { cls := .type "cell", data := .cell none }) (hxc : scope.names.lookup x = some .cell) (hxs : σc.lookup x = none) (hkind : scope.kind = .function) (cap : Cap env scope cl σ σc)
  (step : ∀ C X d, d ∈ l → Ts c A (compEnvC scope ((x, X) :: cl) C env) ((x, d) :: σc) ifs (p d) ∧ (p d = true → Ev c A (compEnvC scope ((x, X) :: cl) C env) ((x, d) :: σc) elt (f d)))
  (hRR : ∀ B C s', s₂.heap.get? B = none → s₂.heap.get? C = none → B ≠ C → (∃ m, s'.heap.Ns C m) → Upd (fun b => b = I) s₂ s' →
   (∃ ys, s'.heap.PlainList B ys ∧ RdL (fun a => W a ∨ a = C ∨ a = B) s'.heap ys.toList ((l.filter p).map f)) → RR (.ref B) C (.ok .next) s') :
  wpAny c.M A (newList []) (fun acc s₃ => wpAny c.M A (newFunctionEnv scope env.globals cl [] env.qual none .none (some env)) (fun cenv s₄ =>
   codeAny c.M A (.compStart (.ListComp elt [⟨.Name x px, iter, ifs, 0⟩] scope pos) 0 (.ref I) acc { cenv with scope := relabel scope env }) (RR acc cenv.locals) s₄) E s₃) E s₂ := by
 obtain ⟨oI, eI⟩ := V.wold I hI
 refine wpAny_newObj_type ?_
 have fresh : ∀ a, s₂.heap.objs.size ≤ a → s₂.heap.get? a = none := fun a ha => by
  cases e : s₂.heap.get? a with
  | none => rfl
  | some o' => exact absurd (Heap.lt_size e) (Nat.not_lt.mpr ha)
 simp only [newFunctionEnv, Option.isSome_some, if_true]
 refine wpAny_bind (wpAny_alloc (wpAny_bind (wpAny_layCells _ (fun name kind cells => by cases hkc : kind == NameKind.cell <;> simp [hkc]) _ _ _ _ ?_)))
 rw [hcells, hpush]
 refine wpAny_bind ?_
 rw [List.forIn_nil]
 refine wpAny_pure (wpAny_pure ?_)
 generalize hH1 : s₂.heap.push { cls := .type "list", dict := none, data := .seq ([] : List Value).toArray } = H1
 generalize hH2 : H1.push { cls := .type "dict", data := .dict #[] } = H2
 generalize hH3 : H2.push { cls := .type "cell", data := .cell none } = H3
 have z1 : H1.objs.size = s₂.heap.objs.size + 1 := by rw [← hH1, Heap.size_push]
 have z2 : H2.objs.size = s₂.heap.objs.size + 2 := by rw [← hH2, Heap.size_push, z1]
 have old : ∀ b o, s₂.heap.get? b = some o → H3.get? b = some o := fun b o e => by
  rw [← hH3]; refine Heap.get?_push_of_some _ ?_
  rw [← hH2]; refine Heap.get?_push_of_some _ ?_
  rw [← hH1]; exact Heap.get?_push_of_some _ e
 have hBC : s₂.heap.objs.size ≠ H1.objs.size := by rw [z1]; exact Nat.ne_of_lt (Nat.lt_succ_self _)
 have hBX : s₂.heap.objs.size ≠ H2.objs.size := by rw [z2]; exact Nat.ne_of_lt (Nat.lt_add_of_pos_right (by decide))
 have hCX : H1.objs.size ≠ H2.objs.size := by rw [z1, z2]; exact Nat.ne_of_lt (Nat.lt_succ_self _)
 have hacc : H3.PlainList s₂.heap.objs.size #[] := ⟨0, by
  rw [← hH3]; refine Heap.get?_push_of_some _ ?_
  rw [← hH2]; refine Heap.get?_push_of_some _ ?_
  rw [← hH1]; exact Heap.get?_push_size _ rfl⟩
 have n0 : H2.Ns H1.objs.size (fun _ => none) := by rw [← hH2]; exact Heap.Ns.new _ _
 have hns : ∃ m, H3.Ns H1.objs.size m := ⟨fun _ => none, by rw [← hH3]; exact n0.push _⟩
 have hcl : ∃ u, H3.IsCell H2.objs.size u := ⟨none, _, by rw [← hH3]; exact Heap.get?_push_size _ rfl, rfl⟩
 have freshB : s₂.heap.get? s₂.heap.objs.size = none := fresh _ (Nat.le_refl _)
 have freshC : s₂.heap.get? H1.objs.size = none := fresh _ (by rw [z1]; exact Nat.le_succ _)
 have freshX : s₂.heap.get? H2.objs.size = none := fresh _ (by rw [z2]; exact Nat.le_add_right _ _)
 have main : ∀ (B C X : Addr) (s₃ : Shared), B ≠ C → B ≠ X → C ≠ X → s₂.heap.get? B = none → s₂.heap.get? C = none → s₂.heap.get? X = none → Upd (fun _ => False) s₂ s₃ → s₃.heap.PlainList B #[] → (∃ m, s₃.heap.Ns C m) → (∃ u, s₃.heap.IsCell X u) →
   codeAny c.M A (.compLoop (.ListComp elt [⟨.Name x px, iter, ifs, 0⟩] scope pos) 0 (.ref I) (.ref B) (compEnvC scope ((x, X) :: cl) C env)) (RR (.ref B) C) s₃ := by
  clear hBC hBX hCX freshB freshC freshX hacc old fresh hns n0 hcl z1 z2 hH3 hH2 hH1 H3 H2 H1
  intro B C X s₃ hBC hBX hCX freshB freshC freshX U₃ acc₃ ns₃ cl₃
  have hIB : I ≠ B := by rintro rfl; rw [freshB] at eI; cases eI
  have hIC : I ≠ C := by rintro rfl; rw [freshC] at eI; cases eI
  have hIX : I ≠ X := by rintro rfl; rw [freshX] at eI; cases eI
  have Kfresh : ∀ a, s₂.heap.get? a = none → c.K a = none := fun a e => by
   cases e' : c.K a with
   | none => rfl
   | some o => rw [V.base a o e'] at e; cases e
  have st₃ : St 0 s₃.heap := Y.w.frame _ _ _ hst fun b _ o e => U₃.keep b o id e
  have hRR' := hRR B C
  generalize hW' : (fun a => W a ∨ a = C ∨ a = B ∨ a = X) = W'
  have okc : EnvOk (compEnvC scope ((x, X) :: cl) C env) := compEnvC_ok ok hkind
  have W'loc : W' C := by subst hW'; exact .inr (.inl rfl)
  have W'I : W' I := by subst hW'; exact .inl hI
  have W'B : W' B := by subst hW'; exact .inr (.inr (.inl rfl))
  have W'X : W' X := by subst hW'; exact .inr (.inr (.inr rfl))
  have WW' : ∀ a, W' a → W a ∨ s₂.heap.get? a = none := fun a h => by
   subst hW'
   rcases h with h | rfl | rfl | rfl
   ·exact .inl h
   ·exact .inr freshC
   ·exact .inr freshB
   ·exact .inr freshX
  have capV : ∀ s', Upd (fun b => b = I ∨ b = C ∨ b = B ∨ b = X) s₂ s' → (∃ o, s'.heap.get? I = some o) → (∃ o, s'.heap.get? C = some o) → (∃ o, s'.heap.get? B = some o) → (∃ o, s'.heap.get? X = some o) → View c W' (compEnvC scope ((x, X) :: cl) C env) σc s' := by
   intro s' U e1 e2 e3 e4
   have keepNot : ∀ b o, s₂.heap.get? b = some o → b ≠ I → s'.heap.get? b = some o := fun b o e n =>
    U.keep b o (by
     rintro (rfl | rfl | rfl | rfl)
     ·exact n rfl
     ·rw [freshC] at e; cases e
     ·rw [freshB] at e; cases e
     ·rw [freshX] at e; cases e) e
   refine ⟨fun a o e => keepNot a o (V.base a o e) (by rintro rfl; rw [hIK] at e; cases e), ?_, Nat.lt_of_lt_of_le V.tok U.tk, ?_⟩
   ·intro a h
    by_cases z : a = I
    ·subst z; exact e1
    ·rcases WW' a h with h | h
     ·obtain ⟨o, e⟩ := V.wold a h; exact ⟨o, keepNot a o e z⟩
     ·subst hW'
      rcases h with h | rfl | rfl | rfl
      ·obtain ⟨o, e⟩ := V.wold a h; exact ⟨o, keepNot a o e z⟩
      ·exact e2
      ·exact e3
      ·exact e4
   ·intro y d hy
    obtain ⟨h1, h2, h3, h4⟩ := cap.h y d hy
    have yx : y ≠ x := fun q => by subst q; rw [hxs] at hy; cases hy
    have h4 : ((x, X) :: cl).lookup y = env.cells.lookup y := by rw [List.lookup_cons, beq_false_of_ne yx]; exact h4
    obtain ⟨v, b, r⟩ := V.vars y d h1
    refine ⟨v, ?_, U.rd (fun a h => by rcases h with rfl | rfl | rfl | rfl <;> assumption) (r.grow WW')⟩
    have b' : ∃ a o, env.cells.lookup y = some a ∧ s₂.heap.get? a = some o ∧ o.data = .cell (some v) := by
     unfold Bnd at b
     rcases h2 with h2 | h2 <;> (rw [h2] at b; exact b)
    obtain ⟨a, o, q1, q2, q3⟩ := b'
    have ne : a ≠ I := by
     rintro rfl
     obtain ⟨o', k, vs, q4, q5, _, q6⟩ := Y.cls 0 _ hst
     rw [q2] at q4; cases q4; rw [q3] at q6; cases q6
    have kk : (compEnvC scope ((x, X) :: cl) C env).kindOf y = some .free ∨ (compEnvC scope ((x, X) :: cl) C env).kindOf y = some .cell := lookup_relabel_free (env := env) h3
    unfold Bnd
    rcases kk with kk | kk
    ·rw [kk]; exact ⟨a, o, h4.trans q1, keepNot a o q2 ne, q3⟩
    ·rw [kk]; exact ⟨a, o, h4.trans q1, keepNot a o q2 ne, q3⟩
  have kC : c.K C = none := Kfresh _ freshC
  have kX : c.K X = none := Kfresh _ freshX
  have hkx : (compEnvC scope ((x, X) :: cl) C env).kindOf x = some .cell := lookup_relabel_cell hxc
  have exX : ∀ h : Heap, (∃ u, h.IsCell X u) → ∃ o, h.get? X = some o := fun h q => by obtain ⟨u, o, e, _⟩ := q; exact ⟨o, e⟩
  have exB : ∀ (h : Heap) (ys : Array Value), h.PlainList B ys → ∃ o, h.get? B = some o := fun h ys q => by obtain ⟨n, e⟩ := q; exact ⟨_, e⟩
  have exC : ∀ h : Heap, (∃ m, h.Ns C m) → ∃ o, h.get? C = some o := fun h q => by obtain ⟨m, o, _, _, e, _⟩ := q; exact ⟨o, e⟩
  have exI : ∀ (h : Heap) (i : Nat), St i h → ∃ o, h.get? I = some o := fun h i st => by obtain ⟨o, _, _, e, _⟩ := Y.cls _ _ st; exact ⟨o, e⟩
  have fpNot : ∀ b ∈ (I :: fp), b ≠ B ∧ b ≠ C ∧ b ≠ X := fun b hb => by
   rcases List.mem_cons.mp hb with rfl | hb
   ·exact ⟨hIB, hIC, hIX⟩
   ·obtain ⟨_, o, e⟩ := hfp b hb
    refine ⟨fun q => ?_, fun q => ?_, fun q => ?_⟩
    ·subst q; exact absurd (freshB.symm.trans e) (by simp)
    ·subst q; exact absurd (freshC.symm.trans e) (by simp)
    ·subst q; exact absurd (freshX.symm.trans e) (by simp)
  obtain ⟨Iv, hIv⟩ : ∃ Iv : Nat → Shared → Prop, ∀ k s', Iv k s' ↔ (∃ i ys, i ≤ l.length ∧ k = l.length + 1 - i ∧ Upd (fun b => b = I ∨ b = C ∨ b = B ∨ b = X) s₂ s' ∧ St i s'.heap ∧ s'.heap.PlainList B ys ∧ RdL W' s'.heap ys.toList (((l.take i).filter p).map f) ∧ (∃ m, s'.heap.Ns C m) ∧ (∃ u, s'.heap.IsCell X u)) := ⟨_, fun _ _ => Iff.rfl⟩
  refine compLoop_any Iv ?_ (l.length + 1) ((hIv _ _).mpr ⟨0, #[], Nat.zero_le _, rfl, U₃.mono (fun a h => h.elim), st₃, acc₃, .nil, ns₃, cl₃⟩)
  rintro k s' hk0
  obtain ⟨i, ys, hi, rfl, U, st, pl, ry, ns, clx⟩ := (hIv _ _).mp hk0
  clear hk0
  by_cases hlt : i < l.length
  ·have h0 : wpAny c.M A (pyNext (.ref I)) (fun r s₁ => s'.toks ≤ s₁.toks ∧ ∃ v, r = some v ∧ P i v ∧ St (i + 1) s₁.heap ∧ (∃ h tk, s₁ = { s' with heap := h, toks := tk }) ∧ ∀ b o, b ≠ I → s'.heap.get? b = some o → s₁.heap.get? b = some o) (NB c A (compEnvC scope ((x, X) :: cl) C env) (RR (.ref B) C)) s' :=
    wpAny_mono (wpAny_toks_of (E := NB c A (compEnvC scope ((x, X) :: cl) C env) (RR (.ref B) C)) (Nat.le_refl s'.toks) (Y.w.item i s' (fun r s₁ => ∃ v, r = some v ∧ P i v ∧ St (i + 1) s₁.heap ∧ (∃ h tk, s₁ = { s' with heap := h, toks := tk }) ∧ ∀ b o, b ≠ I → s'.heap.get? b = some o → s₁.heap.get? b = some o) _ hlt st
     fun v h' tk hv st' hk => ⟨v, rfl, hv, st', ⟨_, _, rfl⟩, fun b o n e => hk b o (by simpa using n) e⟩)) (fun _ _ q => q) fun _ _ q => q.2
   refine wpAny_mono h0 (fun r s₁ q => ?_) fun _ _ e => e
   obtain ⟨tk₁, v, rfl, hv, st₁, eq₁, k₁⟩ := q
   have U₁ : Upd (fun b => b = I) s' s₁ := ⟨eq₁, tk₁, fun b o n e => k₁ b o n e⟩
   have UU₁ := U.trans (U₁.mono (fun a h => .inl h))
   obtain ⟨o₁, k, vs₁, e₁, c₁, n₁, _⟩ := Y.cls _ _ st₁
   obtain ⟨d, hd, rd⟩ := hP i v hlt hv
   obtain ⟨tst, el⟩ := step C X d (List.mem_of_getElem? hd)
   have pl₁ : s₁.heap.PlainList B ys := pl.at fun o e => k₁ B o (Ne.symm hIB) e
   have ns₁ : ∃ m, s₁.heap.Ns C m := by obtain ⟨m, n⟩ := ns; exact ⟨m, n.at fun o e => k₁ C o (Ne.symm hIC) e⟩
   have cl₁ : ∃ u, s₁.heap.IsCell X u := by obtain ⟨u, n⟩ := clx; exact ⟨u, IsCell.atK n fun o e => k₁ X o (Ne.symm hIX) e⟩
   have r₁ : Rd W' s₁.heap v d := UU₁.rd (fun a h => by rcases h with rfl | rfl | rfl | rfl <;> assumption) (rd.grow WW')
   have ry₁ : RdL W' s₁.heap ys.toList (((l.take i).filter p).map f) := U₁.rdL (fun a h => by subst h; exact W'I) ry
   refine go_of e₁ c₁ n₁ ?_
   obtain ⟨u₁, cl₁⟩ := cl₁
   refine wpAny_assign_Name (wpAny_storeName_cell hkind hkx (by show ((x, X) :: cl).lookup x = some X; rw [List.lookup_cons, beq_self_eq_true]) cl₁ fun h₂ cl₂ sb₂ => ?_)
   have U₂' : Upd (fun b => b = X) s₁ { s₁ with heap := h₂ } := ⟨⟨h₂, s₁.toks, rfl⟩, Nat.le_refl _, fun b o n e => sb₂.extBut b o n e⟩
   have cl₂ : ({ s₁ with heap := h₂ } : Shared).heap.IsCell X (some v) := cl₂
   generalize ({ s₁ with heap := h₂ } : Shared) = s₂' at U₂' cl₂ ⊢
   have ns₂ : ∃ m, s₂'.heap.Ns C m := by obtain ⟨m, n⟩ := ns₁; exact ⟨m, n.at fun o e => U₂'.keep C o hCX e⟩
   have pl₂ : s₂'.heap.PlainList B ys := pl₁.at fun o e => U₂'.keep B o hBX e
   have ry₂ := U₂'.rdL (fun a h => by subst h; exact W'X) ry₁
   have st₂ : St (i + 1) s₂'.heap := Y.w.frame _ _ _ st₁ fun b hb o e => U₂'.keep b o (fpNot b hb).2.2 e
   have UU₂ := UU₁.trans (U₂'.mono (fun a h => .inr (.inr (.inr h))))
   have V₂ : View c W' (compEnvC scope ((x, X) :: cl) C env) ((x, d) :: σc) s₂' := by
    have Vc := capV s₂' UU₂ (exI _ _ st₂) (exC _ ns₂) (exB _ _ pl₂) (exX _ ⟨_, cl₂⟩)
    refine ⟨Vc.base, Vc.wold, Vc.tok, fun y e hy => ?_⟩
    rw [List.lookup_cons] at hy
    cases z : y == x with
    | true =>
     rw [z] at hy; cases hy
     have := eq_of_beq z; subst this
     refine ⟨v, ?_, U₂'.rd (fun a h => by subst h; exact W'X) r₁⟩
     unfold Bnd; rw [hkx]
     obtain ⟨o, q1, q2⟩ := cl₂
     exact ⟨X, o, by show ((y, X) :: cl).lookup y = some X; rw [List.lookup_cons, beq_self_eq_true], q1, q2⟩
    | false => rw [z] at hy; exact Vc.vars y e hy
   refine wpAny_mono (tst W' s₂' _ V₂) (fun ok s₃' q => ?_) fun _ _ e => e
   obtain ⟨K₃, rfl⟩ := q
   have UU₃ := UU₂.trans (.of K₃)
   have pl₃ := pl₂.at fun o e => K₃.heap B o e
   have ry₃ := ry₂.keeps K₃.heap
   have st₃ : St (i + 1) s₃'.heap := Y.w.frame _ _ _ st₂ fun b _ o e => K₃.heap b o e
   have ns₃ : ∃ m, s₃'.heap.Ns C m := by obtain ⟨m, n⟩ := ns₂; exact ⟨m, n.keeps K₃.heap⟩
   have cl₃ : s₃'.heap.IsCell X (some v) := IsCell.atK cl₂ fun o e => K₃.heap _ o e
   have V₃ := V₂.keeps K₃
   cases hpd : p d with
   | false =>
    rw [if_neg (by simp)]
    refine ⟨l.length + 1 - (i + 1), by omega, (hIv _ _).mpr ⟨i + 1, ys, hlt, rfl, UU₃, st₃, pl₃, ?_, ns₃, _, cl₃⟩⟩
    rw [outs_succ p f l i d hd, hpd]; simpa using ry₃
   | true =>
    rw [if_pos rfl]
    refine (el hpd).use V₃ fun y s₄ K₄ V₄ r₄ => ?_
    have pl₄ := pl₃.at fun o e => K₄.heap B o e
    have hys : ys.size ≤ sizeLine := by
     have e1 := ry.length
     have e2 : (((l.take i).filter p).map f).length ≤ l.length := by
      rw [List.length_map]
      exact Nat.le_trans (List.length_filter_le _ _) (by rw [List.length_take]; omega)
     rw [Array.length_toList] at e1
     rw [sizeLine_eq]; omega
    refine wpAny_list_append_plain (hsz := hys) pl₄ fun h₅ pl₅ sb₅ => ?_
    have U₅ : Upd (fun b => b = B) s₄ { s₄ with heap := h₅ } := ⟨⟨_, s₄.toks, rfl⟩, Nat.le_refl _, fun b o n e => sb₅.extBut b o n e⟩
    refine ⟨l.length + 1 - (i + 1), by omega, (hIv _ _).mpr ⟨i + 1, ys.push y, hlt, rfl, (UU₃.trans (.of K₄)).trans (U₅.mono fun a h => .inr (.inr (.inl h))), ?_, pl₅, ?_, ?_, some v, IsCell.atK cl₃ fun o e => U₅.keep X o (Ne.symm hBX) (K₄.heap X o e)⟩⟩
    ·exact Y.w.frame _ _ _ st₃ fun b hb o e => U₅.keep b o (fpNot b hb).1 (K₄.heap b o e)
    ·rw [outs_succ p f l i d hd, hpd, Array.toList_push]
     exact (U₅.rdL (fun a h => by subst h; exact W'B) (ry₃.keeps K₄.heap)).app (.cons (U₅.rd (fun a h => by subst h; exact W'B) r₄) .nil)
    ·obtain ⟨m, n⟩ := ns₃; exact ⟨m, (n.keeps K₄.heap).at fun o e => U₅.keep C o (Ne.symm hBC) e⟩
  ·have hieq : i = l.length := by omega
   subst hieq
   have h0 : wpAny c.M A (pyNext (.ref I)) (fun r s₁ => s'.toks ≤ s₁.toks ∧ r = none ∧ (∃ h tk, s₁ = { s' with heap := h, toks := tk }) ∧ ∀ b o, b ≠ I → s'.heap.get? b = some o → s₁.heap.get? b = some o) (NB c A (compEnvC scope ((x, X) :: cl) C env) (RR (.ref B) C)) s' :=
    wpAny_mono (wpAny_toks_of (E := NB c A (compEnvC scope ((x, X) :: cl) C env) (RR (.ref B) C)) (Nat.le_refl s'.toks) (Y.w.done s' (fun r s₁ => r = none ∧ (∃ h tk, s₁ = { s' with heap := h, toks := tk }) ∧ ∀ b o, b ≠ I → s'.heap.get? b = some o → s₁.heap.get? b = some o) _ st
     fun h' tk hk => ⟨rfl, ⟨_, _, rfl⟩, fun b o n e => hk b o (by simpa using n) e⟩)) (fun _ _ q => q) fun _ _ q => q.2
   refine wpAny_mono h0 (fun r s₁ q => ?_) fun _ _ e => e
   obtain ⟨tk₁, rfl, eq₁, k₁⟩ := q
   have U₁ : Upd (fun b => b = I) s' s₁ := ⟨eq₁, tk₁, fun b o n e => k₁ b o n e⟩
   have UU := U.trans (U₁.mono (fun a h => .inl h))
   refine hRR' s₁ freshB freshC hBC ?_ ⟨UU.eq, UU.tk, fun b o n e => ?_⟩ ⟨ys, pl.at fun o e => k₁ B o (Ne.symm hIB) e, RdL.less (fun a h => by subst hW'; rcases h with h | h | h; exact .inl h; exact .inr (.inl h); exact .inr (.inr (.inl h))) (W := W') ?_⟩
   ·obtain ⟨m, n⟩ := ns; exact ⟨m, n.at fun o e => k₁ C o (Ne.symm hIC) e⟩
   ·refine UU.keep b o ?_ e
    rintro (q | q | q | q)
    ·exact n q
    ·subst q; exact absurd (freshC.symm.trans e) (by simp)
    ·subst q; exact absurd (freshB.symm.trans e) (by simp)
    ·subst q; exact absurd (freshX.symm.trans e) (by simp)
   ·rw [List.take_length] at ry
    exact U₁.rdL (fun a h => by subst h; exact W'I) ry
 have st0 : Upd (fun _ => False) s₂ { s₂ with heap := H3 } := ⟨⟨_, s₂.toks, rfl⟩, Nat.le_refl _, fun b o _ e => old b o e⟩
 exact codeAny_compStart_list (main _ _ _ { s₂ with heap := H3 } hBC hBX hCX freshB freshC freshX st0 hacc hns hcl)
  (Y.w.self 0 _ _ _ (Y.w.frame _ _ _ hst fun b _ o e => old b o e) (main _ _ _ { s₂ with heap := H3 } hBC hBX hCX freshB freshC freshX st0 hacc hns hcl))
end
section
variable {c : Cx} {A : Around} {env : Env} {σ : List (Str × D)} {W : Addr → Prop} {s : Shared}
theorem comp_preC {elt iter : Expr} {x : Str} {px : Pos} {ifs : List Expr} {scope : Scope} {pos : Pos} {cl : List (Str × Addr)} {l : List D} {p : D → Bool} {f : D → D} {σc : List (Str × D)} {di : D} {RR : Value → Addr → Result → Shared → Prop} {E : Value → Shared → Prop}
  (hh : A.handled = none) (ok : EnvOk env) (hi : Ev c A env σ iter di) (it : Itr c A di l) (hn : l.length ≤ 1000000)
  (hcells : ∀ (i : Nat) (acc : List (Str × Addr)), cellsFrom i scope.names acc = (x, i) :: acc) (hpush : ∀ h : Heap, pushCells h scope.names = h.push { cls := .type "cell", data := .cell Option.none }) (hxc : scope.names.lookup x = some .cell) (hxs : σc.lookup x = Option.none) (hkind : scope.kind = .function) (cap : Cap env scope cl σ σc)
  (step : ∀ C X d, d ∈ l → Ts c A (compEnvC scope ((x, X) :: cl) C env) ((x, d) :: σc) ifs (p d) ∧ (p d = true → Ev c A (compEnvC scope ((x, X) :: cl) C env) ((x, d) :: σc) elt (f d)))
  (V : View c W env σ s)
  (hRR : ∀ B C s' ys, Upd (fun _ => False) s s' → s.heap.get? B = none → s.heap.get? C = none → B ≠ C → (∃ m, s'.heap.Ns C m) → s'.heap.PlainList B ys → RdL (fun a => W a ∨ a = C ∨ a = B) s'.heap ys.toList ((l.filter p).map f) → RR (.ref B) C (.ok .next) s') :
  wpAny c.M A (eval iter env) (fun xv s₁ => wpAny c.M A (pyIter xv) (fun it s₂ => wpAny c.M A (newList []) (fun acc s₃ => wpAny c.M A (newFunctionEnv scope env.globals cl [] env.qual none .none (some env)) (fun cenv s₄ =>
   codeAny c.M A (.compStart (.ListComp elt [⟨.Name x px, iter, ifs, 0⟩] scope pos) 0 it acc { cenv with scope := relabel scope env }) (RR acc cenv.locals) s₄) E s₃) E s₂) E s₁) E s := by
 refine hi.use V fun xv s₁ K₁ V₁ r₁ => it W s₁ E xv _ V₁.wold r₁ fun I fp P St s₂ K₂ hI hIex Y st hfp hP => ?_
 have gr : ∀ a, (W a ∨ a = I) → W a ∨ s₁.heap.get? a = none := fun a h => h.elim .inl fun e => .inr (by rw [e]; exact hI)
 refine comp_coreC (W := fun a => W a ∨ a = I) hh ok Y st (V₁.growK K₂ gr fun a h => ?_) (.inr rfl) (V₁.kfresh hI) (fun b hb => ?_) (fun i u hlt hu => ?_) hn hcells hpush hxc hxs hkind cap step fun B C s' hB hC hBC ns U ⟨ys, pl, ry⟩ => ?_
 ·rcases h with h | rfl
  ·obtain ⟨o, e⟩ := V₁.wold a h; exact ⟨o, K₂.heap _ _ e⟩
  ·exact hIex
 ·obtain ⟨_, o, e⟩ := hfp b hb
  refine ⟨fun q => ?_, o, K₂.heap _ _ e⟩
  rw [q, hI] at e; cases e
 ·obtain ⟨d, hd, r⟩ := hP i u hlt hu
  exact ⟨d, hd, (r.grow gr).keeps K₂.heap⟩
 ·have back : ∀ a, s₂.heap.get? a = none → s.heap.get? a = none := fun a e => by
   cases q : s.heap.get? a with
   | none => rfl
   | some o => rw [K₂.heap _ _ (K₁.heap _ _ q)] at e; cases e
  have hIs : s.heap.get? I = none := by
   cases q : s.heap.get? I with
   | none => rfl
   | some o => rw [K₁.heap _ _ q] at hI; cases hI
  have KK := K₁.trans K₂
  refine hRR B C s' ys ⟨?_, Nat.le_trans KK.tk U.tk, fun b o _ e => U.keep b o (fun q => by rw [q, hIs] at e; cases e) (KK.heap b o e)⟩ (back B hB) (back C hC) hBC ns pl ?_
  ·obtain ⟨h1, t1, q1⟩ := KK.eq
   obtain ⟨h2, t2, q2⟩ := U.eq
   exact ⟨h2, t2, by rw [q2, q1]⟩
  ·exact ry.mono (fun b o _ e => e) fun b o n _ h => n (by rcases h with h | h; exact .inl (.inl h); exact .inr h)
theorem Ev.compC {elt iter : Expr} {x : Str} {px : Pos} {ifs : List Expr} {scope : Scope} {pos : Pos} {cl : List (Str × Addr)} {l : List D} {p : D → Bool} {f : D → D} {σc : List (Str × D)} {di : D}
  (hh : A.handled = Option.none) (ok : EnvOk env) (hi : Ev c A env σ iter di) (it : Itr c A di l) (hn : l.length ≤ 1000000)
  (hclos : closureFor scope env = pure cl) (hcells : ∀ (i : Nat) (acc : List (Str × Addr)), cellsFrom i scope.names acc = (x, i) :: acc) (hpush : ∀ h : Heap, pushCells h scope.names = h.push { cls := .type "cell", data := .cell Option.none }) (hxc : scope.names.lookup x = some .cell) (hxs : σc.lookup x = Option.none) (hkind : scope.kind = .function) (hnames : ∀ y ∈ scope.names, y.2 = .local → scope.names.lookup y.1 = some .local) (cap : Cap env scope cl σ σc)
  (step : ∀ C X d, d ∈ l → Ts c A (compEnvC scope ((x, X) :: cl) C env) ((x, d) :: σc) ifs (p d) ∧ (p d = true → Ev c A (compEnvC scope ((x, X) :: cl) C env) ((x, d) :: σc) elt (f d)))
  (hs : ∀ x, foldedSetIterable iter env x = pure x := by intro _; rfl) : Ev c A env σ (.ListComp elt [⟨.Name x px, iter, ifs, 0⟩] scope pos) (.lst ((l.filter p).map f)) := .intro fun W s E V => by
 rw [eval_ListComp]
 refine wpAny_comprehension_free (use := Option.none) rfl hs hclos hkind hnames (comp_preC (RR := fun acc C => compPost c.M A E Option.none _ acc C) hh ok hi it hn hcells hpush hxc hxs hkind cap step V fun B C s' ys U hB hC hBC ns pl ry => ?_)
 obtain ⟨m, ns⟩ := ns
 refine ⟨m, ns, fun h' sb => ⟨⟨?_, fun b o e => sb.extBut b o (fun q => by rw [q, hC] at e; cases e) (U.keep b o id e)⟩, comp_list V U hB hBC pl ry fun b o n e => sb.extBut b o n e⟩⟩
 obtain ⟨h1, t1, q1⟩ := U.eq
 exact ⟨h', t1, by rw [q1]⟩
end
theorem Cap.nil {env : Env} {scope : Scope} {cl : List (Str × Addr)} {σ : List (Str × D)} : Cap env scope cl σ [] := ⟨fun x d h => by cases h⟩
theorem Cap.cons {env : Env} {scope : Scope} {cl : List (Str × Addr)} {σ σc : List (Str × D)} {x : Str} {d : D} (h : Cap env scope cl σ σc) (h1 : σ.lookup x = some d) (h2 : env.kindOf x = some .cell) (h3 : scope.names.lookup x = some .free) (h4 : cl.lookup x = env.cells.lookup x) : Cap env scope cl σ ((x, d) :: σc) :=
 ⟨fun y e q => by
  rw [List.lookup_cons] at q
  cases z : y == x with
  | true => rw [z] at q; cases q; have := eq_of_beq z; subst this; exact ⟨h1, .inl h2, h3, h4⟩
  | false => rw [z] at q; exact h.h y e q⟩
section
variable {c : Cx} {A : Around} {s₀ : Shared} {W₀ Md W : Addr → Prop} {env : Env} {σ : List (Str × D)} {μ : List (Addr × Own)} {s : Shared} {E : Value → Shared → Prop}
theorem st_usedM {elt iter : Expr} {x y : Str} {px py spos : Pos} {scope : Scope} {pos : Pos} {cl : List (Str × Addr)} {di : D} {α : Type} {xs : List α} {g f : α → D} {σc : List (Str × D)} {Q : Flow → Shared → Prop}
  (hh : A.handled = Option.none) (ok : EnvOk env) (F : Fr c s₀ W₀ Md W env σ μ s) (hi : Ev c A env σ iter di) (it : Itr c A di (xs.map g)) (hinj : ∀ a b, g a = g b → a = b) (hn : xs.length ≤ 1000000)
  (hsw : swapsWith (.ListComp elt [⟨.Name x px, iter, [], 0⟩] scope pos) (some (.Name y py)) spos.line env = pure true)
  (hclos : closureFor scope env = pure cl) (hcell : ∀ y ∈ scope.names, y.2 ≠ .cell) (hkind : scope.kind = .function) (hnames : ∀ y ∈ scope.names, y.2 = .local → scope.names.lookup y.1 = some .local) (cap : Cap env scope cl σ σc)
  (hx : ∀ C, (compEnvC scope cl C env).kindOf x = some .local)
  (step : ∀ C a, a ∈ xs → Ev c A (compEnvC scope cl C env) ((x, g a) :: σc) elt (f a)) (hy : env.kindOf y = some .local)
  (h : ∀ s' W', Fr c s₀ W₀ Md W' env ((y, .lst (xs.map f)) :: σ) μ s' → Q .next s')
  (hs : ∀ x, foldedSetIterable iter env x = pure x := by intro _; rfl) : wpAny c.M A (exec (.Assign [.Name y py] (.ListComp elt [⟨.Name x px, iter, [], 0⟩] scope pos) spos) env) Q E s := by
 classical
 have key : ((xs.map g).filter (fun _ => true)).map (fun d => if h : ∃ a ∈ xs, g a = d then f h.choose else .val .none) = xs.map f := by
  rw [List.filter_eq_self.mpr (by simp), List.map_map]
  refine List.map_congr_left fun a ha => ?_
  have h : ∃ b ∈ xs, g b = g a := ⟨a, ha, rfl⟩
  show (if h : ∃ b ∈ xs, g b = g a then f h.choose else .val .none) = f a
  rw [dif_pos h]
  exact congrArg f (hinj _ _ h.choose_spec.2)
 refine st_used (p := fun _ => true) (f := fun d => if h : ∃ a ∈ xs, g a = d then f h.choose else .val .none) hh ok F hi it (by rw [List.length_map]; exact hn) hsw hclos hcell hkind hnames cap (fun C d hd => ?_) hy (fun s' W' G => ?_) hs
 ·obtain ⟨a, ha, rfl⟩ := List.mem_map.mp hd
  refine ⟨_, .name (hx C), .nil, fun _ => ?_⟩
  have h : ∃ b ∈ xs, g b = g a := ⟨a, ha, rfl⟩
  rw [dif_pos h, hinj _ _ h.choose_spec.2]
  exact step C a ha
 ·rw [key] at G
  exact h s' W' G
end
end Mine
end
section
open PySem PySem.W PyProof.Rows
namespace Mine
theorem hf_get {w : World} {a : Nat} {o : Params → Obj} (h : a < 301) (g : (trF w.params).get a = some (o w.params)) (al : alive (o w.params) = some (o w.params)) : (HF w).get? a = some (o w.params) := by
 unfold HF
 rw [abs_get h g, al]
theorem hf3 (w : World) : (HF w).get? 3 = some (o3v4 w.params) := hf_get (by decide) (by kernel_rfl) (by rfl)
theorem hf0 (w : World) : (HF w).get? 0 = some (o0 w.params) := hf_get (by decide) (by kernel_rfl) (by rfl)
theorem ns3 (w : World) : (HF w).isNs 3 = true := by unfold Heap.isNs; rw [hf3]; kernel_rfl
theorem ns0 (w : World) : (HF w).isNs 0 = true := by unfold Heap.isNs; rw [hf0]; kernel_rfl
theorem hf2 (w : World) : (HF w).get? 2 = some (o2 w.params) := hf_get (by decide) (by kernel_rfl) (by rfl)
theorem ns2 (w : World) : (HF w).isNs 2 = true := by unfold Heap.isNs; rw [hf2]; kernel_rfl
noncomputable def CL (w : World) : Cx where
 prog := P0
 w := w
 K := fun a => (HF w).get? a
 mg := (HF w).nsMap 3
 mb := (HF w).nsMap 0
 hg := fun h k => Heap.Ns.keepsAt (Heap.Ns.of_isNs (ns3 w)) fun o e => k 3 o e
 hb := fun h k => Heap.Ns.keepsAt (Heap.Ns.of_isNs (ns0 w)) fun o e => k 0 o e
 hl := fun h k => ⟨(HF w).nsMap 2, Heap.Ns.keepsAt (Heap.Ns.of_isNs (ns2 w)) fun o e => k 2 o e, by unfold Heap.nsMap; rw [hf2]; kernel_rfl⟩
theorem atL (w : World) {h : Heap} (k : HasK (CL w).K h) {a : Addr} {o : Obj} (e : (HF w).get? a = some o) : h.get? a = some o := k a o e
theorem mg_in_table_b1 (w : World) : (CL w).mg "in_table_b1" = some (.ref 206) := by unfold CL Heap.nsMap; simp only []; rw [hf3]; kernel_rfl
theorem mg_map_table_b3 (w : World) : (CL w).mg "map_table_b3" = some (.ref 252) := by unfold CL Heap.nsMap; simp only []; rw [hf3]; kernel_rfl
theorem mg__formatparam (w : World) : (CL w).mg "_formatparam" = some (.ref 61) := by unfold CL Heap.nsMap; simp only []; rw [hf3]; kernel_rfl
theorem mg__law_prepare (w : World) : (CL w).mg "_law_prepare" = some (.ref 257) := by unfold CL Heap.nsMap; simp only []; rw [hf3]; kernel_rfl
theorem mg__law_sign (w : World) : (CL w).mg "_law_sign" = some (.ref 264) := by unfold CL Heap.nsMap; simp only []; rw [hf3]; kernel_rfl
theorem mg__law_read (w : World) : (CL w).mg "_law_read" = some (.ref 271) := by unfold CL Heap.nsMap; simp only []; rw [hf3]; kernel_rfl
theorem mg__law_text_of (w : World) : (CL w).mg "_law_text_of" = some (.ref 278) := by unfold CL Heap.nsMap; simp only []; rw [hf3]; kernel_rfl
theorem mg__law_last_places (w : World) : (CL w).mg "_law_last_places" = some (.ref 283) := by unfold CL Heap.nsMap; simp only []; rw [hf3]; kernel_rfl
theorem mg__law_part (w : World) : (CL w).mg "_law_part" = some (.ref 288) := by unfold CL Heap.nsMap; simp only []; rw [hf3]; kernel_rfl
theorem mg__law_line (w : World) : (CL w).mg "_law_line" = some (.ref 295) := by unfold CL Heap.nsMap; simp only []; rw [hf3]; kernel_rfl
theorem mg_Headers (w : World) : (CL w).mg "Headers" = some (.ref 184) := by unfold CL Heap.nsMap; simp only []; rw [hf3]; kernel_rfl
theorem mg_b1_set (w : World) : (CL w).mg "b1_set" = some (.ref 196) := by unfold CL Heap.nsMap; simp only []; rw [hf3]; kernel_rfl
theorem mg_b3_exceptions (w : World) : (CL w).mg "b3_exceptions" = some (.ref 207) := by unfold CL Heap.nsMap; simp only []; rw [hf3]; kernel_rfl
theorem mg__name_disallowed_re (w : World) : (CL w).mg "_name_disallowed_re" = some (.ref 48) := by unfold CL Heap.nsMap; simp only []; rw [hf3]; kernel_rfl
theorem mg__value_disallowed_re (w : World) : (CL w).mg "_value_disallowed_re" = some (.ref 53) := by unfold CL Heap.nsMap; simp only []; rw [hf3]; kernel_rfl
noncomputable def fd_in_table_b1 : FuncData := { name := z230, qualname := z230, params := sArgs (stAt 10), body := .stmts (sBody (stAt 10)), scope := sScope (stAt 10), globals := 3, closure := [], defaults := .none, kwdefaults := .none, doc := .none, pyModule := (.str z222 554), annotations := none, code := (.ref 205), closureTuple := .none, builtins := 0 }
theorem hf206 (w : World) : (HF w).get? 206 = some (o206 w.params) := hf_get (by decide) (by kernel_rfl) (by rfl)
theorem hf205 (w : World) : (HF w).get? 205 = some (o205 w.params) := hf_get (by decide) (by kernel_rfl) (by rfl)
theorem fn_in_table_b1 (w : World) : Fun (CL w) 206 fd_in_table_b1 (sBody (stAt 10)) :=
 ⟨fun h k => ⟨_, atL w k (hf206 w), rfl⟩, fun h k => ⟨_, _, _, _, rfl, atL w k (hf205 w), rfl, rfl⟩, by kernel_rfl, by kernel_rfl, by kernel_rfl, rfl, rfl, rfl, rfl⟩
noncomputable def fd_map_table_b3 : FuncData := { name := z466, qualname := z466, params := sArgs (stAt 12), body := .stmts (sBody (stAt 12)), scope := sScope (stAt 12), globals := 3, closure := [], defaults := .none, kwdefaults := .none, doc := .none, pyModule := (.str z222 554), annotations := none, code := (.ref 251), closureTuple := .none, builtins := 0 }
theorem hf252 (w : World) : (HF w).get? 252 = some (o252 w.params) := hf_get (by decide) (by kernel_rfl) (by rfl)
theorem hf251 (w : World) : (HF w).get? 251 = some (o251 w.params) := hf_get (by decide) (by kernel_rfl) (by rfl)
theorem fn_map_table_b3 (w : World) : Fun (CL w) 252 fd_map_table_b3 (sBody (stAt 12)) :=
 ⟨fun h k => ⟨_, atL w k (hf252 w), rfl⟩, fun h k => ⟨_, _, _, _, rfl, atL w k (hf251 w), rfl, rfl⟩, by kernel_rfl, by kernel_rfl, by kernel_rfl, rfl, rfl, rfl, rfl⟩
noncomputable def fd__formatparam : FuncData := { name := z227, qualname := z227, params := sArgs (stAt 6), body := .stmts (sBody (stAt 6)), scope := sScope (stAt 6), globals := 3, closure := [], defaults := (.ref 54), kwdefaults := .none, doc := .none, pyModule := (.str z238 289), annotations := none, code := (.ref 60), closureTuple := .none, builtins := 0 }
theorem hf61 (w : World) : (HF w).get? 61 = some (o61 w.params) := hf_get (by decide) (by kernel_rfl) (by rfl)
theorem hf60 (w : World) : (HF w).get? 60 = some (o60 w.params) := hf_get (by decide) (by kernel_rfl) (by rfl)
theorem hf54 (w : World) : (HF w).get? 54 = some (o54 w.params) := hf_get (by decide) (by kernel_rfl) (by rfl)
theorem fn__formatparam (w : World) : Fun (CL w) 61 fd__formatparam (sBody (stAt 6)) :=
 ⟨fun h k => ⟨_, atL w k (hf61 w), rfl⟩, fun h k => ⟨_, _, _, _, rfl, atL w k (hf60 w), rfl, rfl⟩, by kernel_rfl, by kernel_rfl, by kernel_rfl, rfl, rfl, rfl, rfl⟩
noncomputable def fd__law_prepare : FuncData := { name := z467, qualname := z467, params := sArgs (stAt 14), body := .stmts (sBody (stAt 14)), scope := sScope (stAt 14), globals := 3, closure := [], defaults := .none, kwdefaults := .none, doc := .none, pyModule := (.str z465 2582), annotations := none, code := (.ref 256), closureTuple := .none, builtins := 0 }
theorem hf257 (w : World) : (HF w).get? 257 = some (o257 w.params) := hf_get (by decide) (by kernel_rfl) (by rfl)
theorem hf256 (w : World) : (HF w).get? 256 = some (o256 w.params) := hf_get (by decide) (by kernel_rfl) (by rfl)
theorem fn__law_prepare (w : World) : Fun (CL w) 257 fd__law_prepare (sBody (stAt 14)) :=
 ⟨fun h k => ⟨_, atL w k (hf257 w), rfl⟩, fun h k => ⟨_, _, _, _, rfl, atL w k (hf256 w), rfl, rfl⟩, by kernel_rfl, by kernel_rfl, by kernel_rfl, rfl, rfl, rfl, rfl⟩
noncomputable def fd__law_sign : FuncData := { name := z468, qualname := z468, params := sArgs (stAt 15), body := .stmts (sBody (stAt 15)), scope := sScope (stAt 15), globals := 3, closure := [], defaults := .none, kwdefaults := .none, doc := .none, pyModule := (.str z465 2582), annotations := none, code := (.ref 263), closureTuple := .none, builtins := 0 }
theorem hf264 (w : World) : (HF w).get? 264 = some (o264 w.params) := hf_get (by decide) (by kernel_rfl) (by rfl)
theorem hf263 (w : World) : (HF w).get? 263 = some (o263 w.params) := hf_get (by decide) (by kernel_rfl) (by rfl)
theorem fn__law_sign (w : World) : Fun (CL w) 264 fd__law_sign (sBody (stAt 15)) :=
 ⟨fun h k => ⟨_, atL w k (hf264 w), rfl⟩, fun h k => ⟨_, _, _, _, rfl, atL w k (hf263 w), rfl, rfl⟩, by kernel_rfl, by kernel_rfl, by kernel_rfl, rfl, rfl, rfl, rfl⟩
noncomputable def fd__law_read : FuncData := { name := z469, qualname := z469, params := sArgs (stAt 16), body := .stmts (sBody (stAt 16)), scope := sScope (stAt 16), globals := 3, closure := [], defaults := .none, kwdefaults := .none, doc := .none, pyModule := (.str z465 2582), annotations := none, code := (.ref 270), closureTuple := .none, builtins := 0 }
theorem hf271 (w : World) : (HF w).get? 271 = some (o271 w.params) := hf_get (by decide) (by kernel_rfl) (by rfl)
theorem hf270 (w : World) : (HF w).get? 270 = some (o270 w.params) := hf_get (by decide) (by kernel_rfl) (by rfl)
theorem fn__law_read (w : World) : Fun (CL w) 271 fd__law_read (sBody (stAt 16)) :=
 ⟨fun h k => ⟨_, atL w k (hf271 w), rfl⟩, fun h k => ⟨_, _, _, _, rfl, atL w k (hf270 w), rfl, rfl⟩, by kernel_rfl, by kernel_rfl, by kernel_rfl, rfl, rfl, rfl, rfl⟩
noncomputable def fd__law_text_of : FuncData := { name := z470, qualname := z470, params := sArgs (stAt 17), body := .stmts (sBody (stAt 17)), scope := sScope (stAt 17), globals := 3, closure := [], defaults := .none, kwdefaults := .none, doc := .none, pyModule := (.str z465 2582), annotations := none, code := (.ref 277), closureTuple := .none, builtins := 0 }
theorem hf278 (w : World) : (HF w).get? 278 = some (o278 w.params) := hf_get (by decide) (by kernel_rfl) (by rfl)
theorem hf277 (w : World) : (HF w).get? 277 = some (o277 w.params) := hf_get (by decide) (by kernel_rfl) (by rfl)
theorem fn__law_text_of (w : World) : Fun (CL w) 278 fd__law_text_of (sBody (stAt 17)) :=
 ⟨fun h k => ⟨_, atL w k (hf278 w), rfl⟩, fun h k => ⟨_, _, _, _, rfl, atL w k (hf277 w), rfl, rfl⟩, by kernel_rfl, by kernel_rfl, by kernel_rfl, rfl, rfl, rfl, rfl⟩
noncomputable def fd__law_last_places : FuncData := { name := z471, qualname := z471, params := sArgs (stAt 18), body := .stmts (sBody (stAt 18)), scope := sScope (stAt 18), globals := 3, closure := [], defaults := .none, kwdefaults := .none, doc := .none, pyModule := (.str z465 2582), annotations := none, code := (.ref 282), closureTuple := .none, builtins := 0 }
theorem hf283 (w : World) : (HF w).get? 283 = some (o283 w.params) := hf_get (by decide) (by kernel_rfl) (by rfl)
theorem hf282 (w : World) : (HF w).get? 282 = some (o282 w.params) := hf_get (by decide) (by kernel_rfl) (by rfl)
theorem fn__law_last_places (w : World) : Fun (CL w) 283 fd__law_last_places (sBody (stAt 18)) :=
 ⟨fun h k => ⟨_, atL w k (hf283 w), rfl⟩, fun h k => ⟨_, _, _, _, rfl, atL w k (hf282 w), rfl, rfl⟩, by kernel_rfl, by kernel_rfl, by kernel_rfl, rfl, rfl, rfl, rfl⟩
noncomputable def fd__law_part : FuncData := { name := z472, qualname := z472, params := sArgs (stAt 19), body := .stmts (sBody (stAt 19)), scope := sScope (stAt 19), globals := 3, closure := [], defaults := .none, kwdefaults := .none, doc := .none, pyModule := (.str z465 2582), annotations := none, code := (.ref 287), closureTuple := .none, builtins := 0 }
theorem hf288 (w : World) : (HF w).get? 288 = some (o288 w.params) := hf_get (by decide) (by kernel_rfl) (by rfl)
theorem hf287 (w : World) : (HF w).get? 287 = some (o287 w.params) := hf_get (by decide) (by kernel_rfl) (by rfl)
theorem fn__law_part (w : World) : Fun (CL w) 288 fd__law_part (sBody (stAt 19)) :=
 ⟨fun h k => ⟨_, atL w k (hf288 w), rfl⟩, fun h k => ⟨_, _, _, _, rfl, atL w k (hf287 w), rfl, rfl⟩, by kernel_rfl, by kernel_rfl, by kernel_rfl, rfl, rfl, rfl, rfl⟩
noncomputable def fd__law_line : FuncData := { name := z473, qualname := z473, params := sArgs (stAt 20), body := .stmts (sBody (stAt 20)), scope := sScope (stAt 20), globals := 3, closure := [], defaults := .none, kwdefaults := .none, doc := .none, pyModule := (.str z465 2582), annotations := none, code := (.ref 294), closureTuple := .none, builtins := 0 }
theorem hf295 (w : World) : (HF w).get? 295 = some (o295 w.params) := hf_get (by decide) (by kernel_rfl) (by rfl)
theorem hf294 (w : World) : (HF w).get? 294 = some (o294 w.params) := hf_get (by decide) (by kernel_rfl) (by rfl)
theorem fn__law_line (w : World) : Fun (CL w) 295 fd__law_line (sBody (stAt 20)) :=
 ⟨fun h k => ⟨_, atL w k (hf295 w), rfl⟩, fun h k => ⟨_, _, _, _, rfl, atL w k (hf294 w), rfl, rfl⟩, by kernel_rfl, by kernel_rfl, by kernel_rfl, rfl, rfl, rfl, rfl⟩
noncomputable def fd_law : FuncData := { name := z474, qualname := z474, params := sArgs (stAt 21), body := .stmts (sBody (stAt 21)), scope := sScope (stAt 21), globals := 3, closure := [], defaults := .none, kwdefaults := .none, doc := .none, pyModule := (.str z465 2582), annotations := none, code := (.ref 299), closureTuple := .none, builtins := 0 }
theorem hf300 (w : World) : (HF w).get? 300 = some (o300 w.params) := hf_get (by decide) (by kernel_rfl) (by rfl)
theorem hf299 (w : World) : (HF w).get? 299 = some (o299 w.params) := hf_get (by decide) (by kernel_rfl) (by rfl)
theorem fn_law (w : World) : Fun (CL w) 300 fd_law (sBody (stAt 21)) :=
 ⟨fun h k => ⟨_, atL w k (hf300 w), rfl⟩, fun h k => ⟨_, _, _, _, rfl, atL w k (hf299 w), rfl, rfl⟩, by kernel_rfl, by kernel_rfl, by kernel_rfl, rfl, rfl, rfl, rfl⟩
noncomputable def fd_m___init__ : FuncData := { name := z214, qualname := z258, params := sArgs (stIn 7 0), body := .stmts (sBody (stIn 7 0)), scope := sScope (stIn 7 0), globals := 3, closure := [], defaults := (.ref 69), kwdefaults := .none, doc := .none, pyModule := (.str z238 289), annotations := none, code := (.ref 75), closureTuple := .none, builtins := 0 }
theorem hf76 (w : World) : (HF w).get? 76 = some (o76 w.params) := hf_get (by decide) (by kernel_rfl) (by rfl)
theorem hf75 (w : World) : (HF w).get? 75 = some (o75 w.params) := hf_get (by decide) (by kernel_rfl) (by rfl)
theorem hf69 (w : World) : (HF w).get? 69 = some (o69 w.params) := hf_get (by decide) (by kernel_rfl) (by rfl)
theorem fn_m___init__ (w : World) : Fun (CL w) 76 fd_m___init__ (sBody (stIn 7 0)) :=
 ⟨fun h k => ⟨_, atL w k (hf76 w), rfl⟩, fun h k => ⟨_, _, _, _, rfl, atL w k (hf75 w), rfl, rfl⟩, by kernel_rfl, by kernel_rfl, by kernel_rfl, rfl, rfl, rfl, rfl⟩
theorem cf_m___init__ (w : World) : ∀ h o, HasK (CL w).K h → h.get? 76 = some o → o.cls = .type "function" := fun h o k e => by rw [atL w k (hf76 w)] at e; cases e; rfl
noncomputable def fd_m__convert_string_type : FuncData := { name := z240, qualname := z260, params := sArgs (stIn 7 1), body := .stmts (sBody (stIn 7 1)), scope := sScope (stIn 7 1), globals := 3, closure := [], defaults := .none, kwdefaults := .none, doc := .none, pyModule := (.str z238 289), annotations := none, code := (.ref 82), closureTuple := .none, builtins := 0 }
theorem hf83 (w : World) : (HF w).get? 83 = some (o83 w.params) := hf_get (by decide) (by kernel_rfl) (by rfl)
theorem hf82 (w : World) : (HF w).get? 82 = some (o82 w.params) := hf_get (by decide) (by kernel_rfl) (by rfl)
theorem fn_m__convert_string_type (w : World) : Fun (CL w) 83 fd_m__convert_string_type (sBody (stIn 7 1)) :=
 ⟨fun h k => ⟨_, atL w k (hf83 w), rfl⟩, fun h k => ⟨_, _, _, _, rfl, atL w k (hf82 w), rfl, rfl⟩, by kernel_rfl, by kernel_rfl, by kernel_rfl, rfl, rfl, rfl, rfl⟩
theorem cf_m__convert_string_type (w : World) : ∀ h o, HasK (CL w).K h → h.get? 83 = some o → o.cls = .type "function" := fun h o k e => by rw [atL w k (hf83 w)] at e; cases e; rfl
noncomputable def fd_m___str__ : FuncData := { name := z251, qualname := z274, params := sArgs (stIn 7 13), body := .stmts (sBody (stIn 7 13)), scope := sScope (stIn 7 13), globals := 3, closure := [], defaults := .none, kwdefaults := .none, doc := .none, pyModule := (.str z238 289), annotations := none, code := (.ref 159), closureTuple := .none, builtins := 0 }
theorem hf160 (w : World) : (HF w).get? 160 = some (o160 w.params) := hf_get (by decide) (by kernel_rfl) (by rfl)
theorem hf159 (w : World) : (HF w).get? 159 = some (o159 w.params) := hf_get (by decide) (by kernel_rfl) (by rfl)
theorem fn_m___str__ (w : World) : Fun (CL w) 160 fd_m___str__ (sBody (stIn 7 13)) :=
 ⟨fun h k => ⟨_, atL w k (hf160 w), rfl⟩, fun h k => ⟨_, _, _, _, rfl, atL w k (hf159 w), rfl, rfl⟩, by kernel_rfl, by kernel_rfl, by kernel_rfl, rfl, rfl, rfl, rfl⟩
theorem cf_m___str__ (w : World) : ∀ h o, HasK (CL w).K h → h.get? 160 = some o → o.cls = .type "function" := fun h o k e => by rw [atL w k (hf160 w)] at e; cases e; rfl
noncomputable def fd_m_add_header : FuncData := { name := z254, qualname := z281, params := sArgs (stIn 7 16), body := .stmts (sBody (stIn 7 16)), scope := sScope (stIn 7 16), globals := 3, closure := [], defaults := .none, kwdefaults := .none, doc := .none, pyModule := (.str z238 289), annotations := none, code := (.ref 180), closureTuple := .none, builtins := 0 }
theorem hf181 (w : World) : (HF w).get? 181 = some (o181 w.params) := hf_get (by decide) (by kernel_rfl) (by rfl)
theorem hf180 (w : World) : (HF w).get? 180 = some (o180 w.params) := hf_get (by decide) (by kernel_rfl) (by rfl)
theorem fn_m_add_header (w : World) : Fun (CL w) 181 fd_m_add_header (sBody (stIn 7 16)) :=
 ⟨fun h k => ⟨_, atL w k (hf181 w), rfl⟩, fun h k => ⟨_, _, _, _, rfl, atL w k (hf180 w), rfl, rfl⟩, by kernel_rfl, by kernel_rfl, by kernel_rfl, rfl, rfl, rfl, rfl⟩
theorem cf_m_add_header (w : World) : ∀ h o, HasK (CL w).K h → h.get? 181 = some o → o.cls = .type "function" := fun h o k e => by rw [atL w k (hf181 w)] at e; cases e; rfl
theorem hf196 (w : World) : (HF w).get? 196 = some (o196 w.params) := hf_get (by decide) (by kernel_rfl) (by rfl)
theorem hf207 (w : World) : (HF w).get? 207 = some (o207 w.params) := hf_get (by decide) (by kernel_rfl) (by rfl)
theorem hf48 (w : World) : (HF w).get? 48 = some (o48 w.params) := hf_get (by decide) (by kernel_rfl) (by rfl)
theorem hf47 (w : World) : (HF w).get? 47 = some (o47 w.params) := hf_get (by decide) (by kernel_rfl) (by rfl)
theorem hf53 (w : World) : (HF w).get? 53 = some (o53 w.params) := hf_get (by decide) (by kernel_rfl) (by rfl)
theorem hf52 (w : World) : (HF w).get? 52 = some (o52 w.params) := hf_get (by decide) (by kernel_rfl) (by rfl)
theorem hf184 (w : World) : (HF w).get? 184 = some (o184 w.params) := hf_get (by decide) (by kernel_rfl) (by rfl)
theorem hf183 (w : World) : (HF w).get? 183 = some (o183 w.params) := hf_get (by decide) (by kernel_rfl) (by rfl)
theorem ns183 (w : World) : (HF w).isNs 183 = true := by unfold Heap.isNs; rw [hf183]; kernel_rfl
noncomputable def mH (w : World) : Str → Option Value := (HF w).nsMap 183
theorem mHat (w : World) (x : Str) (v : Option Value) (e : (match (o183 w.params).data with | .dict es _ => nsFind es x | _ => none) = v) : mH w x = v := by unfold mH Heap.nsMap; rw [hf183]; exact e
theorem kls (w : World) : Kls (CL w) 184 183 (mH w) :=
 ⟨fun h k => ⟨⟨_, _, _, _, _, _, _, _, _, _, _, _, atL w k (hf184 w)⟩, Heap.Ns.keepsAt (Heap.Ns.of_isNs (ns183 w)) fun o e => k 183 o e⟩, mHat w _ _ (by kernel_rfl), mHat w _ _ (by kernel_rfl), mHat w _ _ (by kernel_rfl)⟩
theorem mH___init__ (w : World) : mH w "__init__" = some (.ref 76) := mHat w _ _ (by kernel_rfl)
theorem mH__convert_string_type (w : World) : mH w "_convert_string_type" = some (.ref 83) := mHat w _ _ (by kernel_rfl)
theorem mH___str__ (w : World) : mH w "__str__" = some (.ref 160) := mHat w _ _ (by kernel_rfl)
theorem mH_add_header (w : World) : mH w "add_header" = some (.ref 181) := mHat w _ _ (by kernel_rfl)
theorem mH_h (w : World) : mH w "_headers" = none := mHat w _ _ (by kernel_rfl)
theorem mb_type (w : World) : (CL w).mg "type" = none ∧ (CL w).mb "type" = some (.type "type") := ⟨by unfold CL Heap.nsMap; simp only []; rw [hf3]; kernel_rfl, by unfold CL Heap.nsMap; simp only []; rw [hf0]; kernel_rfl⟩
theorem mb_list (w : World) : (CL w).mg "list" = none ∧ (CL w).mb "list" = some (.type "list") := ⟨by unfold CL Heap.nsMap; simp only []; rw [hf3]; kernel_rfl, by unfold CL Heap.nsMap; simp only []; rw [hf0]; kernel_rfl⟩
theorem mb_str (w : World) : (CL w).mg "str" = none ∧ (CL w).mb "str" = some (.type "str") := ⟨by unfold CL Heap.nsMap; simp only []; rw [hf3]; kernel_rfl, by unfold CL Heap.nsMap; simp only []; rw [hf0]; kernel_rfl⟩
theorem mb_ord (w : World) : (CL w).mg "ord" = none ∧ (CL w).mb "ord" = some (.builtin "ord") := ⟨by unfold CL Heap.nsMap; simp only []; rw [hf3]; kernel_rfl, by unfold CL Heap.nsMap; simp only []; rw [hf0]; kernel_rfl⟩
theorem mb_chr (w : World) : (CL w).mg "chr" = none ∧ (CL w).mb "chr" = some (.builtin "chr") := ⟨by unfold CL Heap.nsMap; simp only []; rw [hf3]; kernel_rfl, by unfold CL Heap.nsMap; simp only []; rw [hf0]; kernel_rfl⟩
theorem mb_len (w : World) : (CL w).mg "len" = none ∧ (CL w).mb "len" = some (.builtin "len") := ⟨by unfold CL Heap.nsMap; simp only []; rw [hf3]; kernel_rfl, by unfold CL Heap.nsMap; simp only []; rw [hf0]; kernel_rfl⟩
theorem mb_zip (w : World) : (CL w).mg "zip" = none ∧ (CL w).mb "zip" = some (.type "zip") := ⟨by unfold CL Heap.nsMap; simp only []; rw [hf3]; kernel_rfl, by unfold CL Heap.nsMap; simp only []; rw [hf0]; kernel_rfl⟩
theorem mb_enumerate (w : World) : (CL w).mg "enumerate" = none ∧ (CL w).mb "enumerate" = some (.type "enumerate") := ⟨by unfold CL Heap.nsMap; simp only []; rw [hf3]; kernel_rfl, by unfold CL Heap.nsMap; simp only []; rw [hf0]; kernel_rfl⟩
end Mine
end
section
open PySem PySem.W PyProof.Rows PySem.Calls
namespace Mine
theorem EvL.c {c : Cx} {A : Around} {env : Env} {σ : List (Str × D)} {e : Expr} {d : D} {ts : List (Bool × Sem Value)} {ds : List D} (h : Ev c A env σ e d) (k : EvL c A env σ ts ds) : EvL c A env σ ((false, eval e env) :: ts) (d :: ds) := EvL.cons (t := eval e env) h k
noncomputable def setEs : Obj → List (Int × Value)
 | ⟨_, _, .set es _ _, _⟩ => es.toList
 | _ => []
theorem elems_of {prog : Program} {w : World} {l : List (Int × Value)} (h : l.all (fun e => match e.2 with | .int i _ => e.1 == hashInt i | _ => false) = true) : ElemsOf (intKind prog w) l := fun e he => by
 have q := List.all_eq_true.mp h e he
 obtain ⟨a, v⟩ := e
 cases v with
 | int i t => exact ⟨⟨i, intKind_is _ _ i t, eq_of_beq q⟩, rfl⟩
 | _ => cases q
theorem setB1 (w : World) : ∀ h, HasK (CL w).K h → h.SetOf (intKind (CL w).prog (CL w).w) 196 (fun k => (setEs (o196 w.params)).any fun e => Value.isInt k e.2) 27 := fun h k => by
 refine ⟨_, _, _, _, atL w k (hf196 w), ⟨rfl, rfl, rfl⟩, rfl, ?_, ?_, ?_, ?_, ?_⟩
 ·exact elems_of (by decide +kernel)
 ·intro k
  exact List.any_eq_true
 ·decide
 ·rfl
 ·rfl
theorem pf_in_table_b1 (w : World) {A : Around} {n : Nat} (room : Room A (n + 2)) (k : Nat) (S : Int → Bool) (N : Nat) (hS : ∀ h, HasK (CL w).K h → h.SetOf (intKind (CL w).prog (CL w).w) 196 S N) : Pf (CL w) A 206 [.str ⟨#[k]⟩] [] (.val (.bool (S k))) := by
 intro W s E vs kvs base tok wo rl br
 cases br
 cases rl with
 | cons r1 rl =>
  cases rl
  refine enter (W₀ := W) (Md := fun _ => False) (μ := []) (σ := [("code", .str ⟨#[k]⟩)]) room (fn_in_table_b1 w) base tok wo (fun a h => h.elim) (binds := [("code", _)]) (.of_eq rfl) (fun L x hx => ?_) (by simp) (.cons r1 .nil) (fun a l h => nomatch h) (by simp) fun L W' s' E' _ _ ok F => ?_
  ·simp only [List.mem_singleton] at hx; subst hx; exact .inl (by kernel_rfl)
  ·refine wpAny_execs_cons (st_return F (d := .val (.bool (S k))) ?_ fun v s'' F' r => ?_)
   ·exact Ev.cmp (Ev.ord (Ev.glob ok (by rfl) (.inr (mb_ord w))) (by rfl) (Ev.name ok (by rfl))) (Ev.glob ok (by rfl) (.inl (mg_b1_set w))) (Cmp.inSet hS)
   ·exact ⟨F'.up.kt, r.less F'.w0⟩
noncomputable def entsOf : Obj → List DictEntry
 | ⟨_, _, .dict es _, _⟩ => es.toList
 | _ => []
noncomputable def tokV : Value → Tok
 | .int _ t => t
 | .str _ t => t
 | _ => 0
noncomputable def toksB3 (w : World) : List (Tok × Tok) := (entsOf (o207 w.params)).map fun e => (tokV e.key, tokV e.val)
theorem mapB3 (w : World) : ∃ f : Int → Option Value, (∀ h, HasK (CL w).K h → h.MapOf (intKind (CL w).prog (CL w).w) 207 f) ∧ ∀ i, match LL.lookup i with
   | some x => ∃ t, f i = some (.str x t)
   | none => f i = none := by
 have hp : ∃ ts : List (Tok × Tok), ts.length = LL.length ∧ (entsOf (o207 w.params)) = (LL.zip ts).map fun p => (⟨(intKind (CL w).prog (CL w).w).hash p.1.1, .int p.1.1 p.2.1, .str p.1.2 p.2.2⟩ : DictEntry) :=
  ⟨toksB3 w, by kernel_rfl, by kernel_rfl⟩
 have hp' : ∃ ts : List (Tok × Tok), ts.length = LL.length ∧ (match o207 w.params with | ⟨_, _, .dict es _, _⟩ => es | _ => #[]).toList = (LL.zip ts).map fun p => (⟨(intKind (CL w).prog (CL w).w).hash p.1.1, .int p.1.1 p.2.1, .str p.1.2 p.2.2⟩ : DictEntry) := hp
 obtain ⟨f, hf, h2⟩ := mapOf_entries (h := HF w) (a := 207) (ep := (match o207 w.params with | ⟨_, _, .dict _ ep, _⟩ => ep | _ => 0)) (hf207 w) ⟨rfl, rfl, rfl⟩ rfl hp'
 refine ⟨f, fun h k => ?_, h2⟩
 obtain ⟨o, es, ep, e1, r⟩ := hf
 exact ⟨o, es, ep, k _ _ e1, r⟩
noncomputable def foldC (k : Nat) : Str := match LL.lookup (k : Int) with
 | some x => x
 | none => Txt.lower ⟨#[k]⟩
theorem pf_map (w : World) {A : Around} {n : Nat} (room : Room A (n + 2)) (k : Nat) (hk : Builtin.Str.tooLong (Txt.lower ⟨#[k]⟩).length = false) : Pf (CL w) A 252 [.str ⟨#[k]⟩] [] (.str (foldC k)) := by
 intro W s E vs kvs base tok wo rl br
 cases br
 cases rl with
 | cons r1 rl =>
 cases rl
 obtain ⟨f, hM, hf⟩ := mapB3 w
 refine enter (W₀ := W) (Md := fun _ => False) (μ := []) (σ := [("code", .str ⟨#[k]⟩)]) room (fn_map_table_b3 w) base tok wo (fun a h => h.elim) (binds := [("code", _)]) (.of_eq rfl) (fun L x hx => ?_) (by simp) (.cons r1 .nil) (fun a l h => nomatch h) (by simp) fun L W' s' E' _ _ ok F => ?_
 ·simp only [List.mem_singleton] at hx; subst hx; exact .inl (by kernel_rfl)
 ·have h1 := hf k
  cases e : LL.lookup (k : Int) with
  | some x =>
   rw [e] at h1
   obtain ⟨t, h1⟩ := h1
   have e2 : foldC k = x := by unfold foldC; rw [e]
   refine wpAny_execs_cons (st_assign ok F (d := .str x) (Ev.dictGet hM (by decide) (Ev.glob ok (by rfl) (.inl (mg_b3_exceptions w))) (Ev.ord (Ev.glob ok (by rfl) (.inr (mb_ord w))) (by rfl) (Ev.name ok (by rfl))) (fun W h => by rw [h1]; exact .str _ _) (by rfl) (by rfl) (by rfl)) (.inl (by kernel_rfl)) fun s1 F1 => ?_)
   refine wpAny_execs_cons (st_if F1 (b := true) (Tv.cmp (Ev.name ok (by rfl)) Ev.none Cmp.isNotNone) (fun _ s2 F2 => ?_) (fun h => by cases h))
   refine wpAny_execs_cons (st_return F2 (Ev.name ok (by rfl)) fun v s4 F4 r => ?_)
   rw [e2]
   exact ⟨F4.up.kt, r.less F4.w0⟩
  | none =>
   rw [e] at h1
   have e2 : foldC k = Txt.lower ⟨#[k]⟩ := by unfold foldC; rw [e]
   refine wpAny_execs_cons (st_assign ok F (d := .val .none) (Ev.dictGet hM (by decide) (Ev.glob ok (by rfl) (.inl (mg_b3_exceptions w))) (Ev.ord (Ev.glob ok (by rfl) (.inr (mb_ord w))) (by rfl) (Ev.name ok (by rfl))) (fun W h => by rw [h1]; exact .val _) (by rfl) (by rfl) (by rfl)) (.inl (by kernel_rfl)) fun s1 F1 => ?_)
   refine wpAny_execs_cons (st_if F1 (b := false) (Tv.cmp (Ev.name ok (by rfl)) Ev.none Cmp.isNotNone) (fun h => by cases h) (fun _ s2 F2 => wpAny_execs_nil ?_))
   refine wpAny_execs_cons (st_return F2 (Ev.lower (Ev.name ok (by rfl)) (by rfl) (by rfl) hk) fun v s4 F4 r => ?_)
   rw [e2]
   exact ⟨F4.up.kt, r.less F4.w0⟩
noncomputable def inB1 (w : World) (k : Int) : Bool := (setEs (o196 w.params)).any fun e => Value.isInt k e.2
theorem pf_b1 (w : World) {A : Around} {n : Nat} (room : Room A (n + 2)) (k : Nat) : Pf (CL w) A 206 [.str ⟨#[k]⟩] [] (.val (.bool (inB1 w k))) := pf_in_table_b1 w room k (inB1 w) 27 (setB1 w)
structure GoodB (b : Bool) (x : Str) : Prop where
 good : ∀ k ∈ x.cps.toList, (31 < k ∧ k ≠ 127) ∨ (b = false ∧ k = 9)
 size : x.cps.size ≤ 1000000
noncomputable abbrev aH : Addr := 184
theorem patN (w : World) : Pat (CL w) 48 (fun k => 31 < k ∧ k ≠ 127) := pat_name (fun h k => ⟨atL w k (hf48 w), atL w k (hf47 w)⟩) (by decide +kernel)
theorem patV (w : World) : Pat (CL w) 53 (fun k => 31 < k ∧ k ≠ 127 ∨ k = 9) := pat_value (fun h k => ⟨atL w k (hf53 w), atL w k (hf52 w)⟩) (by decide +kernel)
theorem pf_conv (w : World) {A : Around} {n : Nat} (room : Room A (n + 2)) (ds : D) (x : Str) (b : Bool) (hx : GoodB b x) : Pf (CL w) A 83 [ds, .str x] [("name", .val (.bool b))] (.str x) := by
 intro W s E vs kvs base tok wo rl br
 cases br with
 | cons rb br =>
 cases br
 cases rb
 cases rl with
 | cons r1 rl =>
 cases rl with
 | cons r2 rl =>
 cases rl
 refine enter (W₀ := W) (Md := fun _ => False) (μ := []) (σ := [("self", ds), ("value", .str x), ("name", .val (.bool b))]) room (fn_m__convert_string_type w) base tok wo (fun a h => h.elim) (binds := [("self", _), ("value", _), ("name", _)]) (.of_eq rfl) (fun L x hx => ?_) (show [("self" : Str), "value", "name"].Nodup by decide +kernel) (.cons r1 (.cons r2 (.cons (.val _) .nil))) (fun a l h => nomatch h) (by simp) fun L W' s' E' _ _ ok F => ?_
 ·simp only [List.mem_cons, List.not_mem_nil, or_false] at hx
  rcases hx with rfl | rfl | rfl <;> exact .inl (by kernel_rfl)
 ·refine wpAny_execs_cons (st_if F (b := true) ?_ (fun _ s1 F1 => ?_) (fun h => by cases h))
  ·exact Tv.cmp (Ev.typeOf (Ev.glob ok (by rfl) (.inr (mb_type w))) (by rfl) (Ev.name ok (by rfl)) rfl) (Ev.glob ok (by rfl) (.inr (mb_str w))) Cmp.isType
  ·refine wpAny_execs_cons (st_assign ok F1 (d := .val (.ref (if b then 48 else 53))) (Ev.ifExp (Tv.bool (Ev.name ok (by rfl))) (fun h => ?_) (fun h => ?_)) (.inl (by kernel_rfl)) fun s2 F2 => ?_)
   ·subst h; exact Ev.glob ok (by rfl) (.inl (mg__name_disallowed_re w))
   ·subst h; exact Ev.glob ok (by rfl) (.inl (mg__value_disallowed_re w))
   refine wpAny_execs_cons (st_if F2 (b := false) (Tv.none ?_) (fun h => by cases h) (fun _ s3 F3 => ?_))
   ·cases b with
    | true => exact Ev.search (patN w) (Ev.name ok (by rfl)) (Ev.name ok (by rfl)) (fun k h => (hx.good k h).elim id fun q => nomatch q.1) hx.size (by rfl) (by rfl) (by rfl)
    | false => exact Ev.search (patV w) (Ev.name ok (by rfl)) (Ev.name ok (by rfl)) (fun k h => (hx.good k h).imp id And.right) hx.size (by rfl) (by rfl) (by rfl)
   ·refine wpAny_execs_nil (wpAny_execs_cons (st_return F3 (d := .str x) (Ev.name ok (by rfl)) fun v s4 F4 r => ?_))
    exact ⟨F4.up.kt, r.less F4.w0⟩
theorem obj_conv : typeLookup (.type "object") "_convert_string_type" = pure none := by rw [typeLookup_type, builtinLookup_eq_fast]; kernel_rfl
section
variable {w : World} {A : Around} {env : Env} {σ : List (Str × D)} {W : Addr → Prop} {s : Shared} {E : Value → Shared → Prop}
theorem ev_conv {n : Nat} (room : Room A (n + 2)) {x : Str} {xp apos pos : Pos} {es : List Expr} {kws : List Keyword} {fs : List (Str × D)} {y : Str} {b : Bool} (ho : Ev (CL w) A env σ (.Name x xp) (.ins aH fs)) (hsh : fs.lookup ("_convert_string_type" : Str) = none)
  (hform : methodCallForm (es.length + kws.length) (backTo pos (starEach es env)) (backToKw pos (keywordEach kws env)) = true) (hline : (apos.endLine == pos.line) = true)
  (ha : EvA (CL w) A env σ (backTo pos (starEach es env)) (backToKw pos (keywordEach kws env)) [.str y] [("name", .val (.bool b))]) (hy : GoodB b y) :
  Ev (CL w) A env σ (.Call (.Attribute (.Name x xp) "_convert_string_type" apos) es kws pos) (.str y) :=
 Ev.meth (kls w) ho (mH__convert_string_type w) (fn_m__convert_string_type w) (cf_m__convert_string_type w) hsh obj_conv hform hline ha (pf_conv w room _ y b hy)
end
open Classical in
theorem cmp_eqS {c : Cx} {A : Around} {n : Nat} (r : Room A (n + 1)) {x y : Str} (hx : PyData.strOk x = true) (hy : PyData.strOk y = true) : Cmp c A .Eq (.str x) (.str y) (x == y) := by
 have := Cmp.eq (c := c) (A := A) r (by have := r.units; show A.units + 64 < 9900; omega) (d := .str x) (e := .str y) (by rw [okD]; exact hx) (by rw [okD]; exact hy)
 have e : decide (D.str x = D.str y) = (x == y) := by
  by_cases z : x = y
  ·subst z; simp
  ·rw [beq_eq_false_iff_ne.mpr z]; exact decide_eq_false fun q => z (by injection q)
 rw [e] at this; exact this
theorem obj_h : typeLookup (.type "object") "_headers" = pure none := by rw [typeLookup_type, builtinLookup_eq_fast]; kernel_rfl
theorem look1 {x y : Str} {d e : D} (h : ([(x, d)] : List (Str × D)).lookup y = some e) : y = x ∧ e = d := by
 rw [List.lookup_cons] at h
 cases z : y == x with
 | true => rw [z] at h; cases h; exact ⟨eq_of_beq z, rfl⟩
 | false => rw [z] at h; cases h
noncomputable def strP (p : Str × Str) : D := .tup [.str p.1, .str p.2]
noncomputable def fT (ps : List (Str × Str)) : List (Str × D) := [("_headers", .lst (ps.map strP))]
noncomputable def tabD (ps : List (Str × Str)) : D := .ins aH (fT ps)
noncomputable def tabL (l : Addr) : D := .ins aH [("_headers", .val (.ref l))]
section
variable {c : Cx} {A : Around} {s₀ : Shared} {W₀ Md W : Addr → Prop} {env : Env} {σ : List (Str × D)} {μ : List (Addr × Own)} {s : Shared} {E : Value → Shared → Prop}
theorem st_forS (hh : A.handled = none) (ok : EnvOk env) (F : Fr c s₀ W₀ Md W env σ μ s) {target iter : Expr} {body : List Stmt} {pos : Pos} {di : D} {l : List D} {Q : Flow → Shared → Prop} (hi : Ev c A env σ iter di) (it : Itr c A di l)
  (σs : Nat → List (Str × D)) (μs : Nat → List (Addr × Own)) (h0 : σ = σs 0) (h1 : μ = μs 0)
  (hbody : ∀ i d, l[i]? = some d → ∃ bs, TgtF env target d bs ∧ ∀ (s₁ s₂ : Shared) (W₁ W₂ Md₁ : Addr → Prop) (E : Value → Shared → Prop), Fr c s₁ W₁ Md₁ W₂ env (bs ++ σs i) (μs i) s₂ →
   wpAny c.M A (execs body env) (fun f s' => match f with
    | .next | .cont => ∃ W', Fr c s₁ W₁ Md₁ W' env (σs (i + 1)) (μs (i + 1)) s'
    | _ => False) E s₂)
  (hQ : ∀ s' W', Fr c s₀ W₀ Md W' env (σs l.length) (μs l.length) s' → Q .next s')
  (hs : ∀ x, foldedSetIterable iter env x = pure x := by intro _; rfl) : wpAny c.M A (exec (.For target iter body [] pos) env) Q E s := by
 refine st_forI hh ok F hi it (fun i σ₁ μ₁ => σ₁ = σs i ∧ μ₁ = μs i) ⟨h0, h1⟩ (fun _ _ _ _ => False) (fun i d σ₁ μ₁ hd hinv => ?_) (fun i σ₂ μ₂ d v s' W' _ hf => hf.elim) (fun σ₂ μ₂ s' W' hinv G => ?_) hs
 ·obtain ⟨rfl, rfl⟩ := hinv
  obtain ⟨bs, T, hb⟩ := hbody i d hd
  refine ⟨bs, T, fun s₁ s₂ W₁ W₂ Md₁ E G => wpAny_mono (hb s₁ s₂ W₁ W₂ Md₁ E G) (fun f s' q => ?_) fun _ _ e => e⟩
  cases f with
  | next => obtain ⟨W', q⟩ := q; exact ⟨_, _, W', ⟨rfl, rfl⟩, q⟩
  | cont => obtain ⟨W', q⟩ := q; exact ⟨_, _, W', ⟨rfl, rfl⟩, q⟩
  | brk => exact q
  | ret v => exact q.elim
 ·obtain ⟨rfl, rfl⟩ := hinv
  exact hQ s' W' G
end
noncomputable def initB : List Stmt := (sBody (stIn 7 0)).drop 1
noncomputable def hdrM (v : Value) : Str → Option Value := fun y => if y = ("_headers" : Str) then some v else none
structure NiceP (p : Str × Str) : Prop where
 key : GoodB true p.1
 val : GoodB false p.2
theorem Tv.at {c : Cx} {A : Around} {env : Env} {σ : List (Str × D)} {W : Addr → Prop} {s : Shared} {E' : Value → Shared → Prop} {e : Expr} {b : Bool} (h : Tv c A env σ e b) (V : View c W env σ s) : wpAny c.M A (isTrue e env (eval e env)) (fun v s' => Kt s s' ∧ v = b) E' s := h W s E' V
theorem init_rest (w : World) {A : Around} {n : Nat} (room : Room A (n + 3)) {s₀ s : Shared} {W₀ Md W : Addr → Prop} {L x dx l : Addr} {ps : List (Str × Str)} {Q : Flow → Shared → Prop} {E : Value → Shared → Prop} (ok : EnvOk (callEnvC fd_m___init__ L 76))
  (F : Fr (CL w) s₀ W₀ Md W (callEnvC fd_m___init__ L 76) [("headers", .val (.ref l)), ("self", .val (.ref x))] [] s) (Mx : Md x) (Mdx : Md dx) (I : InsAt s.heap x dx 184 (fun _ => none)) (neL : (callEnvC fd_m___init__ L 76).locals ≠ x ∧ (callEnvC fd_m___init__ L 76).locals ≠ dx)
  (r : Rd W s.heap (.ref l) (.lst (ps.map strP))) (hps : ∀ p ∈ ps, NiceP p) (hl : ps.length ≤ 500000)
  (h : ∀ s', Upd (fun b => b = x ∨ b = dx ∨ b = (callEnvC fd_m___init__ L 76).locals) s s' → InsAt s'.heap x dx 184 (hdrM (.ref l)) → Q .next s') :
  wpAny (CL w).M A (execs initB (callEnvC fd_m___init__ L 76)) Q E s := by
 have nocell : ∀ y b, (callEnvC fd_m___init__ L 76).cells.lookup y = some b → b ≠ x ∧ b ≠ dx := fun y b e => by
  have : (callEnvC fd_m___init__ L 76).cells = [] := by rfl
  rw [this] at e; cases e
 have noM : ∀ a, Mine' (callEnvC fd_m___init__ L 76) [] a → a = (callEnvC fd_m___init__ L 76).locals := fun a h => by
  rcases h with h | ⟨y, _, h⟩ | ⟨_, h⟩
  ·exact h
  ·have : (callEnvC fd_m___init__ L 76).cells = [] := by rfl
   rw [this] at h; cases h
  ·cases h
 have G := F.rebase
 refine wpAny_execs_cons (st_ifW G (b := false) (fun E => ?_) (fun h => by cases h) (fun _ s1 G1 => wpAny_execs_nil ?_))
 ·refine Tv.at (W := W) (σ := [("headers", .lst (ps.map strP)), ("self", .val (.ref x))]) (Tv.cmp (Ev.typeOf (Ev.glob ok (by rfl) (.inr (mb_type w))) (by rfl) (Ev.name ok (by rfl)) rfl) (Ev.glob ok (by rfl) (.inr (mb_list w))) Cmp.isNotType) ?_
  exact F.view.peek (fun _ h => h) (.cons (fun v hv => by cases hv; exact r) (.cons (fun v hv => hv) .nil))
 ·have I1 : InsAt s1.heap x dx 184 (fun _ => none) := I.at fun b o hb e => G1.up.keep b o (fun m => by
   have := noM b m
   rcases hb with rfl | rfl
   ·exact neL.1 this.symm
   ·exact neL.2 this.symm) e
  have r1 : Rd W s1.heap (.ref l) (.lst (ps.map strP)) := G1.up.rd (fun a m => (G.md_of (by
   have := noM a m; rw [this]; exact .inl rfl)).1) r
  have hX : ∀ a, (a = x ∨ a = dx) → W a ∧ (CL w).K a = none := fun a h => by
   rcases h with rfl | rfl
   ·exact ⟨F.w0 _ (F.mdW _ Mx), F.mdK _ Mx⟩
   ·exact ⟨F.w0 _ (F.mdW _ Mdx), F.mdK _ Mdx⟩
  have H1 := G1.rebaseX hX
  refine wpAny_execs_cons (st_setattr H1 (kls w) (Ev.name ok (by rfl)) (Ev.name ok (by rfl)) I1 (.inr (.inl rfl)) (.inr (.inr rfl)) neL (fun o => ⟨by simp, by simp⟩) nocell (mH_h w) obj_h (ns := []) (fun y hy => (hy rfl).elim) (by decide) (fun v s2 rv I2 H2 => ?_))
  cases rv
  have hMW : ∀ a, (Mine' (callEnvC fd_m___init__ L 76) [] a ∨ a = x ∨ a = dx) → W a := fun a h => H1.mdW a h
  have r2 : Rd W s2.heap (.ref l) (.lst (ps.map strP)) := H2.up.rd hMW r1
  have kx : ∀ a, a = (callEnvC fd_m___init__ L 76).locals → a ≠ x ∧ a ≠ dx := fun a h => by rw [h]; exact neL
  have J := H2.stand (W' := fun a => W a ∧ a ≠ x ∧ a ≠ dx) (σ' := [("headers", .lst (ps.map strP)), ("self", tabD ps)]) (fun a h => h.1) (fun a m => ⟨hMW a (.inl m), kx a (noM a m)⟩)
   (.cons (fun v hv => by cases hv; exact r2.less fun a h => h.1) (.cons (fun v hv => by
    cases hv
    obtain ⟨o, e, hc, hnc, hd⟩ := I2.inst
    obtain ⟨n1, n2⟩ := I2.ns1
    exact .ins (fun q => q.2.1 rfl) (fun q => q.2.2 rfl) e ⟨hc, hnc, I2.dict o e, n2⟩ n1 (fun y hy => by
     have : y ≠ ("_headers" : Str) := fun q => by subst q; cases hy
     exact if_neg this) (.cons (if_pos rfl) (r2.less fun a h => h.1) .nil)) .nil))
  refine wpAny_execs_cons (st_if J (b := true) ?_ (fun _ s3 J3 => ?_) (fun h => by cases h))
  ·exact Tv.bool Ev.bool
  refine wpAny_execs_cons (st_forS (l := ps.map strP) room.hh ok J3 (Ev.name ok (by rfl)) (Itr.lst room.hh) (fun _ => _) (fun i => []) rfl rfl (fun i d hd => ?_) (fun s4 W4 J4 => ?_))
  ·obtain ⟨p, hpi, rfl⟩ : ∃ p, ps[i]? = some p ∧ d = strP p := by
    rw [List.getElem?_map] at hd
    cases e : ps[i]? with
    | none => rw [e] at hd; cases hd
    | some p => rw [e] at hd; exact ⟨p, rfl, (Option.some.inj hd).symm⟩
   have np := hps p (List.mem_of_getElem? hpi)
   refine ⟨_, .pair (.inl (by kernel_rfl)) (.inl (by kernel_rfl)), fun sa sb Wa Wb Ma E' Fa => ?_⟩
   refine wpAny_execs_cons (st_expr Fa (ev_conv room (fs := fT ps) (Ev.name ok (by rfl)) (by rfl) (by rfl) (by rfl) (EvA.kw1 (EvL.c (Ev.name ok (by rfl)) EvL.nil) (Et.kw Ev.bool)) np.key) fun s5 F5 => ?_)
   refine wpAny_execs_cons (st_expr F5 (ev_conv room (fs := fT ps) (Ev.name ok (by rfl)) (by rfl) (by rfl) (by rfl) (EvA.kw1 (EvL.c (Ev.name ok (by rfl)) EvL.nil) (Et.kw Ev.bool)) np.val) fun s6 F6 => ?_)
   refine wpAny_execs_nil ⟨Wb, F6.sub fun y d h => ?_⟩
   rw [List.lookup_cons] at h
   cases z : y == ("headers" : Str) with
   | true => rw [z] at h; have := eq_of_beq z; subst this; exact h
   | false =>
    rw [z] at h
    obtain ⟨rfl, rfl⟩ := look1 h
    rfl
  ·refine wpAny_execs_nil (wpAny_execs_nil (h _ ?_ ?_))
   ·exact ((G1.up.mono fun a m => .inr (.inr (noM a m))).trans (H2.up.mono fun a m => m.elim (fun m => .inr (.inr (noM a m))) fun m => m.elim .inl fun m => .inr (.inl m))).trans (J4.up.mono fun a m => .inr (.inr (noM a m)))
   ·exact I2.at fun b o hb e => J4.up.keep b o (fun m => by
     have := noM b m
     rcases hb with rfl | rfl
     ·exact neL.1 this.symm
     ·exact neL.2 this.symm) e
theorem init_nocell (L : Addr) (a : Addr) (h : Mine' (callEnvC fd_m___init__ L 76) [] a) : a = (callEnvC fd_m___init__ L 76).locals := by
 rcases h with h | ⟨y, _, h⟩ | ⟨_, h⟩
 ·exact h
 ·have : (callEnvC fd_m___init__ L 76).cells = [] := by rfl
  rw [this] at h; cases h
 ·cases h
theorem mk_core0 (w : World) {A : Around} {n : Nat} (room : Room A (n + 5)) {W : Addr → Prop} {s : Shared} {E : Value → Shared → Prop} (base : HasK (CL w).K s.heap) (tok : 0 < s.toks) (wo : ∀ a, W a → ∃ o, s.heap.get? a = some o) :
  wpAny (CL w).M A (call (.ref 184) []) (fun v s' => Kt s s' ∧ ∃ x dx l, v = .ref x ∧ s.heap.get? x = none ∧ s.heap.get? dx = none ∧ s.heap.get? l = none ∧ l ≠ x ∧ l ≠ dx ∧ InsAt s'.heap x dx 184 (hdrM (.ref l)) ∧ s'.heap.PlainList l #[]) E s := by
 refine make_call (kls w) (mH___init__ w) (fn_m___init__ w) (cf_m___init__ w) base fun x dx s1 K1 hx hdx I => ?_
 have kn : ∀ a, s.heap.get? a = none → (CL w).K a = none := fun a e => by
  cases e' : (CL w).K a with
  | none => rfl
  | some o => rw [base a o e'] at e; cases e
 refine enter (W₀ := fun a => W a ∨ a = x ∨ a = dx) (Md := fun a => a = x ∨ a = dx) (μ := []) (σ := [("self", .val (.ref x)), ("headers", .val .none)]) (room.under 184 []) (fn_m___init__ w) (base.keeps K1.heap) (Nat.lt_of_lt_of_le tok K1.tk) (fun a h => ?_) (fun a h => ⟨.inr h, ?_⟩) (binds := [("self", .ref x), ("headers", .none)]) (.of_defaults (T := 69) rfl (atL w (base.keeps K1.heap) (hf69 w)) rfl rfl rfl) (fun L x hx => ?_) (show [("self" : Str), "headers"].Nodup by decide +kernel) (.cons (.val _) (.cons (.val _) .nil)) (fun a l h => nomatch h) (by simp) fun L W' s2 E' fL K2 ok F => ?_
 ·rcases h with h | rfl | rfl
  ·obtain ⟨o, e⟩ := wo a h; exact ⟨o, K1.heap _ _ e⟩
  ·obtain ⟨o, e, _⟩ := I.inst; exact ⟨o, e⟩
  ·obtain ⟨⟨o, _, _, e, _⟩, _⟩ := I.ns1; exact ⟨o, e⟩
 ·rcases h with rfl | rfl
  ·exact kn _ hx
  ·exact kn _ hdx
 ·simp only [List.mem_cons, List.not_mem_nil, or_false] at hx
  rcases hx with rfl | rfl <;> exact .inl (by kernel_rfl)
 ·have room' := (room.under 184 []).deeper (callEnvC fd_m___init__ L 76)
  have neL : (callEnvC fd_m___init__ L 76).locals ≠ x ∧ (callEnvC fd_m___init__ L 76).locals ≠ dx := by
   refine ⟨fun q => ?_, fun q => ?_⟩
   ·obtain ⟨o, e, _⟩ := I.inst; rw [q, e] at fL; cases fL
   ·obtain ⟨⟨o, _, _, e, _⟩, _⟩ := I.ns1; rw [q, e] at fL; cases fL
  have I2 : InsAt s2.heap x dx 184 (fun _ => none) := I.at fun b o _ e => K2.heap b o e
  have G := F.rebase
  refine wpAny_execs_cons (wpAny_Assign_Name (wpAny_IfExp (wpAny_mono (Tv.at (b := false) (W := W') (Tv.cmp (Ev.name ok (by rfl)) Ev.none Cmp.isNotNone) G.view) (fun v s3 q => ?_) fun _ _ e => e)) rfl)
  obtain ⟨K3, rfl⟩ := q
  refine List_ (Calls.spliced_nil (wpAny_newObj_type ?_))
  have K4 : Kt s3 { s3 with heap := s3.heap.push { cls := .type "list", data := .seq ([] : List Value).toArray } } := ⟨.push _, Nat.le_refl _⟩
  have pl4 : ({ s3 with heap := s3.heap.push { cls := .type "list", data := .seq ([] : List Value).toArray } } : Shared).heap.PlainList s3.heap.objs.size #[] := ⟨0, Heap.get?_push_size _ rfl⟩
  have lf : s3.heap.get? s3.heap.objs.size = none := size_none
  generalize ({ s3 with heap := s3.heap.push { cls := .type "list", data := .seq ([] : List Value).toArray } } : Shared) = s4 at K4 pl4 ⊢
  generalize s3.heap.objs.size = l at pl4 lf ⊢
  have KK := K3.trans K4
  have lf2 : s2.heap.get? l = none := by
   cases e : s2.heap.get? l with
   | none => rfl
   | some o => rw [K3.heap _ _ e] at lf; cases lf
  have lf1 : s1.heap.get? l = none := by
   cases e : s1.heap.get? l with
   | none => rfl
   | some o => rw [K2.heap _ _ e] at lf2; cases lf2
  have lf0 : s.heap.get? l = none := by
   cases e : s.heap.get? l with
   | none => rfl
   | some o => rw [K1.heap _ _ e] at lf1; cases lf1
  have lx : l ≠ x := fun q => by obtain ⟨o, e, _⟩ := I.inst; rw [← q, lf1] at e; cases e
  have ldx : l ≠ dx := fun q => by obtain ⟨⟨o, _, _, e, _⟩, _⟩ := I.ns1; rw [← q, lf1] at e; cases e
  have nlL : l ≠ (callEnvC fd_m___init__ L 76).locals := fun q => by
   obtain ⟨m, o, _, _, e, _⟩ := F.ns
   rw [← q, lf2] at e; cases e
  have nWl : ¬ W' l := fun h => by obtain ⟨o, e⟩ := F.view.wold l h; rw [lf2] at e; cases e
  refine (G.keeps KK).set ok (.inl (by kernel_rfl)) (.val _) fun s5 G5 U5 => ?_
  have pl5 : s5.heap.PlainList l #[] := pl4.at fun o e => U5.keep l o (fun m => nlL (init_nocell L l m)) e
  have r5 : Rd W' s5.heap (.ref l) (.lst (([] : List (Str × Str)).map strP)) := .lst nWl (toL pl5) .nil
  have F3 := (F.compose G5).sub (σ' := [("headers", .val (.ref l)), ("self", .val (.ref x))]) (fun y d h => by
   rw [List.lookup_cons] at h ⊢
   cases z : y == ("headers" : Str) with
   | true => rw [z] at h; exact h
   | false => rw [z] at h; obtain ⟨rfl, rfl⟩ := look1 h; rfl)
  refine init_rest w room' ok F3 (.inl rfl) (.inr rfl) (I2.at fun b o hb e => G5.up.keep b o (fun m => by
   have := init_nocell L b m
   rcases hb with rfl | rfl
   ·exact neL.1 this.symm
   ·exact neL.2 this.symm) e) neL r5 (fun p hp => nomatch hp) (Nat.zero_le _) fun s6 U I4 => ⟨rfl, ⟨⟨?_, ?_⟩, ?_⟩, x, dx, l, rfl, hx, hdx, lf0, lx, ldx, I4, ?_⟩
  ·obtain ⟨h1, t1, q1⟩ := K1.eq; obtain ⟨h2, t2, q2⟩ := K2.eq; obtain ⟨h3, t3, q3⟩ := G5.up.eq; obtain ⟨h4, t4, q4⟩ := U.eq
   exact ⟨h4, t4, by rw [q4, q3, q2, q1]⟩
  ·intro b o e
   have e1 := K1.heap b o e
   have nl : b ≠ (callEnvC fd_m___init__ L 76).locals := fun q => by rw [← q, e1] at fL; cases fL
   refine U.keep b o ?_ (G5.up.keep b o (fun m => nl (init_nocell L b m)) (K2.heap b o e1))
   rintro (q | q | q)
   ·rw [q, hx] at e; cases e
   ·rw [q, hdx] at e; cases e
   ·exact nl q
  ·exact Nat.le_trans K1.tk (Nat.le_trans K2.tk (Nat.le_trans G5.up.tk U.tk))
  ·exact pl5.at fun o e => U.keep l o (fun q => by rcases q with q | q | q; exact lx q; exact ldx q; exact nlL q) e
section
variable {w : World} {A : Around} {s₀ : Shared} {W₀ Md W : Addr → Prop} {env : Env} {σ : List (Str × D)} {μ : List (Addr × Own)} {s : Shared} {E : Value → Shared → Prop}
theorem rd_tab {W : Addr → Prop} {h : Heap} {x dx : Addr} {v : Value} {d : D} (I : InsAt h x dx 184 (hdrM v)) (hx : ¬ W x) (hdx : ¬ W dx) (r : Rd W h v d) : Rd W h (.ref x) (.ins 184 [("_headers", d)]) := by
 obtain ⟨o, e, hc, hnc, hd⟩ := I.inst
 obtain ⟨n1, n2⟩ := I.ns1
 exact .ins hx hdx e ⟨hc, hnc, I.dict o e, n2⟩ n1 (fun y hy => by
  have : y ≠ ("_headers" : Str) := fun q => by subst q; cases hy
  exact if_neg this) (.cons (if_pos rfl) r .nil)
theorem Fr.newTab (ok : EnvOk env) (F : Fr (CL w) s₀ W₀ Md W env σ μ s) {s' : Shared} (K : Kt s s') {x dx l : Addr} {us : Array Value} {ds : List D} (hx : s.heap.get? x = none) (hdx : s.heap.get? dx = none) (hl : s.heap.get? l = none) (lx : l ≠ x) (ldx : l ≠ dx) (I : InsAt s'.heap x dx 184 (hdrM (.ref l))) (pl : s'.heap.PlainList l us) (r : RdL W s'.heap us.toList ds) (hf : flats ds = true)
  {y : Str} {Q : Unit → Shared → Prop} (hk : Nm env y)
  (h : ∀ s'', Fr (CL w) s₀ W₀ Md (fun a => W a ∨ a = l) env ((y, tabL l) :: σ) ((l, .l ds) :: μ) s'' → Q () s'') : wpAny (CL w).M A (storeName env y (.ref x)) Q E s' := by
 have G := F.adopt K hl pl (RdL.avoid (X := fun b => b = l) (fun b q => by subst q; obtain ⟨n, e⟩ := pl; exact ⟨_, e, fun q : Value.type "list" = Value.type "tuple" => absurd q (by decide)⟩) r hf)
 refine G.set ok hk (rd_tab I (fun h => h.elim (F.view.new hx) (Ne.symm lx)) (fun h => h.elim (F.view.new hdx) (Ne.symm ldx)) (.val _)) fun s'' F' _ => h s'' F'
theorem st_newtab {n : Nat} (room : Room A (n + 5)) (ok : EnvOk env) (F : Fr (CL w) s₀ W₀ Md W env σ μ s) {y x : Str} {py np pos spos : Pos} {Q : Flow → Shared → Prop} (hf : Ev (CL w) A env σ (.Name x np) (.val (.ref 184))) (hk : Nm env y)
  (h : ∀ l s', s₀.heap.get? l = none → Fr (CL w) s₀ W₀ Md (fun a => W a ∨ a = l) env ((y, tabL l) :: σ) ((l, .l []) :: μ) s' → Q .next s')
  (hs : swapsWith (.Call (.Name x np) [] [] pos) (some (.Name y py)) spos.line env = pure false := by rfl) :
  wpAny (CL w).M A (exec (.Assign [.Name y py] (.Call (.Name x np) [] [] pos) spos) env) Q E s := by
 refine wpAny_Assign_Name (cls_call0 (kls w) hf F.view fun s1 K1 V1 => wpAny_mono (mk_core0 w room V1.base V1.tok V1.wold) (fun v s2 q => ?_) fun _ _ e => e) hs
 obtain ⟨K2, x, dx, l, rfl, hx, hdx, hl, lx, ldx, I, pl⟩ := q
 have F1 := F.keeps K1
 exact F1.newTab ok K2 hx hdx hl lx ldx I pl .nil rfl hk fun s3 F3 => h l s3 (F1.fresh hl) F3
end
noncomputable def quoteS (v : Str) : Str := Txt.replace (Txt.replace v ⟨#[92]⟩ ⟨#[92, 92]⟩) ⟨#[34]⟩ ⟨#[92, 34]⟩
noncomputable def fmtS (p v : Str) : Str := if v.length > 0 then p ++ Str.ofString "=\"" ++ quoteS v ++ Str.ofString "\"" else p
structure FmtOk (p v : Str) : Prop where
 lp : p.length ≤ 1000000
 lv : v.length ≤ 100000
 q1 : (Txt.replace v ⟨#[92]⟩ ⟨#[92, 92]⟩).length ≤ 300000
 q2 : (quoteS v).length ≤ 1000000
theorem pf_fmt (w : World) {A : Around} {n : Nat} (room : Room A (n + 2)) (p v : Str) (ok : FmtOk p v) : Pf (CL w) A 61 [.str p, .str v] [] (.str (fmtS p v)) := by
 intro W s E vs kvs base tok wo rl br
 cases br
 cases rl with
 | cons r1 rl =>
 cases rl with
 | cons r2 rl =>
 cases rl
 refine enter (W₀ := W) (Md := fun _ => False) (μ := []) (σ := [("param", .str p), ("value", .str v), ("quote", .int 1)]) room (fn__formatparam w) base tok wo (fun a h => h.elim) (binds := [("param", _), ("value", _), ("quote", _)]) (.of_defaults (T := 54) rfl (atL w base (hf54 w)) rfl rfl rfl) (fun L x hx => ?_) (show [("param" : Str), "value", "quote"].Nodup by decide +kernel) (.cons r1 (.cons r2 (.cons (.int _ _) .nil))) (fun a l h => nomatch h) (by simp) fun L W' s' E' _ _ ok' F => ?_
 ·simp only [List.mem_cons, List.not_mem_nil, or_false] at hx
  rcases hx with rfl | rfl | rfl <;> exact .inl (by kernel_rfl)
 ·have hv := ok.lv
  by_cases hz : v.length > 0
  ·have e1 : fmtS p v = p ++ Str.ofString "=\"" ++ quoteS v ++ Str.ofString "\"" := if_pos hz
   refine wpAny_execs_cons (st_if F (b := true) ?_ (fun _ s1 F1 => ?_) (fun h => by cases h))
   ·exact Tv.cast (Tv.and2 (Tv.cmp (Ev.name ok' (by rfl)) Ev.none Cmp.isNotNone) (fun _ => Tv.cmp (Ev.lenS (Ev.glob ok' (by rfl) (.inr (mb_len w))) (by rfl) (Ev.name ok' (by rfl)) (by omega)) Ev.int Cmp.gt)) (by rw [decide_eq_true (show ((v.length : Nat) : Int) > 0 by omega)]; rfl)
   ·refine wpAny_execs_cons (st_if F1 (b := true) ?_ (fun _ s2 F2 => ?_) (fun h => by cases h))
    ·exact Tv.or2 (a := true) (b := true) (Tv.int (i := 1) (Ev.name ok' (by rfl))) (fun h => by cases h)
    refine wpAny_execs_cons (st_assign ok' F2 (d := .str (quoteS v)) (Ev.replace (Ev.replace (x := v) (Ev.name ok' (by rfl)) (by rfl) (by rfl) (by decide) ?_) (by rfl) (by rfl) (by decide) ?_) (.inl (by kernel_rfl)) fun s3 F3 => ?_)
    ·show v.length + (v.length + 1) * 2 ≤ 16777216
     omega
    ·have := ok.q1
     show (Txt.replace v ⟨#[92]⟩ ⟨#[92, 92]⟩).length + ((Txt.replace v ⟨#[92]⟩ ⟨#[92, 92]⟩).length + 1) * 2 ≤ 16777216
     omega
    ·refine wpAny_execs_cons (st_return F3 (d := .str (fmtS p v)) ?_ fun r s4 F4 rr => ?_)
     ·rw [e1]
      have hp := ok.lp
      have hq := ok.q2
      refine Ev.cast (Ev.joined (.cons (Ev.fmtS (x := p) (Ev.name ok' (by rfl)) (by omega)) (.cons Ev.str (.cons (Ev.fmtS (x := quoteS v) (Ev.name ok' (by rfl)) (by omega)) (.cons Ev.str .nil)))) ?_) ?_
      ·show p.length + (2 + ((quoteS v).length + (1 + 0))) ≤ 10000000
       omega
      ·show D.str (((Str.empty ++ p) ++ _ ++ _) ++ _) = _
       rw [empty_app]
     ·exact ⟨F4.up.kt, rr.less F4.w0⟩
  ·have e1 : fmtS p v = p := if_neg hz
   have hv0 : v.length = 0 := by omega
   refine wpAny_execs_cons (st_if F (b := false) ?_ (fun h => by cases h) (fun _ s1 F1 => ?_))
   ·exact Tv.cast (Tv.and2 (Tv.cmp (Ev.name ok' (by rfl)) Ev.none Cmp.isNotNone) (fun _ => Tv.cmp (Ev.lenS (Ev.glob ok' (by rfl) (.inr (mb_len w))) (by rfl) (Ev.name ok' (by rfl)) (by omega)) Ev.int Cmp.gt)) (by rw [decide_eq_false (show ¬ ((v.length : Nat) : Int) > 0 by omega)]; rfl)
   ·refine wpAny_execs_cons (st_return F1 (d := .str p) (Ev.name ok' (by rfl)) fun r s4 F4 rr => ?_)
    rw [e1]
    exact ⟨F4.up.kt, rr.less F4.w0⟩
noncomputable def lineS (p : Str × Str) : Str := p.1 ++ Str.ofString ": " ++ p.2
noncomputable def linesOf (ps : List (Str × Str)) : List Str := ps.map lineS ++ [Str.ofString "", Str.ofString ""]
noncomputable def tabS (ps : List (Str × Str)) : Str := Txt.join (Str.ofString "\r\n") (linesOf ps)
structure TabOk (ps : List (Str × Str)) : Prop where
 each : ∀ p ∈ ps, p.1.length ≤ 1000000 ∧ p.2.length ≤ 1000000
 join : JoinOk (Str.ofString "\r\n") (linesOf ps) = true
 size : ps.length ≤ 500000
theorem strP_inj (a b : Str × Str) (h : strP a = strP b) : a = b := by
 unfold strP at h
 injection h with h
 injection h with h1 h
 injection h with h2 h
 injection h1 with h1
 injection h2 with h2
 exact Prod.ext h1 h2
theorem pf_str (w : World) {A : Around} {n : Nat} (room : Room A (n + 2)) (ps : List (Str × Str)) (ok : TabOk ps) : Pf (CL w) A 160 [tabD ps] [] (.str (tabS ps)) := by
 intro W s E vs kvs base tok wo rl br
 cases br
 cases rl with
 | cons r1 rl =>
 cases rl
 refine enter (W₀ := W) (Md := fun _ => False) (μ := []) (σ := [("self", tabD ps)]) room (fn_m___str__ w) base tok wo (fun a h => h.elim) (binds := [("self", _)]) (.of_eq rfl) (fun L x hx => ?_) (show [("self" : Str)].Nodup by decide +kernel) (.cons r1 .nil) (fun a l h => nomatch h) (by simp) fun L W' s' E' _ _ ok' F => ?_
 ·simp only [List.mem_cons, List.not_mem_nil, or_false] at hx
  subst hx; exact .inl (by kernel_rfl)
 ·have room' := room.deeper (callEnvC fd_m___str__ L 160)
  refine wpAny_execs_cons (st_return F (d := .str (tabS ps)) (Ev.join (xs := linesOf ps) Ev.str ?_ (by rfl) (by rfl) (by rfl) ok.join) fun v s4 F4 r => ?_)
  ·refine Ev.cast (Ev.bin (Ev.compM (xs := ps) (g := strP) (f := fun p => .str (lineS p)) (σc := []) room'.hh ok' (Ev.attr (kls w) (Ev.name ok' (by rfl)) (by rfl) (by rfl) (mH_h w) obj_h) (Itr.lst room'.hh) strP_inj (by have := ok.size; omega) (by rfl) (by decide +kernel) (by rfl) (by decide +kernel) ⟨fun y d h => by cases h⟩ (fun C => by kernel_rfl) (fun C p hp => ?_)) (Ev.list (EvL.c Ev.str (EvL.c Ev.str EvL.nil)) (by show 2 ≤ 1000000; decide)) (Bop.addL ?_)) ?_
   ·exact Ev.bin Ev.str (Ev.name (compEnvC_ok ok' (by rfl)) (by rfl)) (Bop.mod2 (by decide +kernel) fun u v t adr => meets_colon _ _ u v t adr (ok.each p hp).1 (ok.each p hp).2)
   ·rw [List.length_map]; have := ok.size; show _ + 2 ≤ _; omega
   ·unfold linesOf; rw [List.map_append, List.map_map]; rfl
  ·exact ⟨F4.up.kt, r.less F4.w0⟩
theorem lookup_app {β : Type} {x : Str} : ∀ {a b : List (Str × β)}, (∀ p ∈ a, p.1 ≠ x) → (a ++ b).lookup x = b.lookup x
 | [], _, _ => rfl
 | (y, v) :: a, b, h => by
  rw [List.cons_append, List.lookup_cons, beq_false_of_ne (fun q => h (y, v) (List.mem_cons_self ..) q.symm)]
  exact lookup_app fun p hp => h p (List.mem_cons_of_mem _ hp)
theorem Fr.cut {c : Cx} {s₀ : Shared} {W₀ Md W : Addr → Prop} {env : Env} {σ : List (Str × D)} {μ : List (Addr × Own)} {s : Shared} (bs : List (Str × D)) (F : Fr c s₀ W₀ Md W env (bs ++ σ) μ s) (h : ∀ p ∈ bs, σ.lookup p.1 = none) : Fr c s₀ W₀ Md W env σ μ s :=
 F.sub fun x d e => by
  rw [lookup_app fun p hp q => by have := h p hp; rw [q, e] at this; cases this]
  exact e
noncomputable def optD : Option Str → D
 | none => .val .none
 | some x => .str x
noncomputable def kvD (ps : List (Str × Option Str)) : List (Str × D) := ps.map fun p => (p.1, optD p.2)
noncomputable def repl (k : Str) : Str := Txt.replace k ⟨#[95]⟩ ⟨#[45]⟩
noncomputable def partS (p : Str × Option Str) : Str := match p.2 with
 | none => repl p.1
 | some x => fmtS (repl p.1) x
noncomputable def partsOf (own : Option Str) (ps : List (Str × Option Str)) : List Str := own.toList ++ ps.map partS
noncomputable def headS (own : Option Str) (ps : List (Str × Option Str)) : Str := Txt.join (Str.ofString "; ") (partsOf own ps)
structure AddOk (name : Str) (own : Option Str) (ps : List (Str × Option Str)) : Prop where
 nm : GoodB true name
 mine : ∀ x, own = some x → GoodB false x
 key : ∀ p ∈ ps, GoodB true p.1
 val : ∀ p ∈ ps, ∀ x, p.2 = some x → GoodB false x ∧ FmtOk (repl p.1) x
 klen : ∀ p ∈ ps, p.1.length ≤ 1000000
 nd : (ps.map (·.1)).Nodup
 away : ∀ k ∈ ps.map (·.1), k ∉ [("self" : Str), "_name", "_value"]
 size : ps.length ≤ 100000
 join : JoinOk (Str.ofString "; ") (partsOf own ps) = true
theorem kvD_names (ps : List (Str × Option Str)) : (kvD ps).map (·.1) = ps.map (·.1) := by unfold kvD; rw [List.map_map]; rfl
theorem take_one {α : Type} {l : List α} {i : Nat} {p : α} (h : l[i]? = some p) : l.take (i + 1) = l.take i ++ [p] := by
 rw [List.take_add_one, h]; rfl
noncomputable abbrev addE (L : Addr) : Env := callEnvC fd_m_add_header L 181
noncomputable def addS1 (l a : Addr) (name : Str) (ps : List (Str × Option Str)) (w : World) : List (Str × D) := [("parts", .val (.ref a)), ("self", tabL l), ("_name", .str name), ("_params", .dct (CL w).prog (CL w).w (kvD ps))]
noncomputable def addM (l a : Addr) (parts : List Str) (pre : List (Str × Str)) : List (Addr × Own) := [(a, .l (parts.map .str)), (l, .l (pre.map strP))]
theorem add_turn (w : World) {A : Around} {n : Nat} (room : Room A (n + 3)) {L l a : Addr} {name : Str} {own : Option Str} {ps : List (Str × Option Str)} {pre : List (Str × Str)} (ok : AddOk name own ps) (ok' : EnvOk (addE L)) {i : Nat} {p : Str × Option Str} (hp : ps[i]? = some p) {pts : List Str} (hl : pts.length ≤ 200000)
  {s₁ s₂ : Shared} {W₁ W₂ Md₁ : Addr → Prop} {E : Value → Shared → Prop} {Q : Flow → Shared → Prop} (F : Fr (CL w) s₁ W₁ Md₁ W₂ (addE L) (("v", optD p.2) :: ("k", .str p.1) :: addS1 l a name ps w) (addM l a pts pre) s₂)
  (h : ∀ s', Fr (CL w) s₁ W₁ Md₁ W₂ (addE L) (addS1 l a name ps w) (addM l a (pts ++ [partS p]) pre) s' → Q .next s') :
  wpAny (CL w).M A (execs (match ((sBody (stIn 7 16))[2]?).getD (.Pass ⟨0, 0, 0, 0⟩) with | .For _ _ b _ _ => b | _ => []) (addE L)) Q E s₂ := by
 have pm := List.mem_of_getElem? hp
 have hk := ok.key p pm
 have hkl := ok.klen p pm
 have fin : ∀ (d : D) (s' : Shared), d = .str (partS p) → (∃ bs, (∀ q ∈ bs, (addS1 l a name ps w).lookup q.1 = none) ∧ Fr (CL w) s₁ W₁ Md₁ W₂ (addE L) (bs ++ addS1 l a name ps w) ([] ++ (a, .l (pts.map .str ++ [d])) :: [(l, .l (pre.map strP))]) s') → Q .next s' := fun d s' hd ⟨bs, hb, G⟩ => by
  refine h s' (Fr.cut bs ?_ hb)
  subst hd
  unfold addM
  rw [List.map_append]
  exact G
 refine wpAny_execs_cons (st_assign ok' F (d := .str p.1) (ev_conv room (fs := [("_headers", .val (.ref l))]) (Ev.name ok' (by rfl)) (by rfl) (by rfl) (by rfl) (EvA.kw1 (EvL.c (Ev.name ok' (by rfl)) EvL.nil) (Et.kw Ev.bool)) hk) (.inl (by kernel_rfl)) fun s3 F3 => ?_)
 cases e : p.2 with
 | none =>
  rw [e] at F3
  refine wpAny_execs_cons (st_if F3 (b := true) ?_ (fun _ s4 F4 => ?_) (fun h => by cases h))
  ·exact Tv.cmp (Ev.name ok' (by rfl)) Ev.none Cmp.isNone
  ·refine wpAny_execs_cons (st_append (μ₁ := []) (μ₂ := [(l, .l (pre.map strP))]) (d := .str (repl p.1)) F4 (Ev.name ok' (by rfl)) (Ev.replace (x := p.1) (Ev.name ok' (by rfl)) (by rfl) (by rfl) (by decide) ?_) rfl ?_ (by rfl) (by rfl) (by rfl) fun s5 F5 => wpAny_execs_nil (wpAny_execs_nil (fin _ _ ?_ ⟨[("k", .str p.1), ("v", .val .none), ("k", .str p.1)], ?_, F5⟩)))
   ·show p.1.length + (p.1.length + 1) * 1 ≤ 16777216
    omega
   ·rw [List.length_map]; omega
   ·unfold partS; rw [e]
   ·intro q hq
    simp only [List.mem_cons, List.not_mem_nil, or_false] at hq
    rcases hq with rfl | rfl | rfl <;> rfl
 | some x =>
  obtain ⟨hx, hf⟩ := ok.val p pm x e
  rw [e] at F3
  refine wpAny_execs_cons (st_if F3 (b := false) ?_ (fun h => by cases h) (fun _ s4 F4 => ?_))
  ·exact Tv.cmp (Ev.name ok' (by rfl)) Ev.none Cmp.isNone
  ·refine wpAny_execs_cons (st_assign ok' F4 (d := .str x) (ev_conv room (fs := [("_headers", .val (.ref l))]) (Ev.name ok' (by rfl)) (by rfl) (by rfl) (by rfl) (EvA.kw1 (EvL.c (Ev.name ok' (by rfl)) EvL.nil) (Et.kw Ev.bool)) hx) (.inl (by kernel_rfl)) fun s5 F5 => ?_)
   refine wpAny_execs_cons (st_append (μ₁ := []) (μ₂ := [(l, .l (pre.map strP))]) (d := .str (fmtS (repl p.1) x)) F5 (Ev.name ok' (by rfl)) ?_ rfl ?_ (by rfl) (by rfl) (by rfl) fun s6 F6 => wpAny_execs_nil (wpAny_execs_nil (fin _ _ ?_ ⟨[("v", .str x), ("k", .str p.1), ("v", .str x), ("k", .str p.1)], ?_, F6⟩)))
   ·refine Ev.call (Ev.glob ok' (by rfl) (.inl (mg__formatparam w))) (fn__formatparam w) (EvA.plain (EvL.c (Ev.replace (x := p.1) (Ev.name ok' (by rfl)) (by rfl) (by rfl) (by decide) ?_) (EvL.c (Ev.name ok' (by rfl)) EvL.nil))) (pf_fmt w room _ _ hf)
    show p.1.length + (p.1.length + 1) * 1 ≤ 16777216
    omega
   ·rw [List.length_map]; omega
   ·unfold partS; rw [e]
   ·intro q hq
    simp only [List.mem_cons, List.not_mem_nil, or_false] at hq
    rcases hq with rfl | rfl | rfl | rfl <;> rfl
noncomputable def addB2 : List Stmt := (sBody (stIn 7 16)).drop 2
theorem itemsD_at {ps : List (Str × Option Str)} {i : Nat} {d e : D} (h : (itemsD (kvD ps))[i]? = some (.tup [d, e])) : ∃ p, ps[i]? = some p ∧ d = .str p.1 ∧ e = optD p.2 := by
 unfold itemsD kvD at h
 rw [List.map_map, List.getElem?_map] at h
 cases q : ps[i]? with
 | none => rw [q] at h; cases h
 | some p =>
  rw [q] at h
  simp only [Option.map_some, Option.some.injEq, Function.comp] at h
  injection h with h
  injection h with h1 h
  injection h with h2 h
  exact ⟨p, rfl, h1.symm, h2.symm⟩
theorem add_rest (w : World) {A : Around} {n : Nat} (room : Room A (n + 3)) {L l a : Addr} {name : Str} {own : Option Str} {ps : List (Str × Option Str)} {pre : List (Str × Str)} (ok : AddOk name own ps) (ok' : EnvOk (addE L)) (hpre : pre.length ≤ 500000)
  {s₁ s₂ : Shared} {W₀ W Md : Addr → Prop} {E : Value → Shared → Prop} {Q : Flow → Shared → Prop} (F : Fr (CL w) s₁ W₀ Md W (addE L) (addS1 l a name ps w) (addM l a own.toList pre) s₂) (ha : s₁.heap.get? a = none)
  (h : ∀ s' W', Fr (CL w) s₁ W₀ Md W' (addE L) [] [(l, .l ((pre ++ [(name, headS own ps)]).map strP))] s' → Q .next s') :
  wpAny (CL w).M A (execs addB2 (addE L)) Q E s₂ := by
 refine wpAny_execs_cons (st_forT (l := itemsD (kvD ps)) room.hh ok' F (ItrE.items room.hh (Ev.name ok' (by rfl)) (by rfl) (by rfl)) (.inl (by kernel_rfl)) (.inl (by kernel_rfl))
  (fun i σ μ => σ = addS1 l a name ps w ∧ μ = addM l a (own.toList ++ (ps.take i).map partS) pre) ⟨rfl, by simp⟩ (fun i d e σ₁ μ₁ hd hinv sa sb Wa Wb Ma E' Fa => ?_) (fun σ₂ μ₂ s4 W4 hinv F4 => ?_))
 ·obtain ⟨rfl, rfl⟩ := hinv
  obtain ⟨p, hp, rfl, rfl⟩ := itemsD_at hd
  have hi : i < ps.length := (List.getElem?_eq_some_iff.mp hp).1
  have hs := ok.size
  refine add_turn w room ok ok' hp (pts := own.toList ++ (ps.take i).map partS) ?_ Fa fun s5 F5 => ⟨_, _, Wb, ⟨rfl, ?_⟩, F5⟩
  ·rw [List.length_append, List.length_map, List.length_take]
   have : own.toList.length ≤ 1 := by cases own <;> simp
   omega
  ·rw [take_one hp, List.map_append, List.append_assoc]; rfl
 ·obtain ⟨rfl, rfl⟩ := hinv
  have el : (itemsD (kvD ps)).length = ps.length := by unfold itemsD kvD; rw [List.length_map, List.length_map]
  rw [el, List.take_length] at F4
  have F5 := F4.freeze (μ' := [(l, .l (pre.map strP))]) (a := a) (l := (partsOf own ps).map .str) rfl ha (σ' := [("parts", .lst ((partsOf own ps).map .str)), ("self", tabL l), ("_name", .str name)]) (fun x d hx => by
   unfold addS1
   rw [List.lookup_cons] at hx ⊢
   cases z : x == ("parts" : Str) with
   | true => rw [z] at hx; cases hx; exact .inr ⟨rfl, rfl⟩
   | false =>
    rw [z] at hx
    left
    rw [List.lookup_cons] at hx ⊢
    cases z : x == ("self" : Str) with
    | true => rw [z] at hx; exact hx
    | false =>
     rw [z] at hx
     obtain ⟨rfl, rfl⟩ := look1 hx
     rfl)
  refine wpAny_execs_cons (st_append (μ₁ := []) (μ₂ := []) (a := l) (l := pre.map strP) (d := strP (name, headS own ps)) F5 (Ev.attr (kls w) (Ev.name ok' (by rfl)) (by rfl) (by rfl) (mH_h w) obj_h) ?_ rfl ?_ (by rfl) (by rfl) (by rfl) fun s6 F6 => wpAny_execs_nil (h s6 (fun b => W4 b ∧ b ≠ a) ?_))
  ·refine Ev.tuple ?_ (by show 2 ≤ 1000000; decide)
   refine EvL.c ?_ (EvL.c ?_ EvL.nil)
   ·exact ev_conv room (fs := [("_headers", .val (.ref l))]) (Ev.name ok' (by rfl)) (by rfl) (by rfl) (by rfl) (EvA.kw1 (EvL.c (Ev.name ok' (by rfl)) EvL.nil) (Et.kw Ev.bool)) ok.nm
   ·exact Ev.join (xs := partsOf own ps) Ev.str (Ev.name ok' (by rfl)) (by rfl) (by rfl) (by rfl) ok.join
  ·rw [List.length_map]; omega
  ·rw [List.map_append]
   exact F6.sub fun x d e => by cases e
theorem add_call (w : World) {A : Around} {n : Nat} (room : Room A (n + 4)) {l : Addr} {W : Addr → Prop} {s : Shared} {name : Str} {own : Option Str} {ps : List (Str × Option Str)} {pre : List (Str × Str)} (ok : AddOk name own ps) (hpre : pre.length ≤ 500000)
  (base : HasK (CL w).K s.heap) (tok : 0 < s.toks) (wo : ∀ a, W a → ∃ o, s.heap.get? a = some o) (Wl : W l) (Kl : (CL w).K l = none) (pl : OwnAt (CL w) W s.heap l (.l (pre.map strP)))
  {ov nm val : Value} {kvs : List (Str × Value)} (ro : Rd W s.heap ov (tabL l)) (rn : Rd W s.heap nm (.str name)) (rv : Rd W s.heap val (optD own)) (rk : BR W s.heap kvs (kvD ps)) {R : Result → Shared → Prop}
  (h : ∀ s', Upd (fun b => b = l) s s' → OwnAt (CL w) W s'.heap l (.l ((pre ++ [(name, headS own ps)]).map strP)) → R (.ok (.ret .none)) s') :
  codeAny (CL w).M A (.call (.ref 181) ⟨[ov, nm, val], kvs⟩) R s := by
 have hs := ok.size
 refine enterG (W₀ := W) (Md := fun b => b = l) (μ := [(l, .l (pre.map strP))]) (names := ["self", "_name", "_value", "_params"]) (σ := [("self", tabL l), ("_name", .str name), ("_value", optD own), ("_params", .dct (CL w).prog (CL w).w (kvD ps))]) room (fn_m_add_header w) base tok wo (fun a h => by subst h; exact ⟨Wl, Kl⟩)
  (fun R' E' hR => bind_kw (c := CL w) (by kernel_rfl) (by kernel_rfl) (by kernel_rfl) (by kernel_rfl) (by kernel_rfl) rfl (by decide +kernel) (by decide +kernel) (by decide +kernel) base wo ro rn rv rk (by rw [kvD_names]; exact ok.nd) (fun k hk => by rw [kvD_names] at hk; exact ok.away k hk) (by unfold kvD; rw [List.length_map]; omega) hR)
  (fun L x hx => ?_) (by decide +kernel) (fun a o ha => ?_) (by simp) fun s₁ L W' s' E' K1 _ _ ok' F => ?_
 ·simp only [List.mem_cons, List.not_mem_nil, or_false] at hx
  rcases hx with rfl | rfl | rfl | rfl <;> exact .inl (by kernel_rfl)
 ·simp only [List.mem_cons, List.not_mem_nil, or_false] at ha
  cases ha
  exact ⟨rfl, pl⟩
 ·have room' := room.deeper (addE L)
  have fin : ∀ s' W', Fr (CL w) s₁ W (fun b => b = l) W' (addE L) [] [(l, .l ((pre ++ [(name, headS own ps)]).map strP))] s' → R (.ok (.ret .none)) s' := fun s' W' G => by
   refine h s' ((Upd.of K1).trans G.up) ?_
   obtain ⟨_, _, _, us, p1, p2⟩ := G.own l _ (List.mem_cons_self ..)
   exact ⟨us, p1, p2.less G.w0⟩
  refine wpAny_execs_cons (st_newlist ok' F (.inl (by kernel_rfl)) fun a s2 ha F2 => ?_)
  cases own with
  | none =>
   refine wpAny_execs_cons (st_if F2 (b := false) ?_ (fun h => by cases h) (fun _ s3 F3 => wpAny_execs_nil ?_))
   ·exact Tv.cmp (Ev.name ok' (by rfl)) Ev.none Cmp.isNotNone
   ·refine add_rest w room' ok ok' hpre (F3.sub fun x d e => ?_) ha fun s' W' G => fin s' W' G
    unfold addS1 at e
    rw [List.lookup_cons] at e ⊢
    cases z : x == ("parts" : Str) with
    | true => rw [z] at e; exact e
    | false =>
     rw [z] at e
     rw [List.lookup_cons] at e ⊢
     cases z : x == ("self" : Str) with
     | true => rw [z] at e; exact e
     | false =>
      rw [z] at e
      rw [List.lookup_cons] at e ⊢
      cases z : x == ("_name" : Str) with
      | true => rw [z] at e; exact e
      | false =>
       rw [z] at e
       obtain ⟨rfl, rfl⟩ := look1 e
       rfl
  | some x =>
   refine wpAny_execs_cons (st_if F2 (b := true) ?_ (fun _ s3 F3 => ?_) (fun h => by cases h))
   ·exact Tv.cmp (Ev.name ok' (by rfl)) Ev.none Cmp.isNotNone
   ·refine wpAny_execs_cons (st_assign ok' F3 (d := .str x) (ev_conv room' (fs := [("_headers", .val (.ref l))]) (Ev.name ok' (by rfl)) (by rfl) (by rfl) (by rfl) (EvA.kw1 (EvL.c (Ev.name ok' (by rfl)) EvL.nil) (Et.kw Ev.bool)) (ok.mine x rfl)) (.inl (by kernel_rfl)) fun s4 F4 => ?_)
    refine wpAny_execs_cons (st_append (μ₁ := []) (μ₂ := [(l, .l (pre.map strP))]) (d := .str x) F4 (Ev.name ok' (by rfl)) (Ev.name ok' (by rfl)) rfl (by decide) (by rfl) (by rfl) (by rfl) fun s5 F5 => wpAny_execs_nil ?_)
    refine add_rest w room' ok ok' hpre (F5.sub fun x d e => ?_) ha fun s' W' G => fin s' W' G
    unfold addS1 at e
    rw [List.lookup_cons] at e
    cases z : x == ("parts" : Str) with
    | true => rw [z] at e; have := eq_of_beq z; subst this; exact e
    | false =>
     rw [z] at e
     rw [List.lookup_cons] at e
     cases z : x == ("self" : Str) with
     | true => rw [z] at e; have := eq_of_beq z; subst this; exact e
     | false =>
      rw [z] at e
      rw [List.lookup_cons] at e
      cases z : x == ("_name" : Str) with
      | true => rw [z] at e; have := eq_of_beq z; subst this; exact e
      | false =>
       rw [z] at e
       obtain ⟨rfl, rfl⟩ := look1 e
       rfl
noncomputable def ch (k : Nat) : Str := ⟨#[k]⟩
section
variable {c : Cx} {A : Around} {env : Env} {σ : List (Str × D)}
theorem ev_litN {kk : Nat} {p : Pos} (k : Nat) : Ev c A env σ (.Constant (.int ((k : Nat) : Int)) kk p) (.int ((k : Nat) : Int)) := Ev.int
theorem ev_addN {e f : Expr} {p : Pos} {a b : Nat} (he : Ev c A env σ e (.int (a : Nat))) (hf : Ev c A env σ f (.int (b : Nat))) : Ev c A env σ (.BinOp e .Add f p) (.int ((a + b : Nat) : Int)) := Ev.bin he hf (by rw [Int.natCast_add]; exact Bop.addI)
theorem fmodN (a m : Nat) : (a : Int).fmod (m : Int) = ((a % m : Nat) : Int) := by
 rw [Int.fmod_eq_emod_of_nonneg _ (Int.natCast_nonneg m)]; rfl
theorem fdivN (a m : Nat) : (a : Int).fdiv (m : Int) = ((a / m : Nat) : Int) := by
 rw [Int.fdiv_eq_ediv_of_nonneg _ (Int.natCast_nonneg m)]; rfl
theorem ev_modN {e f : Expr} {p : Pos} {a m : Nat} (he : Ev c A env σ e (.int (a : Nat))) (hf : Ev c A env σ f (.int (m : Nat))) (h : 0 < m) : Ev c A env σ (.BinOp e .Mod f p) (.int ((a % m : Nat) : Int)) := by
 rw [← fmodN]; exact Ev.bin he hf (Bop.modI (by omega))
theorem ev_divN {e f : Expr} {p : Pos} {a m : Nat} (he : Ev c A env σ e (.int (a : Nat))) (hf : Ev c A env σ f (.int (m : Nat))) (h : 0 < m) (hp : Builtin.divisionGoesByPylong (a : Int) (m : Int) = false) : Ev c A env σ (.BinOp e .FloorDiv f p) (.int ((a / m : Nat) : Int)) := by
 rw [← fdivN]; exact Ev.bin he hf (Bop.divI (by omega) hp)
theorem ev_chrN {x : Str} {np p : Pos} {e : Expr} {k : Nat} (hf : Ev c A env σ (.Name x np) (.val (.builtin "chr"))) (hs : starEach [e] env = [(false, eval e env)]) (he : Ev c A env σ e (.int (k : Nat))) (h1 : k ≤ 1114111) : Ev c A env σ (.Call (.Name x np) [e] [] p) (.str (ch k)) := by
 have := Ev.chr (p := p) hf hs he (Int.natCast_nonneg k) (by omega)
 rwa [Int.toNat_natCast] at this
end
noncomputable def styles : List Nat := [0, 1, 2, 4, 7, 8, 9, 10, 11, 12]
noncomputable def unseens : List Nat := [173, 847, 6150, 6155, 6156, 6157, 8203, 8204, 8205, 8288, 65279]
noncomputable def ligs : List Str := ["ff", "fi", "fl", "ffi", "ffl", "st", "st", "ss"]
noncomputable def marks : List Nat := [34, 92]
noncomputable def ascs : List Nat := [32, 59, 61, 44, 95, 45, 46, 9]
noncomputable def signOf (k r : Nat) : Str × Str :=
 if k = 0 then (ch (97 + r % 26), ch (97 + r % 26))
 else if k = 1 then (ch (65 + r % 26), ch (97 + r % 26))
 else if k = 2 then (ch (119808 + 52 * styles.getD (r / 26 % 10) 0 + r % 26), ch (97 + r % 26))
 else if k = 3 then (ch (if r % 27 < 11 then unseens.getD (r % 27) 0 else 65013 + r % 27), "")
 else if k = 4 then (ch (if r % 8 < 7 then 64256 + r % 8 else 223), ligs.getD (r % 8) "")
 else if k = 5 then (ch (marks.getD (r % 2) 0), ch (marks.getD (r % 2) 0))
 else if k = 6 then (ch (ascs.getD (r % 8) 0), ch (ascs.getD (r % 8) 0))
 else (ch (1040 + r % 32), ch (1072 + r % 32))
noncomputable def kOf (n : Int) : Nat := (n.fmod 8).toNat
noncomputable def rOf (n : Int) : Nat := ((n.fdiv 8).fmod 4096).toNat
noncomputable def signA (n : Int) : Str × Str := signOf (kOf n) (rOf n)
theorem kOf_eq (n : Int) : n.fmod 8 = (kOf n : Int) := by unfold kOf; have := Int.fmod_nonneg_of_pos n (b := 8) (by decide); omega
theorem rOf_eq (n : Int) : (n.fdiv 8).fmod 4096 = (rOf n : Int) := by unfold rOf; have := Int.fmod_nonneg_of_pos (n.fdiv 8) (b := 4096) (by decide); omega
theorem kOf_lt (n : Int) : kOf n < 8 := by unfold kOf; have := Int.fmod_lt_of_pos n (b := 8) (by decide); have := Int.fmod_nonneg_of_pos n (b := 8) (by decide); omega
theorem rOf_lt (n : Int) : rOf n < 4096 := by unfold rOf; have := Int.fmod_lt_of_pos (n.fdiv 8) (b := 4096) (by decide); have := Int.fmod_nonneg_of_pos (n.fdiv 8) (b := 4096) (by decide); omega
theorem pyl8 (a : Int) : Builtin.divisionGoesByPylong a ((8 : Nat) : Int) = false := by unfold Builtin.divisionGoesByPylong; exact Bool.and_eq_false_iff.mpr (.inl (by decide))
theorem pyl26 (a : Int) : Builtin.divisionGoesByPylong a ((26 : Nat) : Int) = false := by unfold Builtin.divisionGoesByPylong; exact Bool.and_eq_false_iff.mpr (.inl (by decide))
theorem pyl3 (a : Int) : Builtin.divisionGoesByPylong a ((3 : Nat) : Int) = false := by unfold Builtin.divisionGoesByPylong; exact Bool.and_eq_false_iff.mpr (.inl (by decide))
section
variable {c : Cx} {A : Around} {env : Env} {σ : List (Str × D)}
theorem ev_mul52 {e f : Expr} {p : Pos} {b : Nat} (he : Ev c A env σ e (.int ((52 : Nat) : Int))) (hf : Ev c A env σ f (.int (b : Nat))) : Ev c A env σ (.BinOp e .Mult f p) (.int ((52 * b : Nat) : Int)) :=
 Ev.bin he hf (fun W s E u v _ _ ru rv => by
  cases ru; cases rv
  rw [Int.natCast_mul]
  exact PyProof.Rows.mul_int ⟨.tok _, .int _ _⟩ (PySem.IntMulOk.of_left (by decide)))
theorem cmp_ltN {i j : Nat} : Cmp c A .Lt (.int (i : Nat)) (.int (j : Nat)) (decide (i < j)) := by
 have := Cmp.lt (c := c) (A := A) (i := (i : Int)) (j := (j : Int))
 have e : decide ((i : Int) < (j : Int)) = decide (i < j) := by by_cases h : i < j <;> simp [h]
 rwa [e] at this
theorem ev_ifN {t e f : Expr} {pos : Pos} {b : Bool} {x y : Nat} (ht : Tv c A env σ t b) (he : b = true → Ev c A env σ e (.int (x : Nat))) (hf : b = false → Ev c A env σ f (.int (y : Nat))) : Ev c A env σ (.IfExp t e f pos) (.int ((if b = true then x else y : Nat) : Int)) := by
 refine Ev.ifExp ht (fun h => ?_) (fun h => ?_)
 ·rw [if_pos h]; exact he h
 ·rw [if_neg (by rw [h]; decide)]; exact hf h
end
theorem getD_le {l : List Nat} {k b : Nat} (h : ∀ x ∈ l, x ≤ b) : l.getD k 0 ≤ b := by
 rw [List.getD_eq_getElem?_getD]
 cases e : l[k]? with
 | none => exact Nat.zero_le _
 | some x => exact h x (List.mem_of_getElem? e)
theorem pf_sign (w : World) {A : Around} {n : Nat} (room : Room A (n + 3)) (num : Int) : Pf (CL w) A 264 [.int num] [] (strP (signA num)) := by
 intro W s E vs kvs base tok wo rl br
 cases br
 cases rl with
 | cons r1 rl =>
 cases rl
 refine enter (W₀ := W) (Md := fun _ => False) (μ := []) (σ := [("number", .int num)]) room (fn__law_sign w) base tok wo (fun a h => h.elim) (binds := [("number", _)]) (.of_eq rfl) (fun L x hx => ?_) (by simp) (.cons r1 .nil) (fun a l h => nomatch h) (by simp) fun L W' s' E' _ _ ok F => ?_
 ·simp only [List.mem_singleton] at hx; subst hx; exact .inl (by kernel_rfl)
 ·have room' := room.deeper (callEnvC fd__law_sign L 264)
  have hk := kOf_lt num
  have hr := rOf_lt num
  have hs : signA num = signOf (kOf num) (rOf num) := rfl
  rw [hs]
  have en : Ev (CL w) (A.deeper (callEnvC fd__law_sign L 264)) (callEnvC fd__law_sign L 264) [("number", .int num)] (.Tuple [.BinOp (.Name "number" ⟨113, 18, 113, 24⟩) .Mod (.Constant (.int 8) 0 ⟨113, 27, 113, 28⟩) ⟨113, 18, 113, 28⟩, .BinOp (.BinOp (.Name "number" ⟨113, 30, 113, 36⟩) .FloorDiv (.Constant (.int 8) 0 ⟨113, 40, 113, 41⟩) ⟨113, 30, 113, 41⟩) .Mod (.Constant (.int 4096) 0 ⟨113, 44, 113, 48⟩) ⟨113, 30, 113, 48⟩] 0 ⟨113, 17, 113, 49⟩) (.tup [.int (kOf num : Nat), .int (rOf num : Nat)]) := by
   refine Ev.tuple ?_ (by show 2 ≤ 1000000; decide)
   refine EvL.c ?_ (EvL.c ?_ EvL.nil)
   ·rw [← kOf_eq]; exact Ev.bin (Ev.name ok (by rfl)) Ev.int (Bop.modI (by decide))
   ·rw [← rOf_eq]; exact Ev.bin (Ev.bin (Ev.name ok (by rfl)) Ev.int (Bop.divI (by decide) (pyl8 _))) Ev.int (Bop.modI (by decide))
  refine wpAny_execs_cons (st_pairSwapped room'.hh ok F en (.inl (by kernel_rfl)) (.inl (by kernel_rfl)) fun s1 F1 => ?_)
  generalize kOf num = k at hk F1 ⊢
  generalize rOf num = r at hr F1 ⊢
  have chr : ∀ {σ : List (Str × D)} {np p : Pos} {e : Expr} {m : Nat}, Ev (CL w) (A.deeper (callEnvC fd__law_sign L 264)) (callEnvC fd__law_sign L 264) σ e (.int (m : Nat)) → m ≤ 1114111 → starEach [e] (callEnvC fd__law_sign L 264) = [(false, eval e (callEnvC fd__law_sign L 264))] → Ev (CL w) (A.deeper (callEnvC fd__law_sign L 264)) (callEnvC fd__law_sign L 264) σ (.Call (.Name "chr" np) [e] [] p) (.str (ch m)) := fun he hm hs => ev_chrN (Ev.glob ok (by rfl) (.inr (mb_chr w))) hs he hm
  have fin : ∀ {d : D} {s4 : Shared} {σ : List (Str × D)} {v : Value}, Fr (CL w) s W (fun _ => False) W' (callEnvC fd__law_sign L 264) σ [] s4 → Rd W' s4.heap v d → d = strP (signOf k r) → Kt s s4 ∧ Rd W s4.heap v (strP (signOf k r)) := fun F4 rr e => ⟨F4.up.kt, by rw [← e]; exact rr.less F4.w0⟩
  refine wpAny_execs_cons (st_assign ok F1 (d := .str (ch (97 + r % 26))) ?_ (.inl (by kernel_rfl)) fun s2 F2 => ?_)
  ·exact chr (ev_addN (ev_litN 97) (ev_modN (a := r) (Ev.name ok (by rfl)) (ev_litN 26) (by decide))) (by omega) (by rfl)
  refine wpAny_execs_cons (st_ifEq room' F2 (k := k) (j := 0) (Ev.name ok (by rfl)) (by omega) (ev_litN 0) (by decide) (fun e s3 F3 => ?_) (fun e0 s3 F3 => wpAny_execs_nil ?_))
  ·refine wpAny_execs_cons (st_return F3 (d := .tup [.str (ch (97 + r % 26)), .str (ch (97 + r % 26))]) ?_ fun v s4 F4 rr => fin F4 rr ?_)
   ·exact Ev.tuple (EvL.c (Ev.name ok (by rfl)) (EvL.c (Ev.name ok (by rfl)) EvL.nil)) (by show 2 ≤ 1000000; decide)
   ·unfold signOf strP; rw [if_pos e]
  refine wpAny_execs_cons (st_ifEq room' F3 (k := k) (j := 1) (Ev.name ok (by rfl)) (by omega) (ev_litN 1) (by decide) (fun e s4 F4 => ?_) (fun e1 s4 F4 => wpAny_execs_nil ?_))
  ·refine wpAny_execs_cons (st_return F4 (d := .tup [.str (ch (65 + r % 26)), .str (ch (97 + r % 26))]) ?_ fun v s4 F4 rr => fin F4 rr ?_)
   ·exact Ev.tuple (EvL.c (chr (ev_addN (ev_litN 65) (ev_modN (a := r) (Ev.name ok (by rfl)) (ev_litN 26) (by decide))) (by omega) (by rfl)) (EvL.c (Ev.name ok (by rfl)) EvL.nil)) (by show 2 ≤ 1000000; decide)
   ·unfold signOf strP; rw [if_neg e0, if_pos e]
  refine wpAny_execs_cons (st_ifEq room' F4 (k := k) (j := 2) (Ev.name ok (by rfl)) (by omega) (ev_litN 2) (by decide) (fun e s5 F5 => ?_) (fun e2 s5 F5 => wpAny_execs_nil ?_))
  ·have hst : styles.getD (r / 26 % 10) 0 ≤ 12 := getD_le (by decide)
   refine wpAny_execs_cons ?_
   refine st_assign ok F5 (d := .int (styles.getD (r / 26 % 10) 0 : Nat)) ?_ ?_ ?_ ?_
   case refine_2 => exact .inl (by kernel_rfl)
   case refine_4 => rfl
   rotate_left
   intro s6 F6
   rotate_left
   ·refine ev_pickT (xs := styles) (f := fun (x : Nat) => D.int (x : Int)) (k := r / 26 % 10) (d := 0) ?_ ?_ (Nat.mod_lt _ (by decide)) (by decide)
    ·refine Ev.tuple ?_ ?_
     rotate_left
     ·rw [List.length_map]; decide
     show EvL _ _ _ _ _ [.int 0, .int 1, .int 2, .int 4, .int 7, .int 8, .int 9, .int 10, .int 11, .int 12]
     iterate 10 (refine EvL.c ?_ ?_; · exact Ev.int)
     exact EvL.nil
    ·exact ev_modN (ev_divN (a := r) (Ev.name ok (by rfl)) (ev_litN 26) (by decide) (pyl26 _)) (ev_litN 10) (by decide)
   ·refine wpAny_execs_cons (st_return F6 (d := .tup [.str (ch (119808 + 52 * styles.getD (r / 26 % 10) 0 + r % 26)), .str (ch (97 + r % 26))]) ?_ fun v s4 F4 rr => fin F4 rr ?_)
    ·exact Ev.tuple (EvL.c (chr (ev_addN (ev_addN (ev_litN 119808) (ev_mul52 (ev_litN 52) (Ev.name ok (by rfl)))) (ev_modN (a := r) (Ev.name ok (by rfl)) (ev_litN 26) (by decide))) (by omega) (by rfl)) (EvL.c (Ev.name ok (by rfl)) EvL.nil)) (by show 2 ≤ 1000000; decide)
    ·unfold signOf strP; rw [if_neg e0, if_neg e1, if_pos e]
  refine wpAny_execs_cons (st_ifEq room' F5 (k := k) (j := 3) (Ev.name ok (by rfl)) (by omega) (ev_litN 3) (by decide) (fun e s6 F6 => ?_) (fun e3 s6 F6 => wpAny_execs_nil ?_))
  ·refine wpAny_execs_cons ?_
   refine st_assign ok F6 (d := .int ((r % 27 : Nat) : Int)) ?_ ?_ ?_ ?_
   case refine_2 => exact .inl (by kernel_rfl)
   case refine_4 => rfl
   rotate_left
   intro s7 F7
   rotate_left
   ·exact ev_modN (a := r) (Ev.name ok (by rfl)) (ev_litN 27) (by decide)
   refine wpAny_execs_cons ?_
   refine st_assign ok F7 (d := .tup (unseens.map fun (x : Nat) => D.int (x : Int))) ?_ ?_ ?_ ?_
   case refine_2 => exact .inl (by kernel_rfl)
   case refine_4 => rfl
   rotate_left
   intro s8 F8
   rotate_left
   ·refine Ev.tuple ?_ ?_
    rotate_left
    ·rw [List.length_map]; decide
    show EvL _ _ _ _ _ [.int 173, .int 847, .int 6150, .int 6155, .int 6156, .int 6157, .int 8203, .int 8204, .int 8205, .int 8288, .int 65279]
    iterate 11 (refine EvL.c ?_ ?_; · exact Ev.int)
    exact EvL.nil
   ·have hun : unseens.getD (r % 27) 0 ≤ 65279 := getD_le (by decide)
    have h27 : r % 27 < 27 := Nat.mod_lt _ (by decide)
    refine wpAny_execs_cons (st_return F8 (d := .tup [.str (ch (if decide (r % 27 < 11) = true then unseens.getD (r % 27) 0 else 65013 + r % 27)), .str ""]) ?_ fun v s4 F4 rr => fin F4 rr ?_)
    ·refine Ev.tuple ?_ (by show 2 ≤ 1000000; decide)
     refine EvL.c (chr (ev_ifN (Tv.cmp (Ev.name ok (by rfl)) (ev_litN 11) cmp_ltN) (fun h => ?_) (fun h => ev_addN (ev_litN 65013) (Ev.name ok (by rfl)))) (by split <;> omega) (by rfl)) (EvL.c Ev.str EvL.nil)
     exact ev_pickT (xs := unseens) (f := fun (x : Nat) => D.int (x : Int)) (k := r % 27) (d := 0) (Ev.name ok (by rfl)) (Ev.name ok (by rfl)) (of_decide_eq_true h) (by decide)
    ·unfold signOf strP; rw [if_neg e0, if_neg e1, if_neg e2, if_pos e]; simp only [decide_eq_true_eq]
  refine wpAny_execs_cons (st_ifEq room' F6 (k := k) (j := 4) (Ev.name ok (by rfl)) (by omega) (ev_litN 4) (by decide) (fun e s7 F7 => ?_) (fun e4 s7 F7 => wpAny_execs_nil ?_))
  ·have h8 : r % 8 < 8 := Nat.mod_lt _ (by decide)
   refine wpAny_execs_cons ?_
   refine st_assign ok F7 (d := .int ((r % 8 : Nat) : Int)) ?_ ?_ ?_ ?_
   case refine_2 => exact .inl (by kernel_rfl)
   case refine_4 => rfl
   rotate_left
   intro s8 F8
   rotate_left
   ·exact ev_modN (a := r) (Ev.name ok (by rfl)) (ev_litN 8) (by decide)
   refine wpAny_execs_cons ?_
   refine st_assign ok F8 (d := .tup (ligs.map .str)) ?_ ?_ ?_ ?_
   case refine_2 => exact .inl (by kernel_rfl)
   case refine_4 => rfl
   rotate_left
   intro s9 F9
   rotate_left
   ·refine Ev.tuple ?_ ?_
    rotate_left
    ·rw [List.length_map]; decide
    show EvL _ _ _ _ _ [.str "ff", .str "fi", .str "fl", .str "ffi", .str "ffl", .str "st", .str "st", .str "ss"]
    iterate 8 (refine EvL.c ?_ ?_; · exact Ev.str)
    exact EvL.nil
   ·refine wpAny_execs_cons (st_return F9 (d := .tup [.str (ch (if decide (r % 8 < 7) = true then 64256 + r % 8 else 223)), .str (ligs.getD (r % 8) "")]) ?_ fun v s4 F4 rr => fin F4 rr ?_)
    ·refine Ev.tuple ?_ (by show 2 ≤ 1000000; decide)
     refine EvL.c (chr (ev_ifN (Tv.cmp (Ev.name ok (by rfl)) (ev_litN 7) cmp_ltN) (fun h => ev_addN (ev_litN 64256) (Ev.name ok (by rfl))) (fun h => ev_litN 223)) (by split <;> omega) (by rfl)) (EvL.c ?_ EvL.nil)
     exact ev_pickT (xs := ligs) (f := D.str) (k := r % 8) (d := "") (Ev.name ok (by rfl)) (Ev.name ok (by rfl)) h8 (by decide)
    ·unfold signOf strP; rw [if_neg e0, if_neg e1, if_neg e2, if_neg e3, if_pos e]; simp only [decide_eq_true_eq]
  refine wpAny_execs_cons (st_ifEq room' F7 (k := k) (j := 5) (Ev.name ok (by rfl)) (by omega) (ev_litN 5) (by decide) (fun e s8 F8 => ?_) (fun e5 s8 F8 => wpAny_execs_nil ?_))
  ·have hm : marks.getD (r % 2) 0 ≤ 92 := getD_le (by decide)
   refine wpAny_execs_cons ?_
   refine st_assign ok F8 (d := .str (ch (marks.getD (r % 2) 0))) ?_ ?_ ?_ ?_
   case refine_2 => exact .inl (by kernel_rfl)
   case refine_4 => rfl
   rotate_left
   intro s9 F9
   rotate_left
   ·refine chr ?_ (m := marks.getD (r % 2) 0) (by omega) (by rfl)
    refine ev_pickT (xs := marks) (f := fun (x : Nat) => D.int (x : Int)) (k := r % 2) (d := 0) ?_ ?_ (Nat.mod_lt _ (by decide)) (by decide)
    ·refine Ev.tuple ?_ ?_
     rotate_left
     ·rw [List.length_map]; decide
     show EvL _ _ _ _ _ [.int 34, .int 92]
     iterate 2 (refine EvL.c ?_ ?_; · exact Ev.int)
     exact EvL.nil
    ·exact ev_modN (a := r) (Ev.name ok (by rfl)) (ev_litN 2) (by decide)
   ·refine wpAny_execs_cons (st_return F9 (d := .tup [.str (ch (marks.getD (r % 2) 0)), .str (ch (marks.getD (r % 2) 0))]) ?_ fun v s4 F4 rr => fin F4 rr ?_)
    ·exact Ev.tuple (EvL.c (Ev.name ok (by rfl)) (EvL.c (Ev.name ok (by rfl)) EvL.nil)) (by show 2 ≤ 1000000; decide)
    ·unfold signOf strP; rw [if_neg e0, if_neg e1, if_neg e2, if_neg e3, if_neg e4, if_pos e]
  refine wpAny_execs_cons (st_ifEq room' F8 (k := k) (j := 6) (Ev.name ok (by rfl)) (by omega) (ev_litN 6) (by decide) (fun e s9 F9 => ?_) (fun e6 s9 F9 => wpAny_execs_nil ?_))
  ·have hm : ascs.getD (r % 8) 0 ≤ 95 := getD_le (by decide)
   refine wpAny_execs_cons ?_
   refine st_assign ok F9 (d := .str (ch (ascs.getD (r % 8) 0))) ?_ ?_ ?_ ?_
   case refine_2 => exact .inl (by kernel_rfl)
   case refine_4 => rfl
   rotate_left
   intro s10 F10
   rotate_left
   ·refine chr ?_ (m := ascs.getD (r % 8) 0) (by omega) (by rfl)
    refine ev_pickT (xs := ascs) (f := fun (x : Nat) => D.int (x : Int)) (k := r % 8) (d := 0) ?_ ?_ (Nat.mod_lt _ (by decide)) (by decide)
    ·refine Ev.tuple ?_ ?_
     rotate_left
     ·rw [List.length_map]; decide
     show EvL _ _ _ _ _ [.int 32, .int 59, .int 61, .int 44, .int 95, .int 45, .int 46, .int 9]
     iterate 8 (refine EvL.c ?_ ?_; · exact Ev.int)
     exact EvL.nil
    ·exact ev_modN (a := r) (Ev.name ok (by rfl)) (ev_litN 8) (by decide)
   ·refine wpAny_execs_cons (st_return F10 (d := .tup [.str (ch (ascs.getD (r % 8) 0)), .str (ch (ascs.getD (r % 8) 0))]) ?_ fun v s4 F4 rr => fin F4 rr ?_)
    ·exact Ev.tuple (EvL.c (Ev.name ok (by rfl)) (EvL.c (Ev.name ok (by rfl)) EvL.nil)) (by show 2 ≤ 1000000; decide)
    ·unfold signOf strP; rw [if_neg e0, if_neg e1, if_neg e2, if_neg e3, if_neg e4, if_neg e5, if_pos e]
  refine wpAny_execs_cons (st_return F9 (d := .tup [.str (ch (1040 + r % 32)), .str (ch (1072 + r % 32))]) ?_ fun v s4 F4 rr => fin F4 rr ?_)
  ·exact Ev.tuple (EvL.c (chr (ev_addN (ev_litN 1040) (ev_modN (a := r) (Ev.name ok (by rfl)) (ev_litN 32) (by decide))) (by omega) (by rfl)) (EvL.c (chr (ev_addN (ev_litN 1072) (ev_modN (a := r) (Ev.name ok (by rfl)) (ev_litN 32) (by decide))) (by omega) (by rfl)) EvL.nil)) (by show 2 ≤ 1000000; decide)
  ·unfold signOf strP; rw [if_neg e0, if_neg e1, if_neg e2, if_neg e3, if_neg e4, if_neg e5, if_neg e6]
section
variable {c : Cx} {A : Around} {s₀ : Shared} {W₀ Md W : Addr → Prop} {env : Env} {σ : List (Str × D)} {μ : List (Addr × Own)} {s : Shared} {E : Value → Shared → Prop}
theorem Fr.perm (F : Fr c s₀ W₀ Md W env σ μ s) {μ' : List (Addr × Own)} (h : μ.Perm μ') : Fr c s₀ W₀ Md W env σ μ' s :=
 {F with
  own := fun a l m => F.own a l (h.mem_iff.mpr m)
  nd := (h.map (·.1)).nodup_iff.mp F.nd }
theorem Ev.isRef (F : Fr c s₀ W₀ Md W env σ μ s) {e : Expr} {a : Addr} (h : Ev c A env σ e (.val (.ref a))) : ∀ E, wpAny c.M A (eval e env) (fun v s' => Kt s s' ∧ v = .ref a) E s := fun E =>
 wpAny_mono (h W s E F.view) (fun v s' q => ⟨q.1, by obtain ⟨_, r⟩ := q; cases r; rfl⟩) fun _ _ e => e
theorem Fr.lookRef (F : Fr c s₀ W₀ Md W env σ μ s) {σ' : List (Str × D)} (hσ : Rel2 (Res c μ) σ σ') {e : Expr} {a : Addr} (he : Ev c A env σ' e (.val (.ref a))) : ∀ E, wpAny c.M A (eval e env) (fun v s' => Kt s s' ∧ v = .ref a) E s := fun E =>
 wpAny_mono (F.lookEv hσ he rfl) (fun v s' q => ⟨q.1, by obtain ⟨_, r⟩ := q; cases r; rfl⟩) fun _ _ e => e
theorem ev_sliceTo {α : Type} {f : α → D} {xs : List α} {value e : Expr} {p pos : Pos} {a : Nat} (hv : Ev c A env σ value (.lst (xs.map f))) (he : Ev c A env σ e (.int a)) (hn : xs.length ≤ 1000000) (ht : ∀ o r, letTemporaryGo value o r = pure () := by intro _ _; rfl) :
  Ev c A env σ (.Subscript value (.Slice Option.none (some e) Option.none p) pos) (.lst ((xs.take a).map f)) := by
 rw [List.map_take]; exact Ev.sliceTo hv he (by rw [List.length_map]; exact hn) ht
end
noncomputable abbrev RowA := Str × Str × Option (List (Str × Str))
structure Row where
 r : Addr
 way : Str
 letter : Str
 t : Option (Addr × List (Str × Str))
noncomputable def Row.abs (x : Row) : RowA := (x.way, x.letter, x.t.map (·.2))
noncomputable def third : Option (Addr × List (Str × Str)) → D
 | none => .val .none
 | some (a, _) => .val (.ref a)
noncomputable def thirdD : Option (List (Str × Str)) → D
 | none => .val .none
 | some l => .lst (l.map strP)
noncomputable def thirdO : Option (Addr × List (Str × Str)) → List (Addr × Own)
 | none => []
 | some (a, l) => [(a, .l (l.map strP))]
noncomputable def rowV (x : Row) : List D := [.str x.way, .str x.letter, third x.t]
noncomputable def rowO (x : Row) : List (Addr × Own) := (x.r, .l (rowV x)) :: thirdO x.t
noncomputable def rowD (x : RowA) : D := .lst [.str x.1, .str x.2.1, thirdD x.2.2]
noncomputable def refs (rs : List Row) : List D := rs.map fun x => .val (.ref x.r)
noncomputable def muR (R : Addr) (rs : List Row) : List (Addr × Own) := (R, .l (refs rs)) :: rs.flatMap rowO
noncomputable def letterOf (sz : Nat) : Str := ch (97 + sz % 3)
noncomputable def waysOf (sz : Nat) : List Str := [letterOf sz, ch (65 + sz % 3), ch (119808 + sz % 3), letterOf sz ++ ch 173]
noncomputable def wayOf (sz : Nat) : Str := (waysOf sz).getD (sz / 3 % 4) ""
noncomputable def szOf (n : Int) : Nat := ((-n).fmod 24).toNat
noncomputable def newRow (n : Int) : RowA := (wayOf (szOf n), letterOf (szOf n), if szOf n < 12 then none else some [])
noncomputable def stepA (acc : List RowA × RowA) (n : Int) : List RowA × RowA :=
 if n < 0 then (acc.1 ++ [acc.2], newRow n)
 else match acc.2.2.2 with
  | none => (acc.1, (acc.2.1, acc.2.2.1, some [signA n]))
  | some l => (acc.1, (acc.2.1, acc.2.2.1, some (l ++ [signA n])))
noncomputable def startA : List RowA × RowA := ([], (("" : Str), ("" : Str), none))
noncomputable def readP (script : List Int) : List RowA × RowA := (script.take 20).foldl stepA startA
noncomputable def readA (script : List Int) : List RowA := (readP script).1 ++ [(readP script).2]
theorem szOf_eq (n : Int) : (-n).fmod 24 = (szOf n : Int) := by unfold szOf; have := Int.fmod_nonneg_of_pos (-n) (b := 24) (by decide); omega
theorem szOf_lt (n : Int) : szOf n < 24 := by unfold szOf; have := Int.fmod_lt_of_pos (-n) (b := 24) (by decide); have := Int.fmod_nonneg_of_pos (-n) (b := 24) (by decide); omega
theorem abc_at (k : Nat) (h : k < 3) : (Str.ofString "abc").cps[k]? = some (97 + k) := by
 have : ∀ k < 3, (Str.ofString "abc").cps[k]? = some (97 + k) := by decide +kernel
 exact this k h
theorem ABC_at (k : Nat) (h : k < 3) : (Str.ofString "ABC").cps[k]? = some (65 + k) := by
 have : ∀ k < 3, (Str.ofString "ABC").cps[k]? = some (65 + k) := by decide +kernel
 exact this k h
theorem mem_R (R : Addr) (rs : List Row) : (R, Own.l (refs rs)) ∈ muR R rs := List.mem_cons_self ..
theorem mem_row {R : Addr} {rs : List Row} {x : Row} (h : x ∈ rs) {p : Addr × Own} (hp : p ∈ rowO x) : p ∈ muR R rs := List.mem_cons_of_mem _ (List.mem_flatMap.mpr ⟨x, h, hp⟩)
theorem refs_app (a : List Row) (x : Row) : refs (a ++ [x]) = refs a ++ [.val (.ref x.r)] := by unfold refs; rw [List.map_append]; rfl
theorem muR_last (R : Addr) (init : List Row) (x : Row) : (muR R (init ++ [x])).Perm ((x.r, .l (rowV x)) :: (R, .l (refs init ++ [.val (.ref x.r)])) :: (thirdO x.t ++ init.flatMap rowO)) := by
 unfold muR
 rw [refs_app, List.flatMap_append, List.flatMap_cons, List.flatMap_nil, List.append_nil]
 show ((R, Own.l _) :: (init.flatMap rowO ++ (x.r, .l (rowV x)) :: thirdO x.t)).Perm _
 refine List.Perm.trans (List.Perm.cons _ List.perm_middle) ?_
 refine List.Perm.trans (List.Perm.swap _ _ _) (List.Perm.cons _ (List.Perm.cons _ ?_))
 exact List.perm_append_comm
theorem res_deep {c : Cx} {R : Addr} {init : List Row} {x : Row} {μ : List (Addr × Own)} (hμ : ∀ p, p ∈ muR R (init ++ [x]) → p ∈ μ) : Res c μ (.val (.ref R)) (.lst (refs init ++ [.lst (rowV x)])) := by
 refine .lst (hμ _ (mem_R R _)) ?_
 rw [refs_app]
 have : ∀ (l : List D) (d e : D), Res c μ d e → ResL c μ (l ++ [d]) (l ++ [e]) := fun l d e h => by
  induction l with
  | nil => exact .cons h .nil
  | cons a l ih => exact .cons (.same a) ih
 exact this _ _ _ (.lst (hμ _ (mem_row (List.mem_append_right _ (List.mem_cons_self ..)) (List.mem_cons_self ..))) (ResL.same _))
theorem res_flat {c : Cx} {R : Addr} {rs : List Row} {μ : List (Addr × Own)} (hμ : ∀ p, p ∈ muR R rs → p ∈ μ) : Res c μ (.val (.ref R)) (.lst (refs rs)) := .lst (hμ _ (mem_R R _)) (ResL.same _)
theorem res_all {c : Cx} {R : Addr} {rs : List Row} : Res c (muR R rs) (.val (.ref R)) (.lst ((rs.map Row.abs).map rowD)) := by
 refine .lst (mem_R R rs) ?_
 have : ∀ l : List Row, (∀ x ∈ l, x ∈ rs) → ResL c (muR R rs) (refs l) ((l.map Row.abs).map rowD) := fun l => by
  induction l with
  | nil => intro _; exact .nil
  | cons x l ih =>
   intro h
   refine .cons ?_ (ih fun y hy => h y (List.mem_cons_of_mem _ hy))
   have hx := h x (List.mem_cons_self ..)
   refine .lst (mem_row hx (List.mem_cons_self ..)) (.cons (.same _) (.cons (.same _) (.cons ?_ .nil)))
   show Res c (muR R rs) (third x.t) (thirdD (x.t.map (·.2)))
   cases e : x.t with
   | none => exact .same _
   | some p =>
    obtain ⟨a, q⟩ := p
    exact .lst (mem_row hx (List.mem_cons_of_mem _ (by rw [e]; exact List.mem_cons_self ..))) (ResL.same _)
 exact this rs fun x h => h
noncomputable abbrev rdE (L : Addr) : Env := callEnvC fd__law_read L 271
noncomputable def rdF : Stmt := ((sBody (stAt 16))[1]?).getD (.Pass ⟨0, 0, 0, 0⟩)
noncomputable def rdB : List Stmt := match rdF with
 | .For _ _ b _ _ => b
 | _ => []
noncomputable def rdI : Stmt := (rdB[0]?).getD (.Pass ⟨0, 0, 0, 0⟩)
noncomputable def ifB : Stmt → List Stmt
 | .If _ b _ _ => b
 | _ => []
noncomputable def ifO : Stmt → List Stmt
 | .If _ _ o _ => o
 | _ => []
section
variable {w : World} {A : Around} {n : Nat} {L R : Addr} {script : List Int} {num : Int} {s₁ s₂ : Shared} {W₁ W₂ Md₁ : Addr → Prop} {E : Value → Shared → Prop} {Q : Flow → Shared → Prop} {init : List Row} {last : Row}
noncomputable def rdS (R : Addr) (script : List Int) : List (Str × D) := [("rows", .val (.ref R)), ("script", .lst (script.map .int))]
theorem read_new (room : Room A (n + 3)) (ok : EnvOk (rdE L)) (hl : (init ++ [last]).length ≤ 1000) (F : Fr (CL w) s₁ W₁ Md₁ W₂ (rdE L) (("number", .int num) :: rdS R script) (muR R (init ++ [last])) s₂)
  (h : ∀ s' W' (x : Row), x.abs = newRow num → Fr (CL w) s₁ W₁ Md₁ W' (rdE L) (rdS R script) (muR R (init ++ [last] ++ [x])) s' → Q .next s') : wpAny (CL w).M A (execs (ifB rdI) (rdE L)) Q E s₂ := by
 have hz := szOf_lt num
 refine wpAny_execs_cons (st_assign ok F (d := .int (szOf num : Nat)) ?_ (.inl (by kernel_rfl)) fun s3 F3 => ?_)
 ·rw [← szOf_eq]; exact Ev.bin (ev_negI (Ev.name ok (by rfl))) Ev.int (Bop.modI (by decide))
 generalize hsz : szOf num = sz at hz F3
 refine wpAny_execs_cons (st_assign ok F3 (d := .str (letterOf sz)) ?_ (.inl (by kernel_rfl)) fun s4 F4 => ?_)
 ·exact Ev.subS (k := sz % 3) (y := 97 + sz % 3) Ev.str (ev_modN (a := sz) (Ev.name ok (by rfl)) (ev_litN 3) (by decide)) (by omega) (abc_at _ (by omega))
 refine wpAny_execs_cons (st_assign ok F4 (d := .tup ((waysOf sz).map .str)) ?_ (.inl (by kernel_rfl)) fun s5 F5 => ?_)
 ·refine Ev.tuple ?_ (by show 4 ≤ 1000000; decide)
  show EvL _ _ _ _ _ [.str (letterOf sz), .str (ch (65 + sz % 3)), .str (ch (119808 + sz % 3)), .str (letterOf sz ++ ch 173)]
  refine EvL.c ?_ (EvL.c ?_ (EvL.c ?_ (EvL.c ?_ EvL.nil)))
  ·exact Ev.name ok (by rfl)
  ·exact Ev.subS (k := sz % 3) (y := 65 + sz % 3) Ev.str (ev_modN (a := sz) (Ev.name ok (by rfl)) (ev_litN 3) (by decide)) (by omega) (ABC_at _ (by omega))
  ·exact ev_chrN (Ev.glob ok (by rfl) (.inr (mb_chr w))) (by rfl) (ev_addN (ev_litN 119808) (ev_modN (a := sz) (Ev.name ok (by rfl)) (ev_litN 3) (by decide))) (by omega)
  ·exact Ev.bin (Ev.name ok (by rfl)) (ev_chrN (Ev.glob ok (by rfl) (.inr (mb_chr w))) (by rfl) (ev_litN 173) (by decide)) (Bop.addS (by show 1 + 1 ≤ 1000000; decide))
 have hrl : (refs (init ++ [last])).length ≤ 1000000 := by unfold refs; rw [List.length_map]; omega
 refine wpAny_execs_cons (st_appendN (a := R) (l₀ := refs (init ++ [last])) F5 (Ev.isRef F5 (Ev.name ok (by rfl))) (mem_R R _) (fun s6 E6 F6 => ?_) rfl (by rfl) (by rfl))
 refine List_ (Calls.spliced_cons ?_)
 refine Ev.use (d := .str (wayOf sz)) ?_ F6.view fun v1 s7 K7 V7 r7 => ?_
 ·refine ev_pickT (xs := waysOf sz) (f := D.str) (k := sz / 3 % 4) (d := "") ?_ ?_ (Nat.mod_lt _ (by decide)) (by show 4 ≤ 1000000; decide)
  ·exact Ev.name ok (by rfl)
  ·exact ev_modN (ev_divN (a := sz) (Ev.name ok (by rfl)) (ev_litN 3) (by decide) (pyl3 _)) (ev_litN 4) (by decide)
 cases r7
 refine Calls.spliced_cons ?_
 refine Ev.use (d := .str (letterOf sz)) (Ev.name ok (by rfl)) V7 fun v2 s8 K8 V8 r8 => ?_
 cases r8
 have F8 := (F6.keeps K7).keeps K8
 refine Calls.spliced_cons ?_
 have fin : ∀ (u1 u2 : Tok) (tt : Option (Addr × List (Str × Str))) (v3 : Value) (W9 : Addr → Prop) (s9 : Shared), tt.map (·.2) = (if sz < 12 then none else some []) → v3 = (match tt with | none => Value.none | some (a, _) => .ref a) →
   Fr (CL w) s₁ W₁ Md₁ W9 (rdE L) (("ways", .tup ((waysOf sz).map .str)) :: ("letter", .str (letterOf sz)) :: ("size", .int (sz : Nat)) :: ("number", .int num) :: rdS R script) (thirdO tt ++ muR R (init ++ [last])) s9 →
   wpAny (CL w).M A (newList [.str (wayOf sz) u1, .str (letterOf sz) u2, v3]) (fun y s₂ => ∃ W₁' μ₁ μ₂ l d, Fr (CL w) s₁ W₁ Md₁ W₁' (rdE L) (("ways", .tup ((waysOf sz).map .str)) :: ("letter", .str (letterOf sz)) :: ("size", .int (sz : Nat)) :: ("number", .int num) :: rdS R script) (μ₁ ++ (R, .l l) :: μ₂) s₂ ∧ Rd W₁' s₂.heap y d ∧ l.length ≤ 1000000 ∧ ∀ s', Fr (CL w) s₁ W₁ Md₁ W₁' (rdE L) (("ways", .tup ((waysOf sz).map .str)) :: ("letter", .str (letterOf sz)) :: ("size", .int (sz : Nat)) :: ("number", .int num) :: rdS R script) (μ₁ ++ (R, .l (l ++ [d])) :: μ₂) s' → wpAny (CL w).M A (execs [] (rdE L)) Q E s') E6 s9 := fun u1 u2 tt v3 W9 s9 htt hv3 F9 => by
  have r3 : Rd W9 s9.heap v3 (third tt) := by
   subst hv3
   cases tt with
   | none => exact .val _
   | some p => exact .val _
  refine new_own F9 (ds := [.str (wayOf sz), .str (letterOf sz), third tt]) (.cons (.str _ _) (.cons (.str _ _) (.cons r3 .nil))) (by show 3 ≤ 1000000; decide) fun r s10 _ F10 => ?_
  refine ⟨_, (r, .l [.str (wayOf sz), .str (letterOf sz), third tt]) :: thirdO tt, (init ++ [last]).flatMap rowO, refs (init ++ [last]), .val (.ref r), F10, .val _, hrl, fun s11 F11 => wpAny_execs_nil (h s11 (fun b => W9 b ∨ b = r) ⟨r, wayOf sz, letterOf sz, tt⟩ ?_ ?_)⟩
  ·unfold Row.abs newRow; rw [hsz, htt]
  ·refine Fr.cut [("ways", .tup ((waysOf sz).map .str)), ("letter", .str (letterOf sz)), ("size", .int (sz : Nat)), ("number", .int num)] (F11.perm ?_) (fun q hq => ?_)
   ·refine List.Perm.trans ?_ (muR_last R (init ++ [last]) ⟨r, wayOf sz, letterOf sz, tt⟩).symm
    refine List.Perm.cons _ ?_
    exact List.perm_middle
   ·simp only [List.mem_cons, List.not_mem_nil, or_false] at hq
    rcases hq with rfl | rfl | rfl | rfl <;> rfl
 refine wpAny_IfExp (pos := ⟨0, 0, 0, 0⟩) ?_
 refine Tv.use (b := decide (sz < 12)) (Tv.cmp (Ev.name ok (by rfl)) (ev_litN 12) cmp_ltN) F8.view fun s9 K9 V9 => ?_
 by_cases h12 : sz < 12
 ·rw [decide_eq_true h12]
  refine Ev.use Ev.none V9 fun v3 s10 K10 V10 r10 => ?_
  cases r10
  refine Calls.spliced_nil ?_
  exact fin _ _ none .none _ _ (by rw [if_pos h12]; rfl) rfl ((F8.keeps K9).keeps K10)
 ·rw [decide_eq_false h12]
  refine ev_ownlist (ds := []) (F8.keeps K9) EvL.nil (by decide) fun t s10 _ F10 => ?_
  refine Calls.spliced_nil ?_
  exact fin _ _ (some (t, [])) (.ref t) _ _ (by rw [if_neg h12]; rfl) rfl F10
end
section
variable {w : World} {A : Around} {n : Nat} {L R : Addr} {script : List Int} {num : Int} {s₁ s₂ : Shared} {W₁ W₂ Md₁ : Addr → Prop} {E : Value → Shared → Prop} {Q : Flow → Shared → Prop} {init : List Row} {last : Row}
theorem rel_num {c : Cx} {μ : List (Addr × Own)} {d : D} {l : List D} (h : Res c μ (.val (.ref R)) (.lst l)) : Rel2 (Res c μ) (("number", d) :: rdS R script) [("number", d), ("rows", .lst l), ("script", .lst (script.map .int))] :=
 .cons (.same _) (.cons h (.cons (.same _) .nil))
theorem ev_sign (room : Room A (n + 3)) (ok : EnvOk (rdE L)) {p np q : Pos} {σ : List (Str × D)} (hn : σ.lookup ("number" : Str) = some (.int num)) : Ev (CL w) A (rdE L) σ (.Call (.Name "_law_sign" np) [.Name "number" q] [] p) (strP (signA num)) :=
 Ev.call (Ev.glob ok (by rfl) (.inl (mg__law_sign w))) (fn__law_sign w) (EvA.plain (EvL.c (Ev.name ok hn) EvL.nil)) (pf_sign w room num)
theorem read_first (room : Room A (n + 3)) (ok : EnvOk (rdE L)) (hl : (init ++ [last]).length ≤ 1000) (ht : last.t = none) (F : Fr (CL w) s₁ W₁ Md₁ W₂ (rdE L) (("number", .int num) :: rdS R script) (muR R (init ++ [last])) s₂)
  (h : ∀ s' W' (x : Row), x.abs = (last.way, last.letter, some [signA num]) → Fr (CL w) s₁ W₁ Md₁ W' (rdE L) (rdS R script) (muR R (init ++ [x])) s' → Q .next s') : wpAny (CL w).M A (execs (ifB ((ifO rdI)[0]?.getD (.Pass ⟨0, 0, 0, 0⟩))) (rdE L)) Q E s₂ := by
 have hri : (refs init).length ≤ 1000000 := by unfold refs; rw [List.length_map]; rw [List.length_append] at hl; omega
 refine wpAny_execs_cons (st_listsetN (s₀ := s₁) (W₀ := W₁) (Md := Md₁) (σ := ("number", .int num) :: rdS R script) (a := last.r) (j := 2) (ev_ownlist (ds := [strP (signA num)]) F (EvL.c (ev_sign room ok (by rfl)) EvL.nil) (by show 1 ≤ 1000000; decide) fun t s3 _ F3 => ?_) (ev_litN 2))
 have F4 := F3.perm ((List.Perm.cons _ (muR_last R init last)).trans (List.Perm.swap _ _ _))
 refine ⟨_, [], (t, .l [strP (signA num)]) :: (R, .l (refs init ++ [.val (.ref last.r)])) :: (thirdO last.t ++ init.flatMap rowO), rowV last, .val (.ref t), F4, .val _, by show 2 < 3; decide, by show 3 ≤ 1000000; decide, ?_, fun s5 F5 => wpAny_execs_nil (h s5 (fun b => W₂ b ∨ b = t) ⟨last.r, last.way, last.letter, some (t, [signA num])⟩ rfl ?_)⟩
 ·refine F3.lookRef (rel_num (res_flat (rs := init ++ [last]) fun p hp => List.mem_cons_of_mem _ hp)) ?_
  rw [refs_app]
  exact ev_lastL (Ev.name ok (by rfl)) (ev_negI Ev.int) hri
 ·refine Fr.cut [("number", .int num)] (F5.perm ?_) (fun q hq => ?_)
  ·refine List.Perm.trans ?_ (muR_last R init ⟨last.r, last.way, last.letter, some (t, [signA num])⟩).symm
   rw [ht]
   exact List.Perm.cons _ (List.Perm.swap _ _ _)
  ·simp only [List.mem_cons, List.not_mem_nil, or_false] at hq
   subst hq; rfl
theorem read_more (room : Room A (n + 3)) (ok : EnvOk (rdE L)) (hl : (init ++ [last]).length ≤ 1000) {t : Addr} {l : List (Str × Str)} (ht : last.t = some (t, l)) (hll : l.length ≤ 1000) (F : Fr (CL w) s₁ W₁ Md₁ W₂ (rdE L) (("number", .int num) :: rdS R script) (muR R (init ++ [last])) s₂)
  (h : ∀ s' W' (x : Row), x.abs = (last.way, last.letter, some (l ++ [signA num])) → Fr (CL w) s₁ W₁ Md₁ W' (rdE L) (rdS R script) (muR R (init ++ [x])) s' → Q .next s') : wpAny (CL w).M A (execs (ifO ((ifO rdI)[0]?.getD (.Pass ⟨0, 0, 0, 0⟩))) (rdE L)) Q E s₂ := by
 have hri : (refs init).length ≤ 1000000 := by unfold refs; rw [List.length_map]; rw [List.length_append] at hl; omega
 have hm : (t, Own.l (l.map strP)) ∈ muR R (init ++ [last]) := mem_row (x := last) (List.mem_append_right _ (List.mem_cons_self ..)) (List.mem_cons_of_mem _ (by rw [ht]; exact List.mem_cons_self ..))
 have pm : (muR R (init ++ [last])).Perm ((last.r, .l (rowV last)) :: (R, .l (refs init ++ [.val (.ref last.r)])) :: (t, .l (l.map strP)) :: init.flatMap rowO) := by
  have := muR_last R init last
  rw [ht] at this
  exact this
 refine wpAny_execs_cons (st_appendN (a := t) (l₀ := l.map strP) F (F.lookRef (rel_num (res_deep fun p hp => hp)) ?_) hm (fun s3 E3 F3 => ?_) rfl (by rfl) (by rfl))
 ·refine ev_itemL (ev_lastL (Ev.name ok (by rfl)) (ev_negI Ev.int) hri) (ev_litN 2) ?_ (by show 3 ≤ 1000000; decide)
  show some (third last.t) = _
  rw [ht]; rfl
 ·refine Ev.use (ev_sign room ok (by rfl)) F3.view fun v s4 K4 V4 r4 => ?_
  have F4 := (F3.keeps K4).perm pm
  refine ⟨_, [(last.r, .l (rowV last)), (R, .l (refs init ++ [.val (.ref last.r)]))], init.flatMap rowO, l.map strP, strP (signA num), F4, r4, by rw [List.length_map]; omega, fun s5 F5 => wpAny_execs_nil (h s5 W₂ ⟨last.r, last.way, last.letter, some (t, l ++ [signA num])⟩ rfl ?_)⟩
  refine Fr.cut [("number", .int num)] (F5.perm ?_) (fun q hq => ?_)
  ·refine List.Perm.trans ?_ (muR_last R init ⟨last.r, last.way, last.letter, some (t, l ++ [signA num])⟩).symm
   have e : rowV last = rowV ⟨last.r, last.way, last.letter, some (t, l ++ [signA num])⟩ := by unfold rowV; rw [ht]; rfl
   rw [e]
   show (_ :: _ :: (t, Own.l (l.map strP ++ [strP (signA num)])) :: _).Perm (_ :: _ :: (t, Own.l ((l ++ [signA num]).map strP)) :: _)
   rw [List.map_append]
   exact List.Perm.refl _
  ·simp only [List.mem_cons, List.not_mem_nil, or_false] at hq
   subst hq; rfl
end
theorem stepA_len (acc : List RowA × RowA) (n : Int) : (stepA acc n).1.length ≤ acc.1.length + 1 := by
 unfold stepA
 split
 ·simp
 ·split <;> simp
theorem foldA_len : ∀ (l : List Int) (acc : List RowA × RowA), (l.foldl stepA acc).1.length ≤ acc.1.length + l.length
 | [], acc => by simp
 | n :: l, acc => by
  rw [List.foldl_cons]
  have h1 := foldA_len l (stepA acc n)
  have h2 := stepA_len acc n
  rw [List.length_cons]; omega
noncomputable def thLen (x : RowA) : Nat := match x.2.2 with
 | none => 0
 | some l => l.length
theorem stepA_th (acc : List RowA × RowA) (n : Int) : thLen (stepA acc n).2 ≤ thLen acc.2 + 1 := by
 unfold stepA
 split
 ·unfold newRow thLen; simp only []
  split
  ·exact Nat.zero_le _
  ·rename_i h
   split at h
   ·cases h
   ·cases h; exact Nat.zero_le _
 ·split
  ·unfold thLen; simp
  ·rename_i e
   unfold thLen
   rw [e]; simp
theorem foldA_th : ∀ (l : List Int) (acc : List RowA × RowA), thLen (l.foldl stepA acc).2 ≤ thLen acc.2 + l.length
 | [], acc => by simp
 | n :: l, acc => by
  rw [List.foldl_cons]
  have h1 := foldA_th l (stepA acc n)
  have h2 := stepA_th acc n
  rw [List.length_cons]; omega
theorem pf_read (w : World) {A : Around} {n : Nat} (room : Room A (n + 4)) (script : List Int) (hsc : script.length ≤ 1000) : Pf (CL w) A 271 [.lst (script.map .int)] [] (.lst ((readA script).map rowD)) := by
 intro W s E vs kvs base tok wo rl br
 cases br
 cases rl with
 | cons r1 rl =>
 cases rl
 refine enter (W₀ := W) (Md := fun _ => False) (μ := []) (σ := [("script", .lst (script.map .int))]) room (fn__law_read w) base tok wo (fun a h => h.elim) (binds := [("script", _)]) (.of_eq rfl) (fun L x hx => ?_) (by simp) (.cons r1 .nil) (fun a l h => nomatch h) (by simp) fun L W' s' E' _ _ ok F => ?_
 ·simp only [List.mem_singleton] at hx; subst hx; exact .inl (by kernel_rfl)
 ·have room' := room.deeper (rdE L)
  refine wpAny_execs_cons (st_assignN ok (.inl (by kernel_rfl)) (List_ (Calls.spliced_cons (ev_ownlist (ds := [.str "", .str "", .val .none]) F (EvL.c Ev.str (EvL.c Ev.str (EvL.c Ev.none EvL.nil))) (by decide) fun a s1 _ F1 => Calls.spliced_nil (new_own F1 (ds := [.val (.ref a)]) (.cons (.val _) .nil) (by show 1 ≤ 1000000; decide) fun R s2 _ F2 => ⟨_, _, .val (.ref R), F2, .val _, fun s3 F3 => ?_⟩)))))
  have hlen : ((script.take 20).map D.int).length ≤ 20 := by rw [List.length_map, List.length_take]; omega
  refine wpAny_execs_cons (st_forI (l := (script.take 20).map D.int) room'.hh ok F3 (ev_sliceTo (Ev.name ok (by rfl)) (ev_litN 20) (by omega)) (Itr.lst room'.hh)
   (fun i σ μ => ∃ (init : List Row) (last : Row), σ = rdS R script ∧ μ = muR R (init ++ [last]) ∧ (init.map Row.abs, last.abs) = ((script.take 20).take i).foldl stepA startA) ⟨[], ⟨a, "", "", none⟩, rfl, rfl, rfl⟩ (fun _ _ _ _ => False)
   (fun i d σ₁ μ₁ hd hinv => ?_) (fun i σ₂ μ₂ d v s' W' _ hf => hf.elim) (fun σ₂ μ₂ s4 W4 hinv F4 => ?_))
  ·obtain ⟨init, last, rfl, rfl, hab⟩ := hinv
   rw [List.getElem?_map] at hd
   obtain ⟨num, hnum, rfl⟩ := Option.map_eq_some_iff.mp hd
   have hi : i < (script.take 20).length := (List.getElem?_eq_some_iff.mp hnum).1
   have hi20 : i < 20 := by rw [List.length_take] at hi; omega
   have hl : (init ++ [last]).length ≤ 1000 := by
    have h1 := foldA_len ((script.take 20).take i) startA
    rw [← hab] at h1
    simp only [List.length_map, startA, List.length_nil, List.length_take] at h1
    rw [List.length_append]; simp; omega
   have hth : thLen last.abs ≤ 1000 := by
    have h1 := foldA_th ((script.take 20).take i) startA
    rw [← hab] at h1
    simp only [startA, thLen, List.length_take] at h1
    have : thLen last.abs = (match last.abs.2.2 with | none => 0 | some l => l.length) := rfl
    rw [this]; omega
   have nxt : ((script.take 20).take (i + 1)).foldl stepA startA = stepA (init.map Row.abs, last.abs) num := by
    rw [take_one hnum, List.foldl_append, ← hab]; rfl
   refine ⟨_, .name (.inl (by kernel_rfl)), fun sa sb Wa Wb Ma E' Fa => ?_⟩
   have step : ∀ (x : List RowA × RowA) (ini : List Row) (la : Row) (s5 : Shared) (W5 : Addr → Prop), (ini.map Row.abs, la.abs) = stepA (init.map Row.abs, last.abs) num → Fr (CL w) sa Wa Ma W5 (rdE L) (rdS R script) (muR R (ini ++ [la])) s5 →
     ∃ σ₂ μ₂ W', (∃ (init : List Row) (last : Row), σ₂ = rdS R script ∧ μ₂ = muR R (init ++ [last]) ∧ (init.map Row.abs, last.abs) = ((script.take 20).take (i + 1)).foldl stepA startA) ∧ Fr (CL w) sa Wa Ma W' (rdE L) σ₂ μ₂ s5 :=
    fun x ini la s5 W5 e G => ⟨_, _, W5, ⟨ini, la, rfl, rfl, by rw [nxt, e]⟩, G⟩
   by_cases hneg : num < 0
   ·refine wpAny_execs_cons (st_if Fa (b := true) ?_ (fun _ s5 F5 => ?_) (fun h => by cases h))
    ·exact Tv.cast (Tv.cmp (Ev.name ok (by rfl)) Ev.int Cmp.lt) (decide_eq_true hneg)
    ·refine read_new room' ok hl F5 fun s6 W6 x hx F6 => wpAny_execs_nil (step startA (init ++ [last]) x s6 W6 ?_ F6)
     unfold stepA
     rw [if_pos hneg, hx, List.map_append]; rfl
   ·refine wpAny_execs_cons (st_if Fa (b := false) ?_ (fun h => by cases h) (fun _ s5 F5 => ?_))
    ·exact Tv.cast (Tv.cmp (Ev.name ok (by rfl)) Ev.int Cmp.lt) (decide_eq_false hneg)
    ·have hri : (refs init).length ≤ 1000000 := by unfold refs; rw [List.length_map]; rw [List.length_append] at hl; omega
     have test : ∀ (b : Bool), (third last.t).none? = b → ∀ E, wpAny (CL w).M (A.deeper (rdE L)) (isTrue (match (ifO rdI)[0]?.getD (.Pass ⟨0, 0, 0, 0⟩) with | .If t _ _ _ => t | _ => .Constant .none 0 ⟨0, 0, 0, 0⟩) (rdE L) (eval (match (ifO rdI)[0]?.getD (.Pass ⟨0, 0, 0, 0⟩) with | .If t _ _ _ => t | _ => .Constant .none 0 ⟨0, 0, 0, 0⟩) (rdE L))) (fun v s' => Kt s5 s' ∧ v = b) E s5 := fun b hb E => by
      refine F5.lookTv (rel_num (res_deep fun p hp => hp)) (Tv.cast (Tv.cmp (ev_itemL (ev_lastL (Ev.name ok (by rfl)) (ev_negI Ev.int) hri) (ev_litN 2) (d := third last.t) (by rfl) (by show 3 ≤ 1000000; decide)) Ev.none Cmp.isNone) hb)
     cases ht : last.t with
     | none =>
      refine wpAny_execs_cons (st_ifW F5 (b := true) (test true (by rw [ht]; rfl)) (fun _ s6 F6 => ?_) (fun h => by cases h))
      refine read_first room' ok hl ht F6 fun s7 W7 x hx F7 => wpAny_execs_nil (wpAny_execs_nil (step startA init x s7 W7 ?_ F7))
      unfold stepA
      rw [if_neg hneg, hx]
      unfold Row.abs
      rw [ht]; rfl
     | some p =>
      obtain ⟨t, l⟩ := p
      have hll : l.length ≤ 1000 := by
       have : thLen last.abs = l.length := by unfold thLen Row.abs; rw [ht]; rfl
       omega
      refine wpAny_execs_cons (st_ifW F5 (b := false) (test false (by rw [ht]; rfl)) (fun h => by cases h) (fun _ s6 F6 => ?_))
      refine read_more room' ok hl ht hll F6 fun s7 W7 x hx F7 => wpAny_execs_nil (wpAny_execs_nil (step startA init x s7 W7 ?_ F7))
      unfold stepA
      rw [if_neg hneg, hx]
      unfold Row.abs
      rw [ht]; rfl
  ·obtain ⟨init, last, rfl, rfl, hab⟩ := hinv
   rw [List.length_map, List.take_length] at hab
   have ea : readA script = (init ++ [last]).map Row.abs := by
    unfold readA readP
    rw [← hab, List.map_append]; rfl
   have F5 := F4.freezeAll (fun a o h => ((F4.own a o h).2.1).elim False.elim id) (σ' := [("rows", .lst (((init ++ [last]).map Row.abs).map rowD)), ("script", .lst (script.map .int))]) (.cons res_all (.cons (.same _) .nil))
   refine wpAny_execs_cons (st_return F5 (d := .lst ((readA script).map rowD)) (by rw [ea]; exact Ev.name ok (by rfl)) fun v s6 F6 r => ?_)
   exact ⟨F6.up.kt, r.less F6.w0⟩
noncomputable def cpOf : D → Nat
 | .str y => y.cps.getD 0 0
 | _ => 0
noncomputable def prepS (w : World) (x : Str) : Str := Txt.join "" ((x.cps.toList.filter fun (k : Nat) => !(inB1 w k)).map foldC)
structure PrepOk (w : World) (x : Str) : Prop where
 fit : ∀ k ∈ x.cps.toList, Builtin.Str.tooLong (Txt.lower ⟨#[k]⟩).length = false
 join : JoinOk "" ((x.cps.toList.filter fun (k : Nat) => !(inB1 w k)).map foldC) = true
 size : x.cps.size ≤ 1000000
theorem prep_list (w : World) (x : Str) : (((x.cps.toList.map fun k => D.str ⟨#[k]⟩).filter fun d => !(inB1 w (cpOf d))).map fun d => D.str (foldC (cpOf d))) = ((x.cps.toList.filter fun (k : Nat) => !(inB1 w k)).map foldC).map .str := by
 rw [List.filter_map, List.map_map, List.map_map]; rfl
theorem pf_prepare (w : World) {A : Around} {n : Nat} (room : Room A (n + 4)) (x : Str) (pk : PrepOk w x) : Pf (CL w) A 257 [.str x] [] (.str (prepS w x)) := by
 intro W s E vs kvs base tok wo rl br
 cases br
 cases rl with
 | cons r1 rl =>
 cases rl
 refine enter (W₀ := W) (Md := fun _ => False) (μ := []) (σ := [("text", .str x)]) room (fn__law_prepare w) base tok wo (fun a h => h.elim) (binds := [("text", _)]) (.of_eq rfl) (fun L y hx => ?_) (by simp) (.cons r1 .nil) (fun a l h => nomatch h) (by simp) fun L W' s' E' _ _ ok F => ?_
 ·simp only [List.mem_singleton] at hx; subst hx; exact .inl (by kernel_rfl)
 ·have room' := room.deeper (callEnvC fd__law_prepare L 257)
  refine wpAny_execs_cons (st_return F (d := .str (prepS w x)) (Ev.join (xs := (x.cps.toList.filter fun (k : Nat) => !(inB1 w k)).map foldC) Ev.str ?_ (by rfl) (by rfl) (by rfl) pk.join) fun v s4 F4 r => ⟨F4.up.kt, r.less F4.w0⟩)
  rw [← prep_list]
  refine Ev.comp (σc := []) room'.hh ok (Ev.name ok (by rfl)) (Itr.str room'.hh) ?_ (by rfl) (by decide +kernel) (by rfl) (by decide +kernel) ⟨fun y d h => by cases h⟩ fun C d hd => ?_
  ·rw [List.length_map, Array.length_toList]; exact pk.size
  ·obtain ⟨k, hk, rfl⟩ := List.mem_map.mp hd
   refine ⟨_, .name (by kernel_rfl), .one ?_, fun _ => ?_⟩
   ·exact Tv.not (Tv.bool (Ev.call (Ev.glob (compEnvC_ok ok (by rfl)) (by rfl) (.inl (mg_in_table_b1 w))) (fn_in_table_b1 w) (EvA.plain (EvL.c (Ev.name (compEnvC_ok ok (by rfl)) (by rfl)) EvL.nil)) (pf_b1 w room' k)))
   ·exact Ev.call (Ev.glob (compEnvC_ok ok (by rfl)) (by rfl) (.inl (mg_map_table_b3 w))) (fn_map_table_b3 w) (EvA.plain (EvL.c (Ev.name (compEnvC_ok ok (by rfl)) (by rfl)) EvL.nil)) (pf_map w room' k (pk.fit k hk))
noncomputable def lineA (name : Str) (own : Option Str) (parts : List Str) : Str := name ++ Str.ofString ": " ++ Txt.join (Str.ofString "; ") (own.toList ++ parts) ++ Str.ofString "\r\n\r\n"
structure LineOk (name : Str) (own : Option Str) (parts : List Str) : Prop where
 nm : name.length ≤ 100000
 size : parts.length ≤ 100000
 join : JoinOk (Str.ofString "; ") (own.toList ++ parts) = true
 len : (Txt.join (Str.ofString "; ") (own.toList ++ parts)).length ≤ 500000
theorem pf_line (w : World) {A : Around} {n : Nat} (room : Room A (n + 2)) (name : Str) (own : Option Str) (parts : List Str) (lk : LineOk name own parts) : Pf (CL w) A 295 [.str name, optD own, .lst (parts.map .str)] [] (.str (lineA name own parts)) := by
 intro W s E vs kvs base tok wo rl br
 cases br
 cases rl with
 | cons r1 rl =>
 cases rl with
 | cons r2 rl =>
 cases rl with
 | cons r3 rl =>
 cases rl
 refine enter (W₀ := W) (Md := fun _ => False) (μ := []) (σ := [("name", .str name), ("own", optD own), ("parts", .lst (parts.map .str))]) room (fn__law_line w) base tok wo (fun a h => h.elim) (binds := [("name", _), ("own", _), ("parts", _)]) (.of_eq rfl) (fun L y hx => ?_) (show [("name" : Str), "own", "parts"].Nodup by decide +kernel) (.cons r1 (.cons r2 (.cons r3 .nil))) (fun a l h => nomatch h) (by simp) fun L W' s' E' _ _ ok F => ?_
 ·simp only [List.mem_cons, List.not_mem_nil, or_false] at hx
  rcases hx with rfl | rfl | rfl <;> exact .inl (by kernel_rfl)
 ·have h1 := lk.nm
  have h2 := lk.len
  have h3 := lk.size
  have hl : ∀ a b : Str, (a ++ b).length = a.length + b.length := fun a b => PySem.Str.length_append a b
  refine wpAny_execs_cons (st_return F (d := .str (lineA name own parts)) ?_ fun v s4 F4 r => ⟨F4.up.kt, r.less F4.w0⟩)
  refine Ev.bin (Ev.bin (Ev.bin (Ev.name ok (by rfl)) Ev.str (Bop.addS ?_)) (Ev.join (xs := own.toList ++ parts) Ev.str ?_ (by rfl) (by rfl) (by rfl) lk.join) (Bop.addS ?_)) Ev.str (Bop.addS ?_)
  ·show name.length + 2 ≤ 1000000
   omega
  ·rw [List.map_append]
   cases own with
   | none =>
    refine Ev.bin (Ev.ifExp (b := true) (d := .lst (([] : List Str).map .str)) ?_ (fun _ => Ev.list EvL.nil (by decide)) (fun h => by cases h)) (Ev.name ok (by rfl)) (Bop.addL ?_)
    ·exact Tv.cmp (Ev.name ok (by rfl)) Ev.none Cmp.isNone
    ·rw [List.length_map, List.length_map]; show 0 + parts.length ≤ _; omega
   | some x =>
    refine Ev.bin (Ev.ifExp (b := false) (d := .lst (([x] : List Str).map .str)) ?_ (fun h => by cases h) (fun _ => Ev.list (EvL.c (Ev.name ok (by rfl)) EvL.nil) (by show 1 ≤ 1000000; decide))) (Ev.name ok (by rfl)) (Bop.addL ?_)
    ·exact Tv.cmp (Ev.name ok (by rfl)) Ev.none Cmp.isNone
    ·rw [List.length_map, List.length_map]; show 1 + parts.length ≤ _; omega
  ·rw [hl]
   show name.length + 2 + _ ≤ 1000000
   omega
  ·rw [hl, hl]
   show name.length + 2 + _ + 4 ≤ 1000000
   omega
noncomputable def markS (k : Nat) : Str := if k = 34 ∨ k = 92 then ch 92 ++ ch k else ch k
noncomputable def markedS (x : Str) : Str := Txt.join "" (x.cps.toList.map markS)
noncomputable def partA (key : Str) (asked : Option Str) (text : Str) : Str := match asked with
 | none => Str.ofString "k-" ++ key
 | some a => if a = "" then Str.ofString "k-" ++ key else Str.ofString "k-" ++ key ++ Str.ofString "=" ++ ch 34 ++ markedS text ++ ch 34
structure PartOk (key : Str) (asked : Option Str) (text : Option Str) : Prop where
 key : key.length ≤ 100000
 askedOk : ∀ a, asked = some a → PyData.strOk a = true
 textOk : ∀ a, asked = some a → a ≠ "" → ∃ t, text = some t ∧ PyData.strOk t = true ∧ t.length ≤ 100000 ∧ JoinOk "" (t.cps.toList.map markS) = true ∧ (markedS t).length ≤ 500000
theorem ch_ok {t : Str} (h : PyData.strOk t = true) {k : Nat} (hk : k ∈ t.cps.toList) : PyData.strOk (ch k) = true := by
 unfold PyData.strOk at h ⊢
 rw [Array.all_eq_true_iff_forall_mem] at h
 have := h k (Array.mem_toList_iff.mp hk)
 simpa [ch] using this
open Classical in
theorem pf_part (w : World) {A : Around} {n : Nat} (room : Room A (n + 2)) (key : Str) (asked text : Option Str) (pk : PartOk key asked text) : Pf (CL w) A 288 [.str key, optD asked, optD text] [] (.str (partA key asked (text.getD ""))) := by
 intro W s E vs kvs base tok wo rl br
 cases br
 cases rl with
 | cons r1 rl =>
 cases rl with
 | cons r2 rl =>
 cases rl with
 | cons r3 rl =>
 cases rl
 refine enter (W₀ := W) (Md := fun _ => False) (μ := []) (σ := [("key", .str key), ("asked", optD asked), ("text", optD text)]) room (fn__law_part w) base tok wo (fun a h => h.elim) (binds := [("key", _), ("asked", _), ("text", _)]) (.of_eq rfl) (fun L y hx => ?_) (show [("key" : Str), "asked", "text"].Nodup by decide +kernel) (.cons r1 (.cons r2 (.cons r3 .nil))) (fun a l h => nomatch h) (by simp) fun L W' s' E' _ _ ok F => ?_
 ·simp only [List.mem_cons, List.not_mem_nil, or_false] at hx
  rcases hx with rfl | rfl | rfl <;> exact .inl (by kernel_rfl)
 ·have room' := room.deeper (callEnvC fd__law_part L 288)
  have h1 := pk.key
  have hl : ∀ a b : Str, (a ++ b).length = a.length + b.length := fun a b => PySem.Str.length_append a b
  have ek : Ev (CL w) (A.deeper (callEnvC fd__law_part L 288)) (callEnvC fd__law_part L 288) [("key", .str key), ("asked", optD asked), ("text", optD text)] (.BinOp (.Constant (.str (Str.ofString "k-")) 0 ⟨0, 0, 0, 0⟩) .Add (.Name "key" ⟨0, 0, 0, 0⟩) ⟨0, 0, 0, 0⟩) (.str (Str.ofString "k-" ++ key)) := by
   refine Ev.bin Ev.str (Ev.name ok (by rfl)) (Bop.addS ?_)
   show 2 + key.length ≤ 1000000
   omega
  cases asked with
  | none =>
   refine wpAny_execs_cons (st_if F (b := true) ?_ (fun _ s1 F1 => ?_) (fun h => by cases h))
   ·exact Tv.or2 (a := true) (b := true) (Tv.cmp (Ev.name ok (by rfl)) Ev.none Cmp.isNone) (fun h => by cases h)
   ·refine wpAny_execs_cons (st_return F1 (d := .str (Str.ofString "k-" ++ key)) ?_ fun v s4 F4 r => ⟨F4.up.kt, r.less F4.w0⟩)
    refine Ev.bin Ev.str (Ev.name ok (by rfl)) (Bop.addS ?_)
    show 2 + key.length ≤ 1000000
    omega
  | some a =>
   have ha := pk.askedOk a rfl
   by_cases hz : a = ""
   ·have e1 : partA key (some a) (text.getD "") = Str.ofString "k-" ++ key := if_pos hz
    rw [e1]
    refine wpAny_execs_cons (st_if F (b := true) ?_ (fun _ s1 F1 => ?_) (fun h => by cases h))
    ·refine Tv.cast (Tv.or2 (Tv.cmp (Ev.name ok (by rfl)) Ev.none Cmp.isNone) (fun _ => Tv.cmp (Ev.name ok (by rfl)) Ev.str (cmp_eqS room' ha (by decide +kernel)))) ?_
     rw [hz]; rfl
    ·refine wpAny_execs_cons (st_return F1 (d := .str (Str.ofString "k-" ++ key)) ?_ fun v s4 F4 r => ⟨F4.up.kt, r.less F4.w0⟩)
     refine Ev.bin Ev.str (Ev.name ok (by rfl)) (Bop.addS ?_)
     show 2 + key.length ≤ 1000000
     omega
   ·obtain ⟨t, rfl, ht, htl, htj, htm⟩ := pk.textOk a rfl hz
    have e1 : partA key (some a) t = Str.ofString "k-" ++ key ++ Str.ofString "=" ++ ch 34 ++ markedS t ++ ch 34 := if_neg hz
    rw [show partA key (some a) ((some t).getD "") = _ from e1]
    refine wpAny_execs_cons (st_if F (b := false) ?_ (fun h => by cases h) (fun _ s1 F1 => wpAny_execs_nil ?_))
    ·refine Tv.cast (Tv.or2 (Tv.cmp (Ev.name ok (by rfl)) Ev.none Cmp.isNone) (fun _ => Tv.cmp (Ev.name ok (by rfl)) Ev.str (cmp_eqS room' ha (by decide +kernel)))) ?_
     rw [beq_eq_false_iff_ne.mpr hz]; rfl
    ·refine wpAny_execs_cons (st_usedM (xs := t.cps.toList) (g := fun (k : Nat) => .str ⟨#[k]⟩) (f := fun k => .str (markS k)) (σc := []) room'.hh ok F1 (Ev.name ok (by rfl)) (Itr.str room'.hh) ?_ ?_ (by rfl) (by rfl) (by decide +kernel) (by rfl) (by decide +kernel) .nil (fun C => by kernel_rfl) (fun C k hk => ?_) (by kernel_rfl) fun s2 W2 F2 => ?_)
     ·intro a b h
      injection h with h; injection h with h
      have := congrArg Array.toList h
      simpa using this
     ·rw [Array.length_toList]; have : t.length = t.cps.size := rfl; omega
     ·have hk1 := ch_ok ht hk
      have okk : okD 8 (.str ⟨#[k]⟩) = true := by rw [okD]; exact hk1
      have okl : okDs 7 [.str (ch 34), .str (ch 92)] = true := by decide +kernel
      have hin : (decide (D.str ⟨#[k]⟩ ∈ [D.str (ch 34), D.str (ch 92)])) = decide (k = 34 ∨ k = 92) := by
       have q : D.str ⟨#[k]⟩ ∈ [D.str (ch 34), D.str (ch 92)] ↔ (k = 34 ∨ k = 92) := by
        simp only [List.mem_cons, List.not_mem_nil, or_false, D.str.injEq, ch, Str.mk.injEq]
        constructor
        ·rintro (h | h)
         ·have := congrArg Array.toList h; left; simpa using this
         ·have := congrArg Array.toList h; right; simpa using this
        ·rintro (h | h) <;> subst h
         ·exact .inl rfl
         ·exact .inr rfl
       by_cases z : k = 34 ∨ k = 92
       ·rw [decide_eq_true z, decide_eq_true (q.mpr z)]
       ·rw [decide_eq_false z, decide_eq_false fun h => z (q.mp h)]
      refine Ev.ifExp (b := decide (k = 34 ∨ k = 92)) (Tv.cast (Tv.cmp (d := .str ⟨#[k]⟩) (e := .tup [.str (ch 34), .str (ch 92)]) (Ev.name (compEnvC_ok ok (by rfl)) (by rfl)) ?_ (Cmp.inT (by have := room'.units; show _ + 64 < 9900; omega) okl okk)) hin) (fun h => ?_) (fun h => ?_)
      ·refine Ev.tuple ?_ (by show 2 ≤ 1000000; decide)
       refine EvL.c ?_ (EvL.c ?_ EvL.nil)
       ·exact ev_chrN (Ev.glob (compEnvC_ok ok (by rfl)) (by rfl) (.inr (mb_chr w))) (by rfl) (ev_litN 34) (by decide)
       ·exact ev_chrN (Ev.glob (compEnvC_ok ok (by rfl)) (by rfl) (.inr (mb_chr w))) (by rfl) (ev_litN 92) (by decide)
      ·have e2 : markS k = ch 92 ++ ch k := if_pos (of_decide_eq_true h)
       rw [e2]
       exact Ev.bin (ev_chrN (Ev.glob (compEnvC_ok ok (by rfl)) (by rfl) (.inr (mb_chr w))) (by rfl) (ev_litN 92) (by decide)) (Ev.name (compEnvC_ok ok (by rfl)) (by rfl)) (Bop.addS (by show 1 + 1 ≤ 1000000; decide))
      ·have e2 : markS k = ch k := if_neg (of_decide_eq_false h)
       rw [e2]
       exact Ev.name (compEnvC_ok ok (by rfl)) (by rfl)
     ·refine wpAny_execs_cons (st_return F2 (d := .str (Str.ofString "k-" ++ key ++ Str.ofString "=" ++ ch 34 ++ markedS t ++ ch 34)) ?_ fun v s4 F4 r => ⟨F4.up.kt, r.less F4.w0⟩)
      refine Ev.bin (Ev.bin (Ev.bin (Ev.bin (Ev.bin Ev.str (Ev.name ok (by rfl)) (Bop.addS ?_)) Ev.str (Bop.addS ?_)) (ev_chrN (Ev.glob ok (by rfl) (.inr (mb_chr w))) (by rfl) (ev_litN 34) (by decide)) (Bop.addS ?_)) (Ev.join (xs := t.cps.toList.map markS) Ev.str ?_ (by rfl) (by rfl) (by rfl) htj) (Bop.addS ?_)) (ev_chrN (Ev.glob ok (by rfl) (.inr (mb_chr w))) (by rfl) (ev_litN 34) (by decide)) (Bop.addS ?_)
      ·show 2 + key.length ≤ 1000000
       omega
      ·rw [hl]; show 2 + key.length + 1 ≤ 1000000
       omega
      ·rw [hl, hl]; show 2 + key.length + 1 + 1 ≤ 1000000
       omega
      ·rw [List.map_map]; exact Ev.name ok (by rfl)
      ·rw [hl, hl, hl]; show 2 + key.length + 1 + 1 + (markedS t).length ≤ 1000000
       omega
      ·rw [hl, hl, hl, hl]; show 2 + key.length + 1 + 1 + (markedS t).length + 1 ≤ 1000000
       omega
noncomputable def firstsA (ws : List Str) : List Str := (ws.zipIdx.filter fun q => !(ws.take q.2).contains q.1).map (·.1)
noncomputable def placesOf (ws : List Str) (x : Str) : List Nat := (ws.zipIdx.filter fun q => q.1 == x).map (·.2)
noncomputable def lastOf (ws : List Str) (x : Str) : Nat := (placesOf ws x).getLastD 0
noncomputable def lastPlaces (ws : List Str) : List Nat := (firstsA ws).map (lastOf ws)
noncomputable def pairD (q : Str × Nat) : D := .tup [.int (q.2 : Int), .str q.1]
theorem enum_strs (ws : List Str) : enumD (ws.map .str) = ws.zipIdx.map pairD := by
 unfold enumD
 rw [List.zipIdx_map, List.map_map]
 rfl
noncomputable def pFirst (ws : List Str) : D → Bool
 | .tup [.int i, .str x] => !(ws.take i.toNat).contains x
 | _ => false
noncomputable def fSnd : D → D
 | .tup [_, e] => e
 | d => d
noncomputable def fFst : D → D
 | .tup [e, _] => e
 | d => d
noncomputable def pSame (x : Str) : D → Bool
 | .tup [_, .str y] => y == x
 | _ => false
theorem firsts_list (ws : List Str) : ((enumD (ws.map .str)).filter (pFirst ws)).map fSnd = (firstsA ws).map .str := by
 rw [enum_strs, List.filter_map, List.map_map]
 unfold firstsA
 rw [List.map_map]
 have : (pFirst ws ∘ pairD) = fun q => !(ws.take q.2).contains q.1 := by
  funext q
  show (!(ws.take ((q.2 : Int)).toNat).contains q.1) = _
  rw [Int.toNat_natCast]
 rw [this]; rfl
theorem places_list (ws : List Str) (x : Str) : ((enumD (ws.map .str)).filter (pSame x)).map fFst = (placesOf ws x).map fun (i : Nat) => D.int (i : Int) := by
 rw [enum_strs, List.filter_map, List.map_map]
 unfold placesOf
 rw [List.map_map]; rfl
theorem firsts_mem {ws : List Str} {x : Str} (h : x ∈ firstsA ws) : x ∈ ws := by
 unfold firstsA at h
 obtain ⟨q, hq, rfl⟩ := List.mem_map.mp h
 have := (List.mem_filter.mp hq).1
 exact List.fst_mem_of_mem_zipIdx this
theorem places_ne {ws : List Str} {x : Str} (h : x ∈ ws) : ∃ init, placesOf ws x = init ++ [lastOf ws x] := by
 have hne : placesOf ws x ≠ [] := by
  obtain ⟨i, hi, e⟩ := List.getElem_of_mem h
  have : (x, i) ∈ ws.zipIdx := by
   rw [List.mk_mem_zipIdx_iff_getElem?]
   rw [List.getElem?_eq_getElem hi, e]
  have : i ∈ placesOf ws x := List.mem_map.mpr ⟨(x, i), List.mem_filter.mpr ⟨this, by simp⟩, rfl⟩
  exact List.ne_nil_of_mem this
 refine ⟨(placesOf ws x).dropLast, ?_⟩
 unfold lastOf
 rw [List.getLastD_eq_getLast?, List.getLast?_eq_some_getLast hne]
 exact (List.dropLast_concat_getLast hne).symm
open Classical in
theorem cmp_notInS {c : Cx} {A : Around} {n : Nat} (r : Room A (n + 1)) {x : Str} {l : List Str} (hx : PyData.strOk x = true) (hl : ∀ y ∈ l, PyData.strOk y = true) : Cmp c A .NotIn (.str x) (.lst (l.map .str)) (!l.contains x) := by
 have := Cmp.notInL (c := c) (A := A) (d := .str x) (l := l.map .str) (by have := r.units; show A.units + 64 < 9900; omega) ((okDs_all _ _).mpr fun d hd => by obtain ⟨y, hy, rfl⟩ := List.mem_map.mp hd; rw [okD]; exact hl y hy) (by rw [okD]; exact hx)
 have e : (!decide (D.str x ∈ l.map D.str)) = !l.contains x := by
  have q : D.str x ∈ l.map D.str ↔ x ∈ l := ⟨fun h => by obtain ⟨y, hy, e⟩ := List.mem_map.mp h; cases e; exact hy, fun h => List.mem_map.mpr ⟨x, h, rfl⟩⟩
  by_cases z : x ∈ l
  ·rw [decide_eq_true (q.mpr z), List.contains_iff_mem.mpr z]
  ·rw [decide_eq_false fun h => z (q.mp h)]
   have : l.contains x = false := by
    cases e : l.contains x with
    | false => rfl
    | true => exact (z (List.contains_iff_mem.mp e)).elim
   rw [this]
 rw [e] at this; exact this
theorem pf_last (w : World) {A : Around} {n : Nat} (room : Room A (n + 2)) (ws : List Str) (hok : ∀ x ∈ ws, PyData.strOk x = true) (hl : ws.length ≤ 1000) : Pf (CL w) A 283 [.lst (ws.map .str)] [] (.lst ((lastPlaces ws).map fun (i : Nat) => .int (i : Int))) := by
 intro W s E vs kvs base tok wo rl br
 cases br
 cases rl with
 | cons r1 rl =>
 cases rl
 refine enter (W₀ := W) (Md := fun _ => False) (μ := []) (σ := [("words", .lst (ws.map .str))]) room (fn__law_last_places w) base tok wo (fun a h => h.elim) (binds := [("words", _)]) (.of_eq rfl) (fun L y hx => ?_) (by simp) (.cons r1 .nil) (fun a l h => nomatch h) (by simp) fun L W' s' E' _ _ ok F => ?_
 ·simp only [List.mem_singleton] at hx; subst hx; exact .inr ⟨by kernel_rfl, by rfl⟩
 ·have room' := room.deeper (callEnvC fd__law_last_places L 283)
  have hen : (enumD (ws.map D.str)).length ≤ 1000000 := by rw [enumD_len, List.length_map]; omega
  refine wpAny_execs_cons (st_usedT (l := enumD (ws.map .str)) (p := pFirst ws) (f := fSnd) (σc := [("words", .lst (ws.map .str))]) room'.hh ok F (ItrE.enum room'.hh (Ev.glob ok (by rfl) (.inr (mb_enumerate w))) (by rfl) (Ev.name ok (by rfl))) hen (by rfl) (by rfl) (by decide +kernel) (by rfl) (by decide +kernel) (.cons .nil (by rfl) (by kernel_rfl) (by rfl) (by rfl)) (fun C => by kernel_rfl) (fun C => by kernel_rfl) (fun C d e hde => ?_) (by kernel_rfl) fun s1 W1 F1 => ?_)
  ·rw [enum_strs] at hde
   obtain ⟨⟨x, i⟩, hq, he⟩ := List.mem_map.mp hde
   unfold pairD at he
   injection he with he; injection he with h1 he; injection he with h2 _
   subst h1 h2
   have hx := List.fst_mem_of_mem_zipIdx hq
   refine ⟨.one ?_, fun _ => Ev.name (compEnvC_ok ok (by rfl)) (by rfl)⟩
   have hpe : pFirst ws (.tup [.int (i : Int), .str x]) = !(ws.take i).contains x := by
    show (!(ws.take ((i : Int)).toNat).contains x) = _
    rw [Int.toNat_natCast]
   rw [hpe]
   exact Tv.cmp (Ev.name (compEnvC_ok ok (by rfl)) (by rfl)) (ev_sliceTo (xs := ws) (f := D.str) (Ev.name (compEnvC_ok ok (by rfl)) (by rfl)) (Ev.name (compEnvC_ok ok (by rfl)) (by rfl)) (by omega)) (cmp_notInS room' (hok x hx) fun y hy => hok y (List.mem_of_mem_take hy))
  ·rw [firsts_list] at F1
   have hfl : (firstsA ws).length ≤ 1000 := by
    unfold firstsA
    rw [List.length_map]
    refine Nat.le_trans (List.length_filter_le _ _) ?_
    rw [List.length_zipIdx]; exact hl
   have key : (((firstsA ws).map D.str).filter fun _ => true).map (fun d => match d with | .str x => D.int (lastOf ws x : Nat) | _ => d) = (lastPlaces ws).map fun (i : Nat) => D.int (i : Int) := by
    rw [List.filter_eq_self.mpr (by simp), List.map_map]
    unfold lastPlaces
    rw [List.map_map]; rfl
   refine wpAny_execs_cons (st_return F1 (d := .lst ((lastPlaces ws).map fun (i : Nat) => D.int (i : Int))) ?_ fun v s4 F4 r => ⟨F4.up.kt, r.less F4.w0⟩)
   rw [← key]
   refine Ev.compC (σc := [("words", .lst (ws.map .str))]) room'.hh ok (Ev.name ok (by rfl)) (Itr.lst room'.hh) (by rw [List.length_map]; omega) (by rfl) (fun i acc => by rfl) (fun h => by rfl) (by rfl) (by rfl) (by rfl) (by decide +kernel) (.cons .nil (by rfl) (by kernel_rfl) (by rfl) (by rfl)) (fun C X d hd => ?_)
   obtain ⟨x, hx, rfl⟩ := List.mem_map.mp hd
   refine ⟨.nil, fun _ => ?_⟩
   obtain ⟨init, hinit⟩ := places_ne (firsts_mem hx)
   have hpl : (placesOf ws x).length ≤ 1000 := by
    unfold placesOf
    rw [List.length_map]
    refine Nat.le_trans (List.length_filter_le _ _) ?_
    rw [List.length_zipIdx]; exact hl
   refine ev_lastL (l := init.map fun (i : Nat) => D.int (i : Int)) (d := .int (lastOf ws x : Nat)) ?_ (ev_negI Ev.int) ?_
   ·have e1 : (init.map fun (i : Nat) => D.int (i : Int)) ++ [D.int (lastOf ws x : Nat)] = ((enumD (ws.map .str)).filter (pSame x)).map fFst := by
     rw [places_list, hinit, List.map_append]; rfl
    rw [e1]
    refine Ev.compT (σc := [("word", .str x)]) room'.hh (compEnvC_ok ok (by rfl)) (ItrE.enum room'.hh (Ev.glob (compEnvC_ok ok (by rfl)) (by rfl) (.inr (mb_enumerate w))) (by rfl) (Ev.name (compEnvC_ok ok (by rfl)) (by rfl))) hen (by rfl) (by decide +kernel) (by rfl) (by decide +kernel) (.cons .nil (by rfl) (by kernel_rfl) (by rfl) (by rfl)) (fun C => by kernel_rfl) (fun C => by kernel_rfl) (fun C2 d e hde => ?_)
    rw [enum_strs] at hde
    obtain ⟨⟨y, i⟩, hq, he⟩ := List.mem_map.mp hde
    unfold pairD at he
    injection he with he; injection he with h1 he; injection he with h2 _
    subst h1 h2
    have hy := List.fst_mem_of_mem_zipIdx hq
    refine ⟨.one ?_, fun _ => Ev.name (compEnvC_ok (compEnvC_ok ok (by rfl)) (by rfl)) (by rfl)⟩
    exact Tv.cmp (Ev.name (compEnvC_ok (compEnvC_ok ok (by rfl)) (by rfl)) (by rfl)) (Ev.name (compEnvC_ok (compEnvC_ok ok (by rfl)) (by rfl)) (by rfl)) (cmp_eqS room' (hok y hy) (hok x (firsts_mem hx)))
   ·rw [List.length_map]
    have := congrArg List.length hinit
    rw [List.length_append] at this
    omega
noncomputable def oset (kvs : List (Str × Option Str)) (k : Str) (v : Option Str) : List (Str × Option Str) :=
 if kvs.any (fun kv => kv.1 = k) then kvs.map (fun kv => if kv.1 = k then (kv.1, v) else kv) else kvs ++ [(k, v)]
noncomputable def dictA (ks : List (Str × Option Str)) : List (Str × Option Str) := ks.foldl (fun acc kv => oset acc kv.1 kv.2) []
theorem dset_kv (kvs : List (Str × Option Str)) (k : Str) (v : Option Str) : dset (kvD kvs) k (optD v) = kvD (oset kvs k v) := by
 unfold dset oset kvD
 have e : (kvs.map fun p => (p.1, optD p.2)).any (fun kv => kv.1 = k) = kvs.any (fun kv => kv.1 = k) := by rw [List.any_map]; rfl
 rw [e]
 split
 ·rw [List.map_map, List.map_map]
  refine List.map_congr_left fun p hp => ?_
  show (if p.1 = k then (p.1, optD v) else (p.1, optD p.2)) = _
  simp only [Function.comp]
  split <;> rfl
 ·rw [List.map_append]; rfl
theorem oset_len (kvs : List (Str × Option Str)) (k : Str) (v : Option Str) : (oset kvs k v).length ≤ kvs.length + 1 := by
 unfold oset
 split <;> simp
theorem dictA_len : ∀ (l acc : List (Str × Option Str)), (l.foldl (fun acc kv => oset acc kv.1 kv.2) acc).length ≤ acc.length + l.length
 | [], acc => by simp
 | p :: l, acc => by
  rw [List.foldl_cons]
  have h1 := dictA_len l (oset acc p.1 p.2)
  have h2 := oset_len acc p.1 p.2
  rw [List.length_cons]; omega
theorem pairs_zip (keys : List Str) (texts : List (Option Str)) : pairsOf (keys.map .str) (texts.map optD) = (keys.zip texts).map fun q => .tup [.str q.1, optD q.2] := by
 unfold pairsOf
 rw [List.zip_map, List.map_map]; rfl
structure TextOk (name : Str) (own : Option Str) (keys : List Str) (texts : List (Option Str)) : Prop where
 add : AddOk name own (dictA (keys.zip texts))
 tab : TabOk [(name, headS own (dictA (keys.zip texts)))]
 size : keys.length ≤ 1000
noncomputable def textOf (name : Str) (own : Option Str) (keys : List Str) (texts : List (Option Str)) : Str := tabS [(name, headS own (dictA (keys.zip texts)))]
noncomputable def txS (name : Str) (own : Option Str) (keys : List Str) (texts : List (Option Str)) : List (Str × D) := [("name", .str name), ("own", optD own), ("keys", .lst (keys.map .str)), ("texts", .lst (texts.map optD))]
theorem obj_add : typeLookup (.type "object") "add_header" = pure none := by rw [typeLookup_type, builtinLookup_eq_fast]; kernel_rfl
theorem pf_text (w : World) {A : Around} {n : Nat} (room : Room A (n + 8)) (name : Str) (own : Option Str) (keys : List Str) (texts : List (Option Str)) (tk : TextOk name own keys texts) :
  Pf (CL w) A 278 [.str name, optD own, .lst (keys.map .str), .lst (texts.map optD)] [] (.str (textOf name own keys texts)) := by
 intro W s E vs kvs base tok wo rl br
 cases br
 cases rl with
 | cons r1 rl =>
 cases rl with
 | cons r2 rl =>
 cases rl with
 | cons r3 rl =>
 cases rl with
 | cons r4 rl =>
 cases rl
 refine enter (W₀ := W) (Md := fun _ => False) (μ := []) (σ := [("name", .str name), ("own", optD own), ("keys", .lst (keys.map .str)), ("texts", .lst (texts.map optD))]) room (fn__law_text_of w) base tok wo (fun a h => h.elim) (binds := [("name", _), ("own", _), ("keys", _), ("texts", _)]) (.of_eq rfl) (fun L y hx => ?_) (show [("name" : Str), "own", "keys", "texts"].Nodup by decide +kernel) (.cons r1 (.cons r2 (.cons r3 (.cons r4 .nil)))) (fun a l h => nomatch h) (by simp) fun L W' s' E' _ _ ok F => ?_
 ·simp only [List.mem_cons, List.not_mem_nil, or_false] at hx
  rcases hx with rfl | rfl | rfl | rfl <;> exact .inl (by kernel_rfl)
 ·have room' := room.deeper (callEnvC fd__law_text_of L 278)
  have hsz := tk.size
  refine wpAny_execs_cons (st_newdict ok F (.inl (by kernel_rfl)) fun a s1 _ F1 => ?_)
  refine wpAny_execs_cons (st_forT (l := pairsOf (keys.map .str) (texts.map optD)) room'.hh ok F1 (ItrE.zip room'.hh (Ev.glob ok (by rfl) (.inr (mb_zip w))) (by rfl) (Ev.name ok (by rfl)) (Ev.name ok (by rfl))) (.inl (by kernel_rfl)) (.inl (by kernel_rfl))
   (fun i σ μ => σ = (("params" : Str), D.val (.ref a)) :: txS name own keys texts ∧ μ = [(a, .d (kvD (((keys.zip texts).take i).foldl (fun acc kv => oset acc kv.1 kv.2) [])))]) ⟨rfl, rfl⟩ (fun i d e σ₁ μ₁ hd hinv sa sb Wa Wb Ma E' Fa => ?_) (fun σ₂ μ₂ s4 W4 hinv F4 => ?_))
  ·obtain ⟨rfl, rfl⟩ := hinv
   rw [pairs_zip, List.getElem?_map] at hd
   obtain ⟨q, hq, he⟩ := Option.map_eq_some_iff.mp hd
   injection he with he; injection he with h1 he; injection he with h2 _
   subst h1 h2
   have hlen : (kvD (((keys.zip texts).take i).foldl (fun acc kv => oset acc kv.1 kv.2) [])).length ≤ 1000000 := by
    unfold kvD
    rw [List.length_map]
    have := dictA_len ((keys.zip texts).take i) []
    rw [List.length_take, List.length_zip] at this
    simp only [List.length_nil] at this; omega
   refine wpAny_execs_cons (st_dictset (μ₁ := []) (μ₂ := []) (k := q.1) (d := optD q.2) Fa (Ev.name ok (by rfl)) (Ev.name ok (by rfl)) (Ev.name ok (by rfl)) rfl hlen fun s5 F5 => wpAny_execs_nil ⟨_, _, Wb, ⟨rfl, rfl⟩, ?_⟩)
   rw [take_one hq, List.foldl_append]
   show Fr _ _ _ _ _ _ _ [(a, .d (kvD (oset _ q.1 q.2)))] _
   rw [← dset_kv]
   exact Fr.cut [("text", optD q.2), ("key", .str q.1)] F5 (fun p hp => by
    simp only [List.mem_cons, List.not_mem_nil, or_false] at hp
    rcases hp with rfl | rfl <;> rfl)
  ·obtain ⟨rfl, rfl⟩ := hinv
   have el : (keys.zip texts).take (pairsOf (keys.map D.str) (texts.map optD)).length = keys.zip texts := by
    rw [pairs_zip, List.length_map, List.take_length]
   rw [el] at F4
   have F5 := F4.freezeAll (fun a o h => ((F4.own a o h).2.1).elim False.elim id) (σ' := (("params" : Str), D.dct (CL w).prog (CL w).w (kvD (dictA (keys.zip texts)))) :: txS name own keys texts) (.cons (.dct (List.mem_cons_self ..) rfl (ResL.same _)) (Rel2.refl (fun d => .same d) _))
   refine wpAny_execs_cons (st_newtab room' ok F5 (Ev.glob ok (by rfl) (.inl (mg_Headers w))) (.inl (by kernel_rfl)) fun l s6 _ F6 => ?_)
   have hml : (l, Own.l []) ∈ [(l, Own.l ([] : List D))] := List.mem_cons_self ..
   refine wpAny_execs_cons (wpAny_Expr_any (meth_callB (kls w) (fs := [("_headers", .val (.ref l))]) (z := "_headers") (zd := .val (.ref l)) (ds := [.str name, optD own]) (ks := kvD (dictA (keys.zip texts))) (Ev.name ok (by rfl)) (mH_add_header w) (fn_m_add_header w) (cf_m_add_header w) (by rfl) (by rfl) obj_add (by decide +kernel) (by rfl) (by rfl) (EvA.star (EvL.c (Ev.name ok (by rfl)) (EvL.c (Ev.name ok (by rfl)) EvL.nil)) (Et.kw (Ev.name ok (by rfl))) ?_) F6.view fun ov vs2 kvs2 s7 K7 V7 ro rl2 rb2 => ?_))
   ·unfold kvD
    rw [List.length_map]
    have := tk.add.size; omega
   ·have F7 := F6.keeps K7
    obtain ⟨q1, q2, q3, q4⟩ := F7.own l _ hml
    cases rl2 with
    | cons p1 rl2 =>
    cases rl2 with
    | cons p2 rl2 =>
    cases rl2
    refine add_call w room' (pre := []) tk.add (by decide) V7.base V7.tok V7.wold q1 (F7.kn q2) q4 ro p1 p2 rb2 fun s8 U8 O8 => ?_
    have F8 := F7.putU (μ₁ := []) (μ₂ := []) rfl U8 O8
    have F9 := F8.freezeAll (fun a o h => ((F8.own a o h).2.1).elim False.elim id) (σ' := (("table" : Str), tabD [(name, headS own (dictA (keys.zip texts)))]) :: ("params", D.dct (CL w).prog (CL w).w (kvD (dictA (keys.zip texts)))) :: txS name own keys texts) (.cons (.fld (.lst (List.mem_cons_self ..) (ResL.same _))) (Rel2.refl (fun d => .same d) _))
    refine wpAny_execs_cons (st_return F9 (d := .str (textOf name own keys texts)) ?_ fun v s10 F10 r => ⟨F10.up.kt, r.less F10.w0⟩)
    refine Ev.strOwn (kls w) (Ev.glob ok (by rfl) (.inr (mb_str w))) (Ev.name ok (by rfl)) (by rfl) (mH___str__ w) (fn_m___str__ w) (cf_m___str__ w) ?_ (pf_str w room'.in1.in1 _ tk.tab)
    have := room'.in1.in1.units
    show (A.deeper (callEnvC fd__law_text_of L 278)).in1.in1.units < 9900
    omega
noncomputable def joinE (l : List Str) : Str := Txt.join "" l
noncomputable def rawA (r : RowA) : Option Str := r.2.2.map fun l => joinE (l.map (·.1))
noncomputable def foldA (r : RowA) : Option Str := r.2.2.map fun l => joinE (l.map (·.2))
noncomputable def keyA (r : RowA) : Str := Str.ofString "k_" ++ r.1
noncomputable def rawsA (R : List RowA) : List (Option Str) := R.map rawA
noncomputable def foldsA (R : List RowA) : List (Option Str) := R.map foldA
noncomputable def keysA (R : List RowA) : List Str := (R.drop 1).map keyA
noncomputable def readyA (w : World) (R : List RowA) : List (Option Str) := (rawsA R).map (Option.map (prepS w))
noncomputable def row0 : RowA := ("", "", none)
noncomputable def writtenA (R : List RowA) : Str := textOf "Kind" ((rawsA R).getD 0 none) (keysA R) ((rawsA R).drop 1)
noncomputable def aheadA (w : World) (R : List RowA) : Str := textOf (prepS w "Kind") ((readyA w R).getD 0 none) ((keysA R).map (prepS w)) ((readyA w R).drop 1)
noncomputable def spellA (R : List RowA) : List Nat := (lastPlaces ((R.drop 1).map (·.1))).map (1 + ·)
noncomputable def lettA (R : List RowA) : List Nat := (lastPlaces ((R.drop 1).map (·.2.1))).map (1 + ·)
noncomputable def dueW (R : List RowA) (i : Nat) : Str := partA (R.getD i row0).1 ((rawsA R).getD i none) (((rawsA R).getD i none).getD "")
noncomputable def dueB (R : List RowA) (i : Nat) : Str := partA (R.getD i row0).2.1 ((rawsA R).getD i none) (((foldsA R).getD i none).getD "")
noncomputable def dueA (R : List RowA) (i : Nat) : Str := partA (R.getD i row0).2.1 ((foldsA R).getD i none) (((foldsA R).getD i none).getD "")
structure LawOk (w : World) (R : List RowA) : Prop where
 ne : 1 ≤ R.length
 rlen : R.length ≤ 100
 third : ∀ r ∈ R, ∀ l, r.2.2 = some l → l.length ≤ 1000 ∧ JoinOk "" (l.map (·.1)) = true ∧ JoinOk "" (l.map (·.2)) = true
 keyLen : ∀ r ∈ R, r.1.length ≤ 1000
 prepRaw : ∀ x, some x ∈ rawsA R → PrepOk w x
 prepKind : PrepOk w "Kind"
 prepKey : ∀ k ∈ keysA R, PrepOk w k
 text1 : TextOk "Kind" ((rawsA R).getD 0 none) (keysA R) ((rawsA R).drop 1)
 text2 : TextOk (prepS w "Kind") ((readyA w R).getD 0 none) ((keysA R).map (prepS w)) ((readyA w R).drop 1)
 word1 : ∀ r ∈ R, PyData.strOk r.1 = true
 word2 : ∀ r ∈ R, PyData.strOk r.2.1 = true
 spellLt : ∀ i ∈ spellA R, i < R.length
 lettLt : ∀ i ∈ lettA R, i < R.length
 spellLen : (spellA R).length ≤ 1000
 lettLen : (lettA R).length ≤ 1000
 part1 : ∀ i ∈ spellA R, PartOk (R.getD i row0).1 ((rawsA R).getD i none) ((rawsA R).getD i none)
 part2 : ∀ i ∈ spellA R, PartOk (R.getD i row0).2.1 ((rawsA R).getD i none) ((foldsA R).getD i none)
 part3 : ∀ i ∈ lettA R, PartOk (R.getD i row0).2.1 ((foldsA R).getD i none) ((foldsA R).getD i none)
 line1 : LineOk "Kind" ((rawsA R).getD 0 none) ((spellA R).map (dueW R))
 line2 : LineOk "kind" ((foldsA R).getD 0 none) ((spellA R).map (dueB R))
 line3 : LineOk "kind" ((foldsA R).getD 0 none) ((lettA R).map (dueA R))
 prepW : PrepOk w (writtenA R)
 ok1 : PyData.strOk (writtenA R) = true
 ok2 : PyData.strOk (prepS w (writtenA R)) = true
 ok3 : PyData.strOk (aheadA w R) = true
 eq1 : writtenA R = lineA "Kind" ((rawsA R).getD 0 none) ((spellA R).map (dueW R))
 eq2 : prepS w (writtenA R) = lineA "kind" ((foldsA R).getD 0 none) ((spellA R).map (dueB R))
 eq3 : aheadA w R = lineA "kind" ((foldsA R).getD 0 none) ((lettA R).map (dueA R))
theorem optD_inj (a b : Option Str) (h : optD a = optD b) : a = b := by
 cases a <;> cases b
 ·rfl
 ·cases h
 ·cases h
 ·injection h with h; rw [h]
theorem map_inj {α : Type} {f : α → D} (h : ∀ a b, f a = f b → a = b) : ∀ {l m : List α}, l.map f = m.map f → l = m
 | [], [], _ => rfl
 | [], _ :: _, e => by simp at e
 | _ :: _, [], e => by simp at e
 | a :: l, b :: m, e => by
  simp only [List.map_cons, List.cons.injEq] at e
  rw [h _ _ e.1, map_inj h e.2]
theorem rowD_inj (a b : RowA) (h : rowD a = rowD b) : a = b := by
 obtain ⟨a1, a2, a3⟩ := a
 obtain ⟨b1, b2, b3⟩ := b
 unfold rowD at h
 injection h with h
 injection h with h1 h
 injection h with h2 h
 injection h with h3 _
 injection h1 with h1
 injection h2 with h2
 simp only at h1 h2 h3
 subst h1 h2
 cases a3 <;> cases b3
 ·rfl
 ·cases h3
 ·cases h3
 ·unfold thirdD at h3
  injection h3 with h3
  rw [map_inj strP_inj h3]
section
variable {c : Cx} {A : Around} {env : Env} {σ : List (Str × D)}
theorem ev_sliceFromM {α : Type} {f : α → D} {xs : List α} {value e : Expr} {p pos : Pos} {a : Nat} (hv : Ev c A env σ value (.lst (xs.map f))) (he : Ev c A env σ e (.int a)) (hn : xs.length ≤ 1000000) (ht : ∀ o r, letTemporaryGo value o r = pure () := by intro _ _; rfl) :
  Ev c A env σ (.Subscript value (.Slice (some e) Option.none Option.none p) pos) (.lst ((xs.drop a).map f)) := by
 rw [List.map_drop]; exact Ev.sliceFrom hv he (by rw [List.length_map]; exact hn) ht
theorem ev_at {α : Type} {f : α → D} {xs : List α} {value slice : Expr} {p : Pos} {k : Nat} {d : α} (hv : Ev c A env σ value (.lst (xs.map f))) (hi : Ev c A env σ slice (.int (k : Nat))) (h : k < xs.length) (hl : xs.length ≤ 1000000)
  (hs : ∀ (a : Addr) (u : Tok), subscripted slice false (.ref a) (.int (k : Nat) u) = operate [.ref a, .int (k : Nat) u] (getItem (.ref a) (.int (k : Nat) u)) := by intro _ _; rfl) : Ev c A env σ (.Subscript value slice p) (f (xs.getD k d)) :=
 ev_itemL hv hi (by rw [List.getElem?_map, List.getElem?_eq_getElem h]; simp [List.getD_eq_getElem?_getD, List.getElem?_eq_getElem h]) (by rw [List.length_map]; exact hl) hs
open Classical in
theorem tv_ne {n : Nat} (r : Room A (n + 1)) {l r' : Expr} {p : Pos} {d e : D} (hl : Ev c A env σ l d) (hr : Ev c A env σ r' e) (h : d = e) (k : okD 8 d = true) (hm : behindInMarks .NotEq r' = false := by rfl) : Tv c A env σ (.Compare l [.NotEq] [r'] p) false := by
 subst h
 have := Cmp.ne (c := c) r (by have := r.units; show A.units + 64 < 9900; omega) k k
 rw [decide_eq_true rfl] at this
 exact Tv.cmp hl hr this hm
open Classical in
theorem ev_eq {n : Nat} (r : Room A (n + 1)) {l r' : Expr} {p : Pos} {d e : D} (hl : Ev c A env σ l d) (hr : Ev c A env σ r' e) (h : d = e) (k : okD 8 d = true) (hm : behindInMarks .Eq r' = false := by rfl) : Ev c A env σ (.Compare l [.Eq] [r'] p) (.val (.bool true)) := by
 subst h
 have := Cmp.eq (c := c) r (by have := r.units; show A.units + 64 < 9900; omega) k k
 rw [decide_eq_true rfl] at this
 exact Ev.cmp hl hr this hm
theorem ev_texts (hh : A.handled = Option.none) (ok : EnvOk env) {r : RowA} {pick : Str × Str → Str} {kk : Nat} (hk : ∀ q, [D.str q.1, .str q.2][kk]? = some (.str (pick q))) (hkk : kk < 2) (hr : σ.lookup ("row" : Str) = some (rowD r))
  {p1 p2 p3 p4 p5 p6 p7 p8 p9 p10 p12 p13 q1 q2 q3 pI pC pL : Pos} {k1 k2 k3 k4 k5 k6 : Nat} {scope : Scope} {cl : List (Str × Addr)}
  (h3 : ∀ l, r.2.2 = some l → l.length ≤ 1000 ∧ JoinOk "" (l.map pick) = true)
  (hclos : closureFor scope env = pure cl) (hcell : ∀ y ∈ scope.names, y.2 ≠ .cell) (hkind : scope.kind = .function) (hnames : ∀ y ∈ scope.names, y.2 = .local → scope.names.lookup y.1 = some .local)
  (hx : ∀ C, (compEnvC scope cl C env).kindOf "pair" = some .local) (hline : (p10.endLine == pC.line) = true) :
  Ev c A env σ (.IfExp (.Compare (.Subscript (.Name "row" p1) (.Constant (.int 2) k1 p2) p3) [.Is] [.Constant .none k2 p4] p5) (.Constant .none k3 p6)
   (.Call (.Attribute (.Constant (.str (Str.ofString "")) k4 p9) "join" p10) [.ListComp (.Subscript (.Name "pair" p7) (.Constant (.int ((kk : Nat) : Int)) k5 p8) q3) [⟨.Name "pair" q1, .Subscript (.Name "row" p12) (.Constant (.int 2) k6 p13) q2, [], 0⟩] scope pL] [] pC) pI) (optD (r.2.2.map fun l => joinE (l.map pick))) := by
 have h2 : ∀ {a b d : Pos} {k : Nat}, Ev c A env σ (.Subscript (.Name "row" a) (.Constant (.int 2) k b) d) (thirdD r.2.2) := fun {a b d k} => ev_itemL (l := [.str r.1, .str r.2.1, thirdD r.2.2]) (k := 2) (Ev.name ok hr) (ev_litN 2) (by rfl) (by show 3 ≤ 1000000; decide)
 cases e : r.2.2 with
 | none =>
  refine Ev.ifExp (b := true) (Tv.cmp (d := .val .none) (e := .val .none) ?_ Ev.none Cmp.isNone) (fun _ => Ev.none) (fun h => by cases h)
  have := h2 (a := p1) (b := p2) (d := p3) (k := k1)
  rw [e] at this; exact this
 | some l =>
  obtain ⟨a1, a2⟩ := h3 l e
  have hl2 : ∀ {a b d : Pos} {k : Nat}, Ev c A env σ (.Subscript (.Name "row" a) (.Constant (.int 2) k b) d) (.lst (l.map strP)) := fun {a b d k} => by
   have := h2 (a := a) (b := b) (d := d) (k := k)
   rw [e] at this; exact this
  refine Ev.ifExp (b := false) (Tv.cmp (d := .lst (l.map strP)) (e := .val .none) hl2 Ev.none Cmp.isNone) (fun h => by cases h) (fun _ => ?_)
  refine Ev.join (xs := l.map pick) Ev.str ?_ (by rfl) (by rfl) hline a2
  rw [List.map_map]
  refine Ev.compM (xs := l) (g := strP) (f := fun q => .str (pick q)) (σc := []) hh ok hl2 (Itr.lst hh) strP_inj (by omega) hclos hcell hkind hnames .nil hx (fun C q hq => ?_)
  exact Ev.subT (l := [.str q.1, .str q.2]) (k := (kk : Nat)) (j := kk) (Ev.name (compEnvC_ok ok hkind) (by rfl)) (ev_litN kk) (by omega) (by omega) (by
   unfold seqIndex?
   rw [if_neg (show ¬ ((kk : Nat) : Int) < 0 by omega)]
   simp; omega) (hk q)
end
noncomputable abbrev lwE (L : Addr) : Env := callEnvC fd_law L 300
noncomputable def sg1 (script : List Int) (R : List RowA) : List (Str × D) := [("folds", .lst ((foldsA R).map optD)), ("raws", .lst ((rawsA R).map optD)), ("rows", .lst (R.map rowD)), ("script", .lst (script.map .int))]
noncomputable def sg2 (w : World) (script : List Int) (R : List RowA) : List (Str × D) := ("ahead", .str (aheadA w R)) :: ("written", .str (writtenA R)) :: ("ready", .lst ((readyA w R).map optD)) :: ("keys", .lst ((keysA R).map .str)) :: sg1 script R
noncomputable def natD (i : Nat) : D := .int (i : Int)
theorem natD_inj (a b : Nat) (h : natD a = natD b) : a = b := by unfold natD at h; injection h with h; omega
theorem str_inj (a b : Str) (h : D.str a = D.str b) : a = b := by injection h
noncomputable def lawB1 : List Stmt := (sBody (stAt 21)).drop 3
noncomputable def lawB2 : List Stmt := (sBody (stAt 21)).drop 7
noncomputable def lawB3 : List Stmt := (sBody (stAt 21)).drop 12
section
variable {w : World} {A : Around} {n : Nat} {L : Addr} {script : List Int} {R : List RowA} {s₁ s₂ : Shared} {W₀ W Md : Addr → Prop} {E : Value → Shared → Prop} {Q : Flow → Shared → Prop}
theorem law_end (room : Room A (n + 8)) (ok : EnvOk (lwE L)) (lo : LawOk w R) {σ : List (Str × D)} (h1 : σ.lookup ("written" : Str) = some (.str (writtenA R))) (h2 : σ.lookup ("ahead" : Str) = some (.str (aheadA w R))) (h3 : σ.lookup ("raws" : Str) = some (.lst ((rawsA R).map optD))) (h4 : σ.lookup ("folds" : Str) = some (.lst ((foldsA R).map optD)))
  (h5 : σ.lookup ("due_written" : Str) = some (.lst (((spellA R).map (dueW R)).map .str))) (h6 : σ.lookup ("due_behind" : Str) = some (.lst (((spellA R).map (dueB R)).map .str))) (h7 : σ.lookup ("due_ahead" : Str) = some (.lst (((lettA R).map (dueA R)).map .str)))
  (F : Fr (CL w) s₁ W₀ Md W (lwE L) σ [] s₂) (h : ∀ v s' W', Fr (CL w) s₁ W₀ Md W' (lwE L) σ [] s' → Rd W' s'.heap v (.val (.bool true)) → Q (.ret v) s') : wpAny (CL w).M A (execs lawB3 (lwE L)) Q E s₂ := by
 have hr : (rawsA R).length ≤ 1000000 := by unfold rawsA; rw [List.length_map]; have := lo.rlen; omega
 have hf : (foldsA R).length ≤ 1000000 := by unfold foldsA; rw [List.length_map]; have := lo.rlen; omega
 have hr0 : 0 < (rawsA R).length := by unfold rawsA; rw [List.length_map]; exact lo.ne
 have hf0 : 0 < (foldsA R).length := by unfold foldsA; rw [List.length_map]; exact lo.ne
 refine wpAny_execs_cons (st_if F (b := false) ?_ (fun h => by cases h) (fun _ s3 F3 => wpAny_execs_nil ?_))
 ·refine tv_ne (d := .str (writtenA R)) (e := .str (lineA "Kind" ((rawsA R).getD 0 none) ((spellA R).map (dueW R)))) room (Ev.name ok h1) ?_ (congrArg D.str lo.eq1) (by rw [okD]; exact lo.ok1)
  refine Ev.call (Ev.glob ok (by rfl) (.inl (mg__law_line w))) (fn__law_line w) (EvA.plain (EvL.c Ev.str (EvL.c ?_ (EvL.c (Ev.name ok h5) EvL.nil)))) (pf_line w room "Kind" _ _ lo.line1)
  exact ev_at (k := 0) (Ev.name ok h3) (ev_litN 0) hr0 hr
 refine wpAny_execs_cons (st_if F3 (b := false) ?_ (fun h => by cases h) (fun _ s4 F4 => wpAny_execs_nil ?_))
 ·refine tv_ne (d := .str (prepS w (writtenA R))) (e := .str (lineA "kind" ((foldsA R).getD 0 none) ((spellA R).map (dueB R)))) room ?_ ?_ (congrArg D.str lo.eq2) (by rw [okD]; exact lo.ok2)
  ·exact Ev.call (Ev.glob ok (by rfl) (.inl (mg__law_prepare w))) (fn__law_prepare w) (EvA.plain (EvL.c (Ev.name ok h1) EvL.nil)) (pf_prepare w room _ lo.prepW)
  ·refine Ev.call (Ev.glob ok (by rfl) (.inl (mg__law_line w))) (fn__law_line w) (EvA.plain (EvL.c Ev.str (EvL.c ?_ (EvL.c (Ev.name ok h6) EvL.nil)))) (pf_line w room "kind" _ _ lo.line2)
   exact ev_at (k := 0) (Ev.name ok h4) (ev_litN 0) hf0 hf
 refine wpAny_execs_cons (st_return F4 (d := .val (.bool true)) ?_ fun v s5 F5 r => h v s5 W F5 r)
 refine ev_eq (d := .str (aheadA w R)) (e := .str (lineA "kind" ((foldsA R).getD 0 none) ((lettA R).map (dueA R)))) room (Ev.name ok h2) ?_ (congrArg D.str lo.eq3) (by rw [okD]; exact lo.ok3)
 refine Ev.call (Ev.glob ok (by rfl) (.inl (mg__law_line w))) (fn__law_line w) (EvA.plain (EvL.c Ev.str (EvL.c ?_ (EvL.c (Ev.name ok h7) EvL.nil)))) (pf_line w room "kind" _ _ lo.line3)
 exact ev_at (k := 0) (Ev.name ok h4) (ev_litN 0) hf0 hf
theorem law_due (room : Room A (n + 8)) (ok : EnvOk (lwE L)) (lo : LawOk w R) (F : Fr (CL w) s₁ W₀ Md W (lwE L) (sg2 w script R) [] s₂) (h : ∀ v s' W' σ, Fr (CL w) s₁ W₀ Md W' (lwE L) σ [] s' → Rd W' s'.heap v (.val (.bool true)) → Q (.ret v) s') : wpAny (CL w).M A (execs lawB2 (lwE L)) Q E s₂ := by
 have hR := lo.rlen
 have hr : (rawsA R).length = R.length := by unfold rawsA; rw [List.length_map]
 have hf : (foldsA R).length = R.length := by unfold foldsA; rw [List.length_map]
 have hsl := lo.spellLen
 have hll := lo.lettLen
 have hd1 : ∀ {r : RowA}, r ∈ R.drop 1 → r ∈ R := fun h => List.mem_of_mem_drop h
 refine wpAny_execs_cons (st_usedM (xs := lastPlaces ((R.drop 1).map (·.1))) (g := natD) (f := fun i => natD (1 + i)) (σc := []) room.hh ok F (di := .lst ((lastPlaces ((R.drop 1).map (·.1))).map natD)) ?_ (Itr.lst room.hh) natD_inj ?_ (by rfl) (by rfl) (by decide +kernel) (by rfl) (by decide +kernel) .nil (fun C => by kernel_rfl) (fun C i hi => ?_) (by kernel_rfl) fun s3 W3 F3 => ?_)
 ·refine Ev.call (Ev.glob ok (by rfl) (.inl (mg__law_last_places w))) (fn__law_last_places w) (EvA.plain (EvL.c ?_ EvL.nil)) (pf_last w room _ (fun x hx => ?_) ?_)
  ·rw [List.map_map]
   refine Ev.compM (xs := R.drop 1) (g := rowD) (f := fun r => .str r.1) (σc := []) room.hh ok (ev_sliceFromM (xs := R) (f := rowD) (a := 1) (Ev.name ok (by rfl)) (ev_litN 1) (by omega)) (Itr.lst room.hh) rowD_inj (by rw [List.length_drop]; omega) (by rfl) (by decide +kernel) (by rfl) (by decide +kernel) .nil (fun C => by kernel_rfl) (fun C r hr => ?_)
   exact ev_itemL (l := [.str r.1, .str r.2.1, thirdD r.2.2]) (k := 0) (Ev.name (compEnvC_ok ok (by rfl)) (by rfl)) (ev_litN 0) (by rfl) (by show 3 ≤ 1000000; decide)
  ·obtain ⟨r, hr, rfl⟩ := List.mem_map.mp hx
   exact lo.word1 r (hd1 hr)
  ·rw [List.length_map, List.length_drop]; omega
 ·have : (spellA R).length = (lastPlaces ((R.drop 1).map (·.1))).length := by unfold spellA; rw [List.length_map]
  omega
 ·exact ev_addN (ev_litN 1) (Ev.name (compEnvC_ok ok (by rfl)) (by rfl))
 have e1 : (lastPlaces ((R.drop 1).map (·.1))).map (fun i => natD (1 + i)) = (spellA R).map natD := by unfold spellA; rw [List.map_map]; rfl
 rw [e1] at F3
 refine wpAny_execs_cons (st_usedM (xs := lastPlaces ((R.drop 1).map (·.2.1))) (g := natD) (f := fun i => natD (1 + i)) (σc := []) room.hh ok F3 (di := .lst ((lastPlaces ((R.drop 1).map (·.2.1))).map natD)) ?_ (Itr.lst room.hh) natD_inj ?_ (by rfl) (by rfl) (by decide +kernel) (by rfl) (by decide +kernel) .nil (fun C => by kernel_rfl) (fun C i hi => ?_) (by kernel_rfl) fun s4 W4 F4 => ?_)
 ·refine Ev.call (Ev.glob ok (by rfl) (.inl (mg__law_last_places w))) (fn__law_last_places w) (EvA.plain (EvL.c ?_ EvL.nil)) (pf_last w room _ (fun x hx => ?_) ?_)
  ·rw [List.map_map]
   refine Ev.compM (xs := R.drop 1) (g := rowD) (f := fun r => .str r.2.1) (σc := []) room.hh ok (ev_sliceFromM (xs := R) (f := rowD) (a := 1) (Ev.name ok (by rfl)) (ev_litN 1) (by omega)) (Itr.lst room.hh) rowD_inj (by rw [List.length_drop]; omega) (by rfl) (by decide +kernel) (by rfl) (by decide +kernel) .nil (fun C => by kernel_rfl) (fun C r hr => ?_)
   exact ev_itemL (l := [.str r.1, .str r.2.1, thirdD r.2.2]) (k := 1) (Ev.name (compEnvC_ok ok (by rfl)) (by rfl)) (ev_litN 1) (by rfl) (by show 3 ≤ 1000000; decide)
  ·obtain ⟨r, hr, rfl⟩ := List.mem_map.mp hx
   exact lo.word2 r (hd1 hr)
  ·rw [List.length_map, List.length_drop]; omega
 ·have : (lettA R).length = (lastPlaces ((R.drop 1).map (·.2.1))).length := by unfold lettA; rw [List.length_map]
  omega
 ·exact ev_addN (ev_litN 1) (Ev.name (compEnvC_ok ok (by rfl)) (by rfl))
 have e2 : (lastPlaces ((R.drop 1).map (·.2.1))).map (fun i => natD (1 + i)) = (lettA R).map natD := by unfold lettA; rw [List.map_map]; rfl
 rw [e2] at F4
 have hrow : ∀ {env : Env} {σ : List (Str × D)} {i : Nat} {kk : Nat} {x : Str} {a b c' d e : Pos} {k : Nat}, EnvOk env → σ.lookup ("rows" : Str) = some (.lst (R.map rowD)) → σ.lookup ("i" : Str) = some (natD i) → i < R.length → [D.str (R.getD i row0).1, .str (R.getD i row0).2.1, thirdD (R.getD i row0).2.2][kk]? = some (.str x) → kk < 3 → Ev (CL w) A env σ (.Subscript (.Subscript (.Name "rows" a) (.Name "i" b) c') (.Constant (.int ((kk : Nat) : Int)) k d) e) (.str x) := fun okc hrs hi hlt hx hkk =>
  ev_itemL (l := [D.str _, .str _, thirdD _]) (ev_at (xs := R) (f := rowD) (d := row0) (Ev.name okc hrs) (Ev.name okc hi) hlt (by omega)) (ev_litN _) hx (by show 3 ≤ 1000000; decide)
 have hopt : ∀ {env : Env} {σ : List (Str × D)} {i : Nat} {xs : List (Option Str)} {nm : Str} {a b d : Pos}, EnvOk env → σ.lookup nm = some (.lst (xs.map optD)) → σ.lookup ("i" : Str) = some (natD i) → i < xs.length → xs.length ≤ 1000000 → (nm == ("__classdict__" : Str)) = false → (nm == ("__debug__" : Str)) = false → Ev (CL w) A env σ (.Subscript (.Name nm a) (.Name "i" b) d) (optD (xs.getD i none)) := fun okc hrs hi hlt hl n1 n2 =>
  ev_at (Ev.name okc hrs n1 n2) (Ev.name okc hi) hlt hl
 refine wpAny_execs_cons (st_usedM (xs := spellA R) (g := natD) (f := fun i => .str (dueW R i)) (σc := [("rows", .lst (R.map rowD)), ("raws", .lst ((rawsA R).map optD))]) room.hh ok F4 (Ev.name ok (by rfl)) (Itr.lst room.hh) natD_inj (by omega) (by rfl) (by rfl) (by decide +kernel) (by rfl) (by decide +kernel) (.cons (.cons .nil (by rfl) (by kernel_rfl) (by rfl) (by rfl)) (by rfl) (by kernel_rfl) (by rfl) (by rfl)) (fun C => by kernel_rfl) (fun C i hi => ?_) (by kernel_rfl) fun s5 W5 F5 => ?_)
 ·have hlt := lo.spellLt i hi
  refine Ev.call (Ev.glob (compEnvC_ok ok (by rfl)) (by rfl) (.inl (mg__law_part w))) (fn__law_part w) (EvA.plain (EvL.c ?_ (EvL.c ?_ (EvL.c ?_ EvL.nil)))) (pf_part w room (R.getD i row0).1 _ _ (lo.part1 i hi))
  ·exact hrow (kk := 0) (compEnvC_ok ok (by rfl)) (by rfl) (by rfl) hlt (by rfl) (by decide)
  ·exact hopt (xs := rawsA R) (compEnvC_ok ok (by rfl)) (by rfl) (by rfl) (by omega) (by omega) (by decide +kernel) (by decide +kernel)
  ·exact hopt (xs := rawsA R) (compEnvC_ok ok (by rfl)) (by rfl) (by rfl) (by omega) (by omega) (by decide +kernel) (by decide +kernel)
 refine wpAny_execs_cons (st_usedM (xs := spellA R) (g := natD) (f := fun i => .str (dueB R i)) (σc := [("rows", .lst (R.map rowD)), ("raws", .lst ((rawsA R).map optD)), ("folds", .lst ((foldsA R).map optD))]) room.hh ok F5 (Ev.name ok (by rfl)) (Itr.lst room.hh) natD_inj (by omega) (by rfl) (by rfl) (by decide +kernel) (by rfl) (by decide +kernel) (.cons (.cons (.cons .nil (by rfl) (by kernel_rfl) (by rfl) (by rfl)) (by rfl) (by kernel_rfl) (by rfl) (by rfl)) (by rfl) (by kernel_rfl) (by rfl) (by rfl)) (fun C => by kernel_rfl) (fun C i hi => ?_) (by kernel_rfl) fun s6 W6 F6 => ?_)
 ·have hlt := lo.spellLt i hi
  refine Ev.call (Ev.glob (compEnvC_ok ok (by rfl)) (by rfl) (.inl (mg__law_part w))) (fn__law_part w) (EvA.plain (EvL.c ?_ (EvL.c ?_ (EvL.c ?_ EvL.nil)))) (pf_part w room (R.getD i row0).2.1 _ _ (lo.part2 i hi))
  ·exact hrow (kk := 1) (compEnvC_ok ok (by rfl)) (by rfl) (by rfl) hlt (by rfl) (by decide)
  ·exact hopt (xs := rawsA R) (compEnvC_ok ok (by rfl)) (by rfl) (by rfl) (by omega) (by omega) (by decide +kernel) (by decide +kernel)
  ·exact hopt (xs := foldsA R) (compEnvC_ok ok (by rfl)) (by rfl) (by rfl) (by omega) (by omega) (by decide +kernel) (by decide +kernel)
 refine wpAny_execs_cons (st_usedM (xs := lettA R) (g := natD) (f := fun i => .str (dueA R i)) (σc := [("rows", .lst (R.map rowD)), ("folds", .lst ((foldsA R).map optD))]) room.hh ok F6 (Ev.name ok (by rfl)) (Itr.lst room.hh) natD_inj (by omega) (by rfl) (by rfl) (by decide +kernel) (by rfl) (by decide +kernel) (.cons (.cons .nil (by rfl) (by kernel_rfl) (by rfl) (by rfl)) (by rfl) (by kernel_rfl) (by rfl) (by rfl)) (fun C => by kernel_rfl) (fun C i hi => ?_) (by kernel_rfl) fun s7 W7 F7 => ?_)
 ·have hlt := lo.lettLt i hi
  refine Ev.call (Ev.glob (compEnvC_ok ok (by rfl)) (by rfl) (.inl (mg__law_part w))) (fn__law_part w) (EvA.plain (EvL.c ?_ (EvL.c ?_ (EvL.c ?_ EvL.nil)))) (pf_part w room (R.getD i row0).2.1 _ _ (lo.part3 i hi))
  ·exact hrow (kk := 1) (compEnvC_ok ok (by rfl)) (by rfl) (by rfl) hlt (by rfl) (by decide)
  ·exact hopt (xs := foldsA R) (compEnvC_ok ok (by rfl)) (by rfl) (by rfl) (by omega) (by omega) (by decide +kernel) (by decide +kernel)
  ·exact hopt (xs := foldsA R) (compEnvC_ok ok (by rfl)) (by rfl) (by rfl) (by omega) (by omega) (by decide +kernel) (by decide +kernel)
 have m1 : (spellA R).map (fun i => D.str (dueW R i)) = ((spellA R).map (dueW R)).map .str := by rw [List.map_map]; rfl
 have m2 : (spellA R).map (fun i => D.str (dueB R i)) = ((spellA R).map (dueB R)).map .str := by rw [List.map_map]; rfl
 have m3 : (lettA R).map (fun i => D.str (dueA R i)) = ((lettA R).map (dueA R)).map .str := by rw [List.map_map]; rfl
 rw [m1, m2, m3] at F7
 exact law_end room ok lo (by rfl) (by rfl) (by rfl) (by rfl) (by rfl) (by rfl) (by rfl) F7 fun v s' W' G r => h v s' W' _ G r
end
section
variable {w : World} {A : Around} {n : Nat} {L : Addr} {script : List Int} {R : List RowA} {s₁ s₂ : Shared} {W₀ W Md : Addr → Prop} {E : Value → Shared → Prop} {Q : Flow → Shared → Prop}
theorem law_mid (room : Room A (n + 8)) (ok : EnvOk (lwE L)) (lo : LawOk w R) (F : Fr (CL w) s₁ W₀ Md W (lwE L) (sg1 script R) [] s₂) (h : ∀ v s' W' σ, Fr (CL w) s₁ W₀ Md W' (lwE L) σ [] s' → Rd W' s'.heap v (.val (.bool true)) → Q (.ret v) s') : wpAny (CL w).M A (execs lawB1 (lwE L)) Q E s₂ := by
 have hR := lo.rlen
 have hne := lo.ne
 have hr : (rawsA R).length = R.length := by unfold rawsA; rw [List.length_map]
 have hd1 : ∀ {r : RowA}, r ∈ R.drop 1 → r ∈ R := fun h => List.mem_of_mem_drop h
 refine wpAny_execs_cons (st_usedM (xs := R.drop 1) (g := rowD) (f := fun r => .str (keyA r)) (σc := []) room.hh ok F (ev_sliceFromM (xs := R) (f := rowD) (a := 1) (Ev.name ok (by rfl)) (ev_litN 1) (by omega)) (Itr.lst room.hh) rowD_inj (by rw [List.length_drop]; omega) (by rfl) (by rfl) (by decide +kernel) (by rfl) (by decide +kernel) .nil (fun C => by kernel_rfl) (fun C r hr => ?_) (by kernel_rfl) fun s3 W3 F3 => ?_)
 ·refine Ev.bin Ev.str (ev_itemL (l := [.str r.1, .str r.2.1, thirdD r.2.2]) (k := 0) (Ev.name (compEnvC_ok ok (by rfl)) (by rfl)) (ev_litN 0) (by rfl) (by show 3 ≤ 1000000; decide)) (Bop.addS ?_)
  have := lo.keyLen r (hd1 hr)
  show 2 + r.1.length ≤ 1000000
  omega
 have e1 : (R.drop 1).map (fun r => D.str (keyA r)) = (keysA R).map .str := by unfold keysA; rw [List.map_map]; rfl
 rw [e1] at F3
 refine wpAny_execs_cons (st_usedM (xs := rawsA R) (g := optD) (f := fun x => optD (x.map (prepS w))) (σc := []) room.hh ok F3 (Ev.name ok (by rfl)) (Itr.lst room.hh) optD_inj (by omega) (by rfl) (by rfl) (by decide +kernel) (by rfl) (by decide +kernel) .nil (fun C => by kernel_rfl) (fun C x hx => ?_) (by kernel_rfl) fun s4 W4 F4 => ?_)
 ·cases x with
  | none =>
   exact Ev.ifExp (b := true) (Tv.cmp (d := .val .none) (Ev.name (compEnvC_ok ok (by rfl)) (by rfl)) Ev.none Cmp.isNone) (fun _ => Ev.none) (fun h => by cases h)
  | some x =>
   refine Ev.ifExp (b := false) (Tv.cmp (d := .str x) (Ev.name (compEnvC_ok ok (by rfl)) (by rfl)) Ev.none Cmp.isNone) (fun h => by cases h) (fun _ => ?_)
   exact Ev.call (Ev.glob (compEnvC_ok ok (by rfl)) (by rfl) (.inl (mg__law_prepare w))) (fn__law_prepare w) (EvA.plain (EvL.c (Ev.name (compEnvC_ok ok (by rfl)) (by rfl)) EvL.nil)) (pf_prepare w room x (lo.prepRaw x hx))
 have e2 : (rawsA R).map (fun x => optD (x.map (prepS w))) = (readyA w R).map optD := by unfold readyA; rw [List.map_map]; rfl
 rw [e2] at F4
 have hr0 : 0 < (rawsA R).length := by omega
 have hy : (readyA w R).length = R.length := by unfold readyA; rw [List.length_map]; exact hr
 refine wpAny_execs_cons (st_assign ok F4 (d := .str (writtenA R)) ?_ (.inl (by kernel_rfl)) fun s5 F5 => ?_)
 ·refine Ev.call (Ev.glob ok (by rfl) (.inl (mg__law_text_of w))) (fn__law_text_of w) (EvA.plain (EvL.c Ev.str (EvL.c ?_ (EvL.c ?_ (EvL.c ?_ EvL.nil))))) (pf_text w room "Kind" _ _ _ lo.text1)
  ·exact ev_at (xs := rawsA R) (k := 0) (Ev.name ok (by rfl)) (ev_litN 0) hr0 (by omega)
  ·exact Ev.name ok (by rfl)
  ·exact ev_sliceFromM (xs := rawsA R) (f := optD) (a := 1) (Ev.name ok (by rfl)) (ev_litN 1) (by omega)
 refine wpAny_execs_cons (st_assign ok F5 (d := .str (aheadA w R)) ?_ (.inl (by kernel_rfl)) fun s6 F6 => ?_)
 ·refine Ev.call (Ev.glob ok (by rfl) (.inl (mg__law_text_of w))) (fn__law_text_of w) (EvA.plain (EvL.c ?_ (EvL.c ?_ (EvL.c ?_ (EvL.c ?_ EvL.nil))))) (pf_text w room (prepS w "Kind") _ _ _ lo.text2)
  ·exact Ev.call (Ev.glob ok (by rfl) (.inl (mg__law_prepare w))) (fn__law_prepare w) (EvA.plain (EvL.c Ev.str EvL.nil)) (pf_prepare w room "Kind" lo.prepKind)
  ·exact ev_at (xs := readyA w R) (k := 0) (Ev.name ok (by rfl)) (ev_litN 0) (by omega) (by omega)
  ·rw [List.map_map]
   refine Ev.compM (xs := keysA R) (g := D.str) (f := fun k => .str (prepS w k)) (σc := []) room.hh ok (Ev.name ok (by rfl)) (Itr.lst room.hh) str_inj (by unfold keysA; rw [List.length_map, List.length_drop]; omega) (by rfl) (by decide +kernel) (by rfl) (by decide +kernel) .nil (fun C => by kernel_rfl) (fun C k hk => ?_)
   exact Ev.call (Ev.glob (compEnvC_ok ok (by rfl)) (by rfl) (.inl (mg__law_prepare w))) (fn__law_prepare w) (EvA.plain (EvL.c (Ev.name (compEnvC_ok ok (by rfl)) (by rfl)) EvL.nil)) (pf_prepare w room k (lo.prepKey k hk))
  ·exact ev_sliceFromM (xs := readyA w R) (f := optD) (a := 1) (Ev.name ok (by rfl)) (ev_litN 1) (by omega)
 exact law_due room ok lo F6 h
end
theorem pf_law (w : World) {A : Around} {n : Nat} (room : Room A (n + 9)) (script : List Int) (hsc : script.length ≤ 1000) (lo : LawOk w (readA script)) : Pf (CL w) A 300 [.lst (script.map .int)] [] (.val (.bool true)) := by
 intro W s E vs kvs base tok wo rl br
 cases br
 cases rl with
 | cons r1 rl =>
 cases rl
 refine enter (W₀ := W) (Md := fun _ => False) (μ := []) (σ := [("script", .lst (script.map .int))]) room (fn_law w) base tok wo (fun a h => h.elim) (binds := [("script", _)]) (.of_eq rfl) (fun L x hx => ?_) (by simp) (.cons r1 .nil) (fun a l h => nomatch h) (by simp) fun L W' s' E' _ _ ok F => ?_
 ·simp only [List.mem_singleton] at hx; subst hx; exact .inl (by kernel_rfl)
 ·have room' := room.deeper (lwE L)
  have hR := lo.rlen
  refine wpAny_execs_cons (st_assign ok F (d := .lst ((readA script).map rowD)) (Ev.call (Ev.glob ok (by rfl) (.inl (mg__law_read w))) (fn__law_read w) (EvA.plain (EvL.c (Ev.name ok (by rfl)) EvL.nil)) (pf_read w room' script hsc)) (.inr ⟨by kernel_rfl, _, by rfl⟩) fun s1 F1 => ?_)
  generalize hRR : readA script = R at lo hR F1
  refine wpAny_execs_cons (st_assign ok F1 (d := .lst ((rawsA R).map optD)) ?_ (.inr ⟨by kernel_rfl, _, by rfl⟩) (fun s2 F2 => ?_) (by rfl))
  ·have e : (rawsA R).map optD = R.map fun r => optD (rawA r) := by unfold rawsA; rw [List.map_map]; rfl
   rw [e]
   refine Ev.compM (xs := R) (g := rowD) (f := fun r => optD (rawA r)) (σc := []) room'.hh ok (Ev.name ok (by rfl)) (Itr.lst room'.hh) rowD_inj (by omega) (by rfl) (by decide +kernel) (by rfl) (by decide +kernel) .nil (fun C => by kernel_rfl) (fun C r hr => ?_)
   exact ev_texts (kk := 0) (pick := (·.1)) room'.hh (compEnvC_ok ok (by rfl)) (fun q => rfl) (by decide) (by rfl) (fun l hl => ⟨(lo.third r hr l hl).1, (lo.third r hr l hl).2.1⟩) (by rfl) (by decide +kernel) (by rfl) (by decide +kernel) (fun C => by kernel_rfl) (by rfl)
  refine wpAny_execs_cons (st_assign ok F2 (d := .lst ((foldsA R).map optD)) ?_ (.inr ⟨by kernel_rfl, _, by rfl⟩) (fun s3 F3 => ?_) (by rfl))
  ·have e : (foldsA R).map optD = R.map fun r => optD (foldA r) := by unfold foldsA; rw [List.map_map]; rfl
   rw [e]
   refine Ev.compM (xs := R) (g := rowD) (f := fun r => optD (foldA r)) (σc := []) room'.hh ok (Ev.name ok (by rfl)) (Itr.lst room'.hh) rowD_inj (by omega) (by rfl) (by decide +kernel) (by rfl) (by decide +kernel) .nil (fun C => by kernel_rfl) (fun C r hr => ?_)
   exact ev_texts (kk := 1) (pick := (·.2)) room'.hh (compEnvC_ok ok (by rfl)) (fun q => rfl) (by decide) (by rfl) (fun l hl => ⟨(lo.third r hr l hl).1, (lo.third r hr l hl).2.2⟩) (by rfl) (by decide +kernel) (by rfl) (by decide +kernel) (fun C => by kernel_rfl) (by rfl)
  exact law_mid room' ok lo F3 fun v s4 W4 σ F4 r => ⟨F4.up.kt, r.less F4.w0⟩
noncomputable def cl (x : Str) : List Nat := x.cps.toList
theorem cl_inj {x y : Str} (h : cl x = cl y) : x = y := Str.ext' (Array.toList_inj.mp h)
theorem cl_app (a b : Str) : cl (a ++ b) = cl a ++ cl b := by unfold cl; rw [Str.cps_append, Array.toList_append]
theorem cl_len (x : Str) : (cl x).length = x.length := by unfold cl; rw [Array.length_toList]; rfl
theorem cl_ch (k : Nat) : cl (ch k) = [k] := rfl
theorem cl_emp : cl "" = [] := by decide +kernel
noncomputable def glue (s : List Nat) : List (List Nat) → List Nat
 | [] => []
 | [x] => x
 | x :: y :: r => x ++ s ++ glue s (y :: r)
theorem cl_join (s : Str) : ∀ xs : List Str, cl (Txt.join s xs) = glue (cl s) (xs.map cl) := fun xs => by
 have e : Txt.join s xs = Str.join s xs := StrLaws.glued_eq_join s xs
 rw [e]
 induction xs with
 | nil => rfl
 | cons x r ih =>
  cases r with
  | nil => rfl
  | cons y r =>
   show cl (x ++ s ++ Str.join s (y :: r)) = cl x ++ cl s ++ glue (cl s) ((y :: r).map cl)
   rw [cl_app, cl_app, ← ih (StrLaws.glued_eq_join s (y :: r))]
theorem glue_nil : ∀ xs : List (List Nat), glue [] xs = xs.flatMap id
 | [] => rfl
 | [x] => by simp [glue]
 | x :: y :: r => by
  have := glue_nil (y :: r)
  rw [List.flatMap_cons, ← this]
  simp [glue]
theorem cl_join0 (xs : List Str) : cl (Txt.join "" xs) = xs.flatMap cl := by
 rw [cl_join, cl_emp, glue_nil, List.flatMap_map]; rfl
theorem flat_glue (f : Nat → List Nat) (s : List Nat) : ∀ xs : List (List Nat), (glue s xs).flatMap f = glue (s.flatMap f) (xs.map fun x => x.flatMap f)
 | [] => rfl
 | [x] => rfl
 | x :: y :: r => by
  have := flat_glue f s (y :: r)
  show (x ++ s ++ glue s (y :: r)).flatMap f = x.flatMap f ++ s.flatMap f ++ glue (s.flatMap f) ((y :: r).map fun x => x.flatMap f)
  rw [← this, List.flatMap_append, List.flatMap_append]
noncomputable def swap (c : Nat) (z : List Nat) (k : Nat) : List Nat := if k = c then z else [k]
theorem swap_free (c : Nat) (z : List Nat) : ∀ l : List Nat, c ∉ l → l.flatMap (swap c z) = l
 | [], _ => rfl
 | k :: r, h => by
  rw [List.flatMap_cons, swap_free c z r fun m => h (List.mem_cons_of_mem _ m)]
  unfold swap
  rw [if_neg fun e : k = c => h (by rw [e]; exact List.mem_cons_self ..)]; rfl
theorem glue_swap (c : Nat) (z : List Nat) : ∀ xs : List (List Nat), (∀ p ∈ xs, c ∉ p) → (glue [c] xs).flatMap (swap c z) = glue z xs := fun xs h => by
 rw [flat_glue]
 have e1 : [c].flatMap (swap c z) = z := by simp [swap]
 rw [e1]
 have : xs.map (fun x => x.flatMap (swap c z)) = xs := by
  have := List.map_congr_left (f := fun x => x.flatMap (swap c z)) (g := id) (l := xs) fun x hx => swap_free c z x (h x hx)
  rw [this, List.map_id]
 rw [this]
theorem cl_replace (x z : Str) (c : Nat) : cl (Txt.replace x ⟨#[c]⟩ z) = (cl x).flatMap (swap c (cl z)) := by
 have hj : ∀ s : Str, ∀ xs : List Str, cl (Str.join s xs) = glue (cl s) (xs.map cl) := fun s xs => by
  rw [← cl_join, ← StrLaws.glued_eq_join]; rfl
 rw [StrLaws.replace_one, hj, ← glue_swap c (cl z) ((Txt.split x ⟨#[c]⟩).map cl) fun p hp => by
  obtain ⟨q, hq, rfl⟩ := List.mem_map.mp hp
  exact StrLaws.split_free x c q hq]
 have := hj ⟨#[c]⟩ (Txt.split x ⟨#[c]⟩)
 rw [StrLaws.join_split] at this
 rw [this]; rfl
noncomputable def mk1 (k : Nat) : List Nat := if k = 34 ∨ k = 92 then [92, k] else [k]
theorem cl_marked (x : Str) : cl (markedS x) = (cl x).flatMap mk1 := by
 unfold markedS
 rw [cl_join0, List.flatMap_map]
 have : (fun k => cl (markS k)) = mk1 := by
  funext k
  unfold markS mk1
  split <;> rfl
 show (cl x).flatMap (fun k => cl (markS k)) = _
 rw [this]
theorem cl_quote (x : Str) : cl (quoteS x) = (cl x).flatMap mk1 := by
 unfold quoteS
 rw [cl_replace, cl_replace, List.flatMap_assoc]
 congr 1
 funext k
 show (swap 92 [92, 92] k).flatMap (swap 34 [92, 34]) = mk1 k
 unfold mk1 swap
 by_cases h : k = 92
 ·subst h; rfl
 ·rw [if_neg h]
  by_cases h2 : k = 34
  ·subst h2; rfl
  ·rw [if_neg (by omega)]
   simp [h2]
theorem quote_marked (x : Str) : quoteS x = markedS x := cl_inj (by rw [cl_quote, cl_marked])
theorem cl_prep (w : World) (x : Str) : cl (prepS w x) = (cl x).flatMap fun (k : Nat) => if inB1 w k then [] else cl (foldC k) := by
 unfold prepS
 rw [cl_join0, List.flatMap_map]
 show ((cl x).filter fun (k : Nat) => !(inB1 w k)).flatMap (fun k => cl (foldC k)) = _
 induction cl x with
 | nil => rfl
 | cons k r ih =>
  rw [List.flatMap_cons, ← ih]
  cases h : inB1 w (k : Nat) with
  | true => rw [List.filter_cons_of_neg (by rw [h]; decide)]; rfl
  | false => rw [List.filter_cons_of_pos (by rw [h]; rfl)]; rfl
theorem repl_k (x : Str) (h : 95 ∉ cl x) : repl (Str.ofString "k_" ++ x) = Str.ofString "k-" ++ x := cl_inj (by
 unfold repl
 rw [cl_replace, cl_app, cl_app, List.flatMap_append, swap_free 95 _ (cl x) h]
 rfl)
noncomputable def b1O : List Int := [65024, 65025, 65026, 65027, 65028, 65029, 6150, 65030, 65031, 65032, 65033, 6155, 6156, 6157, 8203, 8204, 8205, 65034, 65035, 65036, 65037, 65038, 65039, 173, 847, 8288, 65279]
noncomputable def b1K (k : Nat) : Bool := b1O.any fun i => Value.isInt (k : Int) (.int i 0)
theorem inB1_eq (w : World) (k : Nat) : inB1 w k = b1K k := by kernel_rfl
noncomputable def p1 (k : Nat) : List Nat := if b1K k = true then [] else cl (foldC k)
theorem cl_prep1 (w : World) (x : Str) : cl (prepS w x) = (cl x).flatMap p1 := by
 rw [cl_prep]
 have : (fun (k : Nat) => if inB1 w k then [] else cl (foldC k)) = p1 := by
  funext k
  rw [inB1_eq]; rfl
 rw [this]
noncomputable def okC (k : Nat) : Bool := decide (k < 0x110000) && (!Builtin.Str.tooLong (Txt.lower ⟨#[k]⟩).length && decide ((cl (foldC k)).length ≤ 3))
noncomputable def gdV (k : Nat) : Bool := (decide (31 < k) && decide (k ≠ 127)) || decide (k = 9)
noncomputable def gdN (k : Nat) : Bool := decide (31 < k) && decide (k ≠ 127)
noncomputable def sgC (c : Nat) (f : List Nat) : Bool := okC c && (gdV c && ((p1 c == f) && (decide (f.length ≤ 3) && (f.all (fun k => okC k && gdV k) && (if c = 34 ∨ c = 92 then f == [c] else !f.contains 34 && !f.contains 92)))))
theorem sgn0 : ∀ j < 26, sgC (97 + j) [97 + j] = true := by decide +kernel
theorem sgn1 : ∀ j < 26, sgC (65 + j) [97 + j] = true := by decide +kernel
theorem sgn2 : ∀ s ∈ styles, ∀ j < 26, sgC (119808 + 52 * s + j) [97 + j] = true := by decide +kernel
theorem sgn3 : ∀ j < 27, sgC (if j < 11 then unseens.getD j 0 else 65013 + j) [] = true := by decide +kernel
theorem sgn4 : ∀ j < 8, sgC (if j < 7 then 64256 + j else 223) (cl (ligs.getD j "")) = true := by decide +kernel
theorem sgn5 : ∀ j < 2, sgC (marks.getD j 0) [marks.getD j 0] = true := by decide +kernel
theorem sgn6 : ∀ j < 8, sgC (ascs.getD j 0) [ascs.getD j 0] = true := by decide +kernel
theorem sgn7 : ∀ j < 32, sgC (1040 + j) [1072 + j] = true := by decide +kernel
theorem sty_at (j : Nat) (h : j < 10) : styles.getD j 0 ∈ styles := by
 have : ∀ j < 10, styles.getD j 0 ∈ styles := by decide
 exact this j h
theorem sg_sign (k r : Nat) (hk : k < 8) : ∃ c, cl (signOf k r).1 = [c] ∧ sgC c (cl (signOf k r).2) = true := by
 unfold signOf
 by_cases h0 : k = 0
 ·rw [if_pos h0]; exact ⟨_, rfl, sgn0 _ (Nat.mod_lt _ (by decide))⟩
 rw [if_neg h0]
 by_cases h1 : k = 1
 ·rw [if_pos h1]; exact ⟨_, rfl, sgn1 _ (Nat.mod_lt _ (by decide))⟩
 rw [if_neg h1]
 by_cases h2 : k = 2
 ·rw [if_pos h2]; exact ⟨_, rfl, sgn2 _ (sty_at _ (Nat.mod_lt _ (by decide))) _ (Nat.mod_lt _ (by decide))⟩
 rw [if_neg h2]
 by_cases h3 : k = 3
 ·rw [if_pos h3]; exact ⟨_, rfl, by show sgC _ (cl "") = true; rw [cl_emp]; exact sgn3 _ (Nat.mod_lt _ (by decide))⟩
 rw [if_neg h3]
 by_cases h4 : k = 4
 ·rw [if_pos h4]; exact ⟨_, rfl, sgn4 _ (Nat.mod_lt _ (by decide))⟩
 rw [if_neg h4]
 by_cases h5 : k = 5
 ·rw [if_pos h5]; exact ⟨_, rfl, sgn5 _ (Nat.mod_lt _ (by decide))⟩
 rw [if_neg h5]
 by_cases h6 : k = 6
 ·rw [if_pos h6]; exact ⟨_, rfl, sgn6 _ (Nat.mod_lt _ (by decide))⟩
 rw [if_neg h6]
 exact ⟨_, rfl, sgn7 _ (Nat.mod_lt _ (by decide))⟩
noncomputable def clsOf (x : Str) : Bool := (cl x).all okC && (cl x).all gdN && decide (x.length ≤ 2) && !(cl x).contains 95
theorem way_ok : ∀ z < 24, clsOf (wayOf z) = true ∧ clsOf (letterOf z) = true ∧ (cl (wayOf z)).flatMap p1 = cl (letterOf z) := by decide +kernel
theorem fix_k : (cl (Str.ofString "k_")).flatMap p1 = cl (Str.ofString "k_") ∧ (cl (Str.ofString "k-")).flatMap p1 = cl (Str.ofString "k-") ∧ (cl "Kind").flatMap p1 = cl "kind" := by decide +kernel
theorem fix_s : (cl (Str.ofString ": ")).flatMap p1 = cl (Str.ofString ": ") ∧ (cl (Str.ofString "; ")).flatMap p1 = cl (Str.ofString "; ") ∧ (cl (Str.ofString "\r\n\r\n")).flatMap p1 = cl (Str.ofString "\r\n\r\n") ∧ (cl (Str.ofString "=")).flatMap p1 = cl (Str.ofString "=") ∧ p1 34 = [34] ∧ p1 92 = [92] := by decide +kernel
theorem zipIdx_lt {ws : List Str} {q : Str × Nat} (h : q ∈ ws.zipIdx) : ws[q.2]? = some q.1 := List.mk_mem_zipIdx_iff_getElem?.mp (by cases q; exact h)
theorem firsts_snoc (ws : List Str) (x : Str) : firstsA (ws ++ [x]) = if x ∈ ws then firstsA ws else firstsA ws ++ [x] := by
 unfold firstsA
 rw [List.zipIdx_append, List.filter_append, List.map_append]
 have e1 : ws.zipIdx.filter (fun q => !((ws ++ [x]).take q.2).contains q.1) = ws.zipIdx.filter (fun q => !(ws.take q.2).contains q.1) := by
  refine List.filter_congr fun q hq => ?_
  have : q.2 < ws.length := (List.getElem?_eq_some_iff.mp (zipIdx_lt hq)).1
  rw [List.take_append_of_le_length (by omega)]
 rw [e1]
 have e2 : ([x] : List Str).zipIdx (0 + ws.length) = [(x, ws.length)] := by simp
 rw [e2]
 by_cases h : x ∈ ws
 ·rw [if_pos h, List.filter_cons_of_neg (by
   show ¬ (!((ws ++ [x]).take ws.length).contains x) = true
   rw [List.take_left, List.contains_iff_mem.mpr h]; decide)]
  simp
 ·rw [if_neg h, List.filter_cons_of_pos (by
   show (!((ws ++ [x]).take ws.length).contains x) = true
   rw [List.take_left]
   have : ws.contains x = false := by
    cases e : ws.contains x with
    | false => rfl
    | true => exact (h (List.contains_iff_mem.mp e)).elim
   rw [this]; rfl)]
  simp
theorem last_snoc (ws : List Str) (x y : Str) : lastOf (ws ++ [x]) y = if x = y then ws.length else lastOf ws y := by
 unfold lastOf placesOf
 rw [List.zipIdx_append, List.filter_append, List.map_append]
 have e2 : ([x] : List Str).zipIdx (0 + ws.length) = [(x, ws.length)] := by simp
 rw [e2]
 by_cases h : x = y
 ·rw [if_pos h, List.filter_cons_of_pos (by simp [h])]
  simp
 ·rw [if_neg h, List.filter_cons_of_neg (by simp [h])]
  simp
theorem last_at {ws : List Str} {y : Str} (h : y ∈ ws) : ws[lastOf ws y]? = some y := by
 obtain ⟨init, e⟩ := places_ne h
 have hm : lastOf ws y ∈ placesOf ws y := by rw [e]; exact List.mem_append_right _ (List.mem_cons_self ..)
 unfold placesOf at hm
 obtain ⟨q, hq, e2⟩ := List.mem_map.mp hm
 obtain ⟨h1, h2⟩ := List.mem_filter.mp hq
 have := zipIdx_lt h1
 rw [e2, eq_of_beq h2] at this
 exact this
theorem last_lt {ws : List Str} {y : Str} (h : y ∈ ws) : lastOf ws y < ws.length := (List.getElem?_eq_some_iff.mp (last_at h)).1
theorem snoc_ind {α : Type} {P : List α → Prop} (h0 : P []) (h1 : ∀ l x, P l → P (l ++ [x])) (l : List α) : P l := by
 have : ∀ n (l : List α), l.length = n → P l := fun n => by
  induction n with
  | zero => intro l h; rw [List.length_eq_zero_iff.mp h]; exact h0
  | succ n ih =>
   intro l h
   have hne : l ≠ [] := fun q => by subst q; cases h
   rw [← List.dropLast_concat_getLast hne]
   exact h1 _ _ (ih _ (by rw [List.length_dropLast]; omega))
 exact this _ l rfl
theorem firsts_iff (x : Str) : ∀ ws : List Str, x ∈ firstsA ws ↔ x ∈ ws := by
 refine snoc_ind (by simp [firstsA]) fun ws y ih => ?_
 rw [firsts_snoc]
 by_cases h : y ∈ ws
 ·rw [if_pos h, ih, List.mem_append, List.mem_singleton]
  exact ⟨.inl, fun q => q.elim id fun q => by rw [q]; exact h⟩
 ·rw [if_neg h, List.mem_append, List.mem_append, ih]
theorem firsts_nodup : ∀ ws : List Str, (firstsA ws).Nodup := by
 refine snoc_ind (by simp [firstsA]) fun ws y ih => ?_
 rw [firsts_snoc]
 by_cases h : y ∈ ws
 ·rw [if_pos h]; exact ih
 ·rw [if_neg h, List.nodup_append]
  refine ⟨ih, by simp, fun a ha b hb => ?_⟩
  rw [List.mem_singleton] at hb
  subst hb
  exact fun q => h (by rw [← q]; exact (firsts_iff _ _).mp ha)
theorem firsts_len (ws : List Str) : (firstsA ws).length ≤ ws.length := by
 unfold firstsA
 rw [List.length_map]
 refine Nat.le_trans (List.length_filter_le _ _) ?_
 rw [List.length_zipIdx]; exact Nat.le_refl _
theorem dict_eq (κ : Str → Str) (inj : ∀ x y, κ x = κ y → x = y) : ∀ (ws : List Str) (vs : List (Option Str)), ws.length = vs.length → dictA ((ws.map κ).zip vs) = (firstsA ws).map fun x => (κ x, vs.getD (lastOf ws x) none) := by
 refine snoc_ind (fun vs h => by cases vs <;> simp [dictA, firstsA]) fun ws x ih vs h => ?_
 have hne : vs ≠ [] := fun q => by subst q; simp at h
 rw [← List.dropLast_concat_getLast hne] at h ⊢
 generalize vs.dropLast = us at h ⊢
 generalize vs.getLast hne = v at h ⊢
 have hl : ws.length = us.length := by simpa using h
 rw [List.map_append, List.zip_append (by rw [List.length_map]; exact hl)]
 have e1 : ∀ a (p : Str × Option Str), dictA (a ++ [p]) = oset (dictA a) p.1 p.2 := fun a p => by unfold dictA; rw [List.foldl_append]; rfl
 have e2 : (([x] : List Str).map κ).zip [v] = [(κ x, v)] := rfl
 rw [e2, e1, ih us hl, firsts_snoc]
 have g : ∀ y ∈ firstsA ws, ¬ x = y → (us ++ [v]).getD (lastOf (ws ++ [x]) y) none = us.getD (lastOf ws y) none := fun y hy hne => by
  rw [last_snoc, if_neg hne, List.getD_eq_getElem?_getD, List.getD_eq_getElem?_getD, List.getElem?_append_left]
  have := last_lt ((firsts_iff _ _).mp hy)
  omega
 have g2 : (us ++ [v]).getD (lastOf (ws ++ [x]) x) none = v := by
  rw [last_snoc, if_pos rfl, List.getD_eq_getElem?_getD, hl]; simp
 unfold oset
 by_cases hx : x ∈ ws
 ·rw [if_pos hx, if_pos (by
   rw [List.any_map, List.any_eq_true]
   exact ⟨x, (firsts_iff _ _).mpr hx, by simp⟩), List.map_map]
  refine List.map_congr_left fun y hy => ?_
  show (if κ y = κ x then (κ y, v) else (κ y, _)) = _
  by_cases e : x = y
  ·subst e; rw [if_pos rfl, g2]
  ·rw [if_neg fun q => e (inj _ _ q.symm), g y hy e]
 ·rw [if_neg hx, if_neg (by
   rw [List.any_map, List.any_eq_true]
   rintro ⟨y, hy, e⟩
   exact hx (by rw [← inj _ _ (of_decide_eq_true e)]; exact (firsts_iff _ _).mp hy)), List.map_append]
  refine congr (congrArg _ (List.map_congr_left fun y hy => ?_)) ?_
  ·rw [g y hy fun q => hx (by rw [q]; exact (firsts_iff _ _).mp hy)]
  ·show [(κ x, v)] = [(κ x, _)]
   rw [g2]
noncomputable def kk (x : Str) : Str := Str.ofString "k_" ++ x
theorem kk_inj (x y : Str) (h : kk x = kk y) : x = y := cl_inj (by
 have := congrArg cl h
 unfold kk at this
 rw [cl_app, cl_app] at this
 exact List.append_cancel_left this)
theorem len_zero {a : Str} (h : ¬ a.length > 0) : a = "" := cl_inj (by
 have : (cl a).length = 0 := by rw [cl_len]; omega
 rw [List.length_eq_zero_iff.mp this, cl_emp])
theorem part_eq {x : Str} (h : 95 ∉ cl x) (v : Option Str) : partS (kk x, v) = partA x v (v.getD "") := by
 unfold partS partA
 cases v with
 | none => exact repl_k x h
 | some a =>
  show fmtS (repl (kk x)) a = if a = "" then Str.ofString "k-" ++ x else Str.ofString "k-" ++ x ++ Str.ofString "=" ++ ch 34 ++ markedS a ++ ch 34
  have e := repl_k x h
  unfold fmtS
  rw [show repl (kk x) = _ from e]
  by_cases hz : a.length > 0
  ·rw [if_pos hz, if_neg (fun q => by subst q; exact absurd hz (by decide +kernel)), quote_marked]
   refine cl_inj ?_
   simp only [cl_app, List.append_assoc]
   rfl
  ·rw [if_neg hz, if_pos (len_zero hz)]
noncomputable def partOf (xs : List Str) (vs : List (Option Str)) (i : Nat) : Str := partA (xs.getD i "") (vs.getD i none) ((vs.getD i none).getD "")
theorem parts_eq {xs : List Str} {vs : List (Option Str)} (hl : xs.length = vs.length) (hx : ∀ x ∈ xs, 95 ∉ cl x) : (dictA ((xs.map kk).zip vs)).map partS = (lastPlaces xs).map (partOf xs vs) := by
 rw [dict_eq kk kk_inj xs vs hl, List.map_map]
 unfold lastPlaces
 rw [List.map_map]
 refine List.map_congr_left fun x hm => ?_
 have hm' := (firsts_iff _ _).mp hm
 show partS (kk x, _) = partOf xs vs (lastOf xs x)
 rw [part_eq (hx x hm')]
 unfold partOf
 have : xs.getD (lastOf xs x) "" = x := by rw [List.getD_eq_getElem?_getD, last_at hm']; rfl
 rw [this]
theorem tab_one (name h : Str) : tabS [(name, h)] = name ++ Str.ofString ": " ++ h ++ Str.ofString "\r\n\r\n" := cl_inj (by
 unfold tabS linesOf
 rw [cl_join]
 show cl (lineS (name, h)) ++ cl (Str.ofString "\r\n") ++ (cl (Str.ofString "") ++ cl (Str.ofString "\r\n") ++ cl (Str.ofString "")) = _
 rw [cl_app (name ++ Str.ofString ": " ++ h), List.append_assoc]
 rfl)
theorem text_eq (name : Str) (own : Option Str) {xs : List Str} {vs : List (Option Str)} (hl : xs.length = vs.length) (hx : ∀ x ∈ xs, 95 ∉ cl x) : textOf name own (xs.map kk) vs = lineA name own ((lastPlaces xs).map (partOf xs vs)) := by
 unfold textOf
 rw [tab_one]
 unfold headS partsOf lineA
 rw [parts_eq hl hx]
section
variable (w : World)
theorem prep_app (a b : Str) : prepS w (a ++ b) = prepS w a ++ prepS w b := cl_inj (by rw [cl_prep1, cl_app, cl_app, cl_prep1, cl_prep1, List.flatMap_append])
theorem prep_join (s : Str) (xs : List Str) : prepS w (Txt.join s xs) = Txt.join (prepS w s) (xs.map (prepS w)) := cl_inj (by
 rw [cl_prep1, cl_join, flat_glue, cl_join, cl_prep1, List.map_map, List.map_map]
 congr 1
 refine List.map_congr_left fun x _ => ?_
 show (cl x).flatMap p1 = cl (prepS w x)
 rw [cl_prep1])
theorem prep_of {a b : Str} (h : (cl a).flatMap p1 = cl b) : prepS w a = b := cl_inj (by rw [cl_prep1, h])
theorem prep_ch34 : prepS w (ch 34) = ch 34 := prep_of w (by rw [cl_ch]; show p1 34 ++ [] = _; rw [fix_s.2.2.2.2.1]; rfl)
theorem prep_line {name name' : Str} {own own' : Option Str} {ps ps' : List Str} (h1 : prepS w name = name') (h2 : own.map (prepS w) = own') (h3 : ps.map (prepS w) = ps') : prepS w (lineA name own ps) = lineA name' own' ps' := by
 subst h1 h2 h3
 unfold lineA
 rw [prep_app, prep_app, prep_app, prep_join, prep_of w fix_s.1, prep_of w fix_s.2.1, prep_of w fix_s.2.2.1, List.map_append]
 cases own <;> rfl
structure Folds (a b : Str) : Prop where
 fold : (cl a).flatMap p1 = cl b
 mark : ((cl a).flatMap mk1).flatMap p1 = (cl b).flatMap mk1
theorem prep_part {way letter : Str} {asked : Option Str} {a b : Str} (hw : (cl way).flatMap p1 = cl letter) (hf : Folds a b) : prepS w (partA way asked a) = partA letter asked b := by
 have hk : prepS w (Str.ofString "k-" ++ way) = Str.ofString "k-" ++ letter := by rw [prep_app, prep_of w fix_k.2.1, prep_of w hw]
 unfold partA
 cases asked with
 | none => exact hk
 | some q =>
  show prepS w (if q = "" then _ else _) = if q = "" then _ else _
  by_cases hz : q = ""
  ·rw [if_pos hz, if_pos hz]; exact hk
  ·rw [if_neg hz, if_neg hz, prep_app, prep_app, prep_app, prep_app, hk, prep_ch34, prep_of w fix_s.2.2.2.1]
   have : prepS w (markedS a) = markedS b := prep_of w (by rw [cl_marked, cl_marked]; exact hf.mark)
   rw [this]
end
structure Tx (N : Nat) (x : Str) : Prop where
 len : x.length ≤ N
 ok : ∀ k ∈ cl x, okC k = true
theorem Tx.mono {N M : Nat} {x : Str} (h : Tx N x) (k : N ≤ M) : Tx M x := ⟨Nat.le_trans h.len k, h.ok⟩
theorem Tx.app {N M : Nat} {x y : Str} (h : Tx N x) (k : Tx M y) : Tx (N + M) (x ++ y) := by
 refine ⟨?_, fun c hc => ?_⟩
 ·rw [Str.length_append]; have := h.len; have := k.len; omega
 ·rw [cl_app] at hc
  exact (List.mem_append.mp hc).elim (h.ok c) (k.ok c)
theorem Tx.of {N : Nat} {x : Str} (h : ((cl x).all okC && decide (x.length ≤ N)) = true) : Tx N x := by
 rw [Bool.and_eq_true] at h
 exact ⟨of_decide_eq_true h.2, List.all_eq_true.mp h.1⟩
theorem glue_len {b : Nat} (s : List Nat) : ∀ xs : List (List Nat), (∀ x ∈ xs, x.length ≤ b) → (glue s xs).length ≤ xs.length * (b + s.length)
 | [], _ => by simp [glue]
 | [x], h => by
  have := h x (List.mem_cons_self ..)
  show x.length ≤ 1 * (b + s.length)
  omega
 | x :: y :: r, h => by
  have h1 := h x (List.mem_cons_self ..)
  have h2 := glue_len s (y :: r) fun z hz => h z (List.mem_cons_of_mem _ hz)
  show (x ++ s ++ glue s (y :: r)).length ≤ (y :: r).length.succ * (b + s.length)
  rw [List.length_append, List.length_append, Nat.succ_mul]
  omega
theorem glue_mem {s : List Nat} {k : Nat} : ∀ {xs : List (List Nat)}, k ∈ glue s xs → k ∈ s ∨ ∃ x ∈ xs, k ∈ x
 | [], h => nomatch h
 | [x], h => .inr ⟨x, List.mem_cons_self .., h⟩
 | x :: y :: r, h => by
  have h' : k ∈ x ++ s ++ glue s (y :: r) := h
  rw [List.mem_append, List.mem_append] at h'
  rcases h' with (q | q) | q
  ·exact .inr ⟨x, List.mem_cons_self .., q⟩
  ·exact .inl q
  ·rcases glue_mem q with q | ⟨z, hz, q⟩
   ·exact .inl q
   ·exact .inr ⟨z, List.mem_cons_of_mem _ hz, q⟩
theorem Tx.join {N S : Nat} {s : Str} {xs : List Str} (hs : Tx S s) (h : ∀ x ∈ xs, Tx N x) : Tx (xs.length * (N + S)) (Txt.join s xs) := by
 refine ⟨?_, fun c hc => ?_⟩
 ·rw [← cl_len, cl_join]
  have h1 := glue_len (b := N) (cl s) (xs.map cl) fun y hy => by
   obtain ⟨x, hx, rfl⟩ := List.mem_map.mp hy
   rw [cl_len]; exact (h x hx).len
  rw [List.length_map] at h1
  refine Nat.le_trans h1 (Nat.mul_le_mul_left _ ?_)
  rw [cl_len]; have := hs.len; omega
 ·rw [cl_join] at hc
  rcases glue_mem hc with q | ⟨y, hy, q⟩
  ·exact hs.ok c q
  ·obtain ⟨x, hx, rfl⟩ := List.mem_map.mp hy
   exact (h x hx).ok c q
theorem flat_len {f : Nat → List Nat} {b : Nat} (h : ∀ k, (f k).length ≤ b) : ∀ l : List Nat, (l.flatMap f).length ≤ l.length * b
 | [] => by simp
 | k :: l => by
  have h1 := h k
  have h2 := flat_len h l
  rw [List.flatMap_cons, List.length_append, List.length_cons, Nat.succ_mul]
  omega
theorem mk1_len (k : Nat) : (mk1 k).length ≤ 2 := by unfold mk1; split <;> simp
theorem okC92 : okC 92 = true := by decide +kernel
theorem Tx.marked {N : Nat} {x : Str} (h : Tx N x) : Tx (N * 2) (markedS x) := by
 refine ⟨?_, fun c hc => ?_⟩
 ·rw [← cl_len, cl_marked]
  refine Nat.le_trans (flat_len mk1_len _) ?_
  rw [cl_len]
  exact Nat.mul_le_mul_right _ h.len
 ·rw [cl_marked] at hc
  obtain ⟨k, hk, hc⟩ := List.mem_flatMap.mp hc
  unfold mk1 at hc
  split at hc
  ·simp only [List.mem_cons, List.not_mem_nil, or_false] at hc
   rcases hc with rfl | rfl
   ·exact okC92
   ·exact h.ok _ hk
  ·simp only [List.mem_cons, List.not_mem_nil, or_false] at hc
   subst hc; exact h.ok _ hk
theorem okC_lt {k : Nat} (h : okC k = true) : k < 0x110000 := by
 unfold okC at h
 rw [Bool.and_eq_true] at h
 exact of_decide_eq_true h.1
theorem okC_fit {k : Nat} (h : okC k = true) : Builtin.Str.tooLong (Txt.lower ⟨#[k]⟩).length = false ∧ (foldC k).length ≤ 3 := by
 unfold okC at h
 rw [Bool.and_eq_true, Bool.and_eq_true] at h
 refine ⟨by simpa using h.2.1, ?_⟩
 have := of_decide_eq_true h.2.2
 rwa [cl_len] at this
theorem Tx.str {N : Nat} {x : Str} (h : Tx N x) : PyData.strOk x = true := by
 unfold PyData.strOk
 rw [Array.all_eq_true_iff_forall_mem]
 exact fun k hk => decide_eq_true (okC_lt (h.ok k (Array.mem_toList_iff.mpr hk)))
theorem joinB {sep : Str} {xs : List Str} {B : Nat} (hB : ∀ y ∈ xs, y.length ≤ B) (h : xs.length * (B + sep.length) ≤ 16777216) : JoinOk sep xs = true := by
 have := StrLaws.joinFits (sep := sep) hB (by rw [← Nat.mul_add]; exact h)
 unfold JoinOk
 rw [this]; rfl
theorem Tx.prepOk {N : Nat} {x : Str} (w : World) (h : Tx N x) (hN : N ≤ 100000) : PrepOk w x := by
 have hl := h.len
 refine ⟨fun k hk => (okC_fit (h.ok k hk)).1, ?_, ?_⟩
 ·refine joinB (B := 3) (fun y hy => ?_) ?_
  ·obtain ⟨k, hk, rfl⟩ := List.mem_map.mp hy
   exact (okC_fit (h.ok k (List.mem_filter.mp hk).1)).2
  ·rw [List.length_map]
   have h1 := List.length_filter_le (fun (k : Nat) => !(inB1 w k)) x.cps.toList
   have h2 : x.cps.toList.length = x.length := cl_len x
   have : ("" : Str).length = 0 := by decide +kernel
   rw [this]; omega
 ·have : x.cps.size = x.length := rfl
  omega
structure Val (x : Str) : Prop where
 tx : Tx 60 x
 gd : ∀ k ∈ cl x, gdV k = true
theorem Val.good {x : Str} (h : Val x) : GoodB false x := by
 refine ⟨fun k hk => ?_, ?_⟩
 ·have := h.gd k hk
  unfold gdV at this
  simp only [Bool.or_eq_true, Bool.and_eq_true, decide_eq_true_eq] at this
  rcases this with q | q
  ·exact .inl q
  ·exact .inr ⟨rfl, q⟩
 ·have := h.tx.len
  show x.length ≤ _
  omega
structure Nme (x : Str) : Prop where
 tx : Tx 2 x
 gd : ∀ k ∈ cl x, gdN k = true
 no : 95 ∉ cl x
theorem Nme.of {x : Str} (h : clsOf x = true) : Nme x := by
 unfold clsOf at h
 simp only [Bool.and_eq_true] at h
 obtain ⟨⟨⟨h1, h2⟩, h3⟩, h4⟩ := h
 refine ⟨⟨of_decide_eq_true h3, List.all_eq_true.mp h1⟩, List.all_eq_true.mp h2, fun q => ?_⟩
 rw [List.contains_iff_mem.mpr q] at h4
 cases h4
theorem goodN {N : Nat} {x : Str} (h : Tx N x) (hN : N ≤ 1000000) (g : ∀ k ∈ cl x, gdN k = true) : GoodB true x := by
 refine ⟨fun k hk => ?_, Nat.le_trans h.len hN⟩
 have := g k hk
 unfold gdN at this
 simp only [Bool.and_eq_true, decide_eq_true_eq] at this
 exact .inl this
theorem tx_k_ : Tx 2 (Str.ofString "k_") := .of (by decide +kernel)
theorem tx_k : Tx 2 (Str.ofString "k-") := .of (by decide +kernel)
theorem tx_col : Tx 2 (Str.ofString ": ") := .of (by decide +kernel)
theorem tx_semi : Tx 2 (Str.ofString "; ") := .of (by decide +kernel)
theorem tx_end : Tx 4 (Str.ofString "\r\n\r\n") := .of (by decide +kernel)
theorem tx_eq : Tx 1 (Str.ofString "=") := .of (by decide +kernel)
theorem tx_quo : Tx 1 (ch 34) := .of (by decide +kernel)
theorem gd_k_ : ∀ k ∈ cl (Str.ofString "k_"), gdN k = true := List.all_eq_true.mp (by decide +kernel)
theorem Nme.key {x : Str} (h : Nme x) : Tx 4 (kk x) := tx_k_.app h.tx
theorem Nme.goodKey {x : Str} (h : Nme x) : GoodB true (kk x) := goodN h.key (by decide) fun k hk => by
 unfold kk at hk
 rw [cl_app] at hk
 exact (List.mem_append.mp hk).elim (gd_k_ k) (h.gd k)
theorem Nme.away {x : Str} : kk x ∉ [("self" : Str), "_name", "_value"] := fun h => by
 have e : (cl (kk x)).head? = some 107 := by unfold kk; rw [cl_app]; rfl
 simp only [List.mem_cons, List.not_mem_nil, or_false] at h
 rcases h with h | h | h
 ·rw [h] at e; exact absurd e (by decide +kernel)
 ·rw [h] at e; exact absurd e (by decide +kernel)
 ·rw [h] at e; exact absurd e (by decide +kernel)
theorem tx_part {key : Str} {asked : Option Str} {text : Str} (hk : Nme key) (ht : asked.isSome = true → Tx 60 text) : Tx 130 (partA key asked text) := by
 unfold partA
 cases asked with
 | none => exact (tx_k.app hk.tx).mono (by decide)
 | some a =>
  show Tx 130 (if a = "" then _ else _)
  split
  ·exact (tx_k.app hk.tx).mono (by decide)
  ·exact (((((tx_k.app hk.tx).app tx_eq).app tx_quo).app (ht rfl).marked).app tx_quo).mono (by decide)
theorem tx_nil : Tx 0 "" := .of (by decide +kernel)
theorem tx_opt {v : Option Str} (h : ∀ x, v = some x → Val x) : Tx 60 (v.getD "") := by
 cases v with
 | none => exact tx_nil.mono (by decide)
 | some x => exact (h x rfl).tx
theorem tx_pieces {own : Option Str} {parts : List Str} (ho : ∀ x, own = some x → Val x) (hp : ∀ x ∈ parts, Tx 130 x) : ∀ x ∈ own.toList ++ parts, Tx 130 x := fun x hx => by
 rcases List.mem_append.mp hx with q | q
 ·exact (ho x (Option.mem_toList.mp q)).tx.mono (by decide)
 ·exact hp x q
theorem pieces_len (own : Option Str) (parts : List Str) : (own.toList ++ parts).length ≤ parts.length + 1 := by
 rw [List.length_append]
 have : own.toList.length ≤ 1 := by cases own <;> simp
 omega
theorem tx_head {own : Option Str} {parts : List Str} (ho : ∀ x, own = some x → Val x) (hp : ∀ x ∈ parts, Tx 130 x) (hl : parts.length ≤ 100) : Tx 14000 (Txt.join (Str.ofString "; ") (own.toList ++ parts)) := by
 refine (Tx.join tx_semi (tx_pieces ho hp)).mono ?_
 have := pieces_len own parts
 omega
theorem tx_line {name : Str} {own : Option Str} {parts : List Str} (hn : Tx 4 name) (ho : ∀ x, own = some x → Val x) (hp : ∀ x ∈ parts, Tx 130 x) (hl : parts.length ≤ 100) : Tx 15000 (lineA name own parts) :=
 (((hn.app tx_col).app (tx_head ho hp hl)).app tx_end).mono (by decide)
theorem join_ok {own : Option Str} {parts : List Str} (ho : ∀ x, own = some x → Val x) (hp : ∀ x ∈ parts, Tx 130 x) (hl : parts.length ≤ 100) : JoinOk (Str.ofString "; ") (own.toList ++ parts) = true := by
 refine joinB (B := 130) (fun y hy => (tx_pieces ho hp y hy).len) ?_
 have := pieces_len own parts
 show _ * (130 + 2) ≤ _
 omega
theorem line_ok {name : Str} {own : Option Str} {parts : List Str} (hn : Tx 4 name) (ho : ∀ x, own = some x → Val x) (hp : ∀ x ∈ parts, Tx 130 x) (hl : parts.length ≤ 100) : LineOk name own parts :=
 ⟨Nat.le_trans hn.len (by decide), by omega, join_ok ho hp hl, Nat.le_trans (tx_head ho hp hl).len (by decide)⟩
theorem part_ok {key : Str} {asked text : Option Str} (hk : Nme key) (ha : ∀ x, asked = some x → Val x) (ht : ∀ x, text = some x → Val x) (hs : asked.isSome = true → text.isSome = true) : PartOk key asked text := by
 refine ⟨Nat.le_trans hk.tx.len (by decide), fun a e => (ha a e).tx.str, fun a e _ => ?_⟩
 obtain ⟨t, et⟩ := Option.isSome_iff_exists.mp (hs (by rw [e]; rfl))
 have hv := ht t et
 refine ⟨t, et, hv.tx.str, Nat.le_trans hv.tx.len (by decide), joinB (B := 2) (fun y hy => ?_) ?_, Nat.le_trans hv.tx.marked.len (by decide)⟩
 ·obtain ⟨k, _, rfl⟩ := List.mem_map.mp hy
  unfold markS
  split
  ·rw [Str.length_append]; exact Nat.le_refl 2
  ·show 1 ≤ 2; decide
 ·rw [List.length_map]
  have h2 : t.cps.toList.length = t.length := cl_len t
  have := hv.tx.len
  have : ("" : Str).length = 0 := by decide +kernel
  rw [this]; omega
theorem mem_getD {vs : List (Option Str)} {i : Nat} {x : Str} (h : vs.getD i none = some x) : some x ∈ vs := by
 rw [List.getD_eq_getElem?_getD] at h
 cases e : vs[i]? with
 | none => rw [e] at h; cases h
 | some v => rw [e] at h; exact List.mem_of_getElem? (by rw [e]; exact congrArg some h)
theorem text_ok {name : Str} {own : Option Str} {xs : List Str} {vs : List (Option Str)} (hn : Tx 4 name) (hg : ∀ k ∈ cl name, gdN k = true) (ho : ∀ x, own = some x → Val x) (hx : ∀ x ∈ xs, Nme x) (hv : ∀ x, some x ∈ vs → Val x) (hl : xs.length = vs.length) (hs : xs.length ≤ 100) : TextOk name own (xs.map kk) vs := by
 have hd := dict_eq kk kk_inj xs vs hl
 have hfl := firsts_len xs
 have hp : ∀ p ∈ dictA ((xs.map kk).zip vs), ∃ x, Nme x ∧ p.1 = kk x ∧ (∀ y, p.2 = some y → Val y) := fun p hp => by
  rw [hd] at hp
  obtain ⟨x, hm, rfl⟩ := List.mem_map.mp hp
  exact ⟨x, hx x ((firsts_iff _ _).mp hm), rfl, fun y e => hv y (mem_getD e)⟩
 have hdl : (dictA ((xs.map kk).zip vs)).length ≤ 100 := by rw [hd, List.length_map]; omega
 have hparts : ∀ y ∈ (dictA ((xs.map kk).zip vs)).map partS, Tx 130 y := fun y hy => by
  obtain ⟨p, hm, rfl⟩ := List.mem_map.mp hy
  obtain ⟨x, hx1, hx2, hx3⟩ := hp p hm
  obtain ⟨p1, p2⟩ := p
  simp only at hx2 hx3
  subst hx2
  rw [part_eq hx1.no]
  exact tx_part hx1 fun _ => tx_opt hx3
 have hpl : ((dictA ((xs.map kk).zip vs)).map partS).length ≤ 100 := by rw [List.length_map]; exact hdl
 have hh : Tx 14000 (headS own (dictA ((xs.map kk).zip vs))) := tx_head ho hparts hpl
 refine ⟨⟨goodN hn (by decide) hg, fun x e => (ho x e).good, fun p hm => ?_, fun p hm y e => ?_, fun p hm => ?_, ?_, fun k hk => ?_, by omega, join_ok ho hparts hpl⟩, ⟨fun p hm => ?_, ?_, by simp⟩, by rw [List.length_map]; omega⟩
 ·obtain ⟨x, hx1, hx2, _⟩ := hp p hm
  rw [hx2]; exact hx1.goodKey
 ·obtain ⟨x, hx1, hx2, hx3⟩ := hp p hm
  have hv := hx3 y e
  have q1 : (Txt.replace y ⟨#[92]⟩ ⟨#[92, 92]⟩).length ≤ 300000 := by
   rw [← cl_len, cl_replace]
   have h1 := flat_len (f := swap 92 (cl ⟨#[92, 92]⟩)) (b := 2) (fun k => by unfold swap; split <;> simp [cl]) (cl y)
   rw [cl_len] at h1
   have := hv.tx.len
   omega
  refine ⟨hv.good, ?_, Nat.le_trans hv.tx.len (by decide), q1, ?_⟩
  ·rw [hx2]
   have e2 : repl (kk x) = Str.ofString "k-" ++ x := repl_k x hx1.no
   rw [e2]
   exact Nat.le_trans (tx_k.app hx1.tx).len (by decide)
  ·rw [quote_marked]; exact Nat.le_trans hv.tx.marked.len (by decide)
 ·obtain ⟨x, hx1, hx2, _⟩ := hp p hm
  rw [hx2]; exact Nat.le_trans hx1.key.len (by decide)
 ·have : (dictA ((xs.map kk).zip vs)).map (·.1) = (firstsA xs).map kk := by rw [hd, List.map_map]; rfl
  rw [this]
  exact List.Pairwise.map kk (fun a b q e => q (kk_inj _ _ e)) (firsts_nodup xs)
 ·obtain ⟨p, hm, rfl⟩ := List.mem_map.mp hk
  obtain ⟨x, hx1, hx2, _⟩ := hp p hm
  rw [hx2]; exact Nme.away
 ·rw [List.mem_singleton] at hm
  subst hm
  exact ⟨Nat.le_trans hn.len (by decide), Nat.le_trans hh.len (by decide)⟩
 ·refine joinB (B := 15000) (fun y hy => ?_) ?_
  ·unfold linesOf at hy
   simp only [List.map_cons, List.map_nil, List.cons_append, List.nil_append, List.mem_cons, List.not_mem_nil, or_false] at hy
   rcases hy with rfl | rfl | rfl
   ·exact Nat.le_trans ((hn.app tx_col).app hh).len (by decide)
   ·decide +kernel
   ·decide +kernel
  ·show 3 * (15000 + 2) ≤ _
   decide
noncomputable def SigOk (q : Str × Str) : Prop := ∃ c, cl q.1 = [c] ∧ sgC c (cl q.2) = true
structure SigP (c : Nat) (f : List Nat) : Prop where
 ok : okC c = true
 gd : gdV c = true
 p : p1 c = f
 len : f.length ≤ 3
 fok : ∀ k ∈ f, okC k = true
 fgd : ∀ k ∈ f, gdV k = true
 mark : (mk1 c).flatMap p1 = f.flatMap mk1
theorem mk1_none : ∀ f : List Nat, 34 ∉ f → 92 ∉ f → f.flatMap mk1 = f
 | [], _, _ => rfl
 | k :: r, h1, h2 => by
  rw [List.flatMap_cons, mk1_none r (fun m => h1 (List.mem_cons_of_mem _ m)) (fun m => h2 (List.mem_cons_of_mem _ m))]
  unfold mk1
  rw [if_neg (by
   rintro (e | e)
   ·exact h1 (by rw [e]; exact List.mem_cons_self ..)
   ·exact h2 (by rw [e]; exact List.mem_cons_self ..))]
  rfl
theorem sig_of {c : Nat} {f : List Nat} (h : sgC c f = true) : SigP c f := by
 unfold sgC at h
 rw [Bool.and_eq_true, Bool.and_eq_true, Bool.and_eq_true, Bool.and_eq_true, Bool.and_eq_true] at h
 obtain ⟨h1, h2, h3, h4, h5, h6⟩ := h
 have hp : p1 c = f := eq_of_beq h3
 have h5' := List.all_eq_true.mp h5
 refine ⟨h1, h2, hp, of_decide_eq_true h4, fun k hk => ?_, fun k hk => ?_, ?_⟩
 ·have := h5' k hk; rw [Bool.and_eq_true] at this; exact this.1
 ·have := h5' k hk; rw [Bool.and_eq_true] at this; exact this.2
 ·by_cases hc : c = 34 ∨ c = 92
  ·rw [if_pos hc] at h6
   have hf : f = [c] := eq_of_beq h6
   rw [hf] at hp ⊢
   have hm : mk1 c = [92, c] := if_pos hc
   show (mk1 c).flatMap p1 = mk1 c ++ []
   rw [hm]
   show p1 92 ++ (p1 c ++ []) = _
   rw [hp, fix_s.2.2.2.2.2]; rfl
  ·rw [if_neg hc, Bool.and_eq_true] at h6
   have n1 : 34 ∉ f := fun q => by rw [List.contains_iff_mem.mpr q] at h6; cases h6.1
   have n2 : 92 ∉ f := fun q => by rw [List.contains_iff_mem.mpr q] at h6; cases h6.2
   rw [mk1_none f n1 n2]
   unfold mk1
   rw [if_neg hc]
   show p1 c ++ [] = f
   rw [List.append_nil, hp]
noncomputable def rawT (l : List (Str × Str)) : Str := joinE (l.map (·.1))
noncomputable def foldT (l : List (Str × Str)) : Str := joinE (l.map (·.2))
theorem cl_rawT (l : List (Str × Str)) : cl (rawT l) = l.flatMap fun q => cl q.1 := by unfold rawT joinE; rw [cl_join0, List.flatMap_map]
theorem cl_foldT (l : List (Str × Str)) : cl (foldT l) = l.flatMap fun q => cl q.2 := by unfold foldT joinE; rw [cl_join0, List.flatMap_map]
theorem flatq_len {f : Str × Str → List Nat} {b : Nat} : ∀ l : List (Str × Str), (∀ q ∈ l, (f q).length ≤ b) → (l.flatMap f).length ≤ l.length * b
 | [], _ => by simp
 | k :: l, h => by
  have h1 := h k (List.mem_cons_self ..)
  have h2 := flatq_len l fun q hq => h q (List.mem_cons_of_mem _ hq)
  rw [List.flatMap_cons, List.length_append, List.length_cons, Nat.succ_mul]
  omega
theorem val_raw {l : List (Str × Str)} (h : ∀ q ∈ l, SigOk q) (hl : l.length ≤ 20) : Val (rawT l) := by
 refine ⟨⟨?_, fun k hk => ?_⟩, fun k hk => ?_⟩
 ·rw [← cl_len, cl_rawT]
  have := flatq_len (f := fun q => cl q.1) (b := 1) l fun q hq => by
   obtain ⟨c, e, _⟩ := h q hq
   show (cl q.1).length ≤ 1
   rw [e]; simp
  omega
 ·rw [cl_rawT] at hk
  obtain ⟨q, hq, hk⟩ := List.mem_flatMap.mp hk
  obtain ⟨c, e, s⟩ := h q hq
  rw [e, List.mem_singleton] at hk
  subst hk; exact (sig_of s).ok
 ·rw [cl_rawT] at hk
  obtain ⟨q, hq, hk⟩ := List.mem_flatMap.mp hk
  obtain ⟨c, e, s⟩ := h q hq
  rw [e, List.mem_singleton] at hk
  subst hk; exact (sig_of s).gd
theorem val_fold {l : List (Str × Str)} (h : ∀ q ∈ l, SigOk q) (hl : l.length ≤ 20) : Val (foldT l) := by
 refine ⟨⟨?_, fun k hk => ?_⟩, fun k hk => ?_⟩
 ·rw [← cl_len, cl_foldT]
  have := flatq_len (f := fun q => cl q.2) (b := 3) l fun q hq => by
   obtain ⟨c, e, s⟩ := h q hq
   exact (sig_of s).len
  omega
 ·rw [cl_foldT] at hk
  obtain ⟨q, hq, hk⟩ := List.mem_flatMap.mp hk
  obtain ⟨c, e, s⟩ := h q hq
  exact (sig_of s).fok k hk
 ·rw [cl_foldT] at hk
  obtain ⟨q, hq, hk⟩ := List.mem_flatMap.mp hk
  obtain ⟨c, e, s⟩ := h q hq
  exact (sig_of s).fgd k hk
theorem folds_of : ∀ l : List (Str × Str), (∀ q ∈ l, SigOk q) → Folds (rawT l) (foldT l) := fun l h => by
 refine ⟨?_, ?_⟩
 ·rw [cl_rawT, cl_foldT]
  induction l with
  | nil => rfl
  | cons q l ih =>
   rw [List.flatMap_cons, List.flatMap_cons, List.flatMap_append, ih fun p hp => h p (List.mem_cons_of_mem _ hp)]
   obtain ⟨c, e, s⟩ := h q (List.mem_cons_self ..)
   rw [e, ← (sig_of s).p]
   simp
 ·rw [cl_rawT, cl_foldT]
  induction l with
  | nil => rfl
  | cons q l ih =>
   rw [List.flatMap_cons, List.flatMap_cons, List.flatMap_append, List.flatMap_append, List.flatMap_append, ih fun p hp => h p (List.mem_cons_of_mem _ hp)]
   obtain ⟨c, e, s⟩ := h q (List.mem_cons_self ..)
   rw [e, ← (sig_of s).mark]
   simp
structure RowOk (m : Nat) (r : RowA) : Prop where
 way : clsOf r.1 = true
 letter : clsOf r.2.1 = true
 fold : (cl r.1).flatMap p1 = cl r.2.1
 len : ∀ l, r.2.2 = some l → l.length ≤ m
 sig : ∀ l, r.2.2 = some l → ∀ q ∈ l, SigOk q
theorem RowOk.mono {m k : Nat} {r : RowA} (h : RowOk m r) (hk : m ≤ k) : RowOk k r := ⟨h.way, h.letter, h.fold, fun l e => Nat.le_trans (h.len l e) hk, h.sig⟩
theorem row_start (m : Nat) : RowOk m startA.2 := ⟨by decide +kernel, by decide +kernel, by decide +kernel, fun l e => (nomatch e), fun l e => (nomatch e)⟩
theorem row_new (m : Nat) (n : Int) : RowOk m (newRow n) := by
 obtain ⟨h1, h2, h3⟩ := way_ok _ (szOf_lt n)
 refine ⟨h1, h2, h3, fun l e => ?_, fun l e => ?_⟩
 ·have e : (if szOf n < 12 then none else some []) = some l := e
  split at e
  ·cases e
  ·cases e; exact Nat.zero_le _
 ·have e : (if szOf n < 12 then none else some []) = some l := e
  split at e
  ·cases e
  ·cases e; exact fun q hq => nomatch hq
theorem sig_A (n : Int) : SigOk (signA n) := sg_sign _ _ (kOf_lt n)
theorem step_ok {m : Nat} {acc : List RowA × RowA} (n : Int) (h : ∀ r ∈ acc.1 ++ [acc.2], RowOk m r) : ∀ r ∈ (stepA acc n).1 ++ [(stepA acc n).2], RowOk (m + 1) r := by
 have h1 : ∀ r ∈ acc.1, RowOk (m + 1) r := fun r hr => (h r (List.mem_append_left _ hr)).mono (by omega)
 have h2 := h acc.2 (List.mem_append_right _ (List.mem_cons_self ..))
 have fin : ∀ (l : List RowA) (x : RowA), (∀ r ∈ l, RowOk (m + 1) r) → RowOk (m + 1) x → ∀ r ∈ l ++ [x], RowOk (m + 1) r := fun l x a b r hr => by
  rcases List.mem_append.mp hr with q | q
  ·exact a r q
  ·rw [List.mem_singleton] at q; subst q; exact b
 unfold stepA
 split
 ·exact fin _ _ (fin _ _ h1 (h2.mono (by omega))) (row_new _ n)
 ·split
  ·rename_i e
   refine fin _ _ h1 ⟨h2.way, h2.letter, h2.fold, fun l e => ?_, fun l e q hq => ?_⟩
   ·cases e; simp
   ·cases e; rw [List.mem_singleton] at hq; subst hq; exact sig_A n
  ·rename_i l e
   refine fin _ _ h1 ⟨h2.way, h2.letter, h2.fold, fun l' e' => ?_, fun l' e' q hq => ?_⟩
   ·cases e'; have := h2.len l e; simp; omega
   ·cases e'
    rcases List.mem_append.mp hq with q' | q'
    ·exact h2.sig l e q q'
    ·rw [List.mem_singleton] at q'; subst q'; exact sig_A n
theorem fold_ok : ∀ (ns : List Int) (m : Nat) (acc : List RowA × RowA), (∀ r ∈ acc.1 ++ [acc.2], RowOk m r) → ∀ r ∈ (ns.foldl stepA acc).1 ++ [(ns.foldl stepA acc).2], RowOk (m + ns.length) r
 | [], m, acc, h => h
 | n :: ns, m, acc, h => fun r hr => by
  have := fold_ok ns (m + 1) (stepA acc n) (step_ok n h) r hr
  exact this.mono (by rw [List.length_cons]; omega)
theorem read_ok (script : List Int) : ∀ r ∈ readA script, RowOk 20 r := fun r hr => by
 have := fold_ok (script.take 20) 0 startA (fun r hr => by
  have : r ∈ [startA.2] := hr
  rw [List.mem_singleton] at this; subst this; exact row_start 0) r hr
 exact this.mono (by rw [List.length_take]; omega)
theorem read_len (script : List Int) : 1 ≤ (readA script).length ∧ (readA script).length ≤ 21 := by
 have h1 := foldA_len (script.take 20) startA
 have h2 : (readA script).length = ((script.take 20).foldl stepA startA).1.length + 1 := by
  unfold readA readP
  rw [List.length_append]; rfl
 have h3 : startA.1.length = 0 := rfl
 rw [List.length_take] at h1
 omega
theorem getD_mapD {α β : Type} (f : α → β) (d : α) (l : List α) (i : Nat) : (l.map f).getD i (f d) = f (l.getD i d) := by
 rw [List.getD_eq_getElem?_getD, List.getD_eq_getElem?_getD, List.getElem?_map]
 cases l[i]? <;> rfl
theorem getD_dropD {α : Type} (d : α) (l : List α) (i : Nat) : (l.drop 1).getD i d = l.getD (1 + i) d := by
 rw [List.getD_eq_getElem?_getD, List.getD_eq_getElem?_getD, List.getElem?_drop]
theorem raw_at (R : List RowA) (i : Nat) : (rawsA R).getD i none = rawA (R.getD i row0) := getD_mapD rawA row0 R i
theorem fold_at (R : List RowA) (i : Nat) : (foldsA R).getD i none = foldA (R.getD i row0) := getD_mapD foldA row0 R i
noncomputable def wsA (R : List RowA) : List Str := (R.drop 1).map (·.1)
noncomputable def lsA (R : List RowA) : List Str := (R.drop 1).map (·.2.1)
theorem ws_at (R : List RowA) (i : Nat) : (wsA R).getD i "" = (R.getD (1 + i) row0).1 := by rw [← getD_dropD]; exact getD_mapD (fun r : RowA => r.1) row0 (R.drop 1) i
theorem ls_at (R : List RowA) (i : Nat) : (lsA R).getD i "" = (R.getD (1 + i) row0).2.1 := by rw [← getD_dropD]; exact getD_mapD (fun r : RowA => r.2.1) row0 (R.drop 1) i
theorem raw_val {m : Nat} {r : RowA} (h : RowOk m r) (hm : m ≤ 20) : ∀ x, rawA r = some x → Val x := fun x e => by
 unfold rawA at e
 obtain ⟨l, e1, e2⟩ := Option.map_eq_some_iff.mp e
 rw [← e2]
 exact val_raw (h.sig l e1) (Nat.le_trans (h.len l e1) hm)
theorem fold_val {m : Nat} {r : RowA} (h : RowOk m r) (hm : m ≤ 20) : ∀ x, foldA r = some x → Val x := fun x e => by
 unfold foldA at e
 obtain ⟨l, e1, e2⟩ := Option.map_eq_some_iff.mp e
 rw [← e2]
 exact val_fold (h.sig l e1) (Nat.le_trans (h.len l e1) hm)
theorem raw_isSome (r : RowA) : (rawA r).isSome = (foldA r).isSome := by unfold rawA foldA; rw [Option.isSome_map, Option.isSome_map]
theorem folds_nil : Folds "" "" := by
 refine ⟨?_, ?_⟩ <;> rw [cl_emp] <;> rfl
theorem row_folds {m : Nat} {r : RowA} (h : RowOk m r) : Folds ((rawA r).getD "") ((foldA r).getD "") := by
 unfold rawA foldA
 cases e : r.2.2 with
 | none => exact folds_nil
 | some l => exact folds_of l (h.sig l e)
theorem row_prep {m : Nat} {r : RowA} (w : World) (h : RowOk m r) : (rawA r).map (prepS w) = foldA r := by
 unfold rawA foldA
 cases e : r.2.2 with
 | none => rfl
 | some l => exact congrArg some (prep_of w (folds_of l (h.sig l e)).fold)
section
variable (w : World) {R : List RowA} (hR : ∀ r ∈ R, RowOk 20 r) (h1 : 1 ≤ R.length) (h21 : R.length ≤ 21)
include hR
theorem ready_eq : readyA w R = foldsA R := by
 unfold readyA rawsA foldsA
 rw [List.map_map]
 exact List.map_congr_left fun r hr => row_prep w (hR r hr)
theorem keys_prep : (keysA R).map (prepS w) = (lsA R).map kk := by
 unfold keysA lsA
 rw [List.map_map, List.map_map]
 refine List.map_congr_left fun r hr => ?_
 show prepS w (Str.ofString "k_" ++ r.1) = Str.ofString "k_" ++ r.2.1
 rw [prep_app, prep_of w fix_k.1, prep_of w (hR r (List.mem_of_mem_drop hr)).fold]
theorem at_ok {i : Nat} (h : i < R.length) : RowOk 20 (R.getD i row0) := by
 rw [List.getD_eq_getElem?_getD, List.getElem?_eq_getElem h]
 exact hR _ (List.getElem_mem h)
include h1 h21
theorem law_ok : LawOk w R := by
 have len1 : (wsA R).length = R.length - 1 := by unfold wsA; rw [List.length_map, List.length_drop]
 have len2 : (lsA R).length = R.length - 1 := by unfold lsA; rw [List.length_map, List.length_drop]
 have len3 : ((rawsA R).drop 1).length = R.length - 1 := by unfold rawsA; rw [List.length_drop, List.length_map]
 have len4 : ((foldsA R).drop 1).length = R.length - 1 := by unfold foldsA; rw [List.length_drop, List.length_map]
 have nw : ∀ x ∈ wsA R, Nme x := fun x hx => by
  obtain ⟨r, hr, rfl⟩ := List.mem_map.mp hx
  exact .of (hR r (List.mem_of_mem_drop hr)).way
 have nl : ∀ x ∈ lsA R, Nme x := fun x hx => by
  obtain ⟨r, hr, rfl⟩ := List.mem_map.mp hx
  exact .of (hR r (List.mem_of_mem_drop hr)).letter
 have raws : ∀ x, some x ∈ rawsA R → Val x := fun x hx => by
  obtain ⟨r, hr, e⟩ := List.mem_map.mp hx
  exact raw_val (hR r hr) (by decide) x e
 have folds : ∀ x, some x ∈ foldsA R → Val x := fun x hx => by
  obtain ⟨r, hr, e⟩ := List.mem_map.mp hx
  exact fold_val (hR r hr) (by decide) x e
 have keq : keysA R = (wsA R).map kk := by unfold keysA wsA; rw [List.map_map]; rfl
 have own1 : ∀ x, (rawsA R).getD 0 none = some x → Val x := fun x e => raws x (mem_getD e)
 have own2 : ∀ x, (foldsA R).getD 0 none = some x → Val x := fun x e => folds x (mem_getD e)
 have tK : Tx 4 "Kind" := .of (by decide +kernel)
 have tk' : Tx 4 "kind" := .of (by decide +kernel)
 have gK : ∀ k ∈ cl "Kind", gdN k = true := List.all_eq_true.mp (by decide +kernel)
 have gk' : ∀ k ∈ cl "kind", gdN k = true := List.all_eq_true.mp (by decide +kernel)
 have pK : prepS w "Kind" = "kind" := prep_of w fix_k.2.2
 have spell : ∀ i ∈ spellA R, i < R.length := fun i hi => by
  unfold spellA lastPlaces at hi
  obtain ⟨j, hj, rfl⟩ := List.mem_map.mp hi
  obtain ⟨x, hx, rfl⟩ := List.mem_map.mp hj
  have : lastOf (wsA R) x < (wsA R).length := last_lt ((firsts_iff _ _).mp hx)
  show 1 + lastOf (wsA R) x < _
  omega
 have lett : ∀ i ∈ lettA R, i < R.length := fun i hi => by
  unfold lettA lastPlaces at hi
  obtain ⟨j, hj, rfl⟩ := List.mem_map.mp hi
  obtain ⟨x, hx, rfl⟩ := List.mem_map.mp hj
  have : lastOf (lsA R) x < (lsA R).length := last_lt ((firsts_iff _ _).mp hx)
  show 1 + lastOf (lsA R) x < _
  omega
 have spl : (spellA R).length ≤ 100 := by
  unfold spellA lastPlaces
  rw [List.length_map, List.length_map]
  have := firsts_len (wsA R)
  show (firstsA (wsA R)).length ≤ _
  omega
 have ltl : (lettA R).length ≤ 100 := by
  unfold lettA lastPlaces
  rw [List.length_map, List.length_map]
  have := firsts_len (lsA R)
  show (firstsA (lsA R)).length ≤ _
  omega
 have rv : ∀ i < R.length, ∀ x, (rawsA R).getD i none = some x → Val x := fun i hi x e => raws x (mem_getD e)
 have fv : ∀ i < R.length, ∀ x, (foldsA R).getD i none = some x → Val x := fun i hi x e => folds x (mem_getD e)
 have iss : ∀ i, ((rawsA R).getD i none).isSome = ((foldsA R).getD i none).isSome := fun i => by rw [raw_at, fold_at]; exact raw_isSome _
 have tW : ∀ x ∈ (spellA R).map (dueW R), Tx 130 x := fun x hx => by
  obtain ⟨i, hi, rfl⟩ := List.mem_map.mp hx
  exact tx_part (.of (at_ok hR (spell i hi)).way) fun _ => tx_opt (rv i (spell i hi))
 have tB : ∀ x ∈ (spellA R).map (dueB R), Tx 130 x := fun x hx => by
  obtain ⟨i, hi, rfl⟩ := List.mem_map.mp hx
  exact tx_part (.of (at_ok hR (spell i hi)).letter) fun _ => tx_opt (fv i (spell i hi))
 have tA : ∀ x ∈ (lettA R).map (dueA R), Tx 130 x := fun x hx => by
  obtain ⟨i, hi, rfl⟩ := List.mem_map.mp hx
  exact tx_part (.of (at_ok hR (lett i hi)).letter) fun _ => tx_opt (fv i (lett i hi))
 have eq1 : writtenA R = lineA "Kind" ((rawsA R).getD 0 none) ((spellA R).map (dueW R)) := by
  unfold writtenA
  rw [keq, text_eq "Kind" _ (by omega) fun x hx => (nw x hx).no]
  congr 1
  unfold spellA
  rw [List.map_map]
  refine List.map_congr_left fun j _ => ?_
  show partA ((wsA R).getD j "") (((rawsA R).drop 1).getD j none) ((((rawsA R).drop 1).getD j none).getD "") = _
  rw [ws_at, getD_dropD]; rfl
 have eq2 : prepS w (writtenA R) = lineA "kind" ((foldsA R).getD 0 none) ((spellA R).map (dueB R)) := by
  rw [eq1]
  refine prep_line w pK ?_ ?_
  ·rw [raw_at, fold_at]; exact row_prep w (at_ok hR (by omega))
  ·rw [List.map_map]
   refine List.map_congr_left fun i hi => ?_
   have ro := at_ok hR (spell i hi)
   refine prep_part w ro.fold ?_
   rw [raw_at, fold_at]
   exact row_folds ro
 have eq3 : aheadA w R = lineA "kind" ((foldsA R).getD 0 none) ((lettA R).map (dueA R)) := by
  unfold aheadA
  rw [keys_prep w hR, ready_eq w hR, pK, text_eq "kind" _ (by omega) fun x hx => (nl x hx).no]
  congr 1
  unfold lettA
  rw [List.map_map]
  refine List.map_congr_left fun j _ => ?_
  show partA ((lsA R).getD j "") (((foldsA R).drop 1).getD j none) ((((foldsA R).drop 1).getD j none).getD "") = _
  rw [ls_at, getD_dropD]; rfl
 have tw := tx_line tK own1 tW (by rw [List.length_map]; exact spl)
 have tb := tx_line tk' own2 tB (by rw [List.length_map]; exact spl)
 have ta := tx_line tk' own2 tA (by rw [List.length_map]; exact ltl)
 exact {
  ne := h1
  rlen := by omega
  third := fun r hr l e => by
   have ro := hR r hr
   have hl := ro.len l e
   refine ⟨by omega, joinB (B := 3) (fun y hy => ?_) ?_, joinB (B := 3) (fun y hy => ?_) ?_⟩
   ·obtain ⟨q, hq, rfl⟩ := List.mem_map.mp hy
    obtain ⟨c, e1, _⟩ := ro.sig l e q hq
    rw [← cl_len, e1]; simp
   ·have : ("" : Str).length = 0 := by decide +kernel
    rw [List.length_map, this]; omega
   ·obtain ⟨q, hq, rfl⟩ := List.mem_map.mp hy
    obtain ⟨c, e1, s⟩ := ro.sig l e q hq
    rw [← cl_len]; exact (sig_of s).len
   ·have : ("" : Str).length = 0 := by decide +kernel
    rw [List.length_map, this]; omega
  keyLen := fun r hr => Nat.le_trans (Nme.of (hR r hr).way).tx.len (by decide)
  prepRaw := fun x hx => (raws x hx).tx.prepOk w (by decide)
  prepKind := tK.prepOk w (by decide)
  prepKey := fun k hk => by
   rw [keq] at hk
   obtain ⟨x, hx, rfl⟩ := List.mem_map.mp hk
   exact (nw x hx).key.prepOk w (by decide)
  text1 := by
   rw [keq]
   exact text_ok tK gK own1 nw (fun x hx => raws x (List.mem_of_mem_drop hx)) (by omega) (by omega)
  text2 := by
   rw [keys_prep w hR, ready_eq w hR, pK]
   exact text_ok tk' gk' own2 nl (fun x hx => folds x (List.mem_of_mem_drop hx)) (by omega) (by omega)
  word1 := fun r hr => (Nme.of (hR r hr).way).tx.str
  word2 := fun r hr => (Nme.of (hR r hr).letter).tx.str
  spellLt := spell
  lettLt := lett
  spellLen := by omega
  lettLen := by omega
  part1 := fun i hi => part_ok (.of (at_ok hR (spell i hi)).way) (rv i (spell i hi)) (rv i (spell i hi)) id
  part2 := fun i hi => part_ok (.of (at_ok hR (spell i hi)).letter) (rv i (spell i hi)) (fv i (spell i hi)) (fun h => by rw [← iss]; exact h)
  part3 := fun i hi => part_ok (.of (at_ok hR (lett i hi)).letter) (fv i (lett i hi)) (fv i (lett i hi)) id
  line1 := line_ok tK own1 tW (by rw [List.length_map]; exact spl)
  line2 := line_ok tk' own2 tB (by rw [List.length_map]; exact spl)
  line3 := line_ok tk' own2 tA (by rw [List.length_map]; exact ltl)
  prepW := by rw [eq1]; exact tw.prepOk w (by decide)
  ok1 := by rw [eq1]; exact tw.str
  ok2 := by rw [eq2]; exact tb.str
  ok3 := by rw [eq3]; exact ta.str
  eq1 := eq1
  eq2 := eq2
  eq3 := eq3 }
end
theorem law_holds (w : World) (script : List Int) : LawOk w (readA script) := law_ok w (read_ok script) (read_len script).1 (read_len script).2
end Mine
end
section
open PySem PySem.W PyProof.Rows PySem.W.X
namespace Mine
theorem rdL_ints {W : Addr → Prop} {h : Heap} {vs : List Value} {ns : List Int} (H : IntsAre vs ns) : RdL W h vs (ns.map .int) := by
 induction H with
 | nil => exact .nil
 | cons i t _ ih => exact .cons (.int _ _) ih
theorem mg_law (w : World) : (CL w).mg "law" = some (.ref 300) := by unfold CL Heap.nsMap; simp only []; rw [hf3]; kernel_rfl
theorem room0 : Room callerA 13 := ⟨rfl, by decide, by decide⟩
theorem law_at {w : World} {s : Shared} {E : Value → Shared → Prop} {a : Addr} {vs : List Value} {ns : List Int} (base : HasK (CL w).K s.heap) (tok : 0 < s.toks) (hl : s.heap.get? a = some { cls := .type "list", data := .seq vs.toArray }) (hi : IntsAre vs ns) (hn : ns.length ≤ 1000) :
  wpAny (CL w).M callerA (call (.ref 300) [.ref a]) (fun v s' => Kt s s' ∧ v = .bool true) E s :=
 wpAny_mono (pf_law w (n := 4) room0 ns hn (law_holds w ns) (fun _ => False) s E [.ref a] [] base tok (fun _ h => h.elim) (.cons (.lst id (toL ⟨_, hl⟩) (by rw [List.toList_toArray]; exact rdL_ints hi)) .nil) .nil) (fun v s' q => ⟨q.1, by cases q.2; rfl⟩) fun _ _ e => e
theorem said : PySem.Challenge.rw_pe0280_01.wellSaid = true := by decide +kernel
theorem left2 : LeftO PySem.Challenge.pw_pe0280_01 q0 loose0 Xt0 (fun s => (s.heap, s.toks)) (fun w => (HF w, 2658)) 30000 := P0_eq ▸ left1
theorem law_at' {w : World} {s : Shared} {E : Value → Shared → Prop} {a : Addr} {vs : List Value} {ns : List Int} (base : HasK (CL w).K s.heap) (tok : 0 < s.toks) (hl : s.heap.get? a = some { cls := .type "list", data := .seq vs.toArray }) (hi : IntsAre vs ns) (hn : ns.length ≤ 1000) :
  wpAny (model PySem.Challenge.pw_pe0280_01 w) callerA (call (.ref 300) [.ref a]) (fun v s' => Kt s s' ∧ v = .bool true) E s := by
 rw [← P0_eq]; exact law_at base tok hl hi hn
end Mine
theorem PySem.Challenge.cw_pe0280_01_holds : PySem.Challenge.rw_pe0280_01.Holds := by
 w_on
 refine holds_law Mine.said fun said => ?_
 refine holds_openX (q := Mine.q0) (loose := Mine.loose0) (Xt := Mine.Xt0) (XP := XL Mine.q0 []) (N := 30000) Mine.left2 (fun s e => xl_of s (Bool.and_eq_true_iff.mp e).1) XL.keeps (by rfl) (by rfl) (by rfl) (fun s e => recFacts_of (Bool.and_eq_true_iff.mp e).2) (by rfl) (by first | assumption | decide +kernel) (by decide +kernel) ⟨rfl, rfl, rfl, rfl, rfl, by decide +kernel⟩ ?hw ?hc
 case hw => w_witness2
 case hc =>
  intro w s₀ s₁ mg mb G y fa o pm cd doc dV kV ho hd hcd hD hmg hg args vals as L hpre hlay hrd hwl hlo
  clear hd hD hcd ho
  have hb : Mine.HasK (Mine.CL w).K s₁.heap := fun a o e => L.keeps a o (by rw [show s₀.heap = Mine.HF w from congrArg Prod.fst y]; exact e)
  have hfa : fa = 300 := by
   have h1 : mg (PySem.Str.ofString "law") = some (.ref fa) := hmg
   have h2 := Mine.mg_law w
   rw [← Heap.Ns.agree G.T.g ((Mine.CL w).hg _ hb)] at h2
   rw [h2] at h1
   cases h1; rfl
  subst hfa
  wrow_args hpre hlay hrd hwl hlo
  rename_i ns _ _ _ _ _ _ _ a vs _ hL _ _ _ hI _ hlen _
  have hobj := script_obj L hL
  have htk := script_toks L (congrArg Prod.snd y)
  refine wpAny_mono (Mine.law_at' hb (Nat.lt_of_lt_of_le (show 0 < 2658 by decide) htk) hobj hI (by omega)) (fun v s' q => ?_) fun _ _ e => e
  obtain ⟨K, rfl⟩ := q
  obtain ⟨hh, tk, e⟩ := K.eq
  refine ⟨.inl ⟨.bool true, .bool true, [], rfl, fun cls => rfl, .bool _, by wrow_post, fun _ => ⟨.nil, fun a h => nomatch h⟩⟩, .of_keep K.heap, by rw [e], .of_eq (by rw [e]; exact hg)⟩
end
