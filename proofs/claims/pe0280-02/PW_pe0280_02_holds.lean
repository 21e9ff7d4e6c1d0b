import PyProof.Rows.All
import KE.KParD
import KE.KxPercentT
import KE.BytesMake
import Wide.All
import OpenK.AllK
import Wide.FinOn
import Lean
import PySem.Challenge.RW_pe0280_02
set_option Elab.async false
set_option maxRecDepth 100000
set_option maxHeartbeats 0
set_option linter.unusedVariables false
local macro_rules | `(tactic| omega) => `(tactic| lia)
section
open PySem PySem.W PyProof.Rows
namespace Mine
section
variable {tb : String → Option Builtin} {p : Program} {w : World} {n₀ : Nat} {ann : Option Value}
theorem segGo_add : ∀ {n m : Nat} {s s' s'' : Shared} {t t' t'' : Thread}, segGo tb p w n₀ ann 1 n s t = some (s', t') → segGo tb p w n₀ ann 1 m s' t' = some (s'', t'') →
  segGo tb p w n₀ ann 1 (n + m) s t = some (s'', t'')
 | 0, m, s, s', s'', t, t', t'', h, k => by
  obtain ⟨rfl, rfl⟩ : s = s' ∧ t = t' := by simpa [segGo] using h
  rw [Nat.zero_add]; exact k
 | n + 1, m, s, s', s'', t, t', t'', h, k => by
  rw [show n + 1 + m = n + m + 1 by omega]
  unfold segGo at h ⊢
  cases he : endAt 1 t with
  | some f => rw [he] at h; cases h
  | none =>
   rw [he] at h
   cases hk : stepOk n₀ ann t with
   | false => rw [hk] at h; cases h
   | true =>
    rw [hk] at h
    cases hs : step (denote tb) p w s t with
    | halt o s₂ => rw [hs] at h; cases h
    | go s₂ t₂ => rw [hs] at h; exact segGo_add h k
theorem segGo_step {n : Nat} {s s' : Shared} {t t' : Thread} {r : Option (Shared × Thread)} (he : endAt 1 t = none) (hk : stepOk n₀ ann t = true) (hs : step (denote tb) p w s t = .go s' t') (h : segGo tb p w n₀ ann 1 n s' t' = r) :
  segGo tb p w n₀ ann 1 (n + 1) s t = r := by
 unfold segGo; rw [he, hk, hs]; exact h
noncomputable def Goes (tb : String → Option Builtin) (p : Program) (w : World) (n₀ : Nat) (ann : Option Value) {α : Type} (x : Sem α) (n : Nat) (s : Shared) (q : Pos) (a : α) (s' : Shared) (q' : Pos) : Prop :=
 ∀ (K : α → Sem Fin) (H : Value → Sem Fin) (gd : Bool → Bool) (lv : List Value → List Value) (code : Code) (st : List Frame), 1 ≤ st.length →
  segGo tb p w n₀ ann 1 n s ⟨x.wrap K H gd lv, code, q, st⟩ = some (s', ⟨K a, code, q', st⟩)
theorem Goes.pure {α : Type} (a : α) (s : Shared) (q : Pos) : Goes tb p w n₀ ann (Pure.pure a : Sem α) 0 s q a s q := fun _ _ _ _ _ _ _ => rfl
theorem Goes.bind {α β : Type} {x : Sem α} {f : α → Sem β} {n m : Nat} {s s' s'' : Shared} {q q' q'' : Pos} {a : α} {b : β} (h : Goes tb p w n₀ ann x n s q a s' q') (k : Goes tb p w n₀ ann (f a) m s' q' b s'' q'') :
  Goes tb p w n₀ ann (x >>= f) (n + m) s q b s'' q'' := fun K H gd lv code st hl => by
 have e : (x >>= f).wrap K H gd lv = x.wrap (fun a => (f a).wrap K H gd lv) H gd lv := by
  show (Sem.bind x f).wrap K H gd lv = _
  rw [Sem.bind_eq_wrap, Sem.wrap_wrap]; rfl
 rw [e]
 exact segGo_add (h _ H gd lv code st hl) (k K H gd lv code st hl)
theorem Goes.one {α : Type} {x : Sem α} {y : Sem α} {n : Nat} {s s₁ s' : Shared} {q q₁ q' : Pos} {a : α}
  (h1 : ∀ (K : α → Sem Fin) (H : Value → Sem Fin) (gd : Bool → Bool) (lv : List Value → List Value) (code : Code) (st : List Frame),
   endAt 1 ⟨x.wrap K H gd lv, code, q, st⟩ = none ∧ stepOk n₀ ann ⟨x.wrap K H gd lv, code, q, st⟩ = true ∧ step (denote tb) p w s ⟨x.wrap K H gd lv, code, q, st⟩ = .go s₁ ⟨y.wrap K H gd lv, code, q₁, st⟩)
  (h : Goes tb p w n₀ ann y n s₁ q₁ a s' q') : Goes tb p w n₀ ann x (n + 1) s q a s' q' := fun K H gd lv code st hl => by
 obtain ⟨e1, e2, e3⟩ := h1 K H gd lv code st
 exact segGo_step e1 e2 e3 (h K H gd lv code st hl)
theorem endAt_np {cur : Sem Fin} {code : Code} {q : Pos} {st : List Frame} (h : ∀ f, cur ≠ .pure f) : endAt 1 ⟨cur, code, q, st⟩ = none := by
 unfold endAt
 dsimp only
 generalize (st.length == 1) = b
 cases b <;> cases cur <;> first | rfl | exact (h _ rfl).elim
theorem Goes.rule {α : Type} {t : String} {k : Unit → Sem α} {n : Nat} {s s' : Shared} {q q' : Pos} {a : α} (h : Goes tb p w n₀ ann (k ()) n s q a s' q') : Goes tb p w n₀ ann (.rule t k) (n + 1) s q a s' q' :=
 Goes.one (fun K H gd lv code st => ⟨endAt_np (fun f e => nomatch e), rfl, rfl⟩) h
theorem Goes.at' {α : Type} {t : Pos} {k : Unit → Sem α} {n : Nat} {s s' : Shared} {q q' : Pos} {a : α} (h : Goes tb p w n₀ ann (k ()) n s t a s' q') : Goes tb p w n₀ ann (.at t k) (n + 1) s q a s' q' :=
 Goes.one (fun K H gd lv code st => ⟨endAt_np (fun f e => nomatch e), rfl, rfl⟩) h
theorem Goes.fresh' {α : Type} {k : Tok → Sem α} {n : Nat} {s s' : Shared} {q q' : Pos} {a : α} (h : Goes tb p w n₀ ann (k s.toks) n { s with toks := s.toks + 1 } q a s' q') : Goes tb p w n₀ ann (.fresh k) (n + 1) s q a s' q' :=
 Goes.one (fun K H gd lv code st => ⟨endAt_np (fun f e => nomatch e), rfl, rfl⟩) h
theorem Goes.ask' {α : Type} {k : Setting → Sem α} {n : Nat} {s s' : Shared} {q q' : Pos} {a : α} (h : Goes tb p w n₀ ann (k ⟨p, w.params⟩) n s q a s' q') : Goes tb p w n₀ ann (.ask k) (n + 1) s q a s' q' :=
 Goes.one (fun K H gd lv code st => ⟨endAt_np (fun f e => nomatch e), rfl, rfl⟩) h
theorem Goes.load' {α : Type} {b : Addr} {pt : Option Value} {k : Obj → Sem α} {n : Nat} {s s' : Shared} {q q' : Pos} {a : α} {o : Obj} (ho : s.heap.get? b = some o) (h : Goes tb p w n₀ ann (k o) n s q a s' q') : Goes tb p w n₀ ann (.load b pt k) (n + 1) s q a s' q' :=
 Goes.one (fun K H gd lv code st => ⟨endAt_np (fun f e => nomatch e), rfl, by simp only [Sem.wrap, step, ho]⟩) h
theorem Goes.update' {α : Type} {b : Addr} {pt : Option Value} {f : Obj → Obj} {k : Unit → Sem α} {n : Nat} {s s' : Shared} {q q' : Pos} {a : α} {o : Obj} (hb : n₀ ≤ b) (ho : s.heap.get? b = some o) (h : Goes tb p w n₀ ann (k ()) n { s with heap := s.heap.update b f } q a s' q') :
  Goes tb p w n₀ ann (.update b pt f k) (n + 1) s q a s' q' :=
 Goes.one (fun K H gd lv code st => ⟨endAt_np (fun f e => nomatch e), by
  have : Nat.ble n₀ b = true := Nat.ble_eq_true_of_le hb
  simp [stepOk, Sem.wrap, Thread.calm, Thread.atCollectorCode, Thread.yieldsInsideHandler, this], by simp only [Sem.wrap, step, ho, Option.isSome_some, if_true]⟩) h
theorem Goes.alloc' {α : Type} {o : Obj} {k : Addr → Sem α} {n : Nat} {s s' : Shared} {q q' : Pos} {a : α} (h : Goes tb p w n₀ ann (k s.heap.objs.size) n { s with heap := s.heap.push o } q a s' q') : Goes tb p w n₀ ann (.alloc o k) (n + 1) s q a s' q' :=
 Goes.one (fun K H gd lv code st => ⟨endAt_np (fun f e => nomatch e), rfl, rfl⟩) h
noncomputable def notLife : Code → Bool
 | .builtin id _ => !id.startsWith "lifetime."
 | _ => true
theorem okAgain {c c' : Code} {q : Pos} {st : List Frame} (hq : notLife c' = true) : stepOk n₀ ann ⟨.pure (.again c'), c, q, st⟩ = true := by
 cases c' <;> simp_all [stepOk, Thread.calm, Thread.atCollectorCode, Thread.yieldsInsideHandler, notLife]
theorem endAt_deep {cur : Sem Fin} {code : Code} {q : Pos} {fr : Frame} {st : List Frame} (h : 1 ≤ st.length) : endAt 1 ⟨cur, code, q, fr :: st⟩ = none := by
 unfold endAt
 have : ((fr :: st).length == 1) = false := beq_eq_false_iff_ne.mpr (by rw [List.length_cons]; omega)
 simp only [this]
theorem Goes.callB {α : Type} {c c' : Code} {hd : Option Value} {g : Bool} {l : List Value} {k : Result → Sem α} {v : Nat → Value} {n : Nat} {s s' : Shared} {q q' : Pos} {a : α}
  (e1 : denote tb c = .pure (.again c')) (hq : notLife c' = true) (e2 : denote tb c' = .fresh fun t => .pure (.done (.ret (v t))))
  (h : Goes tb p w n₀ ann (k (.ok (.ret (v s.toks)))) n { s with toks := s.toks + 1 } q a s' q') : Goes tb p w n₀ ann (.call c hd g l k) (n + 4) s q a s' q' := fun K H gd lv code st hl => by
 obtain ⟨heap, gens, drawn, toks, os⟩ := s
 refine segGo_step (n := n + 3) (endAt_np (fun f e => nomatch e)) rfl rfl ?_
 rw [e1]
 refine segGo_step (n := n + 2) (endAt_deep hl) (okAgain hq) PySem.W.step_again ?_
 rw [e2]
 refine segGo_step (n := n + 1) (endAt_deep hl) rfl rfl ?_
 refine segGo_step (n := n) (endAt_deep hl) rfl rfl ?_
 exact h K H gd lv code st hl
theorem Goes.ite {α : Type} {c : Prop} [Decidable c] {x y : Sem α} {n : Nat} {s s' : Shared} {q q' : Pos} {a : α} (h1 : c → Goes tb p w n₀ ann x n s q a s' q') (h2 : ¬ c → Goes tb p w n₀ ann y n s q a s' q') : Goes tb p w n₀ ann (if c then x else y) n s q a s' q' := by
 split
 ·rename_i h; exact h1 h
 ·rename_i h; exact h2 h
theorem Goes.of_eq {α : Type} {x y : Sem α} {n m : Nat} {s s' : Shared} {q q' : Pos} {a : α} (e : x = y) (en : n = m) (h : Goes tb p w n₀ ann y m s q a s' q') : Goes tb p w n₀ ann x n s q a s' q' := by rw [e, en]; exact h
theorem Goes.keep {α : Type} {x : Sem α} {vs : List Value} {n : Nat} {s s' : Shared} {q q' : Pos} {a : α} (h : Goes tb p w n₀ ann x n s q a s' q') : Goes tb p w n₀ ann (x.keep vs) n s q a s' q' := fun K H gd lv code st hl => by
 rw [Sem.keep_eq_wrap, Sem.wrap_wrap]; exact h _ _ _ _ code st hl
theorem Goes.holding {α : Type} {x : Sem α} {vs : List Value} {n : Nat} {s s' : Shared} {q q' : Pos} {a : α} (h : Goes tb p w n₀ ann x n s q a s' q') : Goes tb p w n₀ ann (holding vs x) n s q a s' q' := by
 rw [holding_eq_keep]; exact h.keep
theorem Goes.tryCatch {α : Type} {x : Sem α} {k : Value → Sem α} {n : Nat} {s s' : Shared} {q q' : Pos} {a : α} (h : Goes tb p w n₀ ann x n s q a s' q') : Goes tb p w n₀ ann (x.tryCatch k) n s q a s' q' := fun K H gd lv code st hl => by
 rw [Sem.tryCatch_eq_wrap, Sem.wrap_wrap]
 exact h _ _ _ _ code st hl
theorem Goes.onRaise {α : Type} {x : Sem α} {k : Value → Sem Unit} {n : Nat} {s s' : Shared} {q q' : Pos} {a : α} (h : Goes tb p w n₀ ann x n s q a s' q') : Goes tb p w n₀ ann (x.onRaise k) n s q a s' q' := fun K H gd lv code st hl => by
 rw [Sem.onRaise_eq_wrap, Sem.wrap_wrap]
 exact h _ _ _ _ code st hl
end
end Mine
end
section
open PySem PySem.W PyProof.Rows
set_option profiler true
set_option profiler.threshold 500
namespace Mine
theorem chk_hash (k : Int) (t : Tok) : checkBuiltinCall "int.__hash__" ⟨[.int k t], []⟩ = pure () := by kernel_rfl
theorem den_builtin (tb : String → Option Builtin) (id : String) (args : Args) {b : Builtin} (h : entryFor tb id = some b) : denote tb (.builtin id args) = b args := by
 show (match entryFor tb id with | some b => b args | none => unsupported ((withoutEnding? id "#data").getD id)) = _
 rw [h]
theorem den_hash (k : Int) (t : Tok) : denote table (.builtin "int.__hash__" ⟨[.int k t], []⟩) = .fresh fun t' => .pure (.done (.ret (.int (rawHash k) t'))) :=
 (den_builtin table "int.__hash__" _ entry_int_hash).trans rfl
section
variable {p : Program} {w : World} {n₀ : Nat} {ann : Option Value}
theorem goes_eqpure {α : Type} {x : Sem α} {a : α} {s : Shared} {q : Pos} (e : x = pure a) : Goes table p w n₀ ann x 0 s q a s q := by rw [e]; exact Goes.pure a s q
theorem goes_special (k : Int) (t : Tok) (s : Shared) (q : Pos) : Goes table p w n₀ ann (specialOf (.int k t) "__hash__") 0 s q (some (.builtin "int.__hash__")) s q := by
 apply goes_eqpure
 show (typeOf (.int k t) >>= fun v => typeLookup v "__hash__") = _
 show (pure (Value.type "int") >>= fun v => typeLookup v "__hash__") = _
 exact slot_int_hash.lookup
theorem goes_hash (k : Int) (t : Tok) (s : Shared) (q : Pos) : Goes table p w n₀ ann (pyHash (.int k t)) 5 s q (hashInt k) { s with toks := s.toks + 1 } q := by
 have hr := rawHash_range k
 unfold pyHash
 show Goes _ _ _ _ _ (pyHashByItsType (.int k t)) _ _ _ _ _ _
 unfold pyHashByItsType
 have hv : [Value.int k t].any Value.onHeap = false := rfl
 refine Goes.bind (n := 0) (m := 5) (s' := s) (q' := q) (a := ()) ?_ ?_
 ·rw [cRoomFor, if_neg (by rw [hv]; exact Bool.false_ne_true)]; exact Goes.pure _ _ _
 refine Goes.bind (n := 0) (m := 5) (goes_special k t s q) ?_
 show Goes _ _ _ _ _ (if (some (Value.builtin "int.__hash__") == some Value.none) = true then _ else _) _ _ _ _ _ _
 rw [if_neg (by rw [beq_builtin_none]; exact Bool.false_ne_true)]
 refine Goes.bind (n := 0) (m := 5) (goes_special k t s q) ?_
 show Goes _ _ _ _ _ (callSpecialIfBoundUnlessNone? (.int k t) "__hash__" _ >>= _) _ _ _ _ _ _
 refine Goes.bind (n := 5) (m := 0) (s' := { s with toks := s.toks + 1 }) (q' := q) (a := some (.int (rawHash k) s.toks)) ?_ ?_
 ·simp only [callSpecialIfBoundUnlessNone?, bindSpecialIfBound?]
  refine Goes.holding ?_
  refine Goes.bind (n := 1) (m := 4) (s' := s) (q' := q) (a := some (.builtin "int.__hash__", [.int k t])) ?_ ?_
  ·refine Goes.bind (n := 0) (m := 1) (goes_special k t s q) ?_
   simp only [slot_int_hash.bind]
   refine Goes.bind (n := 1) (m := 0) (Goes.ask' (n := 0) (Goes.pure _ _ _)) ?_
   show Goes _ _ _ _ _ (if w.params.followText "special-get-raises" = true then _ else _) _ _ _ _ _ _
   refine Goes.ite (fun _ => ?_) fun _ => ?_
   ·exact Goes.pure _ _ _
   ·exact Goes.tryCatch (Goes.pure _ _ _)
  ·have e : ∀ (x y : Sem (Option Value)), (if (Value.builtin "int.__hash__" == Value.none) = true then x else y) = y := fun x y => by simp only [builtin_beq_none, Bool.false_eq_true, if_false]
   show Goes _ _ _ _ _ (if (Value.builtin "int.__hash__" == Value.none) = true then _ else _) _ _ _ _ _ _
   rw [e]
   refine Goes.bind (n := 4) (m := 0) (s' := { s with toks := s.toks + 1 }) (q' := q) (a := .int (rawHash k) s.toks) ?_ (Goes.pure _ _ _)
   show Goes _ _ _ _ _ (Sem.call (.call (.builtin "int.__hash__") ⟨[.int k t], []⟩) none false [] _) _ _ _ _ _ _
   refine Goes.callB (n := 0) (c' := .builtin "int.__hash__" ⟨[.int k t], []⟩) (v := fun t' => .int (rawHash k) t') ?_ (by show (!("int.__hash__".startsWith "lifetime.")) = true; decide +kernel) ?_ ?_
   ·show callAny (.builtin "int.__hash__") ⟨[.int k t], []⟩ = _
    unfold callAny
    show (checkBuiltinCall "int.__hash__" ⟨[.int k t], []⟩ >>= fun _ => again (.builtin "int.__hash__" ⟨[.int k t], []⟩)) = _
    rw [chk_hash]; rfl
   ·exact den_hash k t
   ·exact Goes.pure _ _ _
 ·show Goes _ _ _ _ _ (if (decide (-(2 : Int) ^ 63 ≤ rawHash k) && decide (rawHash k < 2 ^ 63)) = true then _ else _) _ _ _ _ _ _
  rw [if_pos (by rw [decide_eq_true hr.1, decide_eq_true hr.2]; rfl)]
  exact Goes.pure _ _ _
theorem goes_loadPart {a : Addr} {pt : Option Value} {o : Obj} {s : Shared} {q : Pos} (ho : s.heap.get? a = some o) : Goes table p w n₀ ann (loadPart a pt) 1 s q o s q := Goes.load' (n := 0) ho (Goes.pure _ _ _)
theorem goes_updPart {a : Addr} {pt : Option Value} {f : Obj → Obj} {o : Obj} {s : Shared} {q : Pos} (hb : n₀ ≤ a) (ho : s.heap.get? a = some o) : Goes table p w n₀ ann (updatePart a pt f) 1 s q () { s with heap := s.heap.update a f } q := Goes.update' (n := 0) hb ho (Goes.pure _ _ _)
theorem goes_rule {t : String} {s : Shared} {q : Pos} : Goes table p w n₀ ann (PySem.rule t) 1 s q () s q := Goes.rule (n := 0) (Goes.pure _ _ _)
theorem goes_dictEntries {a : Addr} {pt : Option Value} {o : Obj} {es ep} {s : Shared} {q : Pos} (ho : s.heap.get? a = some o) (hd : o.data = .dict es ep) : Goes table p w n₀ ann (dictEntries a pt) 1 s q es s q := by
 unfold dictEntries
 refine Goes.bind (n := 1) (m := 0) (goes_loadPart ho) ?_
 rw [hd]; exact Goes.pure _ _ _
theorem goes_dictEpoch {a : Addr} {pt : Option Value} {o : Obj} {es ep} {s : Shared} {q : Pos} (ho : s.heap.get? a = some o) (hd : o.data = .dict es ep) : Goes table p w n₀ ann (dictEpoch a pt) 1 s q ep s q := by
 unfold dictEpoch
 refine Goes.bind (n := 1) (m := 0) (goes_loadPart ho) ?_
 rw [hd]; exact Goes.pure _ _ _
noncomputable def Lone (es : Array DictEntry) (h : Int) : Prop := ∀ e ∈ es, e.hash ≠ h
theorem places_none {es : Array DictEntry} {h : Int} (l : Lone es h) : placesWithHash es.size (fun i => es[i]?.map (·.hash)) h = [] := by
 unfold placesWithHash
 rw [List.filter_eq_nil_iff]
 intro i _ e
 simp only [beq_iff_eq, Option.map_eq_some_iff] at e
 obtain ⟨d, h1, h2⟩ := e
 exact l d (Array.mem_of_getElem? h1) h2
theorem goes_findNone {d : Addr} {k : Int} {t : Tok} {h : Int} {o : Obj} {es ep} {s : Shared} {q : Pos} (ho : s.heap.get? d = some o) (hd : o.data = .dict es ep) (l : Lone es h) :
  Goes table p w n₀ ann (dictFind d (.int k t) h) 1 s q none s q := by
 unfold dictFind
 refine Goes.holding ?_
 refine Goes.bind (n := 1) (m := 0) (goes_dictEntries ho hd) ?_
 simp only [places_none l]
 exact goes_eqpure rfl
theorem past_dict {es : Array DictEntry} {n : Nat} (h : es.size ≤ sizeLine + 1) : (Data.dict es n).pastItsLine = none := pastItsLine_dict h
theorem goes_updKeys {d : Addr} {pt : Option Value} {f} {c : Value} {dd : Option Addr} {sl : Array (Option Value)} {es ep} {s : Shared} {q : Pos} (hb : n₀ ≤ d) (ho : s.heap.get? d = some ⟨c, dd, .dict es ep, sl⟩)
  (hz : (f es).size ≤ sizeLine) : Goes table p w n₀ ann (updateDictKeys d f pt) 3 s q () { s with heap := s.heap.update d (Obj.mapDictKeys f) } q := by
 unfold updateDictKeys
 refine Goes.bind (n := 1) (m := 2) (goes_loadPart ho) ?_
 refine Goes.bind (n := 1) (m := 1) (goes_updPart hb ho) ?_
 unfold lookBehind
 refine Goes.bind (n := 1) (m := 0) (goes_loadPart (s := { s with heap := s.heap.update d (Obj.mapDictKeys f) }) (o := ⟨c, dd, .dict (f es) (ep + 1), sl⟩) (Heap.get?_update_self _ ho rfl)) ?_
 have e : (⟨c, dd, .dict (f es) (ep + 1), sl⟩ : Obj).data.pastItsLine = none := past_dict (by omega)
 rw [e]
 exact Goes.pure _ _ _
theorem goes_dictSet {d : Addr} {k : Int} {t : Tok} {v : Value} {c : Value} {dd : Option Addr} {sl : Array (Option Value)} {es ep} {s : Shared} {q : Pos} (hb : n₀ ≤ d) (ho : s.heap.get? d = some ⟨c, dd, .dict es ep, sl⟩)
  (hz : es.size < sizeLine) (l : Lone es (hashInt k)) : Goes table p w n₀ ann (dictSet d (.int k t) v) 10 s q () { s with toks := s.toks + 1, heap := s.heap.update d (Obj.mapDictKeys (·.push ⟨hashInt k, .int k t, v⟩)) } q := by
 unfold dictSet
 refine Goes.holding ?_
 refine Goes.bind (n := 5) (m := 5) (goes_hash k t s q) ?_
 unfold dictSetHashed
 refine Goes.holding ?_
 refine Goes.bind (n := 1) (m := 4) (goes_findNone (s := { s with toks := s.toks + 1 }) ho rfl l) ?_
 refine Goes.bind (n := 1) (m := 3) goes_rule ?_
 exact goes_updKeys (s := { s with toks := s.toks + 1 }) hb ho (by rw [Array.size_push]; omega)
theorem goes_dictPut {d : Addr} {k : Int} {t : Tok} {h : Int} {v : Value} {c : Value} {dd : Option Addr} {sl : Array (Option Value)} {es ep} {s : Shared} {q : Pos} (hb : n₀ ≤ d) (ho : s.heap.get? d = some ⟨c, dd, .dict es ep, sl⟩)
  (hz : es.size < sizeLine) (l : Lone es h) : Goes table p w n₀ ann (dictPut d h (.int k t) v) 4 s q () { s with heap := s.heap.update d (Obj.mapDictKeys (·.push ⟨h, .int k t, v⟩)) } q := by
 unfold dictPut
 refine Goes.bind (n := 1) (m := 3) (goes_findNone ho rfl l) ?_
 exact goes_updKeys hb ho (by rw [Array.size_push]; omega)
end
noncomputable def Hp (h₀ : Heap) (l : List Obj) : Heap := ⟨h₀.objs ++ l.toArray, h₀.life⟩
theorem Hp.nil (h₀ : Heap) : Hp h₀ [] = h₀ := by obtain ⟨o, l⟩ := h₀; simp [Hp]
theorem Hp.size (h₀ : Heap) (l : List Obj) : (Hp h₀ l).objs.size = h₀.objs.size + l.length := by simp [Hp]
theorem Hp.push (h₀ : Heap) (l : List Obj) (o : Obj) : (Hp h₀ l).push o = Hp h₀ (l ++ [o]) := by
 obtain ⟨os, lf⟩ := h₀
 simp [Hp, Heap.push]
theorem Hp.get (h₀ : Heap) (l : List Obj) (j : Nat) (o : Obj) (h : l[j]? = some o) (hf : o.isFreed = false) : (Hp h₀ l).get? (h₀.objs.size + j) = some o := by
 have e : (Hp h₀ l).objs[h₀.objs.size + j]? = some o := by
  simp only [Hp, Array.getElem?_append_right (Nat.le_add_right _ _), Nat.add_sub_cancel_left, List.getElem?_toArray, h]
 unfold Heap.get?
 rw [e]
 obtain ⟨c, d, dt, sl⟩ := o
 cases dt <;> first | rfl | (simp [Obj.isFreed] at hf)
theorem Hp.upd (h₀ : Heap) (l : List Obj) (j : Nat) (f : Obj → Obj) : (Hp h₀ l).update (h₀.objs.size + j) f = Hp h₀ (l.modify j f) := by
 obtain ⟨os, lf⟩ := h₀
 simp only [Hp, Heap.update, Heap.mk.injEq, and_true]
 apply Array.ext_getElem?
 intro i
 rw [Array.getElem?_modify]
 by_cases hi : i < os.size
 ·have : ¬ os.size + j = i := by omega
  rw [if_neg this, Array.getElem?_append_left hi, Array.getElem?_append_left hi]
 ·rw [Array.getElem?_append_right (by omega), Array.getElem?_append_right (by omega), List.getElem?_toArray, List.getElem?_toArray, List.getElem?_modify]
  by_cases e : os.size + j = i
  ·have h2 : j = i - os.size := by omega
   rw [if_pos e]; simp only [if_pos h2]; rfl
  ·have h2 : ¬ j = i - os.size := by omega
   rw [if_neg e]; simp only [if_neg h2]; simp
noncomputable def dobj (es : List DictEntry) (ep : Nat) : Obj := ⟨.type "dict", none, .dict es.toArray ep, #[]⟩
theorem dobj_push (es : List DictEntry) (ep : Nat) (e : DictEntry) : Obj.mapDictKeys (·.push e) (dobj es ep) = dobj (es ++ [e]) (ep + 1) := by simp [dobj, Obj.mapDictKeys]
noncomputable def ents : List (Int × Str) → Nat → List DictEntry
 | [], _ => []
 | (i, s) :: r, t => ⟨hashInt i, .int i t, .str s (t + 1)⟩ :: ents r (t + 3)
theorem ents_len : ∀ (a : List (Int × Str)) (t : Nat), (ents a t).length = a.length
 | [], _ => rfl
 | (i, s) :: r, t => by show (_ :: ents r (t + 3)).length = _; rw [List.length_cons, List.length_cons, ents_len]
noncomputable def Up : Int → List (Int × Str) → Prop
 | _, [] => True
 | b, (i, _) :: r => b < i ∧ 0 ≤ i ∧ i < 2 ^ 60 ∧ Up i r
noncomputable def upB : Int → List (Int × Str) → Bool
 | _, [] => true
 | b, (i, _) :: r => decide (b < i) && decide (0 ≤ i) && decide (i < 2 ^ 60) && upB i r
theorem up_of : ∀ {b : Int} {l : List (Int × Str)}, upB b l = true → Up b l
 | _, [], _ => trivial
 | b, (i, s) :: r, h => by
  simp only [upB, Bool.and_eq_true, decide_eq_true_eq] at h
  exact ⟨h.1.1.1, h.1.1.2, h.1.2, up_of h.2⟩
noncomputable def Bel (b : Int) (es : List DictEntry) : Prop := ∀ e ∈ es, e.hash ≤ b
theorem hash_small {i : Int} (h0 : 0 ≤ i) (h : i < 2 ^ 60) : hashInt i = i := by
 have hr : rawHash i = i := by
  simp only [rawHash]
  have e : (i.natAbs : Int) = i := by omega
  have m : ((i.natAbs : Int) % ((2 ^ 61 - 1 : Nat) : Int)) = i := by
   rw [e]; exact Int.emod_eq_of_lt h0 (by have : ((2 ^ 61 - 1 : Nat) : Int) = 2305843009213693951 := (by decide); omega)
  rw [m]
  have h1 : ¬ i < 0 := by omega
  have h2 : ¬ (i == -1) = true := by simp; omega
  rw [if_neg h1, if_neg h2]
 unfold hashInt
 rw [hr]
 have h2 : ¬ (i == -1) = true := by simp; omega
 rw [if_neg h2]
noncomputable def lastK : Int → List (Int × Str) → Int
 | b, [] => b
 | _, (i, _) :: r => lastK i r
theorem Up.split : ∀ {b : Int} {l r : List (Int × Str)}, Up b (l ++ r) → Up b l ∧ Up (lastK b l) r
 | _, [], _, h => ⟨trivial, h⟩
 | _, (i, _) :: l, r, h => ⟨⟨h.1, h.2.1, h.2.2.1, h.2.2.2.split.1⟩, h.2.2.2.split.2⟩
theorem Up.le_last : ∀ {b : Int} {l : List (Int × Str)}, Up b l → b ≤ lastK b l
 | _, [], _ => Int.le_refl _
 | _, (i, _) :: l, h => by have := Up.le_last h.2.2.2; have := h.1; show _ ≤ lastK i l; omega
theorem ents_bel : ∀ {b : Int} {l : List (Int × Str)} (t : Nat), Up b l → Bel (lastK b l) (ents l t)
 | _, [], _, _ => fun _ h => nomatch h
 | b, (i, s) :: r, t, h => fun e he => by
  rcases List.mem_cons.mp he with rfl | he
  ·show hashInt i ≤ lastK i r
   rw [hash_small h.2.1 h.2.2.1]
   exact h.2.2.2.le_last
  ·exact ents_bel (t + 3) h.2.2.2 e he
theorem Bel.app {b : Int} {x y : List DictEntry} (h : Bel b x) (k : Bel b y) : Bel b (x ++ y) := fun e he => (List.mem_append.mp he).elim (h e) (k e)
theorem Bel.mono {b c : Int} {x : List DictEntry} (h : Bel b x) (k : b ≤ c) : Bel c x := fun e he => Int.le_trans (h e he) k
theorem Bel.lone {b i : Int} {x : List DictEntry} (h : Bel b x) (k : b < i) : Lone x.toArray i := fun e he => by
 have := h e (by simpa using he); omega
section
variable {p : Program} {w : World} {n₀ : Nat} {ann : Option Value} {dp : Pos}
noncomputable def vtree (dp : Pos) (s : Str) : Sem Value := do let x ← mkText s; standAt dp; pure x
noncomputable def pr (dp : Pos) (x : Int × Str) : Sem Value × Sem Value := (mkInt x.1, vtree dp x.2)
noncomputable def itm (dp : Pos) (x : Int × Str) : Option (Sem Value) × Sem Value := (some (mkInt x.1), vtree dp x.2)
theorem goes_key (i : Int) (s : Shared) (q : Pos) : Goes table p w n₀ ann (mkInt i) 1 s q (.int i s.toks) { s with toks := s.toks + 1 } q :=
 Goes.bind (n := 1) (m := 0) (Goes.fresh' (n := 0) (Goes.pure _ _ _)) (Goes.pure _ _ _)
theorem goes_val (x : Str) (s : Shared) (q : Pos) : Goes table p w n₀ ann (vtree dp x) 2 s q (.str x s.toks) { s with toks := s.toks + 1 } dp :=
 Goes.bind (n := 1) (m := 1) (Goes.bind (n := 1) (m := 0) (Goes.fresh' (n := 0) (Goes.pure _ _ _)) (Goes.pure _ _ _)) (Goes.bind (n := 1) (m := 0) (Goes.at' (n := 0) (Goes.pure _ _ _)) (Goes.pure _ _ _))
theorem forIn_cons' {α β : Type} (a : α) (as : List α) (b : β) (f : α → β → Sem (ForInStep β)) : forIn (a :: as) b f = (f a b >>= fun r => match r with | .done b => pure b | .yield b => forIn as b f)  := by
 rw [List.forIn_cons]; congr 1
theorem mod_last (o : Obj) (f : Obj → Obj) : ∀ l : List Obj, (l ++ [o]).modify l.length f = l ++ [f o]
 | [] => rfl
 | a :: l => by rw [List.cons_append, List.length_cons, List.modify_succ_cons, mod_last o f l]; rfl
theorem goes_setOne {h₀ : Heap} {l : List Obj} {es : List DictEntry} {ep : Nat} {i : Int} {b : Int} {t tk : Nat} {v : Value} {s : Shared} {q : Pos} (hn : n₀ ≤ h₀.objs.size) (hs : s = { s with heap := Hp h₀ (l ++ [dobj es ep]), toks := tk })
  (hb : Bel b es) (hi : b < i) (h0 : 0 ≤ i) (h1 : i < 2 ^ 60) (hz : es.length < 100000) :
  Goes table p w n₀ ann (dictSet (h₀.objs.size + l.length) (.int i t) v) 10 s q () { s with heap := Hp h₀ (l ++ [dobj (es ++ [⟨hashInt i, .int i t, v⟩]) (ep + 1)]), toks := tk + 1 } q := by
 have hg : s.heap.get? (h₀.objs.size + l.length) = some (dobj es ep) := by rw [hs]; exact Hp.get _ _ _ _ (by simp) rfl
 have e : ({ s with heap := Hp h₀ (l ++ [dobj (es ++ [⟨hashInt i, .int i t, v⟩]) (ep + 1)]), toks := tk + 1 } : Shared) = { s with toks := s.toks + 1, heap := s.heap.update (h₀.objs.size + l.length) (Obj.mapDictKeys (·.push ⟨hashInt i, .int i t, v⟩)) } := by
  have a : s.toks = tk := by rw [hs]
  have c : s.heap = Hp h₀ (l ++ [dobj es ep]) := by rw [hs]
  rw [a, c, Hp.upd]
  rw [mod_last, dobj_push]
 rw [e]
 exact goes_dictSet (by omega) hg (by show es.toArray.size < 2 ^ 24; rw [List.size_toArray]; omega) (by rw [hash_small h0 h1]; exact hb.lone hi)
theorem goes_setAll {h₀ : Heap} {l : List Obj} : ∀ (C : List (Int × Str)) {es : List DictEntry} {ep : Nat} {b : Int} {tk : Nat} {s : Shared}, n₀ ≤ h₀.objs.size → s = { s with heap := Hp h₀ (l ++ [dobj es ep]), toks := tk } →
  Bel b es → Up b C → es.length + C.length < 100000 →
  Goes table p w n₀ ann (forIn (C.map (pr dp)) PUnit.unit fun x _ => match x with
   | (k, v) => do
    let kv ← k
    let vv ← holding [kv] v
    holding [kv, vv] (dictSet (h₀.objs.size + l.length) kv vv)
    pure (ForInStep.yield PUnit.unit)) (13 * C.length) s dp PUnit.unit { s with heap := Hp h₀ (l ++ [dobj (es ++ ents C tk) (ep + C.length)]), toks := tk + 3 * C.length } dp
 | [], es, ep, b, tk, s, hn, hs, hb, hu, hz => by
  have e : ({ s with heap := Hp h₀ (l ++ [dobj (es ++ ents [] tk) (ep + 0)]), toks := tk + 3 * 0 } : Shared) = s := by
   rw [hs]; simp [ents]
  show Goes _ _ _ _ _ _ _ _ _ _ { s with heap := Hp h₀ (l ++ [dobj (es ++ ents [] tk) (ep + 0)]), toks := tk + 3 * 0 } _
  rw [e]; exact Goes.pure _ _ _
 | (i, x) :: r, es, ep, b, tk, s, hn, hs, hb, hu, hz => by
  rw [List.map_cons, forIn_cons']
  have ht : s.toks = tk := by rw [hs]
  have hh : s.heap = Hp h₀ (l ++ [dobj es ep]) := by rw [hs]
  refine Goes.of_eq rfl (m := 13 + 13 * r.length) (by rw [List.length_cons]; omega) ?_
  refine Goes.bind (n := 13) (m := 13 * r.length) (a := ForInStep.yield PUnit.unit) (s' := { s with heap := Hp h₀ (l ++ [dobj (es ++ [⟨hashInt i, .int i tk, .str x (tk + 1)⟩]) (ep + 1)]), toks := tk + 3 }) (q' := dp) ?_ ?_
  ·refine Goes.bind (n := 1) (m := 12) (goes_key i s dp) ?_
   refine Goes.bind (n := 2) (m := 10) (Goes.holding (goes_val x _ dp)) ?_
   refine Goes.bind (n := 10) (m := 0) (a := ()) (Goes.holding ?_) (Goes.pure _ _ _)
   rw [ht]
   exact goes_setOne (s := { s with toks := tk + 1 + 1 }) (tk := tk + 2) hn (by rw [hh]) hb hu.1 hu.2.1 hu.2.2.1 (by simp only [List.length_cons] at hz; omega)
  ·have := goes_setAll r (es := es ++ [⟨hashInt i, .int i tk, .str x (tk + 1)⟩]) (ep := ep + 1) (b := i) (tk := tk + 3)
    (s := { s with heap := Hp h₀ (l ++ [dobj (es ++ [⟨hashInt i, .int i tk, .str x (tk + 1)⟩]) (ep + 1)]), toks := tk + 3 }) hn rfl
    ((hb.mono (Int.le_of_lt hu.1)).app (fun e he => by rw [List.mem_singleton.mp he]; show hashInt i ≤ i; rw [hash_small hu.2.1 hu.2.2.1]; exact Int.le_refl _)) hu.2.2.2 (by simp only [List.length_append, List.length_cons, List.length_nil] at hz ⊢; omega)
   have e : ({ s with heap := Hp h₀ (l ++ [dobj (es ++ ents ((i, x) :: r) tk) (ep + ((i, x) :: r).length)]), toks := tk + 3 * ((i, x) :: r).length } : Shared) =
     {s with heap := Hp h₀ (l ++ [dobj (es ++ [⟨hashInt i, .int i tk, .str x (tk + 1)⟩] ++ ents r (tk + 3)) (ep + 1 + r.length)]), toks := tk + 3 + 3 * r.length } := by
    rw [List.append_assoc, List.length_cons, show tk + 3 * (r.length + 1) = tk + 3 + 3 * r.length by omega, show ep + (r.length + 1) = ep + 1 + r.length by omega]; rfl
   rw [e]; exact this
theorem goes_subLong {h₀ : Heap} {l : List Obj} {C : List (Int × Str)} {b : Int} {tk : Nat} {s : Shared} (hn : n₀ ≤ h₀.objs.size) (hs : s = { s with heap := Hp h₀ l, toks := tk }) (hu : Up b C) (hC : 15 < C.length) (hz : C.length < 100000) :
  Goes table p w n₀ ann (subDict (C.map (pr dp))) (2 + 13 * C.length) s dp (h₀.objs.size + l.length) { s with heap := Hp h₀ (l ++ [dobj (ents C tk) C.length]), toks := tk + 3 * C.length } dp := by
 have ht : s.toks = tk := by rw [hs]
 have hh : s.heap = Hp h₀ l := by rw [hs]
 unfold subDict
 refine Goes.of_eq rfl (m := 1 + (1 + 13 * C.length)) (by omega) ?_
 refine Goes.bind (n := 1) (m := 1 + 13 * C.length) (a := h₀.objs.size + l.length) (s' := { s with heap := Hp h₀ (l ++ [dobj [] 0]) }) (q' := dp) ?_ ?_
 ·refine Goes.alloc' (n := 0) ?_
  rw [hh, Hp.push, Hp.size]
  exact Goes.pure _ _ _
 ·rw [if_neg (by rw [List.length_map]; omega)]
  refine Goes.bind (n := 1 + 13 * C.length) (m := 0) (a := ()) (Goes.holding ?_) (Goes.pure _ _ _)
  refine Goes.bind (n := 1) (m := 13 * C.length) goes_rule ?_
  refine Goes.bind (n := 13 * C.length) (m := 0) (a := PUnit.unit) (q' := dp) ?_ (Goes.pure _ _ _)
  have := goes_setAll (p := p) (w := w) (ann := ann) (dp := dp) (l := l) C (es := []) (ep := 0) (b := b) (tk := tk) (s := { s with heap := Hp h₀ (l ++ [dobj [] 0]) }) hn (by rw [← ht]) (fun _ h => nomatch h) hu (by simpa using hz)
  rw [List.nil_append, Nat.zero_add] at this
  exact this
noncomputable def pvs : List (Int × Str) → Nat → List (Value × Value)
 | [], _ => []
 | (i, x) :: r, t => (.int i t, .str x (t + 1)) :: pvs r (t + 2)
theorem goes_pairs : ∀ (C : List (Int × Str)) {s : Shared}, Goes table p w n₀ ann (evalPairs (C.map (pr dp))) (3 * C.length) s dp (pvs C s.toks) { s with toks := s.toks + 2 * C.length } dp
 | [], s => Goes.pure _ _ _
 | (i, x) :: r, s => by
  rw [List.map_cons]
  show Goes _ _ _ _ _ (evalPairs ((mkInt i, vtree dp x) :: r.map (pr dp))) _ _ _ _ _ _
  unfold evalPairs
  refine Goes.of_eq rfl (m := 1 + (2 + (3 * r.length + 0))) (by rw [List.length_cons]; omega) ?_
  refine Goes.bind (goes_key i s dp) ?_
  refine Goes.bind (Goes.holding (goes_val x _ dp)) ?_
  refine Goes.bind (a := pvs r (s.toks + 2)) (s' := { s with toks := s.toks + 2 + 2 * r.length }) (q' := dp) (Goes.holding ?_) ?_
  ·exact goes_pairs r (s := { s with toks := s.toks + 2 })
  ·have e : ({ s with toks := s.toks + 2 * ((i, x) :: r).length } : Shared) = { s with toks := s.toks + 2 + 2 * r.length } := by rw [List.length_cons, show s.toks + 2 * (r.length + 1) = s.toks + 2 + 2 * r.length by omega]
   rw [e]; exact Goes.pure _ _ _
noncomputable def entsS : List (Int × Str) → Nat → List DictEntry
 | [], _ => []
 | (i, x) :: r, t => ⟨hashInt i, .int i t, .str x (t + 1)⟩ :: entsS r (t + 2)
theorem entsS_len : ∀ (a : List (Int × Str)) (t : Nat), (entsS a t).length = a.length
 | [], _ => rfl
 | (i, s) :: r, t => by show (_ :: entsS r (t + 2)).length = _; rw [List.length_cons, List.length_cons, entsS_len]
theorem goes_setVs {h₀ : Heap} {l : List Obj} : ∀ (C : List (Int × Str)) {es : List DictEntry} {ep : Nat} {b : Int} {t tk : Nat} {s : Shared}, n₀ ≤ h₀.objs.size → s = { s with heap := Hp h₀ (l ++ [dobj es ep]), toks := tk } →
  Bel b es → Up b C → es.length + C.length < 100000 →
  Goes table p w n₀ ann (forIn (pvs C t) PUnit.unit fun x _ => match x with
   | (k, v) => do
    dictSet (h₀.objs.size + l.length) k v
    pure (ForInStep.yield PUnit.unit)) (10 * C.length) s dp PUnit.unit { s with heap := Hp h₀ (l ++ [dobj (es ++ entsS C t) (ep + C.length)]), toks := tk + C.length } dp
 | [], es, ep, b, t, tk, s, hn, hs, hb, hu, hz => by
  have e : ({ s with heap := Hp h₀ (l ++ [dobj (es ++ entsS [] t) (ep + 0)]), toks := tk + 0 } : Shared) = s := by
   rw [hs]; simp [entsS]
  show Goes _ _ _ _ _ _ _ _ _ _ { s with heap := Hp h₀ (l ++ [dobj (es ++ entsS [] t) (ep + 0)]), toks := tk + 0 } _
  rw [e]; exact Goes.pure _ _ _
 | (i, x) :: r, es, ep, b, t, tk, s, hn, hs, hb, hu, hz => by
  show Goes _ _ _ _ _ (forIn ((.int i t, .str x (t + 1)) :: pvs r (t + 2)) PUnit.unit _) _ _ _ _ _ _
  rw [forIn_cons']
  have ht : s.toks = tk := by rw [hs]
  have hh : s.heap = Hp h₀ (l ++ [dobj es ep]) := by rw [hs]
  refine Goes.of_eq rfl (m := 10 + 10 * r.length) (by rw [List.length_cons]; omega) ?_
  refine Goes.bind (n := 10) (m := 10 * r.length) (a := ForInStep.yield PUnit.unit) (s' := { s with heap := Hp h₀ (l ++ [dobj (es ++ [⟨hashInt i, .int i t, .str x (t + 1)⟩]) (ep + 1)]), toks := tk + 1 }) (q' := dp) ?_ ?_
  ·refine Goes.bind (n := 10) (m := 0) (a := ()) ?_ (Goes.pure _ _ _)
   exact goes_setOne (s := s) (tk := tk) hn hs hb hu.1 hu.2.1 hu.2.2.1 (by simp only [List.length_cons] at hz; omega)
  ·have := goes_setVs r (es := es ++ [⟨hashInt i, .int i t, .str x (t + 1)⟩]) (ep := ep + 1) (b := i) (t := t + 2) (tk := tk + 1)
    (s := { s with heap := Hp h₀ (l ++ [dobj (es ++ [⟨hashInt i, .int i t, .str x (t + 1)⟩]) (ep + 1)]), toks := tk + 1 }) hn rfl
    ((hb.mono (Int.le_of_lt hu.1)).app (fun e he => by rw [List.mem_singleton.mp he]; show hashInt i ≤ i; rw [hash_small hu.2.1 hu.2.2.1]; exact Int.le_refl _)) hu.2.2.2 (by simp only [List.length_append, List.length_cons, List.length_nil] at hz ⊢; omega)
   have e : ({ s with heap := Hp h₀ (l ++ [dobj (es ++ entsS ((i, x) :: r) t) (ep + ((i, x) :: r).length)]), toks := tk + ((i, x) :: r).length } : Shared) =
     {s with heap := Hp h₀ (l ++ [dobj (es ++ [⟨hashInt i, .int i t, .str x (t + 1)⟩] ++ entsS r (t + 2)) (ep + 1 + r.length)]), toks := tk + 1 + r.length } := by
    rw [List.append_assoc, List.length_cons, show tk + (r.length + 1) = tk + 1 + r.length by omega, show ep + (r.length + 1) = ep + 1 + r.length by omega]; rfl
   rw [e]; exact this
theorem goes_subShort {h₀ : Heap} {l : List Obj} {C : List (Int × Str)} {b : Int} {tk : Nat} {s : Shared} (hn : n₀ ≤ h₀.objs.size) (hs : s = { s with heap := Hp h₀ l, toks := tk }) (hu : Up b C) (hC : C.length ≤ 15) :
  Goes table p w n₀ ann (subDict (C.map (pr dp))) (1 + 13 * C.length) s dp (h₀.objs.size + l.length) { s with heap := Hp h₀ (l ++ [dobj (entsS C tk) C.length]), toks := tk + 3 * C.length } dp := by
 have ht : s.toks = tk := by rw [hs]
 have hh : s.heap = Hp h₀ l := by rw [hs]
 unfold subDict
 refine Goes.of_eq rfl (m := 1 + (3 * C.length + 10 * C.length)) (by omega) ?_
 refine Goes.bind (n := 1) (a := h₀.objs.size + l.length) (s' := { s with heap := Hp h₀ (l ++ [dobj [] 0]) }) (q' := dp) ?_ ?_
 ·refine Goes.alloc' (n := 0) ?_
  rw [hh, Hp.push, Hp.size]
  exact Goes.pure _ _ _
 ·rw [if_pos (by rw [List.length_map]; omega)]
  refine Goes.bind (n := 3 * C.length + 10 * C.length) (m := 0) (a := ()) (Goes.holding ?_) (Goes.pure _ _ _)
  refine Goes.bind (n := 3 * C.length) (m := 10 * C.length) (goes_pairs C) (Goes.holding ?_)
  refine Goes.bind (n := 10 * C.length) (m := 0) (a := PUnit.unit) (q' := dp) ?_ (Goes.pure _ _ _)
  have := goes_setVs (p := p) (w := w) (ann := ann) (dp := dp) (l := l) C (es := []) (ep := 0) (b := b) (t := tk) (tk := tk + 2 * C.length) (s := { s with heap := Hp h₀ (l ++ [dobj [] 0]), toks := tk + 2 * C.length }) hn rfl (fun _ h => nomatch h) hu (by simp; omega)
  rw [List.nil_append, Nat.zero_add, show tk + 2 * C.length + C.length = tk + 3 * C.length by omega] at this
  show Goes _ _ _ _ _ (forIn (pvs C s.toks) _ _) _ _ _ _ _ _
  rw [ht]
  exact this
end
noncomputable def UpE : Int → List DictEntry → Prop
 | _, [] => True
 | b, e :: r => b < e.hash ∧ (∃ k t, e.key = .int k t) ∧ UpE e.hash r
theorem upE_ents : ∀ {b : Int} {l : List (Int × Str)} (t : Nat), Up b l → UpE b (ents l t)
 | _, [], _, _ => trivial
 | b, (i, s) :: r, t, h => by
  show b < hashInt i ∧ (∃ k t', Value.int i t = .int k t') ∧ UpE (hashInt i) (ents r (t + 3))
  rw [hash_small h.2.1 h.2.2.1]
  exact ⟨h.1, ⟨_, _, rfl⟩, upE_ents (t + 3) h.2.2.2⟩
theorem upE_entsS : ∀ {b : Int} {l : List (Int × Str)} (t : Nat), Up b l → UpE b (entsS l t)
 | _, [], _, _ => trivial
 | b, (i, s) :: r, t, h => by
  show b < hashInt i ∧ (∃ k t', Value.int i t = .int k t') ∧ UpE (hashInt i) (entsS r (t + 2))
  rw [hash_small h.2.1 h.2.2.1]
  exact ⟨h.1, ⟨_, _, rfl⟩, upE_entsS (t + 2) h.2.2.2⟩
section
variable {p : Program} {w : World} {n₀ : Nat} {ann : Option Value} {dp : Pos}
theorem goes_loadHead {a : Addr} {o : Obj} {s : Shared} {q : Pos} (ho : s.heap.get? a = some o) : Goes table p w n₀ ann (typeOf (.ref a)) 1 s q o.cls s q := by
 unfold typeOf
 exact Goes.bind (n := 1) (m := 0) (goes_loadPart ho) (Goes.pure _ _ _)
theorem goes_mergeLoop {h₀ : Heap} {mid : List Obj} {all : List DictEntry} {ep2 : Nat} {s₀ : Shared} {q : Pos} (hn : n₀ ≤ h₀.objs.size) : ∀ (rest done : List DictEntry) {es : List DictEntry} {ep : Nat} {b : Int} {s : Shared},
  all = done ++ rest → s = { s₀ with heap := Hp h₀ (dobj es ep :: (mid ++ [dobj all ep2])) } → Bel b es → UpE b rest → es.length + rest.length < 100000 →
  Goes table p w n₀ ann (forIn (List.range' done.length rest.length) PUnit.unit fun i _ => do
    let es ← dictEntries (h₀.objs.size + (mid.length + 1))
    match es[i]? with
     | some e => do
      holding [e.key, e.val] (dictPut h₀.objs.size e.hash e.key e.val)
      let ep ← dictEpoch (h₀.objs.size + (mid.length + 1))
      if (ep != ep2) = true then do
       unsupported "dict.changed-during-merge"
       pure (ForInStep.yield PUnit.unit)
      else pure (ForInStep.yield PUnit.unit)
     | x => do
      unsupported "dict.changed-during-merge"
      pure (ForInStep.yield PUnit.unit)) (6 * rest.length) s q PUnit.unit { s₀ with heap := Hp h₀ (dobj (es ++ rest) (ep + rest.length) :: (mid ++ [dobj all ep2])) } q
 | [], done, es, ep, b, s, ha, hs, hb, hu, hz => by
  have e : ({ s₀ with heap := Hp h₀ (dobj (es ++ []) (ep + 0) :: (mid ++ [dobj all ep2])) } : Shared) = s := by rw [hs]; simp
  show Goes _ _ _ _ _ _ _ _ _ _ { s₀ with heap := Hp h₀ (dobj (es ++ []) (ep + 0) :: (mid ++ [dobj all ep2])) } _
  rw [e]; exact Goes.pure _ _ _
 | d :: r, done, es, ep, b, s, ha, hs, hb, hu, hz => by
  rw [List.length_cons, List.range'_succ, forIn_cons']
  obtain ⟨h1, ⟨k, t, hk⟩, h3⟩ := hu
  have hh : s.heap = Hp h₀ (dobj es ep :: (mid ++ [dobj all ep2])) := by rw [hs]
  have gA : ∀ es' ep', (Hp h₀ (dobj es' ep' :: (mid ++ [dobj all ep2]))).get? (h₀.objs.size + (mid.length + 1)) = some (dobj all ep2) := fun es' ep' => Hp.get _ _ _ _ (by simp) rfl
  have gD : s.heap.get? h₀.objs.size = some (dobj es ep) := by rw [hh]; exact Hp.get h₀ _ 0 _ rfl rfl
  have hi : all.toArray[done.length]? = some d := by rw [ha]; simp
  refine Goes.of_eq rfl (m := 6 + 6 * r.length) (by omega) ?_
  refine Goes.bind (n := 6) (a := ForInStep.yield PUnit.unit) (s' := { s₀ with heap := Hp h₀ (dobj (es ++ [d]) (ep + 1) :: (mid ++ [dobj all ep2])) }) (q' := q) ?_ ?_
  ·refine Goes.bind (n := 1) (m := 5) (goes_dictEntries (o := dobj all ep2) (by rw [hh]; exact gA _ _) rfl) ?_
   rw [hi]
   dsimp only
   have e1 : ({ s₀ with heap := Hp h₀ (dobj (es ++ [d]) (ep + 1) :: (mid ++ [dobj all ep2])) } : Shared) = { s with heap := s.heap.update h₀.objs.size (Obj.mapDictKeys (·.push ⟨d.hash, .int k t, d.val⟩)) } := by
    have : (⟨d.hash, .int k t, d.val⟩ : DictEntry) = d := by rw [← hk]
    rw [this, hh, ← Nat.add_zero h₀.objs.size, Hp.upd, hs]
    simp only [List.modify_zero_cons, dobj_push]
   refine Goes.bind (n := 4) (m := 1) (a := ()) (s' := { s₀ with heap := Hp h₀ (dobj (es ++ [d]) (ep + 1) :: (mid ++ [dobj all ep2])) }) (q' := q) (Goes.holding ?_) ?_
   ·rw [hk, e1]
    exact goes_dictPut (by omega) gD (by show es.toArray.size < 2 ^ 24; rw [List.size_toArray]; simp only [List.length_cons] at hz; omega) (hb.lone h1)
   ·refine Goes.bind (n := 1) (m := 0) (goes_dictEpoch (o := dobj all ep2) (gA _ _) rfl) ?_
    rw [if_neg (by simp)]
    exact Goes.pure _ _ _
  ·have := goes_mergeLoop (q := q) hn r (done ++ [d]) (es := es ++ [d]) (ep := ep + 1) (b := d.hash) (s := { s₀ with heap := Hp h₀ (dobj (es ++ [d]) (ep + 1) :: (mid ++ [dobj all ep2])) }) (by rw [ha]; simp) rfl
    ((hb.mono (Int.le_of_lt h1)).app fun e he => by rw [List.mem_singleton.mp he]; exact Int.le_refl _) h3 (by simp only [List.length_append, List.length_cons, List.length_nil] at hz ⊢; omega)
   rw [List.length_append, List.append_assoc, show ep + 1 + r.length = ep + (r.length + 1) by omega] at this
   exact this
theorem goes_merge {h₀ : Heap} {mid : List Obj} {es es2 : List DictEntry} {ep ep2 : Nat} {b : Int} {s : Shared} {q : Pos} (hn : n₀ ≤ h₀.objs.size) (hh : s.heap = Hp h₀ (dobj es ep :: (mid ++ [dobj es2 ep2]))) (hb : Bel b es) (hu : UpE b es2)
  (hne : es ≠ []) (hz : es.length + es2.length < 100000) (hsys : (h₀.objs.size + (mid.length + 1) == sysModules) = false) :
  Goes table p w n₀ ann (mergeMapping h₀.objs.size (.ref (h₀.objs.size + (mid.length + 1))) false) (5 + 6 * es2.length) s q () { s with heap := Hp h₀ (dobj (es ++ es2) (ep + es2.length) :: (mid ++ [dobj es2 ep2])) } q := by
 have gA : s.heap.get? (h₀.objs.size + (mid.length + 1)) = some (dobj es2 ep2) := by rw [hh]; exact Hp.get _ _ _ _ (by simp) rfl
 have gD : s.heap.get? h₀.objs.size = some (dobj es ep) := by rw [hh]; exact Hp.get h₀ _ 0 _ rfl rfl
 unfold mergeMapping
 refine Goes.of_eq rfl (m := 1 + (1 + (1 + (1 + (1 + 6 * es2.length))))) (by omega) ?_
 refine Goes.bind (n := 1) (a := true) (s' := s) (q' := q) ?_ ?_
 ·unfold isInstance
  refine Goes.bind (n := 1) (m := 0) (goes_loadHead gA) ?_
  exact goes_eqpure isSubtype_dict_dict
 ·dsimp only
  rw [if_pos rfl]
  refine Goes.bind (n := 1) (a := some (.builtin "dict.__iter__")) (s' := s) (q' := q) ?_ ?_
  ·unfold specialOf
   refine Goes.bind (n := 1) (m := 0) (goes_loadHead gA) ?_
   exact goes_eqpure PySem.F.slot_dict_iter.lookup
  ·have hbeq : (some (Value.builtin "dict.__iter__") == some (Value.builtin "dict.__iter__")) = true := by decide +kernel
   rw [hbeq]
   refine Goes.of_eq (pure_bind _ _) rfl ?_
   dsimp only
   rw [if_neg (by rw [hsys]; exact Bool.false_ne_true)]
   refine Goes.bind (n := 1) (goes_dictEntries gD rfl) ?_
   rw [if_neg (by cases es with | nil => exact absurd rfl hne | cons a l => simp)]
   refine Goes.bind (n := 1) (goes_dictEntries gA rfl) ?_
   refine Goes.bind (n := 1) (goes_dictEpoch gA rfl) ?_
   refine Goes.bind (n := 6 * es2.length) (m := 0) (a := PUnit.unit) (q' := q) ?_ (Goes.pure _ _ _)
   have := goes_mergeLoop (p := p) (w := w) (ann := ann) (mid := mid) (all := es2) (ep2 := ep2) (s₀ := s) (q := q) hn es2 [] (es := es) (ep := ep) (b := b) (s := s) rfl (by rw [← hh]) hb hu hz
   rw [List.size_toArray, List.range_eq_range']
   exact this
end
noncomputable def flushS (run : List (Sem Value × Sem Value)) (main : Option Addr) : Sem (Option Addr) :=
 match main with
 | none => do let x ← subDict run; pure (some x)
 | some d => do
  let sub ← holding [.ref d] (subDict run)
  (holding [.ref d, .ref sub] (mergeMapping d (.ref sub) false)).onRaise fun x => do
   let _ ← holding [.ref d, x] (runValue (.builtin "proto.let_go" {}))
   pure ()
  pure (some d)
section
variable {p : Program} {w : World} {n₀ : Nat} {ann : Option Value} {dp : Pos}
variable {B : (Option (Sem Value) × Sem Value) → (Option Addr × List (Sem Value × Sem Value)) → Sem (ForInStep (Option Addr × List (Sem Value × Sem Value)))}
theorem acc_full (h1 : ∀ main run k v, run.length ≠ 16 → B (some k, v) (main, run) = pure (.yield (main, run ++ [(k, v)])))
  (h2 : ∀ main run k v, run.length = 16 → B (some k, v) (main, run) = flushS (run ++ [(k, v)]) main >>= fun m => pure (.yield (m, []))) (main : Option Addr) (rest : List (Int × Str)) :
  ∀ (C R : List (Int × Str)), R.length + C.length = 17 → C ≠ [] → forIn ((C ++ rest).map (itm dp)) (main, R.map (pr dp)) B = flushS ((R ++ C).map (pr dp)) main >>= fun m => forIn (rest.map (itm dp)) (m, []) B
 | [], R, _, h => absurd rfl h
 | [c], R, hl, _ => by
  rw [List.cons_append, List.map_cons, forIn_cons']
  show (B (some (mkInt c.1), vtree dp c.2) (main, R.map (pr dp)) >>= _) = _
  have e2 : (R ++ [c]).map (pr dp) = R.map (pr dp) ++ [(mkInt c.1, vtree dp c.2)] := by rw [List.map_append]; rfl
  rw [h2 _ _ _ _ (by simp at hl ⊢; omega), bind_assoc, e2]
  congr 1
 | c :: c' :: C, R, hl, _ => by
  rw [List.cons_append, List.map_cons, forIn_cons']
  show (B (some (mkInt c.1), vtree dp c.2) (main, R.map (pr dp)) >>= _) = _
  rw [h1 _ _ _ _ (by simp at hl ⊢; omega), pure_bind]
  have := acc_full h1 h2 main rest (c' :: C) (R ++ [c]) (by simp at hl ⊢; omega) (by simp)
  have e2 : (R ++ [c]).map (pr dp) = R.map (pr dp) ++ [(mkInt c.1, vtree dp c.2)] := by rw [List.map_append]; rfl
  rw [e2, List.append_assoc] at this
  exact this
theorem acc_part (h1 : ∀ main run k v, run.length ≠ 16 → B (some k, v) (main, run) = pure (.yield (main, run ++ [(k, v)]))) (main : Option Addr) :
  ∀ (C R : List (Int × Str)), R.length + C.length < 17 → forIn (C.map (itm dp)) (main, R.map (pr dp)) B = pure (main, (R ++ C).map (pr dp))
 | [], R, _ => by rw [List.map_nil, List.append_nil]; rfl
 | c :: C, R, hl => by
  rw [List.map_cons, forIn_cons']
  show (B (some (mkInt c.1), vtree dp c.2) (main, R.map (pr dp)) >>= _) = _
  rw [h1 _ _ _ _ (by simp at hl ⊢; omega), pure_bind]
  have := acc_part h1 main C (R ++ [c]) (by simp at hl ⊢; omega)
  have e2 : (R ++ [c]).map (pr dp) = R.map (pr dp) ++ [(mkInt c.1, vtree dp c.2)] := by rw [List.map_append]; rfl
  rw [e2, List.append_assoc] at this
  exact this
noncomputable def subsOf : List (List (Int × Str)) → Nat → List Obj
 | [], _ => []
 | C :: r, t => dobj (ents C t) C.length :: subsOf r (t + 3 * C.length)
noncomputable def allOf : List (List (Int × Str)) → Nat → List DictEntry
 | [], _ => []
 | C :: r, t => ents C t ++ allOf r (t + 3 * C.length)
noncomputable def cLong : Nat := (2 + 13 * 17) + (5 + 6 * 17)
theorem goes_flushSome {h₀ : Heap} {mid : List Obj} {C : List (Int × Str)} {es : List DictEntry} {ep tk : Nat} {b : Int} {s : Shared} (hn : n₀ ≤ h₀.objs.size) (hs : s = { s with heap := Hp h₀ (dobj es ep :: mid), toks := tk }) (hb : Bel b es) (hu : Up b C)
  (hC : 15 < C.length) (hne : es ≠ []) (hz : es.length + C.length < 100000) (hsys : @LT.lt Nat _ sysModules h₀.objs.size) :
  Goes table p w n₀ ann (flushS (C.map (pr dp)) (some h₀.objs.size)) ((2 + 13 * C.length) + (5 + 6 * C.length)) s dp (some h₀.objs.size)
   {s with heap := Hp h₀ (dobj (es ++ ents C tk) (ep + C.length) :: (mid ++ [dobj (ents C tk) C.length])), toks := tk + 3 * C.length } dp := by
 unfold flushS
 refine Goes.bind (Goes.holding (goes_subLong (l := dobj es ep :: mid) hn hs hu hC (by omega))) ?_
 refine Goes.of_eq rfl (m := 5 + 6 * C.length + 0) rfl ?_
 refine Goes.bind (a := ()) (q' := dp) (Goes.onRaise (Goes.holding ?_)) (Goes.pure _ _ _)
 have := goes_merge (p := p) (w := w) (ann := ann) (q := dp) (mid := mid) (es := es) (es2 := ents C tk) (ep := ep) (ep2 := C.length) (b := b) (h₀ := h₀) (s := { s with heap := Hp h₀ (dobj es ep :: mid ++ [dobj (ents C tk) C.length]), toks := tk + 3 * C.length }) hn rfl hb (upE_ents tk hu) hne
  (by rw [ents_len]; exact hz) (beq_eq_false_iff_ne.mpr (by omega))
 rw [ents_len] at this
 exact this
theorem goes_flushShort {h₀ : Heap} {mid : List Obj} {C : List (Int × Str)} {es : List DictEntry} {ep tk : Nat} {b : Int} {s : Shared} (hn : n₀ ≤ h₀.objs.size) (hs : s = { s with heap := Hp h₀ (dobj es ep :: mid), toks := tk }) (hb : Bel b es) (hu : Up b C)
  (hC : C.length ≤ 15) (hne : es ≠ []) (hz : es.length + C.length < 100000) (hsys : @LT.lt Nat _ sysModules h₀.objs.size) :
  Goes table p w n₀ ann (flushS (C.map (pr dp)) (some h₀.objs.size)) ((1 + 13 * C.length) + (5 + 6 * C.length)) s dp (some h₀.objs.size)
   {s with heap := Hp h₀ (dobj (es ++ entsS C tk) (ep + C.length) :: (mid ++ [dobj (entsS C tk) C.length])), toks := tk + 3 * C.length } dp := by
 unfold flushS
 refine Goes.bind (Goes.holding (goes_subShort (l := dobj es ep :: mid) hn hs hu hC)) ?_
 refine Goes.of_eq rfl (m := 5 + 6 * C.length + 0) rfl ?_
 refine Goes.bind (a := ()) (q' := dp) (Goes.onRaise (Goes.holding ?_)) (Goes.pure _ _ _)
 have := goes_merge (p := p) (w := w) (ann := ann) (q := dp) (mid := mid) (es := es) (es2 := entsS C tk) (ep := ep) (ep2 := C.length) (b := b) (h₀ := h₀) (s := { s with heap := Hp h₀ (dobj es ep :: mid ++ [dobj (entsS C tk) C.length]), toks := tk + 3 * C.length }) hn rfl hb (upE_entsS tk hu) hne
  (by rw [entsS_len]; exact hz) (beq_eq_false_iff_ne.mpr (by omega))
 rw [entsS_len] at this
 exact this
theorem goes_rows (h1 : ∀ main run k v, run.length ≠ 16 → B (some k, v) (main, run) = pure (.yield (main, run ++ [(k, v)])))
  (h2 : ∀ main run k v, run.length = 16 → B (some k, v) (main, run) = flushS (run ++ [(k, v)]) main >>= fun m => pure (.yield (m, []))) {h₀ : Heap} (hn : n₀ ≤ h₀.objs.size) (hsys : @LT.lt Nat _ sysModules h₀.objs.size) (R : List (Int × Str)) (hR : R.length ≤ 15) (hR0 : R ≠ []) {G : (Option Addr × List (Sem Value × Sem Value)) → Sem (Option Addr)} (hG : ∀ main run, run ≠ [] → G (main, run) = flushS run main) :
  ∀ (Cs : List (List (Int × Str))) {mid : List Obj} {es : List DictEntry} {ep tk : Nat} {b : Int} {s : Shared}, (∀ C ∈ Cs, C.length = 17) → s = { s with heap := Hp h₀ (dobj es ep :: mid), toks := tk } → Bel b es → Up b (Cs.flatten ++ R) → es ≠ [] →
   es.length + Cs.flatten.length + R.length < 100000 →
   Goes table p w n₀ ann (forIn ((Cs.flatten ++ R).map (itm dp)) (some h₀.objs.size, []) B >>= G) (Cs.length * cLong + ((1 + 13 * R.length) + (5 + 6 * R.length))) s dp (some h₀.objs.size)
    {s with heap := Hp h₀ (dobj (es ++ allOf Cs tk ++ entsS R (tk + 3 * Cs.flatten.length)) (ep + Cs.flatten.length + R.length) :: (mid ++ subsOf Cs tk ++ [dobj (entsS R (tk + 3 * Cs.flatten.length)) R.length])), toks := tk + 3 * Cs.flatten.length + 3 * R.length } dp
 | [], mid, es, ep, tk, b, s, hCs, hs, hb, hu, hne, hz => by
  have e := acc_part (dp := dp) h1 (some h₀.objs.size) R [] (by simp; omega)
  rw [List.map_nil] at e
  show Goes _ _ _ _ _ (forIn (R.map (itm dp)) (some h₀.objs.size, []) B >>= _) _ _ _ _ _ _
  rw [e, pure_bind, List.nil_append, hG _ _ (by cases R with | nil => exact absurd rfl hR0 | cons a l => intro h; cases h)]
  have := goes_flushShort (p := p) (w := w) (ann := ann) (dp := dp) (C := R) hn hs hb hu hR hne (by simp at hz; omega) hsys
  simp only [List.flatten_nil, List.length_nil, Nat.mul_zero, Nat.add_zero, Nat.zero_mul, Nat.zero_add, allOf, subsOf, List.append_nil]
  exact this
 | C :: Cs, mid, es, ep, tk, b, s, hCs, hs, hb, hu, hne, hz => by
  have hC := hCs C (.head _)
  have e := acc_full (dp := dp) h1 h2 (some h₀.objs.size) (Cs.flatten ++ R) C [] (by simp; omega) (by intro h; rw [h] at hC; cases hC)
  rw [List.map_nil, List.nil_append] at e
  rw [List.flatten_cons, List.append_assoc, e, bind_assoc]
  rw [List.flatten_cons, List.append_assoc] at hu
  obtain ⟨u1, u2⟩ := hu.split
  have hz' : es.length + C.length < 100000 := by simp only [List.flatten_cons, List.length_append] at hz; omega
  have f := goes_flushSome (p := p) (w := w) (ann := ann) (dp := dp) (C := C) hn hs hb u1 (by omega) hne hz' hsys
  have g := goes_rows h1 h2 hn hsys R hR hR0 hG Cs (mid := mid ++ [dobj (ents C tk) C.length]) (es := es ++ ents C tk) (ep := ep + C.length) (tk := tk + 3 * C.length) (b := lastK b C)
   (s := { s with heap := Hp h₀ (dobj (es ++ ents C tk) (ep + C.length) :: (mid ++ [dobj (ents C tk) C.length])), toks := tk + 3 * C.length }) (fun C' h => hCs C' (.tail _ h)) rfl ((hb.mono u1.le_last).app (ents_bel tk u1)) u2
   (by intro h; exact hne (List.append_eq_nil_iff.mp h).1) (by simp only [List.flatten_cons, List.length_append, ents_len] at hz ⊢; omega)
  have k := f.bind (f := fun m => forIn ((Cs.flatten ++ R).map (itm dp)) (m, []) B >>= G) g
  have en : (C :: Cs).length * cLong + ((1 + 13 * R.length) + (5 + 6 * R.length)) = ((2 + 13 * C.length) + (5 + 6 * C.length)) + (Cs.length * cLong + ((1 + 13 * R.length) + (5 + 6 * R.length))) := by
   rw [hC, List.length_cons, Nat.succ_mul]; unfold cLong; omega
  have es1 : ({ s with heap := Hp h₀ (dobj (es ++ allOf (C :: Cs) tk ++ entsS R (tk + 3 * (C ++ Cs.flatten).length)) (ep + (C ++ Cs.flatten).length + R.length) :: (mid ++ subsOf (C :: Cs) tk ++ [dobj (entsS R (tk + 3 * (C ++ Cs.flatten).length)) R.length])), toks := tk + 3 * (C ++ Cs.flatten).length + 3 * R.length } : Shared) =
   {s with heap := Hp h₀ (dobj (es ++ ents C tk ++ allOf Cs (tk + 3 * C.length) ++ entsS R (tk + 3 * C.length + 3 * Cs.flatten.length)) (ep + C.length + Cs.flatten.length + R.length) :: (mid ++ [dobj (ents C tk) C.length] ++ subsOf Cs (tk + 3 * C.length) ++ [dobj (entsS R (tk + 3 * C.length + 3 * Cs.flatten.length)) R.length])), toks := tk + 3 * C.length + 3 * Cs.flatten.length + 3 * R.length } := by
   rw [List.length_append, show tk + 3 * (C.length + Cs.flatten.length) = tk + 3 * C.length + 3 * Cs.flatten.length by omega, show ep + (C.length + Cs.flatten.length) = ep + C.length + Cs.flatten.length by omega]
   simp only [allOf, subsOf, List.append_assoc, List.cons_append, List.nil_append]
  rw [en, es1]
  exact k
end
noncomputable def kI : Option Expr → Option Int
 | some (.Constant (.int i) _ _) => some i
 | _ => none
noncomputable def vS : Expr → Option Str
 | .Constant (.str s) _ _ => some s
 | _ => none
noncomputable def cPairs : List (Option Expr) → List Expr → Option (List (Int × Str))
 | [], [] => some []
 | k :: ks, v :: vs => (kI k).bind fun i => (vS v).bind fun s => (cPairs ks vs).map ((i, s) :: ·)
 | [], _ :: _ => none
 | _ :: _, [] => none
theorem kI_some {k : Option Expr} {i : Int} (h : kI k = some i) : ∃ a b, k = some (.Constant (.int i) a b) := by
 rcases k with _ | e
 ·cases h
 ·cases e <;> first | (cases h; done) | (rename_i c a b; cases c <;> first | (cases h; done) | (cases h; exact ⟨_, _, rfl⟩))
theorem vS_some {e : Expr} {s : Str} (h : vS e = some s) : ∃ a b, e = .Constant (.str s) a b := by
 cases e <;> first | (cases h; done) | (rename_i c a b; cases c <;> first | (cases h; done) | (cases h; exact ⟨_, _, rfl⟩))
theorem items_of (dp : Pos) (env : Env) : ∀ (ks : List (Option Expr)) (vs : List Expr) (L : List (Int × Str)), cPairs ks vs = some L →
  (evalEachOpt ks env).zip ((evalEach vs env).map fun v => do let x ← v; standAt dp; pure x) = L.map (itm dp) := by
 intro ks
 induction ks with
 | nil =>
  intro vs L h
  cases vs with
  | nil => cases (show some [] = some L from h); rfl
  | cons v vs => cases (show none = some L from h)
 | cons k ks ih =>
  intro vs L h
  cases vs with
  | nil => cases (show none = some L from h)
  | cons v vs =>
   obtain ⟨i, h1, h⟩ := Option.bind_eq_some_iff.mp (show ((kI k).bind fun i => (vS v).bind fun s => (cPairs ks vs).map ((i, s) :: ·)) = some L from h)
   obtain ⟨s, h2, h⟩ := Option.bind_eq_some_iff.mp h
   obtain ⟨L', e1, e2⟩ := Option.map_eq_some_iff.mp h
   obtain ⟨_, _, rfl⟩ := kI_some h1
   obtain ⟨_, _, rfl⟩ := vS_some h2
   subst e2
   have := ih vs L' e1
   show (_ :: evalEachOpt ks env).zip (_ :: (evalEach vs env).map _) = _
   rw [List.zip_cons_cons, this]
   rfl
noncomputable def rows17 {α : Type} : Nat → List α → List (List α)
 | 0, _ => []
 | n + 1, l => l.take 17 :: rows17 n (l.drop 17)
theorem rows17_len {α : Type} : ∀ (n : Nat) (l : List α), 17 * n ≤ l.length → ∀ C ∈ rows17 n l, C.length = 17
 | 0, _, _, _, h => nomatch h
 | n + 1, l, hl, C, h => by
  rcases List.mem_cons.mp h with rfl | h
  ·rw [List.length_take]; omega
  ·exact rows17_len n (l.drop 17) (by rw [List.length_drop]; omega) C h
theorem rows17_flat {α : Type} : ∀ (n : Nat) (l : List α), (rows17 n l).flatten ++ l.drop (17 * n) = l
 | 0, l => rfl
 | n + 1, l => by
  have := rows17_flat n (l.drop 17)
  rw [List.drop_drop] at this
  show (l.take 17 :: rows17 n (l.drop 17)).flatten ++ _ = l
  rw [List.flatten_cons, List.append_assoc, show 17 * (n + 1) = 17 + 17 * n by omega, this, List.take_append_drop]
theorem rows17_num {α : Type} : ∀ (n : Nat) (l : List α), (rows17 n l).length = n
 | 0, _ => rfl
 | n + 1, l => by show (_ :: rows17 n _).length = _; rw [List.length_cons, rows17_num]
noncomputable def dictObjs (n : Nat) (L : List (Int × Str)) (t : Nat) : List Obj :=
 let C := L.take 17
 let Cs := rows17 n (L.drop 17)
 let R := (L.drop 17).drop (17 * n)
 dobj (ents C t ++ allOf Cs (t + 51) ++ entsS R (t + 51 + 51 * n)) L.length :: (subsOf Cs (t + 51) ++ [dobj (entsS R (t + 51 + 51 * n)) R.length])
noncomputable def dictSteps (n : Nat) (r : Nat) : Nat := (2 + 13 * 17) + (n * cLong + ((1 + 13 * r) + (5 + 6 * r)))
section
variable {p : Program} {w : World} {n₀ : Nat} {ann : Option Value} {dp : Pos}
theorem goes_display {n : Nat} {L : List (Int × Str)} {s : Shared} (hn : n₀ ≤ s.heap.objs.size) (hsys : @LT.lt Nat _ sysModules s.heap.objs.size) (hu : Up (-1) L) (hlo : 17 + 17 * n < L.length) (hhi : L.length ≤ 17 + 17 * n + 15) (hz : L.length < 90000) :
  Goes table p w n₀ ann (dictDisplay (L.map (itm dp))) (dictSteps n (L.length - (17 + 17 * n))) s dp (.ref s.heap.objs.size) { s with heap := Hp s.heap (dictObjs n L s.toks), toks := s.toks + 3 * L.length } dp := by
 unfold dictDisplay
 dsimp only
 have hC : (L.take 17).length = 17 := by rw [List.length_take]; omega
 have hL : L = L.take 17 ++ ((rows17 n (L.drop 17)).flatten ++ (L.drop 17).drop (17 * n)) := by rw [rows17_flat, List.take_append_drop]
 have hfl : (rows17 n (L.drop 17)).flatten.length = 17 * n := by
  have e := congrArg List.length (rows17_flat n (L.drop 17))
  rw [List.length_append, List.length_drop, List.length_drop] at e
  omega
 have hR : ((L.drop 17).drop (17 * n)).length = L.length - (17 + 17 * n) := by rw [List.length_drop, List.length_drop]; omega
 have hu' := hu
 rw [hL] at hu'
 obtain ⟨u1, u2⟩ := hu'.split
 have hR0 : (L.drop 17).drop (17 * n) ≠ [] := by intro h; rw [h] at hR; simp at hR; omega
 rw [← bind_assoc]
 refine Goes.bind (m := 0) (a := some s.heap.objs.size) (s' := { s with heap := Hp s.heap (dictObjs n L s.toks), toks := s.toks + 3 * L.length }) (q' := dp) ?_ (Goes.pure _ _ _)
 have hLm : L.map (itm dp) = (L.take 17 ++ ((rows17 n (L.drop 17)).flatten ++ (L.drop 17).drop (17 * n))).map (itm dp) := congrArg (List.map (itm dp)) hL
 rw [hLm]
 have hf : ∀ {B}, _ := fun {B} h1 h2 => acc_full (dp := dp) (B := B) h1 h2 none ((rows17 n (L.drop 17)).flatten ++ (L.drop 17).drop (17 * n)) (L.take 17) [] (by simp [hC]) (by intro h; rw [h] at hC; cases hC)
 rw [List.map_nil] at hf
 rw [hf ?h1 ?h2]
 case h1 =>
  intro main run k v h
  show (if ((run ++ [(k, v)]).length == 17) = true then _ else _) = _
  rw [if_neg (by simp; omega)]
 case h2 =>
  intro main run k v h
  show (if ((run ++ [(k, v)]).length == 17) = true then _ else _) = _
  rw [if_pos (by simp [h]), if_neg (by simp)]
  cases main <;> rfl
 rw [bind_assoc, List.nil_append]
 have hs : s = { s with heap := Hp s.heap [], toks := s.toks } := by rw [Hp.nil]
 have f := goes_subLong (p := p) (w := w) (ann := ann) (dp := dp) (n₀ := n₀) (h₀ := s.heap) (l := []) (C := L.take 17) (tk := s.toks) hn hs u1 (by omega) (by omega)
 rw [List.length_nil, Nat.add_zero, List.nil_append, hC] at f
 refine Goes.of_eq rfl (m := (2 + 13 * 17) + (n * cLong + ((1 + 13 * (L.length - (17 + 17 * n))) + (5 + 6 * (L.length - (17 + 17 * n)))))) rfl ?_
 refine Goes.bind (a := some s.heap.objs.size) (q' := dp) (Goes.of_eq (y := subDict ((L.take 17).map (pr dp)) >>= fun x => pure (some x)) rfl (m := 2 + 13 * 17 + 0) rfl (Goes.bind f (Goes.pure _ _ _))) ?_
 have g : ∀ {B} {G}, _ := fun {B} {G} h1 h2 hG => goes_rows (p := p) (w := w) (ann := ann) (dp := dp) (n₀ := n₀) (B := B) (G := G) h1 h2 (h₀ := s.heap) hn hsys ((L.drop 17).drop (17 * n)) (by rw [hR]; omega) hR0 hG (rows17 n (L.drop 17)) (mid := []) (es := ents (L.take 17) s.toks) (ep := 17) (tk := s.toks + 51)
  (b := lastK (-1) (L.take 17)) (s := { s with heap := Hp s.heap [dobj (ents (L.take 17) s.toks) 17], toks := s.toks + 3 * 17 }) (rows17_len n (L.drop 17) (by rw [List.length_drop]; omega)) rfl (ents_bel s.toks u1) u2
  (by intro h; have := congrArg List.length h; rw [ents_len, hC] at this; cases this) (by rw [ents_len, hC, hfl, hR]; omega)
 rw [rows17_num, hfl, hR] at g
 have e1 : 17 + 17 * n + (L.length - (17 + 17 * n)) = L.length := by omega
 have e2 : s.toks + 51 + 3 * (17 * n) = s.toks + 51 + 51 * n := by omega
 have e3 : s.toks + 51 + 51 * n + 3 * (L.length - (17 + 17 * n)) = s.toks + 3 * L.length := by omega
 rw [e2, e1, e3] at g
 have e4 : dictObjs n L s.toks = dobj (ents (L.take 17) s.toks ++ allOf (rows17 n (L.drop 17)) (s.toks + 51) ++ entsS ((L.drop 17).drop (17 * n)) (s.toks + 51 + 51 * n)) L.length ::
   ([] ++ subsOf (rows17 n (L.drop 17)) (s.toks + 51) ++ [dobj (entsS ((L.drop 17).drop (17 * n)) (s.toks + 51 + 51 * n)) (L.length - (17 + 17 * n))]) := by
  unfold dictObjs; rw [← hR]; rfl
 rw [e4]
 refine g ?_ ?_ ?_
 ·intro main run k v h
  show (if ((run ++ [(k, v)]).length == 17) = true then _ else _) = _
  rw [if_neg (by simp; omega)]
 ·intro main run k v h
  show (if ((run ++ [(k, v)]).length == 17) = true then _ else _) = _
  rw [if_pos (by simp [h]), if_neg (by simp)]
  cases main <;> rfl
 ·intro main run h
  show (if run.isEmpty = true then _ else _) = _
  rw [if_neg (by cases run with | nil => exact absurd rfl h | cons a l => simp)]
  cases main <;> rfl
end
noncomputable def tailD (x : Str) (pos' : Pos) (env : Env) (v : Value) : Sem Flow := standAt pos' >>= fun _ => bindName env x v >>= fun _ => pure .next
theorem exec_dict (x : Str) (pos' : Pos) (ks : List (Option Expr)) (vs : List Expr) (dp pos : Pos) (env : Env) :
  execs [.Assign [.Name x pos'] (.Dict ks vs dp) pos] env = (standAt pos >>= fun _ => standAt dp >>= fun _ => dictDisplay ((evalEachOpt ks env).zip ((evalEach vs env).map fun v => do let x ← v; standAt dp; pure x))) >>= tailD x pos' env := by
 have hs : swapsWith (.Dict ks vs dp) (some (.Name x pos')) pos.line env = pure false := rfl
 have e := exec_Assign_Name env x pos' (.Dict ks vs dp) pos hs
 rw [execs_cons]
 refine (congrArg (fun t : Sem Flow => t >>= fun f => (match f with | Flow.next => execs [] env | f => pure f : Sem Flow)) e).trans ?_
 rw [arm_eval_Dict]
 simp only [bind_assoc, tailD]
 rfl
noncomputable def dKs : Stmt → List (Option Expr)
 | .Assign _ (.Dict ks _ _) _ => ks
 | _ => []
noncomputable def dVs : Stmt → List Expr
 | .Assign _ (.Dict _ vs _) _ => vs
 | _ => []
section
variable {p : Program} {w : World} {n₀ : Nat} {ann : Option Value}
theorem seg_dict {x : Str} {pos' : Pos} {ks : List (Option Expr)} {vs : List Expr} {dp pos : Pos} {env : Env} {c : Code} {q : Pos} {fr : Frame} {n : Nat} {L : List (Int × Str)} {s : Shared} {N : Nat} {r : Flow × Shared × Code × Pos}
  (hL : cPairs ks vs = some L) (hn : n₀ ≤ s.heap.objs.size) (hsys : @LT.lt Nat _ sysModules s.heap.objs.size) (hu : upB (-1) L = true) (hlo : 17 + 17 * n < L.length) (hhi : L.length ≤ 17 + 17 * n + 15) (hz : L.length < 90000)
  (h : segRun table p w n₀ ann 1 N { s with heap := Hp s.heap (dictObjs n L s.toks), toks := s.toks + 3 * L.length } ⟨(tailD x pos' env (.ref s.heap.objs.size)).wrap doneF deadEnd id id, c, dp, [fr]⟩ = some r) :
  segRun table p w n₀ ann 1 ((1 + (1 + dictSteps n (L.length - (17 + 17 * n)))) + N) s (piecesOf [.Assign [.Name x pos'] (.Dict ks vs dp) pos] env c q [fr]) = some r := by
 have g : Goes table p w n₀ ann (standAt pos >>= fun _ => standAt dp >>= fun _ => dictDisplay ((evalEachOpt ks env).zip ((evalEach vs env).map fun v => do let x ← v; standAt dp; pure x))) (1 + (1 + dictSteps n (L.length - (17 + 17 * n)))) s q (.ref s.heap.objs.size)
   {s with heap := Hp s.heap (dictObjs n L s.toks), toks := s.toks + 3 * L.length } dp := by
  rw [items_of dp env ks vs L hL]
  exact Goes.bind (Goes.at' (n := 0) (Goes.pure _ _ _)) (Goes.bind (Goes.at' (n := 0) (Goes.pure _ _ _)) (goes_display hn hsys (up_of hu) hlo hhi hz))
 have k := g (fun v => (tailD x pos' env v).wrap doneF deadEnd id id) deadEnd id id c [fr] (Nat.le_refl 1)
 have e : (execs [.Assign [.Name x pos'] (.Dict ks vs dp) pos] env).wrap doneF deadEnd id id =
   (standAt pos >>= fun _ => standAt dp >>= fun _ => dictDisplay ((evalEachOpt ks env).zip ((evalEach vs env).map fun v => do let x ← v; standAt dp; pure x))).wrap (fun v => (tailD x pos' env v).wrap doneF deadEnd id id) deadEnd id id := by
  rw [exec_dict]
  generalize (standAt pos >>= fun _ => standAt dp >>= fun _ => dictDisplay ((evalEachOpt ks env).zip ((evalEach vs env).map fun v => do let x ← v; standAt dp; pure x))) = X
  show (Sem.bind X (tailD x pos' env)).wrap _ _ _ _ = _
  rw [Sem.bind_eq_wrap, Sem.wrap_wrap]; rfl
 rw [← e] at k
 exact seg_go k h
end
open PySem.W.SL
noncomputable def ei (k t : Nat) (z : Str) : DictEntry := ⟨Int.ofNat k, .int (Int.ofNat k) t, .str z (Nat.add t 1)⟩
noncomputable def en (P : Params) (z : Str) (n : Nat) (v : Value) : DictEntry := ⟨PyData.keyHash P z, .str z n, v⟩
noncomputable def y0 : String := s14018661285674007319x4
noncomputable def y1 : String := s9222952809800978799x4
noncomputable def y2 : String := s2742458400755230247x6
noncomputable def y3 : String := s1438033511350832697x5
noncomputable def y4 : String := s3642769012341782148x3
noncomputable def y5 : String := s4290257624100764138x5
noncomputable def y6 : String := s2766695959194262286x5
noncomputable def y7 : String := s17162191345867700912x4
noncomputable def y8 : String := s10852414792293593619x7
noncomputable def y9 : String := s5991306692159431302x13
noncomputable def y10 : String := s7097527257260152453x26
noncomputable def y11 : String := s6658869562736209489x6
noncomputable def y12 : String := s5856160107412720595x4
noncomputable def y13 : String := s658472552662922059x5
noncomputable def y14 : String := s14755015743595814543x17
noncomputable def y15 : String := s6511155373996960695x17
noncomputable def y16 : String := s12411053484034534018x21
noncomputable def y17 : String := s10220274742760427390x26
noncomputable def y18 : String := s7174869446012820540x8
noncomputable def y19 : String := s12171344214640291687x10
noncomputable def y20 : String := s11030030927630378310x26
noncomputable def sn (b n : Nat) : Str := ⟨(Nat.rec (motive := fun _ => Nat → List Nat) (fun _ => []) (fun _ ih n => cond (Nat.beq n 0) [] (Nat.pred (n % b) :: ih (n / b))) 400 n).toArray⟩
noncomputable def z0 : Str := sn 128 0xc18336ec5bf060
noncomputable def z1 : Str := sn 128 0xe9bf575dbabb63
noncomputable def z2 : Str := sn 128 0x183064e197060
noncomputable def z3 : Str := sn 128 0x183066d18b664c5c7060
noncomputable def z4 : Str := sn 128 0x3060e79b2e2e1b7060
noncomputable def z5 : Str := sn 128 0xc183266e3d3060
noncomputable def z6 : Str := sn 128 0x183074e98b6e4c1976eaed8f060
noncomputable def z7 : Str := sn 128 0x3060ebcf871ddab060
noncomputable def z8 : Str := sn 128 0x1d31e2
noncomputable def z9 : Str := sn 128 0x1b76e2
noncomputable def z10 : Str := sn 128 0x1eb7e2
noncomputable def z11 : Str := sn 128 0x6ad593a62
noncomputable def z12 : Str := sn 128 0x1bf563
noncomputable def z13 : Str := sn 128 0x3aefd5c38ecc59b9e3
noncomputable def z14 : Str := sn 128 0xcdb71e2dbb7164
noncomputable def z15 : Str := sn 128 0x1cf4e4
noncomputable def z16 : Str := sn 128 0x19b6eae3bb864
noncomputable def z17 : Str := sn 128 0x1cfaf5c5b7365
noncomputable def z18 : Str := sn 128 0x1cf565
noncomputable def z19 : Str := sn 128 0x32f0dddf565
noncomputable def z20 : Str := sn 128 0xdb8bbe6
noncomputable def z21 : Str := sn 128 0xc99bce6
noncomputable def z22 : Str := sn 128 0x3ae2ddcf867
noncomputable def z23 : Str := sn 128 0x1cfaf5c5d7368
noncomputable def z24 : Str := sn 128 0x1d36e2c7c36e8
noncomputable def z25 : Str := sn 128 0x1cfaf5c5d3169
noncomputable def z26 : Str := sn 128 0xd3d3169
noncomputable def z27 : Str := sn 128 0x1e7369
noncomputable def z28 : Str := sn 128 0x32ea
noncomputable def z29 : Str := sn 128 0x75edc77ea
noncomputable def z30 : Str := sn 128 0x3364df8baf4dfaba6a
noncomputable def z31 : Str := sn 128 0x3a74c5b7263edd3a6a
noncomputable def z32 : Str := sn 128 0xe79baea
noncomputable def z33 : Str := sn 128 0x73cdd7562
noncomputable def z34 : Str := sn 128 0x1bf36d
noncomputable def z35 : Str := sn 128 0x3a6dc59386d
noncomputable def z36 : Str := sn 128 0x1e716e
noncomputable def z37 : Str := sn 128 0x1bf56e
noncomputable def z38 : Str := sn 128 0xebe736f
noncomputable def z39 : Str := sn 128 0x75f39b7e2
noncomputable def z40 : Str := sn 128 0x1d7270
noncomputable def z41 : Str := sn 128 0x1979f0
noncomputable def z42 : Str := sn 128 0x1e3871
noncomputable def z43 : Str := sn 128 0x75dfab9f1
noncomputable def z44 : Str := sn 128 0xe7c7373
noncomputable def z45 : Str := sn 128 0x65dfdb873
noncomputable def z46 : Str := sn 128 0x1cfaf5c5d7374
noncomputable def z47 : Str := sn 128 0x32e6ebcf874
noncomputable def z48 : Str := sn 128 0x1bbb74
noncomputable def z49 : Str := sn 128 0xe9cf177
noncomputable def z50 : Str := sn 128 0xcdbf84f
noncomputable def z51 : Str := sn 128 0xe9aba71d5b76c6
noncomputable def z52 : Str := sn 128 0x32e6ebbf36ecdb78ee95d784f
noncomputable def z53 : Str := sn 128 0x66e9b7147
noncomputable def z54 : Str := sn 128 0xcddb9d5
noncomputable def z55 : Str := sn 128 0xdbc3863
noncomputable def z56 : Str := sn 128 0x3c66d5dfd73e1bb36e
noncomputable def z57 : Str := sn 128 0x7ac5cf9e2cdd7d63
noncomputable def z58 : Str := sn 128 0x74cdd7d63
noncomputable def z59 : Str := sn 128 0x197869eb9b774e98b6e4
noncomputable def z60 : Str := sn 128 0x1e736de3bb864
noncomputable def z61 : Str := sn 128 0xeb93565
noncomputable def z62 : Str := sn 128 0x66eb8b9e6dddb7e6
noncomputable def z63 : Str := sn 128 0x39e6ebb7567
noncomputable def z64 : Str := sn 128 0x75c5c36e7
noncomputable def z65 : Str := sn 128 0x75cdd37e6f7c39e7
noncomputable def z66 : Str := sn 128 0xf5d79e6e3c39f1
noncomputable def z67 : Str := sn 128 0x1d77ea
noncomputable def z68 : Str := sn 128 0xebd356d
noncomputable def z69 : Str := sn 128 0x1c716e
noncomputable def z70 : Str := sn 128 0x3ae4cdaf1f0
noncomputable def z71 : Str := sn 128 0x66d1bf173
noncomputable def z72 : Str := sn 128 0xcb9ba73cddf373
noncomputable def z73 : Str := sn 128 0x1d7374
noncomputable def z74 : Str := sn 128 0x66c9ab6f4
noncomputable def z75 : Str := sn 128 0xcbc34f5cdbb26aeb8baf4
noncomputable def z76 : Str := sn 128 0x1cfaf4
noncomputable def z77 : Str := sn 128 0x73cdc7b74
noncomputable def z78 : Str := sn 128 0x66dbc7b75
noncomputable def z79 : Str := sn 128 0xcdc7d75
noncomputable def z80 : Str := sn 128 0x1c757b
noncomputable def z81 : Str := sn 128 0x60c1a3b63cd97060
noncomputable def z82 : Str := sn 128 0x6fe1abaf1cd93cc6cdd3143
noncomputable def z83 : Str := sn 128 0x38f6e1ce46fe1abaf1cd93cc6cdd3143
noncomputable def z84 : Str := sn 128 0x6fe1abaf1cd93cc6
noncomputable def z85 : Str := sn 128 0x75d5e6373e1d7173cdbf348
noncomputable def z86 : Str := sn 128 0x75e3db9f3cdd77cacbcf170c7eb34c
noncomputable def z87 : Str := sn 128 0x3aeaf31b766ebd3d54
noncomputable def z88 : Str := sn 128 0x1cf873e71b26aeb9b769ebab9c2
noncomputable def z89 : Str := sn 128 0x39f0e7ce36fe1abaf3cdd3a42
noncomputable def z90 : Str := sn 128 0x39f0e7ce366ebdb1eae7d7ac2
noncomputable def z91 : Str := sn 128 0x1cf873e71b9e6cf9fb43
noncomputable def z92 : Str := sn 128 0xe7c39f38d1e846
noncomputable def z93 : Str := sn 128 0x1cf873e71baf3e1c774a
noncomputable def z94 : Str := sn 128 0x1cf873e71b8f6d9c384d
noncomputable def z95 : Str := sn 128 0x1cf873e71bd73e1bb34e
noncomputable def z96 : Str := sn 128 0x73e1cf9c6cdbb14f
noncomputable def z97 : Str := sn 128 0x1cf873e71aa50
noncomputable def z98 : Str := sn 128 0x39f0e7ce366c9bf373cd9f353
noncomputable def z99 : Str := sn 128 0xe7c39f38d9b76aebbfb53
noncomputable def z100 : Str := sn 128 0x37f0d5d7173cdd6564dfeba42e3c3ad4
noncomputable def z101 : Str := sn 128 0x6fe1abae2e79bacae3c3ad4
noncomputable def z102 : Str := sn 128 0x1cf873e71bce2ebbfd54
noncomputable def z103 : Str := sn 128 0x1cf873e71b766ebd3d54
noncomputable def z104 : Str := sn 128 0x73e1cf9c6cdc7d55
noncomputable def z105 : Str := sn 128 0x39f0e7ce366edb7157
noncomputable def z106 : Str := sn 128 0x1a37eadfcf158
noncomputable def z107 : Str := sn 128 0x39f0e7ce375dfab851d1bf575c5c36c7
noncomputable def z108 : Str := sn 128 0x73e1cf9c6f1c36e7e79bbd0
noncomputable def z109 : Str := sn 128 0x73e1cf9c6dfc3574d5df545e1cf35b
noncomputable def z110 : Str := sn 128 0xd1bf56fe78ac74cdd7d43
noncomputable def z111 : Str := sn 128 0x346fd5bf9e2b1bf86aeb8b266e7c7345
noncomputable def z112 : Str := sn 128 0x1a37eadfcf158d1bf565e1937c6
noncomputable def z113 : Str := sn 128 0x68dfab7f3c563373edd7b47
noncomputable def z114 : Str := sn 128 0x68dfab7f3c563af3e1c774a
noncomputable def z115 : Str := sn 128 0x68dfab7f3c5637f0d5d7164cdcf8e68ba37eacbbf351
noncomputable def z116 : Str := sn 128 0x1a37eadfcf158cd939f6e1d3353
noncomputable def z117 : Str := sn 128 0x346fd5bf9e2b19b76aebbfb53
noncomputable def z118 : Str := sn 128 0x68dfab7f3c563ce2ebbfd54
noncomputable def z119 : Str := sn 128 0x346fd5bf9e2b19b2f0c9ab7d6
noncomputable def z120 : Str := sn 128 0x1a37eadfcf158e79ba56
noncomputable def z121 : Str := sn 128 0x1cf873e71a84ad1bf56cc9c36c3
noncomputable def z122 : Str := sn 128 0x73e1cf9c6e9d3364e1ce8e5dbab4c4
noncomputable def z123 : Str := sn 128 0x1cf873e71b7f0d5d7266dfbf844
noncomputable def z124 : Str := sn 128 0x1cf873e71ba75e9abcc6cdb7547
noncomputable def z125 : Str := sn 128 0x73e1cf9c6cbbfb708fd784fcdb7547
noncomputable def z126 : Str := sn 128 0xe7c39f38d97375e3db9f3cdd77ca
noncomputable def z127 : Str := sn 128 0x73e1cf9c6f5cf875c99b9ea8b0ba4a
noncomputable def z128 : Str := sn 128 0x39f0e7ce37ae7c3ae4cdcf54585d784f
noncomputable def z129 : Str := sn 128 0x1cf873e71b7f0d5d3a6addcf351
noncomputable def z130 : Str := sn 128 0x39f0e7ce371edb38709bd3a66c9c39d1
noncomputable def z131 : Str := sn 128 0xe7c39f38dd7b70cdbb555
noncomputable def z132 : Str := sn 128 0xe7c39f38dbf86aeb8baefcd977ca
noncomputable def z133 : Str := sn 128 0x73e1cf9c6ebdb8ef959bae6dbc7770c9be560
noncomputable def z134 : Str := sn 128 0x39f0e7ce379cd977ca
noncomputable def z135 : Str := sn 128 0xe7c39f38deb34c
noncomputable def z136 : Str := sn 128 0x1cf873e71b2efedc23f5e13f36ded9784e
noncomputable def z137 : Str := sn 128 0x1cf873e71b2e6ebbf36ecdb78ee95d784f
noncomputable def z138 : Str := sn 128 0x1cf873e71b7f0d5d717bd5b716fd51f7f0d3d7d51
noncomputable def z139 : Str := sn 128 0x39f0e7ce36fe1aba73ed93353
noncomputable def z140 : Str := sn 128 0x73e1cf9c6db8b2709b977f6e18f7d6
noncomputable def z141 : Str := sn 128 0xe7c39f38d9b2f0c9ab7d6
noncomputable def z142 : Str := sn 128 0x1cf873e71b371d5477e6d9c39c3
noncomputable def z143 : Str := sn 128 0x39f0e7ce365cdd79f0c70b7f0d5d7266dfbf844
noncomputable def z144 : Str := sn 128 0x39f0e7ce365cdd3b67cd4f7f0d5d7266dfbf844
noncomputable def z145 : Str := sn 128 0xe7c39f38dd7374cd4f7f0d5d7266dfbf844
noncomputable def z146 : Str := sn 128 0xe7c39f38d8f155
noncomputable def z147 : Str := sn 128 0x39f0e7ce366cbc32668b9b2f0c9ab7d6
noncomputable def z148 : Str := sn 128 0x39f0e7ce366cbc326f8d9b2f0c9ab7d6
noncomputable def z149 : Str := sn 128 0x73e1cf9c6cdd716de9bf173ab9b2f0c9ab7d6
noncomputable def z150 : Str := sn 128 0x38f6e1ce46fe1abaf1cd93cc6
noncomputable def z151 : Str := sn 128 0xe7c39f38dd77e6ddbf873d5df7c6
noncomputable def z152 : Str := sn 128 0x1cf873e71a84a
noncomputable def z153 : Str := sn 128 0xdf9b8f0
noncomputable def z154 : Str := sn 128 0xebabb72
noncomputable def z155 : Str := sn 128 0xebabce6
noncomputable def z156 : Str := sn 128 0x75d3a3573f5c7864
noncomputable def z157 : Str := sn 128 0x1d3aeacb9b9e4
noncomputable def z158 : Str := sn 128 0x19ba6fcd9356d
noncomputable def z159 : Str := sn 128 0xe3b7369
noncomputable def z160 : Str := sn 128 0xc1837eac5bb060
noncomputable def z161 : Str := sn 128 0xcdcfa60
noncomputable def z162 : Str := sn 128 0x3373e9817e5cd97170dabfaf3e1c776a
noncomputable def z163 : Str := sn 128 0x1cf375e7c38ee95bf575dbabb435f8f56debcf871ddab06fcdef873cf817f4e98b6e4
noncomputable def z164 : Str := sn 128 0x3af3e1c776a5f97369c9d7178
noncomputable def z165 : Str := sn 128 0x3266e35336ded9784e5f8f56debcf871ddab06fcdef873cf817f4e98b6e4
noncomputable def z166 : Str := sn 128 0xd393871ccbb2e6d9c38635fd336ded9786e5fd3d74
noncomputable def z167 : Str := sn 128 0x3373e9817e5d58b6aee79bae2dabfaf3e1c776a
noncomputable def z168 : Str := sn 128 0x1eb9e2e78f56d5f97369c9d7178
noncomputable def z169 : Str := sn 128 0x1d3ae4cdaf1f05deb9e2e78f56d5f97369c9d7178
noncomputable def z170 : Str := sn 128 0x66e7d302fe39b3655deb9e2e78f56d5f97369c9d7178
noncomputable def z171 : Str := sn 128 0x183074dfc3575c5d786fdf8b060
noncomputable def z172 : Str := sn 128 0xc183a6fd5d76eaed8f060
noncomputable def z173 : Str := sn 128 0xc18336dd59f060
noncomputable def z174 : Str := sn 128 0x7ae2bfaf6c8c376ac5b7230
noncomputable def z175 : Str := sn 128 0x3060cb9b4e4c593060
noncomputable def z176 : Str := sn 128 0x7f9b6f6cbc373d
noncomputable def z177 : Str := sn 128 0
noncomputable def z178 : Str := sn 128 0xcdd716de3bb375
noncomputable def z179 : Str := sn 128 0x19bdeae99b2f0c9d7368
noncomputable def z180 : Str := sn 128 0x65cdd3164e9ab06ad593a62
noncomputable def z181 : Str := sn 128 0x197374c593a6ac19b2f0c9ab7f6
noncomputable def z182 : Str := sn 128 0x73cde386de1d706ad593a62
noncomputable def z183 : Str := sn 128 0x1cf378e1b7875c19b2f0c9ab7f6
noncomputable def z184 : Str := sn 128 0x44952214e
noncomputable def z185 : Str := sn 128 0x8d6e5548d16844
noncomputable def z186 : Str := sn 128 0x55851a8c6a76614e
noncomputable def z187 : Str := sn 128 0x54a35a853916614e
noncomputable def z188 : Str := sn 128 0x2187090f4c78a6a1eb9b9e4cd510fac6859b162cd73874e992155914a1eba746ae7eb8f088859af66bd9a18d4ea21
noncomputable def z189 : Str := sn 128 0x3060cdb7b65e1bb060
noncomputable def z190 : Str := sn 128 0x63d5b7af3e1c776ac1bf37be1cf3e0
noncomputable def z191 : Str := sn 128 0x183070df9b7eadbd7a73d59f060
noncomputable def z192 : Str := sn 128 0x13e548954e860
noncomputable def z193 : Str := sn 128 0xdfa9775dbabb63
noncomputable def z194 : Str := sn 128 0x64cdc7a60cbbf567
noncomputable def z195 : Str := sn 128 0x66dbdb2f0dd83375c59b9e4
noncomputable def z196 : Str := sn 128 0x19b6f6cbc3760c99bce6
noncomputable def z197 : Str := sn 128 0xcd97864c1d7368
noncomputable def z198 : Str := sn 128 0x3364e7db874c1d7368
noncomputable def z199 : Str := sn 128 0x3368c5b3262e383a6a
noncomputable def z200 : Str := sn 128 0x19b6f6cbc3760cb8b86d
noncomputable def z201 : Str := sn 128 0x60c1d3375ed8f573ebd7160c9abae2ebd3060
noncomputable def z202 : Str := sn 128 0xc183ae4d597060
noncomputable def z203 : Str := sn 128 0x183067cdcf662cde3060
noncomputable def z204 : Str := sn 128 0x1cf375e7c38ee95bf575dbabb43
noncomputable def z205 : Str := sn 128 0xcdbb16f
noncomputable def z206 : Str := sn 128 0x39e6cb8b86d
noncomputable def z207 : Str := sn 128 0x37ead1ab9f0
noncomputable def z208 : Str := sn 128 0xcdd7175e9839e6cb8b86d
noncomputable def z209 : Str := sn 128 0x3a6fe1abae2c9c36e0d3939e2cdd3066dbdb2f0dd8fb74
noncomputable def z210 : Str := sn 128 0x74cdb7b65e1bb1f6e9832e6f7ab6e2d5d756fd5bfb60
noncomputable def z211 : Str := sn 128 0x73ebd7166dbab3e0eb9ba60
noncomputable def z212 : Str := sn 128 0x197369c98b260
noncomputable def z213 : Str := sn 128 0x68dfabdeadb8b575d5bf560
noncomputable def z214 : Str := sn 128 0xc183aeadfab060
noncomputable def z215 : Str := sn 128 0xc1839f1cdcf060
noncomputable def z216 : Str := sn 128 0x3060e59b060
noncomputable def z217 : Str := sn 128 0x32e6d393164
noncomputable def z218 : Str := sn 128 0x3aefcdcf171
noncomputable def z219 : Str := sn 128 0xdfc3575c59386dc1d3169
noncomputable def z220 : Str := sn 128 0xc1834f4c5a7060
noncomputable def z221 : Str := sn 128 0x3266e35336ded9784e
noncomputable def z222 : Str := sn 128 0x71cdcf8e8dfab9f5e8bda3269eb8e4
noncomputable def z223 : Str := sn 128 0x6ddb8bc60
noncomputable def z224 : Str := sn 128 0x3ae6e981963
noncomputable def z225 : Str := sn 128 0xcb1e0cdb71e2eb837ea
noncomputable def z226 : Str := sn 128 108
noncomputable def z227 : Str := sn 128 0xcd97864
noncomputable def z228 : Str := sn 128 0x74dfc3575e39b279cd81a63
noncomputable def z229 : Str := sn 2097152 957
noncomputable def z230 : Str := sn 128 0x3a74
noncomputable def z231 : Str := sn 2097152 0x6100006a
noncomputable def z232 : Str := sn 2097152 0xde002bd
noncomputable def z233 : Str := sn 128 116
noncomputable def z234 : Str := sn 2097152 0x61a0006b
noncomputable def z235 : Str := sn 2097152 954
noncomputable def z236 : Str := sn 2097152 0x77400021
noncomputable def z237 : Str := sn 2097152 0xc0800612003ba
noncomputable def z238 : Str := sn 2097152 0xc0800612003c6
noncomputable def z239 : Str := sn 2097152 964
noncomputable def z240 : Str := sn 2097152 947
noncomputable def z241 : Str := sn 2097152 953
noncomputable def z242 : Str := sn 2097152 966
noncomputable def z243 : Str := sn 2097152 974
noncomputable def z244 : Str := sn 2097152 972
noncomputable def z245 : Str := sn 2097152 967
noncomputable def z246 : Str := sn 2097152 961
noncomputable def z247 : Str := sn 2097152 955
noncomputable def z248 : Str := sn 2097152 962
noncomputable def z249 : Str := sn 2097152 950
noncomputable def z250 : Str := sn 2097152 0xb0600566
noncomputable def z251 : Str := sn 2097152 0x66400069
noncomputable def z252 : Str := sn 2097152 0x61200075
noncomputable def z253 : Str := sn 2097152 0x61600078
noncomputable def z254 : Str := sn 2097152 0x6160007a
noncomputable def z255 : Str := sn 2097152 0x57e00062
noncomputable def z256 : Str := sn 2097152 7778
noncomputable def z257 : Str := sn 2097152 0x628003c6
noncomputable def z258 : Str := sn 2097152 0xc0400628003c6
noncomputable def z259 : Str := sn 2097152 0xc0800628003c6
noncomputable def z260 : Str := sn 2097152 0xd0c00628003c6
noncomputable def z261 : Str := sn 2097152 0x77401f01
noncomputable def z262 : Str := sn 2097152 0x77401f02
noncomputable def z263 : Str := sn 2097152 0x77401f03
noncomputable def z264 : Str := sn 2097152 0x77401f04
noncomputable def z265 : Str := sn 2097152 0x77401f05
noncomputable def z266 : Str := sn 2097152 0x77401f06
noncomputable def z267 : Str := sn 2097152 0x77401f07
noncomputable def z268 : Str := sn 2097152 0x77401f08
noncomputable def z269 : Str := sn 2097152 0x77401f21
noncomputable def z270 : Str := sn 2097152 0x77401f22
noncomputable def z271 : Str := sn 2097152 0x77401f23
noncomputable def z272 : Str := sn 2097152 0x77401f24
noncomputable def z273 : Str := sn 2097152 0x77401f25
noncomputable def z274 : Str := sn 2097152 0x77401f26
noncomputable def z275 : Str := sn 2097152 0x77401f27
noncomputable def z276 : Str := sn 2097152 0x77401f28
noncomputable def z277 : Str := sn 2097152 0x77401f61
noncomputable def z278 : Str := sn 2097152 0x77401f62
noncomputable def z279 : Str := sn 2097152 0x77401f63
noncomputable def z280 : Str := sn 2097152 0x77401f64
noncomputable def z281 : Str := sn 2097152 0x77401f65
noncomputable def z282 : Str := sn 2097152 0x77401f66
noncomputable def z283 : Str := sn 2097152 0x77401f67
noncomputable def z284 : Str := sn 2097152 0x77401f68
noncomputable def z285 : Str := sn 2097152 0x77401f71
noncomputable def z286 : Str := sn 2097152 0x774003b2
noncomputable def z287 : Str := sn 2097152 0x774003ad
noncomputable def z288 : Str := sn 2097152 0x686003b2
noncomputable def z289 : Str := sn 2097152 0xee800686003b2
noncomputable def z290 : Str := sn 2097152 0x77401f75
noncomputable def z291 : Str := sn 2097152 0x774003b8
noncomputable def z292 : Str := sn 2097152 0x774003af
noncomputable def z293 : Str := sn 2097152 0x686003b8
noncomputable def z294 : Str := sn 2097152 0xee800686003b8
noncomputable def z295 : Str := sn 2097152 0xc0400612003ba
noncomputable def z296 : Str := sn 2097152 0x686003ba
noncomputable def z297 : Str := sn 2097152 0xd0c00612003ba
noncomputable def z298 : Str := sn 2097152 0xc0400612003c6
noncomputable def z299 : Str := sn 2097152 0x628003c2
noncomputable def z300 : Str := sn 2097152 0x686003c6
noncomputable def z301 : Str := sn 2097152 0xd0c00612003c6
noncomputable def z302 : Str := sn 2097152 0x77401f7d
noncomputable def z303 : Str := sn 2097152 0x774003ca
noncomputable def z304 : Str := sn 2097152 0x774003cf
noncomputable def z305 : Str := sn 2097152 0x686003ca
noncomputable def z306 : Str := sn 2097152 0xee800686003ca
noncomputable def z307 : Str := sn 128 0x3a73
noncomputable def z308 : Str := sn 128 100
noncomputable def z309 : Str := sn 2097152 0xc8000b1
noncomputable def z310 : Str := sn 2097152 604
noncomputable def z311 : Str := sn 2097152 0xce000b1
noncomputable def z312 : Str := sn 128 105
noncomputable def z313 : Str := sn 128 106
noncomputable def z314 : Str := sn 128 109
noncomputable def z315 : Str := sn 128 111
noncomputable def z316 : Str := sn 128 0x386f
noncomputable def z317 : Str := sn 128 113
noncomputable def z318 : Str := sn 128 114
noncomputable def z319 : Str := sn 128 115
noncomputable def z320 : Str := sn 128 0x3774
noncomputable def z321 : Str := sn 128 0x1b7375
noncomputable def z322 : Str := sn 128 0x3775
noncomputable def z323 : Str := sn 128 123
noncomputable def z324 : Str := sn 128 99
noncomputable def z325 : Str := sn 128 102
noncomputable def z326 : Str := sn 128 103
noncomputable def z327 : Str := sn 128 110
noncomputable def z328 : Str := sn 2097152 948
noncomputable def z329 : Str := sn 128 101
noncomputable def z330 : Str := sn 128 0x18b8e9
noncomputable def z331 : Str := sn 128 0x3b62
noncomputable def z332 : Str := sn 128 0x3bf0
noncomputable def z333 : Str := sn 128 0x3171
noncomputable def z334 : Str := sn 128 0x316f
noncomputable def z335 : Str := sn 2097152 0xc4003bd
noncomputable def z336 : Str := sn 128 0x316e
noncomputable def z337 : Str := sn 128 0x316c
noncomputable def z338 : Str := sn 128 0x31ec
noncomputable def z339 : Str := sn 128 0x31ee
noncomputable def z340 : Str := sn 128 0x31e8
noncomputable def z341 : Str := sn 128 0x33f1
noncomputable def z342 : Str := sn 128 0x33ef
noncomputable def z343 : Str := sn 2097152 0xce003bd
noncomputable def z344 : Str := sn 128 0x3de9
noncomputable def z345 : Str := sn 128 0x1ef4ec
noncomputable def z346 : Str := sn 128 0x1ef4ee
noncomputable def z347 : Str := sn 128 0x1ef4e8
noncomputable def z348 : Str := sn 128 0x1ef4f5
noncomputable def z349 : Str := sn 128 0x18b8ec
noncomputable def z350 : Str := sn 128 0x18b8ee
noncomputable def z351 : Str := sn 128 0x18b8e8
noncomputable def z352 : Str := sn 128 0x3bf1
noncomputable def z353 : Str := sn 128 0x3bef
noncomputable def z354 : Str := sn 2097152 0xee003bd
noncomputable def z355 : Str := sn 128 0x3bee
noncomputable def z356 : Str := sn 128 0x3bec
noncomputable def z357 : Str := sn 128 0x3c71
noncomputable def z358 : Str := sn 128 0x3c6f
noncomputable def z359 : Str := sn 2097152 0xf0003bd
noncomputable def z360 : Str := sn 128 0x3c6e
noncomputable def z361 : Str := sn 128 0x3c6c
noncomputable def z362 : Str := sn 2097152 0x7940006c
noncomputable def z363 : Str := sn 2097152 0x7940006e
noncomputable def z364 : Str := sn 128 0x3963
noncomputable def z365 : Str := sn 2097152 0x340001b00442c00064
noncomputable def z366 : Str := sn 128 0xbf864
noncomputable def z367 : Str := sn 128 0x31e5
noncomputable def z368 : Str := sn 128 0x3d68
noncomputable def z369 : Str := sn 128 0x38e9
noncomputable def z370 : Str := sn 128 0x366c
noncomputable def z371 : Str := sn 128 0x376c
noncomputable def z372 : Str := sn 128 0x34f1
noncomputable def z373 : Str := sn 128 0x1bb8f1
noncomputable def z374 : Str := sn 128 0x39f1
noncomputable def z375 : Str := sn 128 0x3bf4
noncomputable def z376 : Str := sn 128 0x31f8
noncomputable def z377 : Str := sn 128 0x33e7
noncomputable def z378 : Str := sn 128 0x3567
noncomputable def z379 : Str := sn 128 0x36e7
noncomputable def z380 : Str := sn 128 0x1ab3e7
noncomputable def z381 : Str := sn 128 0x1b73e7
noncomputable def z382 : Str := sn 128 0x3af4
noncomputable def z383 : Str := sn 2097152 0xaee00575
noncomputable def z384 : Str := sn 2097152 0xacc00575
noncomputable def z385 : Str := sn 2097152 0xad800575
noncomputable def z386 : Str := sn 2097152 0xaee0057f
noncomputable def z387 : Str := sn 2097152 0xadc00575
noncomputable def z388 : Str := sn 128 98
noncomputable def z389 : Str := sn 128 104
noncomputable def z390 : Str := sn 128 107
noncomputable def z391 : Str := sn 128 112
noncomputable def z392 : Str := sn 128 117
noncomputable def z393 : Str := sn 128 118
noncomputable def z394 : Str := sn 128 119
noncomputable def z395 : Str := sn 128 120
noncomputable def z396 : Str := sn 128 121
noncomputable def z397 : Str := sn 128 122
noncomputable def z398 : Str := sn 2097152 946
noncomputable def z399 : Str := sn 2097152 949
noncomputable def z400 : Str := sn 2097152 951
noncomputable def z401 : Str := sn 2097152 952
noncomputable def z402 : Str := sn 2097152 956
noncomputable def z403 : Str := sn 2097152 958
noncomputable def z404 : Str := sn 2097152 959
noncomputable def z405 : Str := sn 2097152 960
noncomputable def z406 : Str := sn 2097152 965
noncomputable def z407 : Str := sn 2097152 968
noncomputable def z408 : Str := sn 2097152 969
noncomputable def z409 : Str := sn 2097152 970
noncomputable def z410 : Str := sn 128 0x3363818b966c7371c1e316d
noncomputable def z411 : Str := sn 128 0x698f066db8f175c1c716e
noncomputable def z412 : Str := sn 128 0x74db8b564cdc7a75
noncomputable def z413 : Str := sn 128 0x19b9e0cb9bc70dbb7174d597066dd8b7e0
noncomputable def z414 : Str := sn 128 0xcdcf065cde386ddb8ba6acb83376db8bbe0
noncomputable def z415 : Str := sn 128 0xdd8b9e2e3d716ee7c33e0
noncomputable def z416 : Str := sn 128 0x1d39e6cb8b349
noncomputable def z417 : Str := sn 128 0xcdcf171cdcf8e0f18b6e0
noncomputable def z418 : Str := sn 128 0x75e99bc60f18b6e0
noncomputable def z419 : Str := sn 128 0x6fd1aba60f18b6e0
noncomputable def z420 : Str := sn 128 0x3a73d58b8e0f18b6e0
noncomputable def z421 : Str := sn 128 0x65dbc3ae0f18b6e0
noncomputable def z422 : Str := sn 128 0xcb9bc70dbb7160f18b6e0
noncomputable def z423 : Str := sn 128 0xcb97160f18b6e0
noncomputable def z424 : Str := sn 128 0x1d3ae6eb93860f18b6e0
noncomputable def z425 : Str := sn 128 0xcddb2e0f18b6e0
noncomputable def z426 : Str := sn 128 0x1e316d
noncomputable def z427 : Str := sn 128 0xbcfa05dbd76e5d608eedd76f16c17ef555d53750dc
noncomputable def z428 : Str := sn 128 0x17a3b8f3763b2f37573163e6edc
noncomputable def z429 : Str := sn 128 0xbd1dc79bb1d979baba131f375cb1f37573163e6edc
noncomputable def z430 : Str := sn 128 0x6ec5cf171
noncomputable def z431 : Str := sn 128 0x66edb7177
noncomputable def z432 : Str := sn 128 0x66ebc3b72
noncomputable def z433 : Str := sn 128 0x3a73cd97166d2bf3e6e7ab474f0bda3269eb8e4
noncomputable def z434 : Str := sn 128 0xc18336ec5bf6e2edcb060
noncomputable def z435 : Str := sn 128 0xcdc7d75c1a37eae7d7a60ebcf377dfc3260
noncomputable def z436 : Str := sn 128 0x18306fcdb7060
noncomputable def z437 : Str := sn 128 0x18306ecdd7575cdd3060
noncomputable def z438 : Str := sn 128 0x18306ecdd756dcd97060
noncomputable def z439 : Str := sn 128 0x18306ecdd7575cda3060
noncomputable def z440 : Str := sn 128 0xc183a6fd58baefe193060
noncomputable def z441 : Str := sn 128 0x1b76e2c1d7368
noncomputable def z442 : Str := sn 128 0x1d7368
noncomputable def z443 : Str := sn 128 0xe9eb36c
noncomputable def z444 : Str := sn 128 0x3a66edb7177
noncomputable def z445 : Str := sn 128 0x74dd9baea
noncomputable def z446 : Str := sn 128 0x183073ebd3060
noncomputable def z447 : Str := sn 128 0x60c1d3375f58f060
noncomputable def z448 : Str := sn 128 0x3aeded8b3e6cbd7374
noncomputable def z449 : Str := sn 128 0x39e6cb8b369c1972e2
noncomputable def z450 : Str := sn 128 0xcfb7374
noncomputable def z451 : Str := sn 128 0x1d39e6cb8b369
noncomputable def z452 : Str := sn 128 0xc183aeadfab0605fd39e6cb8b349
noncomputable def z453 : Str := sn 128 0x79cda3373
noncomputable def z454 : Str := sn 128 0xcdc7d75c1a37eae7d7a60ebcf377dfc32605fd39e6cb8b349
noncomputable def z455 : Str := sn 128 0x18306fcdb70605fd39e6cb8b349
noncomputable def z456 : Str := sn 128 0x1b7177
noncomputable def z457 : Str := sn 128 0x18306ecdd7575cdd30605fd39e6cb8b349
noncomputable def z458 : Str := sn 128 0x18306ecdd756dcd970605fd39e6cb8b349
noncomputable def z459 : Str := sn 128 0x18306ecdd7575cda30605fd39e6cb8b349
noncomputable def z460 : Str := sn 128 0xc183a6fd58baefe1930605fd39e6cb8b349
noncomputable def z461 : Str := sn 128 0x1b76e2c1d73685fd39e6cb8b349
noncomputable def z462 : Str := sn 128 0x1d76f6c59f365
noncomputable def z463 : Str := sn 128 0x1d73685fd39e6cb8b349
noncomputable def z464 : Str := sn 128 0xe9eb36c5fd39e6cb8b349
noncomputable def z465 : Str := sn 128 0x3a66edb71775fd39e6cb8b349
noncomputable def z466 : Str := sn 128 0x74dd9baea5fd39e6cb8b349
noncomputable def z467 : Str := sn 128 0xc1839f1cdcf0605fd39e6cb8b349
noncomputable def z468 : Str := sn 128 0x183073ebd30605fd39e6cb8b349
noncomputable def z469 : Str := sn 128 0x60c1d3375f58f0605fd39e6cb8b349
noncomputable def z470 : Str := sn 128 0x3aeded8b3e6cbd73745fd39e6cb8b349
noncomputable def z471 : Str := sn 128 0x66dd8b7e0
noncomputable def z472 : Str := sn 128 0x3376db8bbe0
noncomputable def z473 : Str := sn 128 0x1d3762e78b8e0
noncomputable def z474 : Str := sn 128 0x74ebcf171
noncomputable def z475 : Str := sn 128 0x39e6cb8b369c1972e25fd39e6cb8b349
noncomputable def z476 : Str := sn 128 0xe9cf365c59b4e0
noncomputable def z477 : Str := sn 128 0x75c59b9e8
noncomputable def z478 : Str := sn 128 0x39e6c7bbb6f
noncomputable def z479 : Str := sn 128 0x66c98b6f1
noncomputable def z480 : Str := sn 128 0xcbbf56c
noncomputable def z481 : Str := sn 128 0xebd3373
noncomputable def z482 : Str := sn 128 0x66dbebaf4
noncomputable def z483 : Str := sn 128 0x37e6cdd37f6
noncomputable def z484 : Str := sn 128 0x3af1d5cf274
noncomputable def z485 : Str := sn 128 0x74ebe7375
noncomputable def z486 : Str := sn 128 0x66db8f175
noncomputable def z487 : Str := sn 128 0x6fd58b6f1
noncomputable def z488 : Str := sn 128 0x7acb8b373
noncomputable def z489 : Str := sn 128 0xe9e3173
noncomputable def z490 : Str := sn 128 0x74cbb7867
noncomputable def z491 : Str := sn 128 0xe7ab171
noncomputable def z492 : Str := sn 128 0x1e3173
noncomputable def z493 : Str := sn 128 0xcbb7867
noncomputable def z494 : Str := sn 128 0xcd9716e
noncomputable def z495 : Str := sn 128 0x197378e1b76e2
noncomputable def pick {α : Type} {p : α → Prop} (x : α) (_ : p x) : α := x
inductive IsS : Nat → Stmt → Prop
 | mk (i : Nat) : IsS i ((PySem.Challenge.pw_pe0280_02.main.body[i]?).getD (.Pass ⟨0, 0, 0, 0⟩))
inductive IsC : Scope → Prop
 | mk : IsC PySem.Challenge.pw_pe0280_02.main.scope
inductive IsG : Given → Prop
 | mk : IsG PySem.Challenge.pw_pe0280_02.given
inductive IsF : Str → Prop
 | mk : IsF PySem.Challenge.pw_pe0280_02.main.file
noncomputable def st_0 : Stmt := by
 first
  | exact pick (p := IsS 0) (.FunctionDef _ _ _ _ _ _ _ _ _ _) (IsS.mk 0)
  | exact pick (p := IsS 0) (.Assign _ _ _) (IsS.mk 0)
  | exact pick (p := IsS 0) (.Import _ _) (IsS.mk 0)
  | exact pick (p := IsS 0) (.ClassDef _ _ _ _ _ _ _ _ _ _ _) (IsS.mk 0)
noncomputable def st_1 : Stmt := by
 first
  | exact pick (p := IsS 1) (.FunctionDef _ _ _ _ _ _ _ _ _ _) (IsS.mk 1)
  | exact pick (p := IsS 1) (.Assign _ _ _) (IsS.mk 1)
  | exact pick (p := IsS 1) (.Import _ _) (IsS.mk 1)
  | exact pick (p := IsS 1) (.ClassDef _ _ _ _ _ _ _ _ _ _ _) (IsS.mk 1)
noncomputable def st_2 : Stmt := by
 first
  | exact pick (p := IsS 2) (.FunctionDef _ _ _ _ _ _ _ _ _ _) (IsS.mk 2)
  | exact pick (p := IsS 2) (.Assign _ _ _) (IsS.mk 2)
  | exact pick (p := IsS 2) (.Import _ _) (IsS.mk 2)
  | exact pick (p := IsS 2) (.ClassDef _ _ _ _ _ _ _ _ _ _ _) (IsS.mk 2)
noncomputable def st_3 : Stmt := by
 first
  | exact pick (p := IsS 3) (.FunctionDef _ _ _ _ _ _ _ _ _ _) (IsS.mk 3)
  | exact pick (p := IsS 3) (.Assign _ _ _) (IsS.mk 3)
  | exact pick (p := IsS 3) (.Import _ _) (IsS.mk 3)
  | exact pick (p := IsS 3) (.ClassDef _ _ _ _ _ _ _ _ _ _ _) (IsS.mk 3)
noncomputable def st_4 : Stmt := by
 first
  | exact pick (p := IsS 4) (.FunctionDef _ _ _ _ _ _ _ _ _ _) (IsS.mk 4)
  | exact pick (p := IsS 4) (.Assign _ _ _) (IsS.mk 4)
  | exact pick (p := IsS 4) (.Import _ _) (IsS.mk 4)
  | exact pick (p := IsS 4) (.ClassDef _ _ _ _ _ _ _ _ _ _ _) (IsS.mk 4)
noncomputable def st_6 : Stmt := by
 first
  | exact pick (p := IsS 6) (.FunctionDef _ _ _ _ _ _ _ _ _ _) (IsS.mk 6)
  | exact pick (p := IsS 6) (.Assign _ _ _) (IsS.mk 6)
  | exact pick (p := IsS 6) (.Import _ _) (IsS.mk 6)
  | exact pick (p := IsS 6) (.ClassDef _ _ _ _ _ _ _ _ _ _ _) (IsS.mk 6)
noncomputable def st_7 : Stmt := by
 first
  | exact pick (p := IsS 7) (.FunctionDef _ _ _ _ _ _ _ _ _ _) (IsS.mk 7)
  | exact pick (p := IsS 7) (.Assign _ _ _) (IsS.mk 7)
  | exact pick (p := IsS 7) (.Import _ _) (IsS.mk 7)
  | exact pick (p := IsS 7) (.ClassDef _ _ _ _ _ _ _ _ _ _ _) (IsS.mk 7)
noncomputable def st_8 : Stmt := by
 first
  | exact pick (p := IsS 8) (.FunctionDef _ _ _ _ _ _ _ _ _ _) (IsS.mk 8)
  | exact pick (p := IsS 8) (.Assign _ _ _) (IsS.mk 8)
  | exact pick (p := IsS 8) (.Import _ _) (IsS.mk 8)
  | exact pick (p := IsS 8) (.ClassDef _ _ _ _ _ _ _ _ _ _ _) (IsS.mk 8)
noncomputable def st_9 : Stmt := by
 first
  | exact pick (p := IsS 9) (.FunctionDef _ _ _ _ _ _ _ _ _ _) (IsS.mk 9)
  | exact pick (p := IsS 9) (.Assign _ _ _) (IsS.mk 9)
  | exact pick (p := IsS 9) (.Import _ _) (IsS.mk 9)
  | exact pick (p := IsS 9) (.ClassDef _ _ _ _ _ _ _ _ _ _ _) (IsS.mk 9)
noncomputable def st_10 : Stmt := by
 first
  | exact pick (p := IsS 10) (.FunctionDef _ _ _ _ _ _ _ _ _ _) (IsS.mk 10)
  | exact pick (p := IsS 10) (.Assign _ _ _) (IsS.mk 10)
  | exact pick (p := IsS 10) (.Import _ _) (IsS.mk 10)
  | exact pick (p := IsS 10) (.ClassDef _ _ _ _ _ _ _ _ _ _ _) (IsS.mk 10)
noncomputable def st_11 : Stmt := by
 first
  | exact pick (p := IsS 11) (.FunctionDef _ _ _ _ _ _ _ _ _ _) (IsS.mk 11)
  | exact pick (p := IsS 11) (.Assign _ _ _) (IsS.mk 11)
  | exact pick (p := IsS 11) (.Import _ _) (IsS.mk 11)
  | exact pick (p := IsS 11) (.ClassDef _ _ _ _ _ _ _ _ _ _ _) (IsS.mk 11)
noncomputable def st_12 : Stmt := by
 first
  | exact pick (p := IsS 12) (.FunctionDef _ _ _ _ _ _ _ _ _ _) (IsS.mk 12)
  | exact pick (p := IsS 12) (.Assign _ _ _) (IsS.mk 12)
  | exact pick (p := IsS 12) (.Import _ _) (IsS.mk 12)
  | exact pick (p := IsS 12) (.ClassDef _ _ _ _ _ _ _ _ _ _ _) (IsS.mk 12)
noncomputable def st_13 : Stmt := by
 first
  | exact pick (p := IsS 13) (.FunctionDef _ _ _ _ _ _ _ _ _ _) (IsS.mk 13)
  | exact pick (p := IsS 13) (.Assign _ _ _) (IsS.mk 13)
  | exact pick (p := IsS 13) (.Import _ _) (IsS.mk 13)
  | exact pick (p := IsS 13) (.ClassDef _ _ _ _ _ _ _ _ _ _ _) (IsS.mk 13)
noncomputable def st_14 : Stmt := by
 first
  | exact pick (p := IsS 14) (.FunctionDef _ _ _ _ _ _ _ _ _ _) (IsS.mk 14)
  | exact pick (p := IsS 14) (.Assign _ _ _) (IsS.mk 14)
  | exact pick (p := IsS 14) (.Import _ _) (IsS.mk 14)
  | exact pick (p := IsS 14) (.ClassDef _ _ _ _ _ _ _ _ _ _ _) (IsS.mk 14)
noncomputable def st_15 : Stmt := by
 first
  | exact pick (p := IsS 15) (.FunctionDef _ _ _ _ _ _ _ _ _ _) (IsS.mk 15)
  | exact pick (p := IsS 15) (.Assign _ _ _) (IsS.mk 15)
  | exact pick (p := IsS 15) (.Import _ _) (IsS.mk 15)
  | exact pick (p := IsS 15) (.ClassDef _ _ _ _ _ _ _ _ _ _ _) (IsS.mk 15)
noncomputable def st_16 : Stmt := by
 first
  | exact pick (p := IsS 16) (.FunctionDef _ _ _ _ _ _ _ _ _ _) (IsS.mk 16)
  | exact pick (p := IsS 16) (.Assign _ _ _) (IsS.mk 16)
  | exact pick (p := IsS 16) (.Import _ _) (IsS.mk 16)
  | exact pick (p := IsS 16) (.ClassDef _ _ _ _ _ _ _ _ _ _ _) (IsS.mk 16)
noncomputable def st_17 : Stmt := by
 first
  | exact pick (p := IsS 17) (.FunctionDef _ _ _ _ _ _ _ _ _ _) (IsS.mk 17)
  | exact pick (p := IsS 17) (.Assign _ _ _) (IsS.mk 17)
  | exact pick (p := IsS 17) (.Import _ _) (IsS.mk 17)
  | exact pick (p := IsS 17) (.ClassDef _ _ _ _ _ _ _ _ _ _ _) (IsS.mk 17)
noncomputable def st_18 : Stmt := by
 first
  | exact pick (p := IsS 18) (.FunctionDef _ _ _ _ _ _ _ _ _ _) (IsS.mk 18)
  | exact pick (p := IsS 18) (.Assign _ _ _) (IsS.mk 18)
  | exact pick (p := IsS 18) (.Import _ _) (IsS.mk 18)
  | exact pick (p := IsS 18) (.ClassDef _ _ _ _ _ _ _ _ _ _ _) (IsS.mk 18)
noncomputable def st_19 : Stmt := by
 first
  | exact pick (p := IsS 19) (.FunctionDef _ _ _ _ _ _ _ _ _ _) (IsS.mk 19)
  | exact pick (p := IsS 19) (.Assign _ _ _) (IsS.mk 19)
  | exact pick (p := IsS 19) (.Import _ _) (IsS.mk 19)
  | exact pick (p := IsS 19) (.ClassDef _ _ _ _ _ _ _ _ _ _ _) (IsS.mk 19)
noncomputable def st_20 : Stmt := by
 first
  | exact pick (p := IsS 20) (.FunctionDef _ _ _ _ _ _ _ _ _ _) (IsS.mk 20)
  | exact pick (p := IsS 20) (.Assign _ _ _) (IsS.mk 20)
  | exact pick (p := IsS 20) (.Import _ _) (IsS.mk 20)
  | exact pick (p := IsS 20) (.ClassDef _ _ _ _ _ _ _ _ _ _ _) (IsS.mk 20)
noncomputable def st_21 : Stmt := by
 first
  | exact pick (p := IsS 21) (.FunctionDef _ _ _ _ _ _ _ _ _ _) (IsS.mk 21)
  | exact pick (p := IsS 21) (.Assign _ _ _) (IsS.mk 21)
  | exact pick (p := IsS 21) (.Import _ _) (IsS.mk 21)
  | exact pick (p := IsS 21) (.ClassDef _ _ _ _ _ _ _ _ _ _ _) (IsS.mk 21)
noncomputable def st_22 : Stmt := by
 first
  | exact pick (p := IsS 22) (.FunctionDef _ _ _ _ _ _ _ _ _ _) (IsS.mk 22)
  | exact pick (p := IsS 22) (.Assign _ _ _) (IsS.mk 22)
  | exact pick (p := IsS 22) (.Import _ _) (IsS.mk 22)
  | exact pick (p := IsS 22) (.ClassDef _ _ _ _ _ _ _ _ _ _ _) (IsS.mk 22)
noncomputable def st_23 : Stmt := by
 first
  | exact pick (p := IsS 23) (.FunctionDef _ _ _ _ _ _ _ _ _ _) (IsS.mk 23)
  | exact pick (p := IsS 23) (.Assign _ _ _) (IsS.mk 23)
  | exact pick (p := IsS 23) (.Import _ _) (IsS.mk 23)
  | exact pick (p := IsS 23) (.ClassDef _ _ _ _ _ _ _ _ _ _ _) (IsS.mk 23)
inductive IsKs : Nat → List (Option Expr) → Prop
 | mk (k : Nat) : IsKs k (List.take 20 (List.drop (20 * k) (dKs ((PySem.Challenge.pw_pe0280_02.main.body[5]?).getD (.Pass ⟨0, 0, 0, 0⟩)))))
inductive IsVs : Nat → List Expr → Prop
 | mk (k : Nat) : IsVs k (List.take 20 (List.drop (20 * k) (dVs ((PySem.Challenge.pw_pe0280_02.main.body[5]?).getD (.Pass ⟨0, 0, 0, 0⟩)))))
noncomputable def st_v0 : List Expr := pick (p := IsVs 0) [_, _, _, _, _, _, _, _, _, _, _, _, _, _, _, _, _, _, _, _] (IsVs.mk 0)
noncomputable def st_k0 : List (Option Expr) := pick (p := IsKs 0) [_, _, _, _, _, _, _, _, _, _, _, _, _, _, _, _, _, _, _, _] (IsKs.mk 0)
noncomputable def st_v1 : List Expr := pick (p := IsVs 1) [_, _, _, _, _, _, _, _, _, _, _, _, _, _, _, _, _, _, _, _] (IsVs.mk 1)
noncomputable def st_k1 : List (Option Expr) := pick (p := IsKs 1) [_, _, _, _, _, _, _, _, _, _, _, _, _, _, _, _, _, _, _, _] (IsKs.mk 1)
noncomputable def st_v2 : List Expr := pick (p := IsVs 2) [_, _, _, _, _, _, _, _, _, _, _, _, _, _, _, _, _, _, _, _] (IsVs.mk 2)
noncomputable def st_k2 : List (Option Expr) := pick (p := IsKs 2) [_, _, _, _, _, _, _, _, _, _, _, _, _, _, _, _, _, _, _, _] (IsKs.mk 2)
noncomputable def st_v3 : List Expr := pick (p := IsVs 3) [_, _, _, _, _, _, _, _, _, _, _, _, _, _, _, _, _, _, _, _] (IsVs.mk 3)
noncomputable def st_k3 : List (Option Expr) := pick (p := IsKs 3) [_, _, _, _, _, _, _, _, _, _, _, _, _, _, _, _, _, _, _, _] (IsKs.mk 3)
noncomputable def st_v4 : List Expr := pick (p := IsVs 4) [_, _, _, _, _, _, _, _, _, _, _, _, _, _, _, _, _, _, _, _] (IsVs.mk 4)
noncomputable def st_k4 : List (Option Expr) := pick (p := IsKs 4) [_, _, _, _, _, _, _, _, _, _, _, _, _, _, _, _, _, _, _, _] (IsKs.mk 4)
noncomputable def st_v5 : List Expr := pick (p := IsVs 5) [_, _, _, _, _, _, _, _, _, _, _, _, _, _, _, _, _, _, _, _] (IsVs.mk 5)
noncomputable def st_k5 : List (Option Expr) := pick (p := IsKs 5) [_, _, _, _, _, _, _, _, _, _, _, _, _, _, _, _, _, _, _, _] (IsKs.mk 5)
noncomputable def st_v6 : List Expr := pick (p := IsVs 6) [_, _, _, _, _, _, _, _, _, _, _, _, _, _, _, _, _, _, _, _] (IsVs.mk 6)
noncomputable def st_k6 : List (Option Expr) := pick (p := IsKs 6) [_, _, _, _, _, _, _, _, _, _, _, _, _, _, _, _, _, _, _, _] (IsKs.mk 6)
noncomputable def st_v7 : List Expr := pick (p := IsVs 7) [_, _, _, _, _, _, _, _, _, _, _, _, _, _, _, _, _, _, _, _] (IsVs.mk 7)
noncomputable def st_k7 : List (Option Expr) := pick (p := IsKs 7) [_, _, _, _, _, _, _, _, _, _, _, _, _, _, _, _, _, _, _, _] (IsKs.mk 7)
noncomputable def st_v8 : List Expr := pick (p := IsVs 8) [_, _, _, _, _, _, _, _, _, _, _, _, _, _, _, _, _, _, _, _] (IsVs.mk 8)
noncomputable def st_k8 : List (Option Expr) := pick (p := IsKs 8) [_, _, _, _, _, _, _, _, _, _, _, _, _, _, _, _, _, _, _, _] (IsKs.mk 8)
noncomputable def st_v9 : List Expr := pick (p := IsVs 9) [_, _, _, _, _, _, _, _, _, _, _, _, _, _, _, _, _, _, _, _] (IsVs.mk 9)
noncomputable def st_k9 : List (Option Expr) := pick (p := IsKs 9) [_, _, _, _, _, _, _, _, _, _, _, _, _, _, _, _, _, _, _, _] (IsKs.mk 9)
noncomputable def st_v10 : List Expr := pick (p := IsVs 10) [_, _, _, _, _, _, _, _, _, _, _, _, _, _, _, _, _, _, _, _] (IsVs.mk 10)
noncomputable def st_k10 : List (Option Expr) := pick (p := IsKs 10) [_, _, _, _, _, _, _, _, _, _, _, _, _, _, _, _, _, _, _, _] (IsKs.mk 10)
noncomputable def st_v11 : List Expr := pick (p := IsVs 11) [_, _, _, _, _, _, _, _, _, _, _, _, _, _, _, _, _, _, _, _] (IsVs.mk 11)
noncomputable def st_k11 : List (Option Expr) := pick (p := IsKs 11) [_, _, _, _, _, _, _, _, _, _, _, _, _, _, _, _, _, _, _, _] (IsKs.mk 11)
noncomputable def st_v12 : List Expr := pick (p := IsVs 12) [_, _, _, _, _, _, _, _, _, _, _, _, _, _, _, _, _, _, _, _] (IsVs.mk 12)
noncomputable def st_k12 : List (Option Expr) := pick (p := IsKs 12) [_, _, _, _, _, _, _, _, _, _, _, _, _, _, _, _, _, _, _, _] (IsKs.mk 12)
noncomputable def st_v13 : List Expr := pick (p := IsVs 13) [_, _, _, _, _, _, _, _, _, _, _, _, _, _, _, _, _, _, _, _] (IsVs.mk 13)
noncomputable def st_k13 : List (Option Expr) := pick (p := IsKs 13) [_, _, _, _, _, _, _, _, _, _, _, _, _, _, _, _, _, _, _, _] (IsKs.mk 13)
noncomputable def st_v14 : List Expr := pick (p := IsVs 14) [_, _, _, _, _, _, _, _, _, _, _, _, _, _, _, _, _, _, _, _] (IsVs.mk 14)
noncomputable def st_k14 : List (Option Expr) := pick (p := IsKs 14) [_, _, _, _, _, _, _, _, _, _, _, _, _, _, _, _, _, _, _, _] (IsKs.mk 14)
noncomputable def st_v15 : List Expr := pick (p := IsVs 15) [_, _, _, _, _, _, _, _, _, _, _, _, _, _, _, _, _, _, _, _] (IsVs.mk 15)
noncomputable def st_k15 : List (Option Expr) := pick (p := IsKs 15) [_, _, _, _, _, _, _, _, _, _, _, _, _, _, _, _, _, _, _, _] (IsKs.mk 15)
noncomputable def st_v16 : List Expr := pick (p := IsVs 16) [_, _, _, _, _, _, _, _, _, _, _, _, _, _, _, _, _, _, _, _] (IsVs.mk 16)
noncomputable def st_k16 : List (Option Expr) := pick (p := IsKs 16) [_, _, _, _, _, _, _, _, _, _, _, _, _, _, _, _, _, _, _, _] (IsKs.mk 16)
noncomputable def st_v17 : List Expr := pick (p := IsVs 17) [_, _, _, _, _, _, _, _, _, _, _, _, _, _, _, _, _, _, _, _] (IsVs.mk 17)
noncomputable def st_k17 : List (Option Expr) := pick (p := IsKs 17) [_, _, _, _, _, _, _, _, _, _, _, _, _, _, _, _, _, _, _, _] (IsKs.mk 17)
noncomputable def st_v18 : List Expr := pick (p := IsVs 18) [_, _, _, _, _, _, _, _, _, _, _, _, _, _, _, _, _, _, _, _] (IsVs.mk 18)
noncomputable def st_k18 : List (Option Expr) := pick (p := IsKs 18) [_, _, _, _, _, _, _, _, _, _, _, _, _, _, _, _, _, _, _, _] (IsKs.mk 18)
noncomputable def st_v19 : List Expr := pick (p := IsVs 19) [_, _, _, _, _, _, _, _, _, _, _, _, _, _, _, _, _, _, _, _] (IsVs.mk 19)
noncomputable def st_k19 : List (Option Expr) := pick (p := IsKs 19) [_, _, _, _, _, _, _, _, _, _, _, _, _, _, _, _, _, _, _, _] (IsKs.mk 19)
noncomputable def st_v20 : List Expr := pick (p := IsVs 20) [_, _, _, _, _, _, _, _, _, _, _, _, _, _, _, _, _, _, _, _] (IsVs.mk 20)
noncomputable def st_k20 : List (Option Expr) := pick (p := IsKs 20) [_, _, _, _, _, _, _, _, _, _, _, _, _, _, _, _, _, _, _, _] (IsKs.mk 20)
noncomputable def st_v21 : List Expr := pick (p := IsVs 21) [_, _, _, _, _, _, _, _, _, _, _, _, _, _, _, _, _, _, _, _] (IsVs.mk 21)
noncomputable def st_k21 : List (Option Expr) := pick (p := IsKs 21) [_, _, _, _, _, _, _, _, _, _, _, _, _, _, _, _, _, _, _, _] (IsKs.mk 21)
noncomputable def st_v22 : List Expr := pick (p := IsVs 22) [_, _, _, _, _, _, _, _, _, _, _, _, _, _, _, _, _, _, _, _] (IsVs.mk 22)
noncomputable def st_k22 : List (Option Expr) := pick (p := IsKs 22) [_, _, _, _, _, _, _, _, _, _, _, _, _, _, _, _, _, _, _, _] (IsKs.mk 22)
noncomputable def st_v23 : List Expr := pick (p := IsVs 23) [_, _, _, _, _, _, _, _, _, _, _, _, _, _, _, _, _, _, _, _] (IsVs.mk 23)
noncomputable def st_k23 : List (Option Expr) := pick (p := IsKs 23) [_, _, _, _, _, _, _, _, _, _, _, _, _, _, _, _, _, _, _, _] (IsKs.mk 23)
noncomputable def st_v24 : List Expr := pick (p := IsVs 24) [_, _, _, _, _, _, _, _, _, _, _, _, _, _, _, _, _, _, _, _] (IsVs.mk 24)
noncomputable def st_k24 : List (Option Expr) := pick (p := IsKs 24) [_, _, _, _, _, _, _, _, _, _, _, _, _, _, _, _, _, _, _, _] (IsKs.mk 24)
noncomputable def st_v25 : List Expr := pick (p := IsVs 25) [_, _, _, _, _, _, _, _, _, _, _, _, _, _, _, _, _, _, _, _] (IsVs.mk 25)
noncomputable def st_k25 : List (Option Expr) := pick (p := IsKs 25) [_, _, _, _, _, _, _, _, _, _, _, _, _, _, _, _, _, _, _, _] (IsKs.mk 25)
noncomputable def st_v26 : List Expr := pick (p := IsVs 26) [_, _, _, _, _, _, _, _, _, _, _, _, _, _, _, _, _, _, _, _] (IsVs.mk 26)
noncomputable def st_k26 : List (Option Expr) := pick (p := IsKs 26) [_, _, _, _, _, _, _, _, _, _, _, _, _, _, _, _, _, _, _, _] (IsKs.mk 26)
noncomputable def st_v27 : List Expr := pick (p := IsVs 27) [_, _, _, _, _, _, _, _, _, _, _, _, _, _, _, _, _, _, _, _] (IsVs.mk 27)
noncomputable def st_k27 : List (Option Expr) := pick (p := IsKs 27) [_, _, _, _, _, _, _, _, _, _, _, _, _, _, _, _, _, _, _, _] (IsKs.mk 27)
noncomputable def st_v28 : List Expr := pick (p := IsVs 28) [_, _, _, _, _, _, _, _, _, _, _, _, _, _, _, _, _, _, _, _] (IsVs.mk 28)
noncomputable def st_k28 : List (Option Expr) := pick (p := IsKs 28) [_, _, _, _, _, _, _, _, _, _, _, _, _, _, _, _, _, _, _, _] (IsKs.mk 28)
noncomputable def st_v29 : List Expr := pick (p := IsVs 29) [_, _, _, _, _, _, _, _, _, _, _, _, _, _, _, _, _, _, _, _] (IsVs.mk 29)
noncomputable def st_k29 : List (Option Expr) := pick (p := IsKs 29) [_, _, _, _, _, _, _, _, _, _, _, _, _, _, _, _, _, _, _, _] (IsKs.mk 29)
noncomputable def st_v30 : List Expr := pick (p := IsVs 30) [_, _, _, _, _, _, _, _, _, _, _, _, _, _, _, _, _, _, _, _] (IsVs.mk 30)
noncomputable def st_k30 : List (Option Expr) := pick (p := IsKs 30) [_, _, _, _, _, _, _, _, _, _, _, _, _, _, _, _, _, _, _, _] (IsKs.mk 30)
noncomputable def st_v31 : List Expr := pick (p := IsVs 31) [_, _, _, _, _, _, _, _, _, _, _, _, _, _, _, _, _, _, _, _] (IsVs.mk 31)
noncomputable def st_k31 : List (Option Expr) := pick (p := IsKs 31) [_, _, _, _, _, _, _, _, _, _, _, _, _, _, _, _, _, _, _, _] (IsKs.mk 31)
noncomputable def st_v32 : List Expr := pick (p := IsVs 32) [_, _, _, _, _, _, _, _, _, _] (IsVs.mk 32)
noncomputable def st_k32 : List (Option Expr) := pick (p := IsKs 32) [_, _, _, _, _, _, _, _, _, _] (IsKs.mk 32)
noncomputable def st_5 : Stmt := .Assign [.Name (Str.ofString "b3_exceptions") ⟨9, 0, 9, 13⟩] (.Dict (st_k0 ++ (st_k1 ++ (st_k2 ++ (st_k3 ++ (st_k4 ++ (st_k5 ++ (st_k6 ++ (st_k7 ++ (st_k8 ++ (st_k9 ++ (st_k10 ++ (st_k11 ++ (st_k12 ++ (st_k13 ++ (st_k14 ++ (st_k15 ++ (st_k16 ++ (st_k17 ++ (st_k18 ++ (st_k19 ++ (st_k20 ++ (st_k21 ++ (st_k22 ++ (st_k23 ++ (st_k24 ++ (st_k25 ++ (st_k26 ++ (st_k27 ++ (st_k28 ++ (st_k29 ++ (st_k30 ++ (st_k31 ++ st_k32)))))))))))))))))))))))))))))))) (st_v0 ++ (st_v1 ++ (st_v2 ++ (st_v3 ++ (st_v4 ++ (st_v5 ++ (st_v6 ++ (st_v7 ++ (st_v8 ++ (st_v9 ++ (st_v10 ++ (st_v11 ++ (st_v12 ++ (st_v13 ++ (st_v14 ++ (st_v15 ++ (st_v16 ++ (st_v17 ++ (st_v18 ++ (st_v19 ++ (st_v20 ++ (st_v21 ++ (st_v22 ++ (st_v23 ++ (st_v24 ++ (st_v25 ++ (st_v26 ++ (st_v27 ++ (st_v28 ++ (st_v29 ++ (st_v30 ++ (st_v31 ++ st_v32)))))))))))))))))))))))))))))))) ⟨9, 16, 9, 8704⟩) ⟨9, 0, 9, 8704⟩
noncomputable def st_sc : Scope := by
 refine pick (p := IsC) ?x ?h
 rotate_left
 ·have h := IsC.mk
  conv at h => arg 1; whnf
  exact h
noncomputable def st_gi : Given := by
 refine pick (p := IsG) ?x ?h
 rotate_left
 ·have h := IsG.mk
  conv at h => arg 1; whnf
  exact h
noncomputable def st_fi : Str := by
 refine pick (p := IsF) ?x ?h
 rotate_left
 ·have h := IsF.mk
  conv at h => arg 1; whnf
  exact h
noncomputable def P0 : Program := { main := { body := [st_0, st_1, st_2, st_3, st_4, st_5, st_6, st_7, st_8, st_9, st_10, st_11, st_12, st_13, st_14, st_15, st_16, st_17, st_18, st_19, st_20, st_21, st_22, st_23], scope := st_sc, futureAnnotations := false, file := st_fi, more := [] }, modules := [], parses := [], absent := [], harvested := [], given := st_gi }
theorem P0_eq : P0 = PySem.Challenge.pw_pe0280_02 := by kernel_rfl
noncomputable def stAt (i : Nat) : Stmt := (P0.main.body[i]?).getD (.Pass ⟨0, 0, 0, 0⟩)
noncomputable def clsB : Stmt → List Stmt
 | .ClassDef _ _ _ b _ _ _ _ _ _ _ => b
 | _ => []
noncomputable def stIn (i j : Nat) : Stmt := ((clsB (stAt i))[j]?).getD (.Pass ⟨0, 0, 0, 0⟩)
noncomputable def sArgs : Stmt → Arguments
 | .FunctionDef _ a _ _ _ _ _ _ _ _ => a
 | _ => default
noncomputable def sBody : Stmt → List Stmt
 | .FunctionDef _ _ b _ _ _ _ _ _ _ => b
 | _ => []
noncomputable def sScope : Stmt → Scope
 | .FunctionDef _ _ _ _ _ _ s _ _ _ => s
 | _ => default
noncomputable def ck0 (P : Params) : List DictEntry := [en P z0 (nat_lit 1) (.str z1 160), en P z2 (nat_lit 2) (.builtin "builtins.__doc__:str#opaque"), en P z3 (nat_lit 3) (.builtin "builtins.__package__:str#opaque"), en P z4 (nat_lit 4) (.builtin "builtins.__loader__:shared#opaque"), en P z5 (nat_lit 5) (.builtin s11665532747177232413x24), en P z6 (nat_lit 6) (.builtin s15183661809925369436x15), en P z7 (nat_lit 7) (.builtin s13915890719876406383x10), en P z8 (nat_lit 8) (.builtin s13459172003223722735x3)]
noncomputable def ck1 (P : Params) : List DictEntry := [en P z9 (nat_lit 9) (.builtin s10557405761357834076x3), en P z10 (nat_lit 10) (.builtin s4233737765568776869x3), en P z11 (nat_lit 11) (.builtin s2508922471967985374x5), en P z12 (nat_lit 12) (.builtin s15574269061696679450x3), en P z13 (nat_lit 13) (.builtin s6016482663378992977x10), en P z14 (nat_lit 14) (.builtin s5596568736180474577x8), en P z15 (nat_lit 15) (.builtin s2839554839881490554x3), en P z16 (nat_lit 16) (.builtin s725004073602090463x7)]
noncomputable def ck2 (P : Params) : List DictEntry := [en P z17 (nat_lit 17) (.builtin s9436932552931045734x7), en P z18 (nat_lit 18) (.builtin s2754603736356183583x3), en P z19 (nat_lit 19) (.builtin s15185746759980889043x6), en P z20 (nat_lit 20) (.builtin s8192189862530294059x4), en P z21 (nat_lit 21) (.builtin s7038307821325472102x4), en P z22 (nat_lit 22) (.builtin s5662562618415449548x6), en P z23 (nat_lit 23) (.builtin s15281542589158584767x7), en P z24 (nat_lit 24) (.builtin s17651547275483570877x7)]
noncomputable def ck3 (P : Params) : List DictEntry := [en P z25 (nat_lit 25) (.builtin s4036449017235975746x7), en P z26 (nat_lit 26) (.builtin s8879979712987360175x4), en P z27 (nat_lit 27) (.builtin s1801250619170735830x3), en P z28 (nat_lit 28) (.builtin s17659931425627118568x2), en P z29 (nat_lit 29) (.builtin s6063217899685152688x5), en P z30 (nat_lit 30) (.builtin s8008927332132565319x10), en P z31 (nat_lit 31) (.builtin s3544116645089599534x10), en P z32 (nat_lit 32) (.builtin s13761710972054866084x4)]
noncomputable def ck4 (P : Params) : List DictEntry := [en P z33 (nat_lit 33) (.builtin s12896375587409280029x5), en P z34 (nat_lit 34) (.builtin s13014049009108672802x3), en P z35 (nat_lit 35) (.builtin s13935586738268321596x6), en P z36 (nat_lit 36) (.builtin s8200498257699607233x3), en P z37 (nat_lit 37) (.builtin s14114244577727609259x3), en P z38 (nat_lit 38) (.builtin s1499430450269397089x4), en P z39 (nat_lit 39) (.builtin s8755793994789770505x5), en P z40 (nat_lit 40) (.builtin s15725212667919936108x3)]
noncomputable def ck5 (P : Params) : List DictEntry := [en P z41 (nat_lit 41) (.builtin s15791221867095933363x3), en P z42 (nat_lit 42) (.builtin s81309575031448614x3), en P z43 (nat_lit 43) (.builtin s8069831620301644142x5), en P z44 (nat_lit 44) (.builtin s10061844253413749634x4), en P z45 (nat_lit 45) (.builtin s9496514870978017513x5), en P z46 (nat_lit 46) (.builtin s8899691144933366716x7), en P z47 (nat_lit 47) (.builtin s15201008993051130160x6), en P z48 (nat_lit 48) (.builtin s741896355592496720x3)]
noncomputable def ck6 (P : Params) : List DictEntry := [en P z49 (nat_lit 49) (.builtin s17925004256654032244x4), en P z50 (nat_lit 50) .none, en P z51 (nat_lit 51) .ellipsis, en P z52 (nat_lit 52) .notImplemented, en P z53 (nat_lit 53) (.bool false), en P z54 (nat_lit 54) (.bool true), en P z55 (nat_lit 55) (.type s11695548795398191787x4), en P z56 (nat_lit 56) (.type s4156966113859768872x10)]
noncomputable def ck7 (P : Params) : List DictEntry := [en P z57 (nat_lit 57) (.type s9501651726347032510x9), en P z58 (nat_lit 58) (.type s15722918466584999320x5), en P z59 (nat_lit 59) (.type s591115383303110208x11), en P z60 (nat_lit 60) (.type s15721156781594690315x7), en P z61 (nat_lit 61) (.type y0), en P z62 (nat_lit 62) (.type s14340494229221121180x9), en P z63 (nat_lit 63) (.type s13429844117177748173x6), en P z64 (nat_lit 64) (.type s16463266125957815391x5)]
noncomputable def ck8 (P : Params) : List DictEntry := [en P z65 (nat_lit 65) (.type s4922535414793169389x9), en P z66 (nat_lit 66) (.type s8101838861749082086x8), en P z67 (nat_lit 67) (.type s7066276694103001551x3), en P z68 (nat_lit 68) (.type y1), en P z69 (nat_lit 69) (.type s462964344163437139x3), en P z70 (nat_lit 70) (.type y2), en P z71 (nat_lit 71) (.type y3), en P z72 (nat_lit 72) (.type s14365286008749172514x8)]
noncomputable def ck9 (P : Params) : List DictEntry := [en P z73 (nat_lit 73) (.type y4), en P z74 (nat_lit 74) (.type s4674234679698826739x5), en P z75 (nat_lit 75) (.type s16656946322747308186x12), en P z76 (nat_lit 76) (.type s10796804682411823810x3), en P z77 (nat_lit 77) (.type y5), en P z78 (nat_lit 78) (.type y6), en P z79 (nat_lit 79) (.type y7), en P z80 (nat_lit 80) (.type s14339709457334898076x3)]
noncomputable def ck10 (P : Params) : List DictEntry := [en P z81 (nat_lit 81) (.bool true), en P z82 (nat_lit 82) (.type s4278001404047624695x13), en P z83 (nat_lit 83) (.type s6585700554429387442x18), en P z84 (nat_lit 84) (.type s5946037652744460706x9), en P z85 (nat_lit 85) (.type s7410770068591931388x13), en P z86 (nat_lit 86) (.type s11817881795495490833x17), en P z87 (nat_lit 87) (.type s15679963881808890155x10), en P z88 (nat_lit 88) (.type s3871700062485845797x15)]
noncomputable def ck11 (P : Params) : List DictEntry := [en P z89 (nat_lit 89) (.type s7689518266570723881x14), en P z90 (nat_lit 90) (.type s9001593270443806431x14), en P z91 (nat_lit 91) (.type s6882542574934516792x11), en P z92 (nat_lit 92) (.type s14403400214490484960x8), en P z93 (nat_lit 93) (.type s14457978657717015782x11), en P z94 (nat_lit 94) (.type s1753610191782819921x11), en P z95 (nat_lit 95) (.type s14119380538032626715x11), en P z96 (nat_lit 96) (.type s11437920000406562045x9)]
noncomputable def ck12 (P : Params) : List DictEntry := [en P z97 (nat_lit 97) (.type y8), en P z98 (nat_lit 98) (.type s14816307405966870543x14), en P z99 (nat_lit 99) (.type s8682627914449686677x12), en P z100 (nat_lit 100) (.type s4428170145600203450x18), en P z101 (nat_lit 101) (.type y9), en P z102 (nat_lit 102) (.type s16067994140765818257x11), en P z103 (nat_lit 103) (.type s2327743974964600596x11), en P z104 (nat_lit 104) (.type s2804747833354056582x9)]
noncomputable def ck13 (P : Params) : List DictEntry := [en P z105 (nat_lit 105) (.type s6070975301684473832x10), en P z106 (nat_lit 106) (.type s14270485950484850486x7), en P z107 (nat_lit 107) (.type s12041534306414923332x18), en P z108 (nat_lit 108) (.type s2531307568338490285x13), en P z109 (nat_lit 109) (.type s631175304937289666x17), en P z110 (nat_lit 110) (.type s5144983644357021410x12), en P z111 (nat_lit 111) (.type s18039099521571816885x18), en P z112 (nat_lit 112) (.type s6011586214260557989x15)]
noncomputable def ck14 (P : Params) : List DictEntry := [en P z113 (nat_lit 113) (.type s5430567037509283100x13), en P z114 (nat_lit 114) (.type s8117915138073963741x13), en P z115 (nat_lit 115) (.type s3423317712779056401x25), en P z116 (nat_lit 116) (.type s2007317383269046180x15), en P z117 (nat_lit 117) (.type s17481586968713580700x14), en P z118 (nat_lit 118) (.type s2450899226349176912x13), en P z119 (nat_lit 119) (.type s16626165730633575011x14), en P z120 (nat_lit 120) (.type s14288496050688921416x11)]
noncomputable def ck15 (P : Params) : List DictEntry := [en P z121 (nat_lit 121) (.type s5735081916595925998x15), en P z122 (nat_lit 122) (.type s3865607918536308442x17), en P z123 (nat_lit 123) (.type s13337502604062700212x15), en P z124 (nat_lit 124) (.type s13114017843053701147x15), en P z125 (nat_lit 125) (.type s17467278006356818441x17), en P z126 (nat_lit 126) (.type s17722149559621369488x16), en P z127 (nat_lit 127) (.type s7855274175708717672x17), en P z128 (nat_lit 128) (.type s13351283678309829046x18)]
noncomputable def ck16 (P : Params) : List DictEntry := [en P z129 (nat_lit 129) (.type s6668348653404991179x15), en P z130 (nat_lit 130) (.type s12913350958174193794x18), en P z131 (nat_lit 131) (.type s16115879512475548326x12), en P z132 (nat_lit 132) (.type s15920661018069861047x16), en P z133 (nat_lit 133) (.type s10779130036587390575x21), en P z134 (nat_lit 134) (.type s7801419657504700863x10), en P z135 (nat_lit 135) (.type s1688129525768580628x8), en P z136 (nat_lit 136) (.type s1031832959479892071x19)]
noncomputable def ck17 (P : Params) : List DictEntry := [en P z137 (nat_lit 137) (.type s8991790508128307865x19), en P z138 (nat_lit 138) (.type s14539662485746970245x23), en P z139 (nat_lit 139) (.type s11643622729373238714x14), en P z140 (nat_lit 140) (.type s3386828779285465597x17), en P z141 (nat_lit 141) (.type s13042696260734638735x12), en P z142 (nat_lit 142) (.type s18239426817015966623x15), en P z143 (nat_lit 143) (.type s1270395311379034370x22), en P z144 (nat_lit 144) (.type s10696252587037064777x22)]
noncomputable def ck18 (P : Params) : List DictEntry := [en P z145 (nat_lit 145) (.type s7852717498200857586x20), en P z146 (nat_lit 146) (.type s6377248116197321094x8), en P z147 (nat_lit 147) (.type s3834378056692298002x18), en P z148 (nat_lit 148) (.type s17586630440231065808x18), en P z149 (nat_lit 149) (.type s15234114252648025395x21), en P z150 (nat_lit 150) (.type s8496462677383758984x14), en P z151 (nat_lit 151) (.type y8), en P z152 (nat_lit 152) (.type y8)]
noncomputable def ck19 (P : Params) : List DictEntry := [en P z153 (nat_lit 153) (.builtin s16789243406116112673x4), en P z154 (nat_lit 154) (.builtin s14400166428656793546x20), en P z155 (nat_lit 155) (.builtin s5857708277339239366x20), en P z156 (nat_lit 156) (.builtin "builtins.copyright#opaque"), en P z157 (nat_lit 157) (.builtin "builtins.credits#opaque"), en P z158 (nat_lit 158) (.builtin "builtins.license#opaque"), en P z159 (nat_lit 159) (.builtin s7804999707787243718x20)]
noncomputable def ck20 (P : Params) : List DictEntry := ((ck0 P) ++ ((ck1 P) ++ ((ck2 P) ++ ((ck3 P) ++ ((ck4 P) ++ ((ck5 P) ++ ((ck6 P) ++ (ck7 P))))))))
noncomputable def ck21 (P : Params) : List DictEntry := ((ck8 P) ++ ((ck9 P) ++ ((ck10 P) ++ ((ck11 P) ++ ((ck12 P) ++ ((ck13 P) ++ ((ck14 P) ++ (ck15 P))))))))
noncomputable def ck22 (P : Params) : List DictEntry := ((ck16 P) ++ ((ck17 P) ++ ((ck18 P) ++ (ck19 P))))
noncomputable def o0 (P : Params) : Obj := ⟨(.type y0), none, (.dict ((ck20 P) ++ ((ck21 P) ++ (ck22 P))).toArray 159), #[]⟩
noncomputable def o1 (P : Params) : Obj := ⟨(.type y0), none, (.dict #[en P z1 (nat_lit 162) (.ref 4), en P z160 (nat_lit 163) (.ref 5), en P z161 (nat_lit 244) (.ref 12)] 3), #[]⟩
noncomputable def o2 (P : Params) : Obj := ⟨.none, none, (.dict #[en P z162 (nat_lit 183) (.bool true), en P z163 (nat_lit 185) (.ref 14), en P z164 (nat_lit 206) (.ref 18), en P z165 (nat_lit 216) (.ref 22), en P z166 (nat_lit 245) (.int 3 0), en P z167 (nat_lit 270) (.bool true), en P z168 (nat_lit 272) (.ref 27), en P z169 (nat_lit 0) (.str (Str.mk #[12]) 0), en P z170 (nat_lit 273) (.str (Str.mk #[4, 0, 0, 11, 4, 0, 0, 11, 4, 0, 0, 3, 4, 0, 0, 11, 8, 4, 100, 105, 99, 116, 2]) 0)] 9), #[]⟩
noncomputable def o3 (P : Params) : Obj := ⟨(.type y0), none, (.dict #[en P z0 (nat_lit 165) (.str z160 164), en P z2 (nat_lit 166) .none, en P z3 (nat_lit 167) .none, en P z4 (nat_lit 168) (.builtin y10), en P z5 (nat_lit 169) .none, en P z171 (nat_lit 170) (.ref 6), en P z172 (nat_lit 171) (.ref 4), en P z173 (nat_lit 173) (.str z174 172), en P z175 (nat_lit 174) .none, en P z161 (nat_lit 275) (.ref 12)] 10), #[]⟩
noncomputable def o4 (P : Params) : Obj := ⟨(.type y11), (some 0), .plain, #[]⟩
noncomputable def o5 (P : Params) : Obj := ⟨(.type y11), (some 3), .plain, #[]⟩
noncomputable def o6 (P : Params) : Obj := ⟨(.type y0), none, (.dict #[] 0), #[]⟩
noncomputable def o7 (P : Params) : Obj := ⟨(.type y6), none, (.seq #[] 0), #[]⟩
noncomputable def o8 (P : Params) : Obj := ⟨.none, none, (.fields #[]), #[]⟩
noncomputable def o9 (P : Params) : Obj := ⟨(.type y12), none, (.fields #[(.str z176 176), (.str z176 177), (.str z174 178), (.int 1 0), (.int 0 0), (.int 0 0), (.int 0 0), (.int 0 0), (.ref 7), (.bool false), (.int 175 0), (.ref 8), .none, .none, .none, .none, (.int 179 0), (.int 1 0), (.str z174 180)]), #[]⟩
noncomputable def o10 (P : Params) : Obj := ⟨(.type y13), none, .plain, #[(some (.ref 9)), (some (.ref 3)), (some (.ref 3)), none, (some (.str z160 164)), none, (some (.ref 0))]⟩
noncomputable def ck23 (P : Params) : List DictEntry := [en P z0 (nat_lit 247) (.str z161 246), en P z2 (nat_lit 248) .none, en P z3 (nat_lit 250) (.str z177 249), en P z4 (nat_lit 251) (.builtin "off-the-table:_sre.__loader__:shared#opaque"), en P z5 (nat_lit 252) (.builtin "off-the-table:_sre.__spec__:shared#opaque"), en P z16 (nat_lit 253) (.builtin s492968859115322481x12), en P z178 (nat_lit 254) (.builtin "off-the-table:_sre.template:shared#opaque"), en P z179 (nat_lit 255) (.builtin "off-the-table:_sre.getcodesize:shared#opaque")]
noncomputable def ck24 (P : Params) : List DictEntry := [en P z180 (nat_lit 256) (.builtin "off-the-table:_sre.ascii_iscased:shared#opaque"), en P z181 (nat_lit 257) (.builtin "off-the-table:_sre.unicode_iscased:shared#opaque"), en P z182 (nat_lit 258) (.builtin "off-the-table:_sre.ascii_tolower:shared#opaque"), en P z183 (nat_lit 259) (.builtin "off-the-table:_sre.unicode_tolower:shared#opaque"), en P z184 (nat_lit 261) (.int 20230612 260), en P z185 (nat_lit 263) (.int 4 262), en P z186 (nat_lit 265) (.int 4294967295 264), en P z187 (nat_lit 267) (.int 1073741823 266)]
noncomputable def ck25 (P : Params) : List DictEntry := [en P z156 (nat_lit 269) (.str z188 268)]
noncomputable def o11 (P : Params) : Obj := ⟨(.type y0), none, (.dict ((ck23 P) ++ ((ck24 P) ++ (ck25 P))).toArray 17), #[]⟩
noncomputable def o12 (P : Params) : Obj := ⟨(.type y11), (some 11), .plain, #[]⟩
noncomputable def ck26 (P : Params) : List DictEntry := [en P z189 (nat_lit 189) (.str z190 186), en P z191 (nat_lit 190) (.int 971 187), en P z2 (nat_lit 191) (.builtin "_frozen_importlib.BuiltinImporter.__doc__:str#opaque"), en P z192 (nat_lit 192) (.str z193 188), en P z194 (nat_lit 193) (.builtin "_frozen_importlib.BuiltinImporter.find_spec#opaque"), en P z195 (nat_lit 194) (.builtin "_frozen_importlib.BuiltinImporter.create_module#opaque"), en P z196 (nat_lit 195) (.builtin "_frozen_importlib.BuiltinImporter.exec_module#opaque"), en P z197 (nat_lit 196) (.builtin "_frozen_importlib.BuiltinImporter.get_code#opaque")]
noncomputable def ck27 (P : Params) : List DictEntry := [en P z198 (nat_lit 197) (.builtin "_frozen_importlib.BuiltinImporter.get_source#opaque"), en P z199 (nat_lit 198) (.builtin "_frozen_importlib.BuiltinImporter.is_package#opaque"), en P z200 (nat_lit 199) (.builtin "_frozen_importlib.BuiltinImporter.load_module#opaque"), en P z201 (nat_lit 200) (.ref 15), en P z202 (nat_lit 202) (.ref 16), en P z203 (nat_lit 204) (.ref 17)]
noncomputable def o13 (P : Params) : Obj := ⟨(.type y0), none, (.dict ((ck26 P) ++ (ck27 P)).toArray 14), #[]⟩
noncomputable def o14 (P : Params) : Obj := ⟨(.type y7), none, (.cls { name := z204, bases := [(.type y2)], mro := [(.ref 14), (.type y2)], ns := 13, qualname := z204, hasDict := true, slotNames := [], subclasses := [], abstract := false, collection := none, hasDel := false }), #[]⟩
noncomputable def o15 (P : Params) : Obj := ⟨(.type y6), none, (.seq #[] 0), #[]⟩
noncomputable def o16 (P : Params) : Obj := ⟨(.type y14), none, (.fields #[(.str z202 201), (.ref 14), (.builtin y15), (.builtin y16)]), #[]⟩
noncomputable def o17 (P : Params) : Obj := ⟨(.type y14), none, (.fields #[(.str z203 203), (.ref 14), (.builtin y17), .none]), #[]⟩
noncomputable def o18 (P : Params) : Obj := ⟨.none, none, (.seq #[(.int 13 0), (.str (Str.mk #[6, 189, 10, 95, 95, 109, 111, 100, 117, 108, 101, 95, 95, 6, 186, 17, 95, 102, 114, 111, 122, 101, 110, 95, 105, 109, 112, 111, 114, 116, 108, 105, 98, 6, 190, 15, 95, 95, 102, 105, 114, 115, 116, 108, 105, 110, 101, 110, 111, 95, 95, 4, 187, 0, 971, 6, 191, 7, 95, 95, 100, 111, 99, 95, 95, 9, 52, 95, 102, 114, 111, 122, 101, 110, 95, 105, 109, 112, 111, 114, 116, 108, 105, 98, 46, 66, 117, 105, 108, 116, 105, 110, 73, 109, 112, 111, 114, 116, 101, 114, 46, 95, 95, 100, 111, 99, 95, 95, 58, 115, 116, 114, 35, 111, 112, 97, 113, 117, 101, 6, 192, 7, 95, 79, 82, 73, 71, 73, 78, 6, 188, 8, 98, 117, 105, 108, 116, 45, 105, 110, 6, 193, 9, 102, 105, 110, 100, 95, 115, 112, 101, 99, 9, 50, 95, 102, 114, 111, 122, 101, 110, 95, 105, 109, 112, 111, 114, 116, 108, 105, 98, 46, 66, 117, 105, 108, 116, 105, 110, 73, 109, 112, 111, 114, 116, 101, 114, 46, 102, 105, 110, 100, 95, 115, 112, 101, 99, 35, 111, 112, 97, 113, 117, 101, 6, 194, 13, 99, 114, 101, 97, 116, 101, 95, 109, 111, 100, 117, 108, 101, 9, 54, 95, 102, 114, 111, 122, 101, 110, 95, 105, 109, 112, 111, 114, 116, 108, 105, 98, 46, 66, 117, 105, 108, 116, 105, 110, 73, 109, 112, 111, 114, 116, 101, 114, 46, 99, 114, 101, 97, 116, 101, 95, 109, 111, 100, 117, 108, 101, 35, 111, 112, 97, 113, 117, 101, 6, 195, 11, 101, 120, 101, 99, 95, 109, 111, 100, 117, 108, 101, 9, 52, 95, 102, 114, 111, 122, 101, 110, 95, 105, 109, 112, 111, 114, 116, 108, 105, 98, 46, 66, 117, 105, 108, 116, 105, 110, 73, 109, 112, 111, 114, 116, 101, 114, 46, 101, 120, 101, 99, 95, 109, 111, 100, 117, 108, 101, 35, 111, 112, 97, 113, 117, 101, 6, 196, 8, 103, 101, 116, 95, 99, 111, 100, 101, 9, 49, 95, 102, 114, 111, 122, 101, 110, 95, 105, 109, 112, 111, 114, 116, 108, 105, 98, 46, 66, 117, 105, 108, 116, 105, 110, 73, 109, 112, 111, 114, 116, 101, 114, 46, 103, 101, 116, 95, 99, 111, 100, 101, 35, 111, 112, 97, 113, 117, 101, 6, 197, 10, 103, 101, 116, 95, 115, 111, 117, 114, 99, 101, 9, 51, 95, 102, 114, 111, 122, 101, 110, 95, 105, 109, 112, 111, 114, 116, 108, 105, 98, 46, 66, 117, 105, 108, 116, 105, 110, 73, 109, 112, 111, 114, 116, 101, 114, 46, 103, 101, 116, 95, 115, 111, 117, 114, 99, 101, 35, 111, 112, 97, 113, 117, 101, 6, 198, 10, 105, 115, 95, 112, 97, 99, 107, 97, 103, 101, 9, 51, 95, 102, 114, 111, 122, 101, 110, 95, 105, 109, 112, 111, 114, 116, 108, 105, 98, 46, 66, 117, 105, 108, 116, 105, 110, 73, 109, 112, 111, 114, 116, 101, 114, 46, 105, 115, 95, 112, 97, 99, 107, 97, 103, 101, 35, 111, 112, 97, 113, 117, 101, 6, 199, 11, 108, 111, 97, 100, 95, 109, 111, 100, 117, 108, 101, 9, 52, 95, 102, 114, 111, 122, 101, 110, 95, 105, 109, 112, 111, 114, 116, 108, 105, 98, 46, 66, 117, 105, 108, 116, 105, 110, 73, 109, 112, 111, 114, 116, 101, 114, 46, 108, 111, 97, 100, 95, 109, 111, 100, 117, 108, 101, 35, 111, 112, 97, 113, 117, 101, 6, 200, 21, 95, 95, 115, 116, 97, 116, 105, 99, 95, 97, 116, 116, 114, 105, 98, 117, 116, 101, 115, 95, 95, 4, 0, 0, 15, 6, 202, 8, 95, 95, 100, 105, 99, 116, 95, 95, 4, 0, 0, 16, 6, 204, 11, 95, 95, 119, 101, 97, 107, 114, 101, 102, 95, 95, 4, 0, 0, 17]) 0), (.bool true), (.bool true), (.str z177 205), (.int 21 0), (.str (Str.mk #[6, 227, 10, 95, 95, 109, 111, 100, 117, 108, 101, 95, 95, 6, 217, 17, 95, 102, 114, 111, 122, 101, 110, 95, 105, 109, 112, 111, 114, 116, 108, 105, 98, 6, 228, 15, 95, 95, 102, 105, 114, 115, 116, 108, 105, 110, 101, 110, 111, 95, 95, 4, 218, 0, 562, 6, 229, 7, 95, 95, 100, 111, 99, 95, 95, 9, 47, 95, 102, 114, 111, 122, 101, 110, 95, 105, 109, 112, 111, 114, 116, 108, 105, 98, 46, 77, 111, 100, 117, 108, 101, 83, 112, 101, 99, 46, 95, 95, 100, 111, 99, 95, 95, 58, 115, 116, 114, 35, 111, 112, 97, 113, 117, 101, 6, 230, 8, 95, 95, 105, 110, 105, 116, 95, 95, 9, 44, 95, 102, 114, 111, 122, 101, 110, 95, 105, 109, 112, 111, 114, 116, 108, 105, 98, 46, 77, 111, 100, 117, 108, 101, 83, 112, 101, 99, 46, 95, 95, 105, 110, 105, 116, 95, 95, 35, 111, 112, 97, 113, 117, 101, 6, 231, 8, 95, 95, 114, 101, 112, 114, 95, 95, 9, 44, 95, 102, 114, 111, 122, 101, 110, 95, 105, 109, 112, 111, 114, 116, 108, 105, 98, 46, 77, 111, 100, 117, 108, 101, 83, 112, 101, 99, 46, 95, 95, 114, 101, 112, 114, 95, 95, 35, 111, 112, 97, 113, 117, 101, 6, 232, 6, 95, 95, 101, 113, 95, 95, 9, 42, 95, 102, 114, 111, 122, 101, 110, 95, 105, 109, 112, 111, 114, 116, 108, 105, 98, 46, 77, 111, 100, 117, 108, 101, 83, 112, 101, 99, 46, 95, 95, 101, 113, 95, 95, 35, 111, 112, 97, 113, 117, 101, 6, 233, 6, 99, 97, 99, 104, 101, 100, 9, 42, 95, 102, 114, 111, 122, 101, 110, 95, 105, 109, 112, 111, 114, 116, 108, 105, 98, 46, 77, 111, 100, 117, 108, 101, 83, 112, 101, 99, 46, 99, 97, 99, 104, 101, 100, 35, 111, 112, 97, 113, 117, 101, 6, 234, 6, 112, 97, 114, 101, 110, 116, 9, 42, 95, 102, 114, 111, 122, 101, 110, 95, 105, 109, 112, 111, 114, 116, 108, 105, 98, 46, 77, 111, 100, 117, 108, 101, 83, 112, 101, 99, 46, 112, 97, 114, 101, 110, 116, 35, 111, 112, 97, 113, 117, 101, 6, 235, 12, 104, 97, 115, 95, 108, 111, 99, 97, 116, 105, 111, 110, 9, 48, 95, 102, 114, 111, 122, 101, 110, 95, 105, 109, 112, 111, 114, 116, 108, 105, 98, 46, 77, 111, 100, 117, 108, 101, 83, 112, 101, 99, 46, 104, 97, 115, 95, 108, 111, 99, 97, 116, 105, 111, 110, 35, 111, 112, 97, 113, 117, 101, 6, 236, 21, 95, 95, 115, 116, 97, 116, 105, 99, 95, 97, 116, 116, 114, 105, 98, 117, 116, 101, 115, 95, 95, 4, 0, 0, 23, 6, 238, 8, 95, 95, 100, 105, 99, 116, 95, 95, 4, 0, 0, 24, 6, 240, 11, 95, 95, 119, 101, 97, 107, 114, 101, 102, 95, 95, 4, 0, 0, 25, 6, 241, 8, 95, 95, 104, 97, 115, 104, 95, 95, 0]) 0), (.bool true), (.bool true), (.str z177 242)] 1), #[]⟩
noncomputable def o19 (P : Params) : Obj := ⟨(.type y1), none, (.seq #[] 0), #[]⟩
noncomputable def o20 (P : Params) : Obj := ⟨(.type y0), none, (.dict #[en P z205 (nat_lit 208) (.str z161 207), en P z206 (nat_lit 209) (.ref 14), en P z207 (nat_lit 210) (.str z193 184), en P z208 (nat_lit 211) .none, en P z209 (nat_lit 212) .none, en P z210 (nat_lit 213) (.ref 19), en P z211 (nat_lit 214) (.bool false), en P z212 (nat_lit 215) .none, en P z213 (nat_lit 243) (.bool false)] 9), #[]⟩
noncomputable def ck28 (P : Params) : List DictEntry := [en P z189 (nat_lit 227) (.str z190 217), en P z191 (nat_lit 228) (.int 562 218), en P z2 (nat_lit 229) (.builtin "_frozen_importlib.ModuleSpec.__doc__:str#opaque"), en P z214 (nat_lit 230) (.builtin "_frozen_importlib.ModuleSpec.__init__#opaque"), en P z215 (nat_lit 231) (.builtin "_frozen_importlib.ModuleSpec.__repr__#opaque"), en P z216 (nat_lit 232) (.builtin "_frozen_importlib.ModuleSpec.__eq__#opaque"), en P z217 (nat_lit 233) (.builtin "_frozen_importlib.ModuleSpec.cached#opaque"), en P z218 (nat_lit 234) (.builtin "_frozen_importlib.ModuleSpec.parent#opaque")]
noncomputable def ck29 (P : Params) : List DictEntry := [en P z219 (nat_lit 235) (.builtin "_frozen_importlib.ModuleSpec.has_location#opaque"), en P z201 (nat_lit 236) (.ref 23), en P z202 (nat_lit 238) (.ref 24), en P z203 (nat_lit 240) (.ref 25), en P z220 (nat_lit 241) .none]
noncomputable def o21 (P : Params) : Obj := ⟨(.type y0), none, (.dict ((ck28 P) ++ (ck29 P)).toArray 13), #[]⟩
noncomputable def o22 (P : Params) : Obj := ⟨(.type y7), none, (.cls { name := z221, bases := [(.type y2)], mro := [(.ref 22), (.type y2)], ns := 21, qualname := z221, hasDict := true, slotNames := [], subclasses := [], abstract := false, collection := none, hasDel := false }), #[]⟩
noncomputable def o23 (P : Params) : Obj := ⟨(.type y6), none, (.seq #[(.str z212 219), (.str z211 220), (.str z210 221), (.str z206 222), (.str z208 223), (.str z205 224), (.str z207 225), (.str z209 226)] 0), #[]⟩
noncomputable def o24 (P : Params) : Obj := ⟨(.type y14), none, (.fields #[(.str z202 237), (.ref 22), (.builtin y15), (.builtin y16)]), #[]⟩
noncomputable def o25 (P : Params) : Obj := ⟨(.type y14), none, (.fields #[(.str z203 239), (.ref 22), (.builtin y17), .none]), #[]⟩
noncomputable def o26 (P : Params) : Obj := ⟨(.ref 22), (some 20), .plain, #[]⟩
noncomputable def o27 (P : Params) : Obj := ⟨.none, none, (.seq #[(.int 11 0), (.str (Str.mk #[6, 247, 8, 95, 95, 110, 97, 109, 101, 95, 95, 6, 246, 4, 95, 115, 114, 101, 6, 248, 7, 95, 95, 100, 111, 99, 95, 95, 0, 6, 250, 11, 95, 95, 112, 97, 99, 107, 97, 103, 101, 95, 95, 6, 249, 0, 6, 251, 10, 95, 95, 108, 111, 97, 100, 101, 114, 95, 95, 4, 0, 0, 14, 6, 252, 8, 95, 95, 115, 112, 101, 99, 95, 95, 4, 0, 0, 26, 6, 253, 7, 99, 111, 109, 112, 105, 108, 101, 9, 12, 95, 115, 114, 101, 46, 99, 111, 109, 112, 105, 108, 101, 6, 254, 8, 116, 101, 109, 112, 108, 97, 116, 101, 9, 13, 95, 115, 114, 101, 46, 116, 101, 109, 112, 108, 97, 116, 101, 6, 255, 11, 103, 101, 116, 99, 111, 100, 101, 115, 105, 122, 101, 9, 16, 95, 115, 114, 101, 46, 103, 101, 116, 99, 111, 100, 101, 115, 105, 122, 101, 6, 256, 13, 97, 115, 99, 105, 105, 95, 105, 115, 99, 97, 115, 101, 100, 9, 18, 95, 115, 114, 101, 46, 97, 115, 99, 105, 105, 95, 105, 115, 99, 97, 115, 101, 100, 6, 257, 15, 117, 110, 105, 99, 111, 100, 101, 95, 105, 115, 99, 97, 115, 101, 100, 9, 20, 95, 115, 114, 101, 46, 117, 110, 105, 99, 111, 100, 101, 95, 105, 115, 99, 97, 115, 101, 100, 6, 258, 13, 97, 115, 99, 105, 105, 95, 116, 111, 108, 111, 119, 101, 114, 9, 18, 95, 115, 114, 101, 46, 97, 115, 99, 105, 105, 95, 116, 111, 108, 111, 119, 101, 114, 6, 259, 15, 117, 110, 105, 99, 111, 100, 101, 95, 116, 111, 108, 111, 119, 101, 114, 9, 20, 95, 115, 114, 101, 46, 117, 110, 105, 99, 111, 100, 101, 95, 116, 111, 108, 111, 119, 101, 114, 6, 261, 5, 77, 65, 71, 73, 67, 4, 260, 0, 20230612, 6, 263, 8, 67, 79, 68, 69, 83, 73, 90, 69, 4, 262, 0, 4, 6, 265, 9, 77, 65, 88, 82, 69, 80, 69, 65, 84, 4, 264, 0, 4294967295, 6, 267, 9, 77, 65, 88, 71, 82, 79, 85, 80, 83, 4, 266, 0, 1073741823, 6, 269, 9, 99, 111, 112, 121, 114, 105, 103, 104, 116, 6, 268, 53, 32, 83, 82, 69, 32, 50, 46, 50, 46, 50, 32, 67, 111, 112, 121, 114, 105, 103, 104, 116, 32, 40, 99, 41, 32, 49, 57, 57, 55, 45, 50, 48, 48, 50, 32, 98, 121, 32, 83, 101, 99, 114, 101, 116, 32, 76, 97, 98, 115, 32, 65, 66, 32]) 0), (.bool true), (.bool false), (.str z161 271)] 0), #[]⟩
noncomputable def bt1 (P : Params) : BT := (.node (o7 P) (.node (o15 P) .nil .nil) (.node (o23 P) .nil .nil))
noncomputable def bt2 (P : Params) : BT := (.node (o11 P) (.node (o19 P) .nil .nil) (.node (o27 P) .nil .nil))
noncomputable def bt3 (P : Params) : BT := (.node (o9 P) (.node (o17 P) .nil .nil) (.node (o25 P) .nil .nil))
noncomputable def bt4 (P : Params) : BT := (.node (o13 P) (.node (o21 P) .nil .nil) .nil)
noncomputable def bt5 (P : Params) : BT := (.node (o8 P) (.node (o16 P) .nil .nil) (.node (o24 P) .nil .nil))
noncomputable def bt6 (P : Params) : BT := (.node (o12 P) (.node (o20 P) .nil .nil) .nil)
noncomputable def bt7 (P : Params) : BT := (.node (o10 P) (.node (o18 P) .nil .nil) (.node (o26 P) .nil .nil))
noncomputable def bt8 (P : Params) : BT := (.node (o14 P) (.node (o22 P) .nil .nil) .nil)
noncomputable def tr0 (P : Params) : BT := (.node (o0 P) (.node (o1 P) (.node (o3 P) (bt1 P) (bt2 P)) (.node (o5 P) (bt3 P) (bt4 P))) (.node (o2 P) (.node (o4 P) (bt5 P) (bt6 P)) (.node (o6 P) (bt7 P) (bt8 P))))
noncomputable def o28 (P : Params) : Obj := ⟨(.type y6), none, (.seq #[] 0), #[]⟩
noncomputable def o29 (P : Params) : Obj := ⟨.none, none, (.fields #[]), #[]⟩
noncomputable def o30 (P : Params) : Obj := ⟨(.type y12), none, (.fields #[(.str z176 277), (.str z176 278), (.str z174 279), (.int 1 0), (.int 0 0), (.int 0 0), (.int 0 0), (.int 0 0), (.ref 28), (.bool false), (.int 276 0), (.ref 29), .none, .none, .none, .none, (.int 280 0), (.int 1 0), (.str z174 281)]), #[]⟩
noncomputable def o31 (P : Params) : Obj := ⟨(.type y13), none, .plain, #[(some (.ref 30)), (some (.ref 3)), (some (.ref 3)), none, (some (.str z160 164)), none, (some (.ref 0))]⟩
noncomputable def bt9 (P : Params) : BT := (.node (o7 P) (.node (o15 P) (.node (o31 P) .nil .nil) .nil) (.node (o23 P) .nil .nil))
noncomputable def bt10 (P : Params) : BT := (.node (o13 P) (.node (o21 P) .nil .nil) (.node (o29 P) .nil .nil))
noncomputable def bt11 (P : Params) : BT := (.node (o12 P) (.node (o20 P) .nil .nil) (.node (o28 P) .nil .nil))
noncomputable def bt12 (P : Params) : BT := (.node (o14 P) (.node (o22 P) .nil .nil) (.node (o30 P) .nil .nil))
noncomputable def trA (P : Params) : BT := (.node (o0 P) (.node (o1 P) (.node (o3 P) (bt9 P) (bt2 P)) (.node (o5 P) (bt3 P) (bt10 P))) (.node (o2 P) (.node (o4 P) (bt5 P) (bt11 P)) (.node (o6 P) (bt7 P) (bt12 P))))
noncomputable def ck30 (P : Params) : List DictEntry := [en P z0 (nat_lit 165) (.str z222 289), en P z2 (nat_lit 166) .none, en P z3 (nat_lit 167) .none, en P z4 (nat_lit 168) (.builtin y10), en P z5 (nat_lit 169) .none, en P z171 (nat_lit 170) (.ref 6), en P z172 (nat_lit 171) (.ref 4), en P z173 (nat_lit 173) (.str z174 172)]
noncomputable def ck31 (P : Params) : List DictEntry := [en P z175 (nat_lit 174) .none, en P z161 (nat_lit 275) (.ref 12), en P z223 (nat_lit 288) (.ref 38), en P z224 (nat_lit 350) (.ref 46), en P z225 (nat_lit 357) (.ref 56)]
noncomputable def o3v2 (P : Params) : Obj := ⟨(.type y0), none, (.dict ((ck30 P) ++ (ck31 P)).toArray 13), #[]⟩
noncomputable def o29v2 (P : Params) : Obj := ⟨.none, none, (.fields #[(.int 2 0), (.int 0 0), (.ref 37), (.int 7 0), (.int 0 0), (.ref 55)]), #[]⟩
noncomputable def o32 (P : Params) : Obj := ⟨(.type y6), none, (.seq #[] 0), #[]⟩
noncomputable def o33 (P : Params) : Obj := ⟨.none, none, (.fields #[]), #[]⟩
noncomputable def o34 (P : Params) : Obj := ⟨(.type y6), none, (.seq #[(.str z226 285)] 0), #[]⟩
noncomputable def o35 (P : Params) : Obj := ⟨(.type y6), none, (.seq #[] 0), #[]⟩
noncomputable def o36 (P : Params) : Obj := ⟨.none, none, (.func { name := z223, qualname := z223, params := sArgs (stAt 1), body := .stmts (sBody (stAt 1)), scope := sScope (stAt 1), globals := 0, closure := [], defaults := .none, kwdefaults := .none, doc := .none, pyModule := .none, annotations := none, code := .none, closureTuple := .none, builtins := 0 }), #[]⟩
noncomputable def o37 (P : Params) : Obj := ⟨(.type y12), none, (.fields #[(.str z223 282), (.str z223 283), (.str z174 284), (.int 2 0), (.int 1 0), (.int 0 0), (.int 0 0), (.int 3 0), (.ref 32), (.bool true), (.int 276 0), (.ref 33), .none, (.ref 34), (.ref 35), (.ref 36), (.int 286 0), (.int 2 0), (.str z174 287)]), #[]⟩
noncomputable def o38 (P : Params) : Obj := ⟨(.type y18), none, (.func { name := z223, qualname := z223, params := sArgs (stAt 1), body := .stmts (sBody (stAt 1)), scope := sScope (stAt 1), globals := 3, closure := [], defaults := .none, kwdefaults := .none, doc := .none, pyModule := (.str z160 164), annotations := none, code := (.ref 37), closureTuple := .none, builtins := 0 }), #[]⟩
noncomputable def o39 (P : Params) : Obj := ⟨(.type y1), none, (.seq #[(.int 173 291), (.int 847 292), (.int 6150 293), (.int 6155 294), (.int 6156 295), (.int 6157 296), (.int 8203 297), (.int 8204 298), (.int 8205 299), (.int 8288 300), (.int 65279 301)] 0), #[]⟩
noncomputable def o40 (P : Params) : Obj := ⟨(.type y3), none, (.fields #[(.int 65024 302), (.int 65040 303), (.int 1 304)]), #[]⟩
noncomputable def o41 (P : Params) : Obj := ⟨(.type y1), none, (.seq #[(.int 65024 307), (.int 65025 308), (.int 65026 309), (.int 65027 310), (.int 65028 311), (.int 65029 312), (.int 65030 313), (.int 65031 314), (.int 65032 315), (.int 65033 316), (.int 65034 317), (.int 65035 318), (.int 65036 319), (.int 65037 320), (.int 65038 321), (.int 65039 322)] 18), #[]⟩
noncomputable def o42 (P : Params) : Obj := ⟨(.type s15992201931430999065x14), none, (.fields #[(.int 65040 0), (.int 0 0), (.int 1 0)]), #[]⟩
noncomputable def o43 (P : Params) : Obj := ⟨(.type y6), none, (.seq #[] 0), #[]⟩
noncomputable def o44 (P : Params) : Obj := ⟨(.type y9), none, (.fields #[(.ref 43), .none, .none, .none, (.bool false), .none]), #[]⟩
noncomputable def o45 (P : Params) : Obj := ⟨(.type y1), none, (.seq #[(.int 173 291), (.int 847 292), (.int 6150 293), (.int 6155 294), (.int 6156 295), (.int 6157 296), (.int 8203 297), (.int 8204 298), (.int 8205 299), (.int 8288 300), (.int 65279 301), (.int 65024 307), (.int 65025 308), (.int 65026 309), (.int 65027 310), (.int 65028 311), (.int 65029 312), (.int 65030 313), (.int 65031 314), (.int 65032 315), (.int 65033 316), (.int 65034 317), (.int 65035 318), (.int 65036 319), (.int 65037 320), (.int 65038 321), (.int 65039 322)] 0), #[]⟩
noncomputable def o46 (P : Params) : Obj := ⟨(.type y4), none, (.set #[(65024, (.int 65024 307)), (65025, (.int 65025 308)), (65026, (.int 65026 309)), (65027, (.int 65027 310)), (65028, (.int 65028 311)), (65029, (.int 65029 312)), (6150, (.int 6150 293)), (65030, (.int 65030 313)), (65031, (.int 65031 314)), (65032, (.int 65032 315)), (65033, (.int 65033 316)), (6155, (.int 6155 294)), (6156, (.int 6156 295)), (6157, (.int 6157 296)), (8203, (.int 8203 297)), (8204, (.int 8204 298)), (8205, (.int 8205 299)), (65034, (.int 65034 317)), (65035, (.int 65035 318)), (65036, (.int 65036 319)), (65037, (.int 65037 320)), (65038, (.int 65038 321)), (65039, (.int 65039 322)), (173, (.int 173 291)), (847, (.int 847 292)), (8288, (.int 8288 300)), (65279, (.int 65279 301))] 29 { mask := 127, place := #[0, 1, 2, 3, 4, 5, 6, 7, 8, 9, 10, 11, 12, 13, 14, 15, 16, 17, 18, 19, 20, 21, 22, 45, 79, 96, 127], dummies := #[], finger := 0, led := !(P.followText "set-order"), moves := 2, plain := true }), #[]⟩
noncomputable def o47 (P : Params) : Obj := ⟨(.type s3492446563574874994x13), none, (.fields #[.none, (.int 27 0)]), #[]⟩
noncomputable def o48 (P : Params) : Obj := ⟨(.type y6), none, (.seq #[] 0), #[]⟩
noncomputable def o49 (P : Params) : Obj := ⟨(.type y9), none, (.fields #[(.ref 48), .none, .none, .none, (.bool false), .none]), #[]⟩
noncomputable def o50 (P : Params) : Obj := ⟨(.type y6), none, (.seq #[] 0), #[]⟩
noncomputable def o51 (P : Params) : Obj := ⟨.none, none, (.fields #[]), #[]⟩
noncomputable def o52 (P : Params) : Obj := ⟨(.type y6), none, (.seq #[(.str z227 354)] 0), #[]⟩
noncomputable def o53 (P : Params) : Obj := ⟨(.type y6), none, (.seq #[] 0), #[]⟩
noncomputable def o54 (P : Params) : Obj := ⟨.none, none, (.func { name := z225, qualname := z225, params := sArgs (stAt 4), body := .stmts (sBody (stAt 4)), scope := sScope (stAt 4), globals := 0, closure := [], defaults := .none, kwdefaults := .none, doc := .none, pyModule := .none, annotations := none, code := .none, closureTuple := .none, builtins := 0 }), #[]⟩
noncomputable def o55 (P : Params) : Obj := ⟨(.type y12), none, (.fields #[(.str z225 351), (.str z225 352), (.str z174 353), (.int 7 0), (.int 1 0), (.int 0 0), (.int 0 0), (.int 3 0), (.ref 50), (.bool true), (.int 276 0), (.ref 51), .none, (.ref 52), (.ref 53), (.ref 54), (.int 355 0), (.int 7 0), (.str z174 356)]), #[]⟩
noncomputable def o56 (P : Params) : Obj := ⟨(.type y18), none, (.func { name := z225, qualname := z225, params := sArgs (stAt 4), body := .stmts (sBody (stAt 4)), scope := sScope (stAt 4), globals := 3, closure := [], defaults := .none, kwdefaults := .none, doc := .none, pyModule := (.str z222 289), annotations := none, code := (.ref 55), closureTuple := .none, builtins := 0 }), #[]⟩
noncomputable def bt13 (P : Params) : BT := (.node (o7 P) (.node (o15 P) (.node (o31 P) .nil .nil) (.node (o47 P) .nil .nil)) (.node (o23 P) (.node (o39 P) .nil .nil) (.node (o55 P) .nil .nil)))
noncomputable def bt14 (P : Params) : BT := (.node (o11 P) (.node (o19 P) (.node (o35 P) .nil .nil) (.node (o51 P) .nil .nil)) (.node (o27 P) (.node (o43 P) .nil .nil) .nil))
noncomputable def bt15 (P : Params) : BT := (.node (o9 P) (.node (o17 P) (.node (o33 P) .nil .nil) (.node (o49 P) .nil .nil)) (.node (o25 P) (.node (o41 P) .nil .nil) .nil))
noncomputable def bt16 (P : Params) : BT := (.node (o13 P) (.node (o21 P) (.node (o37 P) .nil .nil) (.node (o53 P) .nil .nil)) (.node (o29v2 P) (.node (o45 P) .nil .nil) .nil))
noncomputable def bt17 (P : Params) : BT := (.node (o8 P) (.node (o16 P) (.node (o32 P) .nil .nil) (.node (o48 P) .nil .nil)) (.node (o24 P) (.node (o40 P) .nil .nil) (.node (o56 P) .nil .nil)))
noncomputable def bt18 (P : Params) : BT := (.node (o12 P) (.node (o20 P) (.node (o36 P) .nil .nil) (.node (o52 P) .nil .nil)) (.node (o28 P) (.node (o44 P) .nil .nil) .nil))
noncomputable def bt19 (P : Params) : BT := (.node (o10 P) (.node (o18 P) (.node (o34 P) .nil .nil) (.node (o50 P) .nil .nil)) (.node (o26 P) (.node (o42 P) .nil .nil) .nil))
noncomputable def bt20 (P : Params) : BT := (.node (o14 P) (.node (o22 P) (.node (o38 P) .nil .nil) (.node (o54 P) .nil .nil)) (.node (o30 P) (.node (o46 P) .nil .nil) .nil))
noncomputable def trD (P : Params) : BT := (.node (o0 P) (.node (o1 P) (.node (o3v2 P) (bt13 P) (bt14 P)) (.node (o5 P) (bt15 P) (bt16 P))) (.node (o2 P) (.node (o4 P) (bt17 P) (bt18 P)) (.node (o6 P) (bt19 P) (bt20 P))))
noncomputable def ck32 (P : Params) : List DictEntry := [en P z175 (nat_lit 174) .none, en P z161 (nat_lit 275) (.ref 12), en P z223 (nat_lit 288) (.ref 38), en P z224 (nat_lit 350) (.ref 46), en P z225 (nat_lit 357) (.ref 56), en P z228 (nat_lit 2308) (.ref 57)]
noncomputable def o3v3 (P : Params) : Obj := ⟨(.type y0), none, (.dict ((ck30 P) ++ (ck32 P)).toArray 14), #[]⟩
noncomputable def ck33 (P : Params) : List DictEntry := [ei (nat_lit 181) (nat_lit 358) z229, ei (nat_lit 223) (nat_lit 361) z230, ei (nat_lit 304) (nat_lit 364) z231, ei (nat_lit 329) (nat_lit 367) z232, ei (nat_lit 383) (nat_lit 370) z233, ei (nat_lit 496) (nat_lit 373) z234, ei (nat_lit 837) (nat_lit 376) z235, ei (nat_lit 890) (nat_lit 379) z236]
noncomputable def ck34 (P : Params) : List DictEntry := [ei (nat_lit 912) (nat_lit 382) z237, ei (nat_lit 944) (nat_lit 385) z238, ei (nat_lit 962) (nat_lit 388) z239, ei (nat_lit 976) (nat_lit 391) z240, ei (nat_lit 977) (nat_lit 394) z241, ei (nat_lit 978) (nat_lit 397) z242, ei (nat_lit 979) (nat_lit 400) z243, ei (nat_lit 980) (nat_lit 403) z244]
noncomputable def ck35 (P : Params) : List DictEntry := [ei (nat_lit 981) (nat_lit 406) z245, ei (nat_lit 982) (nat_lit 409) z246, ei (nat_lit 1008) (nat_lit 412) z247, ei (nat_lit 1009) (nat_lit 415) z248, ei (nat_lit 1010) (nat_lit 418) z239, ei (nat_lit 1013) (nat_lit 421) z249, ei (nat_lit 1415) (nat_lit 424) z250, ei (nat_lit 7830) (nat_lit 427) z251]
noncomputable def ck36 (P : Params) : List DictEntry := [ei (nat_lit 7831) (nat_lit 430) z252, ei (nat_lit 7832) (nat_lit 433) z253, ei (nat_lit 7833) (nat_lit 436) z254, ei (nat_lit 7834) (nat_lit 439) z255, ei (nat_lit 7835) (nat_lit 442) z256, ei (nat_lit 8016) (nat_lit 445) z257, ei (nat_lit 8018) (nat_lit 448) z258, ei (nat_lit 8020) (nat_lit 451) z259]
noncomputable def ck37 (P : Params) : List DictEntry := [ei (nat_lit 8022) (nat_lit 454) z260, ei (nat_lit 8064) (nat_lit 457) z261, ei (nat_lit 8065) (nat_lit 460) z262, ei (nat_lit 8066) (nat_lit 463) z263, ei (nat_lit 8067) (nat_lit 466) z264, ei (nat_lit 8068) (nat_lit 469) z265, ei (nat_lit 8069) (nat_lit 472) z266, ei (nat_lit 8070) (nat_lit 475) z267]
noncomputable def ck38 (P : Params) : List DictEntry := [ei (nat_lit 8071) (nat_lit 478) z268, ei (nat_lit 8072) (nat_lit 481) z261, ei (nat_lit 8073) (nat_lit 484) z262, ei (nat_lit 8074) (nat_lit 487) z263, ei (nat_lit 8075) (nat_lit 490) z264, ei (nat_lit 8076) (nat_lit 493) z265, ei (nat_lit 8077) (nat_lit 496) z266, ei (nat_lit 8078) (nat_lit 499) z267]
noncomputable def ck39 (P : Params) : List DictEntry := [ei (nat_lit 8079) (nat_lit 502) z268, ei (nat_lit 8080) (nat_lit 505) z269, ei (nat_lit 8081) (nat_lit 508) z270, ei (nat_lit 8082) (nat_lit 511) z271, ei (nat_lit 8083) (nat_lit 514) z272, ei (nat_lit 8084) (nat_lit 517) z273, ei (nat_lit 8085) (nat_lit 520) z274, ei (nat_lit 8086) (nat_lit 523) z275]
noncomputable def ck40 (P : Params) : List DictEntry := [ei (nat_lit 8087) (nat_lit 526) z276, ei (nat_lit 8088) (nat_lit 529) z269, ei (nat_lit 8089) (nat_lit 532) z270, ei (nat_lit 8090) (nat_lit 535) z271, ei (nat_lit 8091) (nat_lit 538) z272, ei (nat_lit 8092) (nat_lit 541) z273, ei (nat_lit 8093) (nat_lit 544) z274, ei (nat_lit 8094) (nat_lit 547) z275]
noncomputable def ck41 (P : Params) : List DictEntry := [ei (nat_lit 8095) (nat_lit 550) z276, ei (nat_lit 8096) (nat_lit 553) z277, ei (nat_lit 8097) (nat_lit 556) z278, ei (nat_lit 8098) (nat_lit 559) z279, ei (nat_lit 8099) (nat_lit 562) z280, ei (nat_lit 8100) (nat_lit 565) z281, ei (nat_lit 8101) (nat_lit 568) z282, ei (nat_lit 8102) (nat_lit 571) z283]
noncomputable def ck42 (P : Params) : List DictEntry := [ei (nat_lit 8103) (nat_lit 574) z284, ei (nat_lit 8104) (nat_lit 577) z277, ei (nat_lit 8105) (nat_lit 580) z278, ei (nat_lit 8106) (nat_lit 583) z279, ei (nat_lit 8107) (nat_lit 586) z280, ei (nat_lit 8108) (nat_lit 589) z281, ei (nat_lit 8109) (nat_lit 592) z282, ei (nat_lit 8110) (nat_lit 595) z283]
noncomputable def ck43 (P : Params) : List DictEntry := [ei (nat_lit 8111) (nat_lit 598) z284, ei (nat_lit 8114) (nat_lit 601) z285, ei (nat_lit 8115) (nat_lit 604) z286, ei (nat_lit 8116) (nat_lit 607) z287, ei (nat_lit 8118) (nat_lit 610) z288, ei (nat_lit 8119) (nat_lit 613) z289, ei (nat_lit 8124) (nat_lit 616) z286, ei (nat_lit 8126) (nat_lit 619) z235]
noncomputable def ck44 (P : Params) : List DictEntry := [ei (nat_lit 8130) (nat_lit 622) z290, ei (nat_lit 8131) (nat_lit 625) z291, ei (nat_lit 8132) (nat_lit 628) z292, ei (nat_lit 8134) (nat_lit 631) z293, ei (nat_lit 8135) (nat_lit 634) z294, ei (nat_lit 8140) (nat_lit 637) z291, ei (nat_lit 8146) (nat_lit 640) z295, ei (nat_lit 8147) (nat_lit 643) z237]
noncomputable def ck45 (P : Params) : List DictEntry := [ei (nat_lit 8150) (nat_lit 646) z296, ei (nat_lit 8151) (nat_lit 649) z297, ei (nat_lit 8162) (nat_lit 652) z298, ei (nat_lit 8163) (nat_lit 655) z238, ei (nat_lit 8164) (nat_lit 658) z299, ei (nat_lit 8166) (nat_lit 661) z300, ei (nat_lit 8167) (nat_lit 664) z301, ei (nat_lit 8178) (nat_lit 667) z302]
noncomputable def ck46 (P : Params) : List DictEntry := [ei (nat_lit 8179) (nat_lit 670) z303, ei (nat_lit 8180) (nat_lit 673) z304, ei (nat_lit 8182) (nat_lit 676) z305, ei (nat_lit 8183) (nat_lit 679) z306, ei (nat_lit 8188) (nat_lit 682) z303, ei (nat_lit 8360) (nat_lit 685) z307, ei (nat_lit 8450) (nat_lit 688) z308, ei (nat_lit 8451) (nat_lit 691) z309]
noncomputable def ck47 (P : Params) : List DictEntry := [ei (nat_lit 8455) (nat_lit 694) z310, ei (nat_lit 8457) (nat_lit 697) z311, ei (nat_lit 8459) (nat_lit 700) z312, ei (nat_lit 8460) (nat_lit 703) z312, ei (nat_lit 8461) (nat_lit 706) z312, ei (nat_lit 8464) (nat_lit 709) z313, ei (nat_lit 8465) (nat_lit 712) z313, ei (nat_lit 8466) (nat_lit 715) z314]
noncomputable def ck48 (P : Params) : List DictEntry := [ei (nat_lit 8469) (nat_lit 718) z315, ei (nat_lit 8470) (nat_lit 721) z316, ei (nat_lit 8473) (nat_lit 724) z317, ei (nat_lit 8474) (nat_lit 727) z318, ei (nat_lit 8475) (nat_lit 730) z319, ei (nat_lit 8476) (nat_lit 733) z319, ei (nat_lit 8477) (nat_lit 736) z319, ei (nat_lit 8480) (nat_lit 739) z320]
noncomputable def ck49 (P : Params) : List DictEntry := [ei (nat_lit 8481) (nat_lit 742) z321, ei (nat_lit 8482) (nat_lit 745) z322, ei (nat_lit 8484) (nat_lit 748) z323, ei (nat_lit 8488) (nat_lit 751) z323, ei (nat_lit 8492) (nat_lit 754) z324, ei (nat_lit 8493) (nat_lit 757) z308, ei (nat_lit 8496) (nat_lit 760) z325, ei (nat_lit 8497) (nat_lit 763) z326]
noncomputable def ck50 (P : Params) : List DictEntry := [ei (nat_lit 8499) (nat_lit 766) z327, ei (nat_lit 8510) (nat_lit 769) z328, ei (nat_lit 8511) (nat_lit 772) z246, ei (nat_lit 8517) (nat_lit 775) z329, ei (nat_lit 13169) (nat_lit 778) z330, ei (nat_lit 13171) (nat_lit 781) z331, ei (nat_lit 13173) (nat_lit 784) z332, ei (nat_lit 13184) (nat_lit 787) z333]
noncomputable def ck51 (P : Params) : List DictEntry := [ei (nat_lit 13185) (nat_lit 790) z334, ei (nat_lit 13186) (nat_lit 793) z335, ei (nat_lit 13187) (nat_lit 796) z336, ei (nat_lit 13188) (nat_lit 799) z337, ei (nat_lit 13189) (nat_lit 802) z338, ei (nat_lit 13190) (nat_lit 805) z339, ei (nat_lit 13191) (nat_lit 808) z340, ei (nat_lit 13194) (nat_lit 811) z341]
noncomputable def ck52 (P : Params) : List DictEntry := [ei (nat_lit 13195) (nat_lit 814) z342, ei (nat_lit 13196) (nat_lit 817) z343, ei (nat_lit 13200) (nat_lit 820) z344, ei (nat_lit 13201) (nat_lit 823) z345, ei (nat_lit 13202) (nat_lit 826) z346, ei (nat_lit 13203) (nat_lit 829) z347, ei (nat_lit 13204) (nat_lit 832) z348, ei (nat_lit 13225) (nat_lit 835) z333]
noncomputable def ck53 (P : Params) : List DictEntry := [ei (nat_lit 13226) (nat_lit 838) z349, ei (nat_lit 13227) (nat_lit 841) z350, ei (nat_lit 13228) (nat_lit 844) z351, ei (nat_lit 13236) (nat_lit 847) z352, ei (nat_lit 13237) (nat_lit 850) z353, ei (nat_lit 13238) (nat_lit 853) z354, ei (nat_lit 13239) (nat_lit 856) z355, ei (nat_lit 13240) (nat_lit 859) z356]
noncomputable def ck54 (P : Params) : List DictEntry := [ei (nat_lit 13241) (nat_lit 862) z355, ei (nat_lit 13242) (nat_lit 865) z357, ei (nat_lit 13243) (nat_lit 868) z358, ei (nat_lit 13244) (nat_lit 871) z359, ei (nat_lit 13245) (nat_lit 874) z360, ei (nat_lit 13246) (nat_lit 877) z361, ei (nat_lit 13247) (nat_lit 880) z360, ei (nat_lit 13248) (nat_lit 883) z362]
noncomputable def ck55 (P : Params) : List DictEntry := [ei (nat_lit 13249) (nat_lit 886) z363, ei (nat_lit 13251) (nat_lit 889) z364, ei (nat_lit 13254) (nat_lit 892) z365, ei (nat_lit 13255) (nat_lit 895) z366, ei (nat_lit 13256) (nat_lit 898) z367, ei (nat_lit 13257) (nat_lit 901) z368, ei (nat_lit 13259) (nat_lit 904) z369, ei (nat_lit 13261) (nat_lit 907) z370]
noncomputable def ck56 (P : Params) : List DictEntry := [ei (nat_lit 13262) (nat_lit 910) z371, ei (nat_lit 13271) (nat_lit 913) z372, ei (nat_lit 13273) (nat_lit 916) z373, ei (nat_lit 13274) (nat_lit 919) z374, ei (nat_lit 13276) (nat_lit 922) z375, ei (nat_lit 13277) (nat_lit 925) z376, ei (nat_lit 64256) (nat_lit 928) z377, ei (nat_lit 64257) (nat_lit 931) z378]
noncomputable def ck57 (P : Params) : List DictEntry := [ei (nat_lit 64258) (nat_lit 934) z379, ei (nat_lit 64259) (nat_lit 937) z380, ei (nat_lit 64260) (nat_lit 940) z381, ei (nat_lit 64261) (nat_lit 943) z382, ei (nat_lit 64262) (nat_lit 946) z382, ei (nat_lit 64275) (nat_lit 949) z383, ei (nat_lit 64276) (nat_lit 952) z384, ei (nat_lit 64277) (nat_lit 955) z385]
noncomputable def ck58 (P : Params) : List DictEntry := [ei (nat_lit 64278) (nat_lit 958) z386, ei (nat_lit 64279) (nat_lit 961) z387, ei (nat_lit 119808) (nat_lit 964) z388, ei (nat_lit 119809) (nat_lit 967) z324, ei (nat_lit 119810) (nat_lit 970) z308, ei (nat_lit 119811) (nat_lit 973) z329, ei (nat_lit 119812) (nat_lit 976) z325, ei (nat_lit 119813) (nat_lit 979) z326]
noncomputable def ck59 (P : Params) : List DictEntry := [ei (nat_lit 119814) (nat_lit 982) z389, ei (nat_lit 119815) (nat_lit 985) z312, ei (nat_lit 119816) (nat_lit 988) z313, ei (nat_lit 119817) (nat_lit 991) z390, ei (nat_lit 119818) (nat_lit 994) z226, ei (nat_lit 119819) (nat_lit 997) z314, ei (nat_lit 119820) (nat_lit 1000) z327, ei (nat_lit 119821) (nat_lit 1003) z315]
noncomputable def ck60 (P : Params) : List DictEntry := [ei (nat_lit 119822) (nat_lit 1006) z391, ei (nat_lit 119823) (nat_lit 1009) z317, ei (nat_lit 119824) (nat_lit 1012) z318, ei (nat_lit 119825) (nat_lit 1015) z319, ei (nat_lit 119826) (nat_lit 1018) z233, ei (nat_lit 119827) (nat_lit 1021) z392, ei (nat_lit 119828) (nat_lit 1024) z393, ei (nat_lit 119829) (nat_lit 1027) z394]
noncomputable def ck61 (P : Params) : List DictEntry := [ei (nat_lit 119830) (nat_lit 1030) z395, ei (nat_lit 119831) (nat_lit 1033) z396, ei (nat_lit 119832) (nat_lit 1036) z397, ei (nat_lit 119833) (nat_lit 1039) z323, ei (nat_lit 119860) (nat_lit 1042) z388, ei (nat_lit 119861) (nat_lit 1045) z324, ei (nat_lit 119862) (nat_lit 1048) z308, ei (nat_lit 119863) (nat_lit 1051) z329]
noncomputable def ck62 (P : Params) : List DictEntry := [ei (nat_lit 119864) (nat_lit 1054) z325, ei (nat_lit 119865) (nat_lit 1057) z326, ei (nat_lit 119866) (nat_lit 1060) z389, ei (nat_lit 119867) (nat_lit 1063) z312, ei (nat_lit 119868) (nat_lit 1066) z313, ei (nat_lit 119869) (nat_lit 1069) z390, ei (nat_lit 119870) (nat_lit 1072) z226, ei (nat_lit 119871) (nat_lit 1075) z314]
noncomputable def ck63 (P : Params) : List DictEntry := [ei (nat_lit 119872) (nat_lit 1078) z327, ei (nat_lit 119873) (nat_lit 1081) z315, ei (nat_lit 119874) (nat_lit 1084) z391, ei (nat_lit 119875) (nat_lit 1087) z317, ei (nat_lit 119876) (nat_lit 1090) z318, ei (nat_lit 119877) (nat_lit 1093) z319, ei (nat_lit 119878) (nat_lit 1096) z233, ei (nat_lit 119879) (nat_lit 1099) z392]
noncomputable def ck64 (P : Params) : List DictEntry := [ei (nat_lit 119880) (nat_lit 1102) z393, ei (nat_lit 119881) (nat_lit 1105) z394, ei (nat_lit 119882) (nat_lit 1108) z395, ei (nat_lit 119883) (nat_lit 1111) z396, ei (nat_lit 119884) (nat_lit 1114) z397, ei (nat_lit 119885) (nat_lit 1117) z323, ei (nat_lit 119912) (nat_lit 1120) z388, ei (nat_lit 119913) (nat_lit 1123) z324]
noncomputable def ck65 (P : Params) : List DictEntry := [ei (nat_lit 119914) (nat_lit 1126) z308, ei (nat_lit 119915) (nat_lit 1129) z329, ei (nat_lit 119916) (nat_lit 1132) z325, ei (nat_lit 119917) (nat_lit 1135) z326, ei (nat_lit 119918) (nat_lit 1138) z389, ei (nat_lit 119919) (nat_lit 1141) z312, ei (nat_lit 119920) (nat_lit 1144) z313, ei (nat_lit 119921) (nat_lit 1147) z390]
noncomputable def ck66 (P : Params) : List DictEntry := [ei (nat_lit 119922) (nat_lit 1150) z226, ei (nat_lit 119923) (nat_lit 1153) z314, ei (nat_lit 119924) (nat_lit 1156) z327, ei (nat_lit 119925) (nat_lit 1159) z315, ei (nat_lit 119926) (nat_lit 1162) z391, ei (nat_lit 119927) (nat_lit 1165) z317, ei (nat_lit 119928) (nat_lit 1168) z318, ei (nat_lit 119929) (nat_lit 1171) z319]
noncomputable def ck67 (P : Params) : List DictEntry := [ei (nat_lit 119930) (nat_lit 1174) z233, ei (nat_lit 119931) (nat_lit 1177) z392, ei (nat_lit 119932) (nat_lit 1180) z393, ei (nat_lit 119933) (nat_lit 1183) z394, ei (nat_lit 119934) (nat_lit 1186) z395, ei (nat_lit 119935) (nat_lit 1189) z396, ei (nat_lit 119936) (nat_lit 1192) z397, ei (nat_lit 119937) (nat_lit 1195) z323]
noncomputable def ck68 (P : Params) : List DictEntry := [ei (nat_lit 119964) (nat_lit 1198) z388, ei (nat_lit 119966) (nat_lit 1201) z308, ei (nat_lit 119967) (nat_lit 1204) z329, ei (nat_lit 119970) (nat_lit 1207) z389, ei (nat_lit 119973) (nat_lit 1210) z390, ei (nat_lit 119974) (nat_lit 1213) z226, ei (nat_lit 119977) (nat_lit 1216) z315, ei (nat_lit 119978) (nat_lit 1219) z391]
noncomputable def ck69 (P : Params) : List DictEntry := [ei (nat_lit 119979) (nat_lit 1222) z317, ei (nat_lit 119980) (nat_lit 1225) z318, ei (nat_lit 119982) (nat_lit 1228) z233, ei (nat_lit 119983) (nat_lit 1231) z392, ei (nat_lit 119984) (nat_lit 1234) z393, ei (nat_lit 119985) (nat_lit 1237) z394, ei (nat_lit 119986) (nat_lit 1240) z395, ei (nat_lit 119987) (nat_lit 1243) z396]
noncomputable def ck70 (P : Params) : List DictEntry := [ei (nat_lit 119988) (nat_lit 1246) z397, ei (nat_lit 119989) (nat_lit 1249) z323, ei (nat_lit 120016) (nat_lit 1252) z388, ei (nat_lit 120017) (nat_lit 1255) z324, ei (nat_lit 120018) (nat_lit 1258) z308, ei (nat_lit 120019) (nat_lit 1261) z329, ei (nat_lit 120020) (nat_lit 1264) z325, ei (nat_lit 120021) (nat_lit 1267) z326]
noncomputable def ck71 (P : Params) : List DictEntry := [ei (nat_lit 120022) (nat_lit 1270) z389, ei (nat_lit 120023) (nat_lit 1273) z312, ei (nat_lit 120024) (nat_lit 1276) z313, ei (nat_lit 120025) (nat_lit 1279) z390, ei (nat_lit 120026) (nat_lit 1282) z226, ei (nat_lit 120027) (nat_lit 1285) z314, ei (nat_lit 120028) (nat_lit 1288) z327, ei (nat_lit 120029) (nat_lit 1291) z315]
noncomputable def ck72 (P : Params) : List DictEntry := [ei (nat_lit 120030) (nat_lit 1294) z391, ei (nat_lit 120031) (nat_lit 1297) z317, ei (nat_lit 120032) (nat_lit 1300) z318, ei (nat_lit 120033) (nat_lit 1303) z319, ei (nat_lit 120034) (nat_lit 1306) z233, ei (nat_lit 120035) (nat_lit 1309) z392, ei (nat_lit 120036) (nat_lit 1312) z393, ei (nat_lit 120037) (nat_lit 1315) z394]
noncomputable def ck73 (P : Params) : List DictEntry := [ei (nat_lit 120038) (nat_lit 1318) z395, ei (nat_lit 120039) (nat_lit 1321) z396, ei (nat_lit 120040) (nat_lit 1324) z397, ei (nat_lit 120041) (nat_lit 1327) z323, ei (nat_lit 120068) (nat_lit 1330) z388, ei (nat_lit 120069) (nat_lit 1333) z324, ei (nat_lit 120071) (nat_lit 1336) z329, ei (nat_lit 120072) (nat_lit 1339) z325]
noncomputable def ck74 (P : Params) : List DictEntry := [ei (nat_lit 120073) (nat_lit 1342) z326, ei (nat_lit 120074) (nat_lit 1345) z389, ei (nat_lit 120077) (nat_lit 1348) z390, ei (nat_lit 120078) (nat_lit 1351) z226, ei (nat_lit 120079) (nat_lit 1354) z314, ei (nat_lit 120080) (nat_lit 1357) z327, ei (nat_lit 120081) (nat_lit 1360) z315, ei (nat_lit 120082) (nat_lit 1363) z391]
noncomputable def ck75 (P : Params) : List DictEntry := [ei (nat_lit 120083) (nat_lit 1366) z317, ei (nat_lit 120084) (nat_lit 1369) z318, ei (nat_lit 120086) (nat_lit 1372) z233, ei (nat_lit 120087) (nat_lit 1375) z392, ei (nat_lit 120088) (nat_lit 1378) z393, ei (nat_lit 120089) (nat_lit 1381) z394, ei (nat_lit 120090) (nat_lit 1384) z395, ei (nat_lit 120091) (nat_lit 1387) z396]
noncomputable def ck76 (P : Params) : List DictEntry := [ei (nat_lit 120092) (nat_lit 1390) z397, ei (nat_lit 120120) (nat_lit 1393) z388, ei (nat_lit 120121) (nat_lit 1396) z324, ei (nat_lit 120123) (nat_lit 1399) z329, ei (nat_lit 120124) (nat_lit 1402) z325, ei (nat_lit 120125) (nat_lit 1405) z326, ei (nat_lit 120126) (nat_lit 1408) z389, ei (nat_lit 120128) (nat_lit 1411) z313]
noncomputable def ck77 (P : Params) : List DictEntry := [ei (nat_lit 120129) (nat_lit 1414) z390, ei (nat_lit 120130) (nat_lit 1417) z226, ei (nat_lit 120131) (nat_lit 1420) z314, ei (nat_lit 120132) (nat_lit 1423) z327, ei (nat_lit 120134) (nat_lit 1426) z391, ei (nat_lit 120138) (nat_lit 1429) z233, ei (nat_lit 120139) (nat_lit 1432) z392, ei (nat_lit 120140) (nat_lit 1435) z393]
noncomputable def ck78 (P : Params) : List DictEntry := [ei (nat_lit 120141) (nat_lit 1438) z394, ei (nat_lit 120142) (nat_lit 1441) z395, ei (nat_lit 120143) (nat_lit 1444) z396, ei (nat_lit 120144) (nat_lit 1447) z397, ei (nat_lit 120172) (nat_lit 1450) z388, ei (nat_lit 120173) (nat_lit 1453) z324, ei (nat_lit 120174) (nat_lit 1456) z308, ei (nat_lit 120175) (nat_lit 1459) z329]
noncomputable def ck79 (P : Params) : List DictEntry := [ei (nat_lit 120176) (nat_lit 1462) z325, ei (nat_lit 120177) (nat_lit 1465) z326, ei (nat_lit 120178) (nat_lit 1468) z389, ei (nat_lit 120179) (nat_lit 1471) z312, ei (nat_lit 120180) (nat_lit 1474) z313, ei (nat_lit 120181) (nat_lit 1477) z390, ei (nat_lit 120182) (nat_lit 1480) z226, ei (nat_lit 120183) (nat_lit 1483) z314]
noncomputable def ck80 (P : Params) : List DictEntry := [ei (nat_lit 120184) (nat_lit 1486) z327, ei (nat_lit 120185) (nat_lit 1489) z315, ei (nat_lit 120186) (nat_lit 1492) z391, ei (nat_lit 120187) (nat_lit 1495) z317, ei (nat_lit 120188) (nat_lit 1498) z318, ei (nat_lit 120189) (nat_lit 1501) z319, ei (nat_lit 120190) (nat_lit 1504) z233, ei (nat_lit 120191) (nat_lit 1507) z392]
noncomputable def ck81 (P : Params) : List DictEntry := [ei (nat_lit 120192) (nat_lit 1510) z393, ei (nat_lit 120193) (nat_lit 1513) z394, ei (nat_lit 120194) (nat_lit 1516) z395, ei (nat_lit 120195) (nat_lit 1519) z396, ei (nat_lit 120196) (nat_lit 1522) z397, ei (nat_lit 120197) (nat_lit 1525) z323, ei (nat_lit 120224) (nat_lit 1528) z388, ei (nat_lit 120225) (nat_lit 1531) z324]
noncomputable def ck82 (P : Params) : List DictEntry := [ei (nat_lit 120226) (nat_lit 1534) z308, ei (nat_lit 120227) (nat_lit 1537) z329, ei (nat_lit 120228) (nat_lit 1540) z325, ei (nat_lit 120229) (nat_lit 1543) z326, ei (nat_lit 120230) (nat_lit 1546) z389, ei (nat_lit 120231) (nat_lit 1549) z312, ei (nat_lit 120232) (nat_lit 1552) z313, ei (nat_lit 120233) (nat_lit 1555) z390]
noncomputable def ck83 (P : Params) : List DictEntry := [ei (nat_lit 120234) (nat_lit 1558) z226, ei (nat_lit 120235) (nat_lit 1561) z314, ei (nat_lit 120236) (nat_lit 1564) z327, ei (nat_lit 120237) (nat_lit 1567) z315, ei (nat_lit 120238) (nat_lit 1570) z391, ei (nat_lit 120239) (nat_lit 1573) z317, ei (nat_lit 120240) (nat_lit 1576) z318, ei (nat_lit 120241) (nat_lit 1579) z319]
noncomputable def ck84 (P : Params) : List DictEntry := [ei (nat_lit 120242) (nat_lit 1582) z233, ei (nat_lit 120243) (nat_lit 1585) z392, ei (nat_lit 120244) (nat_lit 1588) z393, ei (nat_lit 120245) (nat_lit 1591) z394, ei (nat_lit 120246) (nat_lit 1594) z395, ei (nat_lit 120247) (nat_lit 1597) z396, ei (nat_lit 120248) (nat_lit 1600) z397, ei (nat_lit 120249) (nat_lit 1603) z323]
noncomputable def ck85 (P : Params) : List DictEntry := [ei (nat_lit 120276) (nat_lit 1606) z388, ei (nat_lit 120277) (nat_lit 1609) z324, ei (nat_lit 120278) (nat_lit 1612) z308, ei (nat_lit 120279) (nat_lit 1615) z329, ei (nat_lit 120280) (nat_lit 1618) z325, ei (nat_lit 120281) (nat_lit 1621) z326, ei (nat_lit 120282) (nat_lit 1624) z389, ei (nat_lit 120283) (nat_lit 1627) z312]
noncomputable def ck86 (P : Params) : List DictEntry := [ei (nat_lit 120284) (nat_lit 1630) z313, ei (nat_lit 120285) (nat_lit 1633) z390, ei (nat_lit 120286) (nat_lit 1636) z226, ei (nat_lit 120287) (nat_lit 1639) z314, ei (nat_lit 120288) (nat_lit 1642) z327, ei (nat_lit 120289) (nat_lit 1645) z315, ei (nat_lit 120290) (nat_lit 1648) z391, ei (nat_lit 120291) (nat_lit 1651) z317]
noncomputable def ck87 (P : Params) : List DictEntry := [ei (nat_lit 120292) (nat_lit 1654) z318, ei (nat_lit 120293) (nat_lit 1657) z319, ei (nat_lit 120294) (nat_lit 1660) z233, ei (nat_lit 120295) (nat_lit 1663) z392, ei (nat_lit 120296) (nat_lit 1666) z393, ei (nat_lit 120297) (nat_lit 1669) z394, ei (nat_lit 120298) (nat_lit 1672) z395, ei (nat_lit 120299) (nat_lit 1675) z396]
noncomputable def ck88 (P : Params) : List DictEntry := [ei (nat_lit 120300) (nat_lit 1678) z397, ei (nat_lit 120301) (nat_lit 1681) z323, ei (nat_lit 120328) (nat_lit 1684) z388, ei (nat_lit 120329) (nat_lit 1687) z324, ei (nat_lit 120330) (nat_lit 1690) z308, ei (nat_lit 120331) (nat_lit 1693) z329, ei (nat_lit 120332) (nat_lit 1696) z325, ei (nat_lit 120333) (nat_lit 1699) z326]
noncomputable def ck89 (P : Params) : List DictEntry := [ei (nat_lit 120334) (nat_lit 1702) z389, ei (nat_lit 120335) (nat_lit 1705) z312, ei (nat_lit 120336) (nat_lit 1708) z313, ei (nat_lit 120337) (nat_lit 1711) z390, ei (nat_lit 120338) (nat_lit 1714) z226, ei (nat_lit 120339) (nat_lit 1717) z314, ei (nat_lit 120340) (nat_lit 1720) z327, ei (nat_lit 120341) (nat_lit 1723) z315]
noncomputable def ck90 (P : Params) : List DictEntry := [ei (nat_lit 120342) (nat_lit 1726) z391, ei (nat_lit 120343) (nat_lit 1729) z317, ei (nat_lit 120344) (nat_lit 1732) z318, ei (nat_lit 120345) (nat_lit 1735) z319, ei (nat_lit 120346) (nat_lit 1738) z233, ei (nat_lit 120347) (nat_lit 1741) z392, ei (nat_lit 120348) (nat_lit 1744) z393, ei (nat_lit 120349) (nat_lit 1747) z394]
noncomputable def ck91 (P : Params) : List DictEntry := [ei (nat_lit 120350) (nat_lit 1750) z395, ei (nat_lit 120351) (nat_lit 1753) z396, ei (nat_lit 120352) (nat_lit 1756) z397, ei (nat_lit 120353) (nat_lit 1759) z323, ei (nat_lit 120380) (nat_lit 1762) z388, ei (nat_lit 120381) (nat_lit 1765) z324, ei (nat_lit 120382) (nat_lit 1768) z308, ei (nat_lit 120383) (nat_lit 1771) z329]
noncomputable def ck92 (P : Params) : List DictEntry := [ei (nat_lit 120384) (nat_lit 1774) z325, ei (nat_lit 120385) (nat_lit 1777) z326, ei (nat_lit 120386) (nat_lit 1780) z389, ei (nat_lit 120387) (nat_lit 1783) z312, ei (nat_lit 120388) (nat_lit 1786) z313, ei (nat_lit 120389) (nat_lit 1789) z390, ei (nat_lit 120390) (nat_lit 1792) z226, ei (nat_lit 120391) (nat_lit 1795) z314]
noncomputable def ck93 (P : Params) : List DictEntry := [ei (nat_lit 120392) (nat_lit 1798) z327, ei (nat_lit 120393) (nat_lit 1801) z315, ei (nat_lit 120394) (nat_lit 1804) z391, ei (nat_lit 120395) (nat_lit 1807) z317, ei (nat_lit 120396) (nat_lit 1810) z318, ei (nat_lit 120397) (nat_lit 1813) z319, ei (nat_lit 120398) (nat_lit 1816) z233, ei (nat_lit 120399) (nat_lit 1819) z392]
noncomputable def ck94 (P : Params) : List DictEntry := [ei (nat_lit 120400) (nat_lit 1822) z393, ei (nat_lit 120401) (nat_lit 1825) z394, ei (nat_lit 120402) (nat_lit 1828) z395, ei (nat_lit 120403) (nat_lit 1831) z396, ei (nat_lit 120404) (nat_lit 1834) z397, ei (nat_lit 120405) (nat_lit 1837) z323, ei (nat_lit 120432) (nat_lit 1840) z388, ei (nat_lit 120433) (nat_lit 1843) z324]
noncomputable def ck95 (P : Params) : List DictEntry := [ei (nat_lit 120434) (nat_lit 1846) z308, ei (nat_lit 120435) (nat_lit 1849) z329, ei (nat_lit 120436) (nat_lit 1852) z325, ei (nat_lit 120437) (nat_lit 1855) z326, ei (nat_lit 120438) (nat_lit 1858) z389, ei (nat_lit 120439) (nat_lit 1861) z312, ei (nat_lit 120440) (nat_lit 1864) z313, ei (nat_lit 120441) (nat_lit 1867) z390]
noncomputable def ck96 (P : Params) : List DictEntry := [ei (nat_lit 120442) (nat_lit 1870) z226, ei (nat_lit 120443) (nat_lit 1873) z314, ei (nat_lit 120444) (nat_lit 1876) z327, ei (nat_lit 120445) (nat_lit 1879) z315, ei (nat_lit 120446) (nat_lit 1882) z391, ei (nat_lit 120447) (nat_lit 1885) z317, ei (nat_lit 120448) (nat_lit 1888) z318, ei (nat_lit 120449) (nat_lit 1891) z319]
noncomputable def ck97 (P : Params) : List DictEntry := [ei (nat_lit 120450) (nat_lit 1894) z233, ei (nat_lit 120451) (nat_lit 1897) z392, ei (nat_lit 120452) (nat_lit 1900) z393, ei (nat_lit 120453) (nat_lit 1903) z394, ei (nat_lit 120454) (nat_lit 1906) z395, ei (nat_lit 120455) (nat_lit 1909) z396, ei (nat_lit 120456) (nat_lit 1912) z397, ei (nat_lit 120457) (nat_lit 1915) z323]
noncomputable def ck98 (P : Params) : List DictEntry := [ei (nat_lit 120488) (nat_lit 1918) z398, ei (nat_lit 120489) (nat_lit 1921) z240, ei (nat_lit 120490) (nat_lit 1924) z328, ei (nat_lit 120491) (nat_lit 1927) z399, ei (nat_lit 120492) (nat_lit 1930) z249, ei (nat_lit 120493) (nat_lit 1933) z400, ei (nat_lit 120494) (nat_lit 1936) z401, ei (nat_lit 120495) (nat_lit 1939) z241]
noncomputable def ck99 (P : Params) : List DictEntry := [ei (nat_lit 120496) (nat_lit 1942) z235, ei (nat_lit 120497) (nat_lit 1945) z247, ei (nat_lit 120498) (nat_lit 1948) z402, ei (nat_lit 120499) (nat_lit 1951) z229, ei (nat_lit 120500) (nat_lit 1954) z403, ei (nat_lit 120501) (nat_lit 1957) z404, ei (nat_lit 120502) (nat_lit 1960) z405, ei (nat_lit 120503) (nat_lit 1963) z246]
noncomputable def ck100 (P : Params) : List DictEntry := [ei (nat_lit 120504) (nat_lit 1966) z248, ei (nat_lit 120505) (nat_lit 1969) z241, ei (nat_lit 120506) (nat_lit 1972) z239, ei (nat_lit 120507) (nat_lit 1975) z406, ei (nat_lit 120508) (nat_lit 1978) z242, ei (nat_lit 120509) (nat_lit 1981) z245, ei (nat_lit 120510) (nat_lit 1984) z407, ei (nat_lit 120511) (nat_lit 1987) z408]
noncomputable def ck101 (P : Params) : List DictEntry := [ei (nat_lit 120512) (nat_lit 1990) z409, ei (nat_lit 120531) (nat_lit 1993) z239, ei (nat_lit 120546) (nat_lit 1996) z398, ei (nat_lit 120547) (nat_lit 1999) z240, ei (nat_lit 120548) (nat_lit 2002) z328, ei (nat_lit 120549) (nat_lit 2005) z399, ei (nat_lit 120550) (nat_lit 2008) z249, ei (nat_lit 120551) (nat_lit 2011) z400]
noncomputable def ck102 (P : Params) : List DictEntry := [ei (nat_lit 120552) (nat_lit 2014) z401, ei (nat_lit 120553) (nat_lit 2017) z241, ei (nat_lit 120554) (nat_lit 2020) z235, ei (nat_lit 120555) (nat_lit 2023) z247, ei (nat_lit 120556) (nat_lit 2026) z402, ei (nat_lit 120557) (nat_lit 2029) z229, ei (nat_lit 120558) (nat_lit 2032) z403, ei (nat_lit 120559) (nat_lit 2035) z404]
noncomputable def ck103 (P : Params) : List DictEntry := [ei (nat_lit 120560) (nat_lit 2038) z405, ei (nat_lit 120561) (nat_lit 2041) z246, ei (nat_lit 120562) (nat_lit 2044) z248, ei (nat_lit 120563) (nat_lit 2047) z241, ei (nat_lit 120564) (nat_lit 2050) z239, ei (nat_lit 120565) (nat_lit 2053) z406, ei (nat_lit 120566) (nat_lit 2056) z242, ei (nat_lit 120567) (nat_lit 2059) z245]
noncomputable def ck104 (P : Params) : List DictEntry := [ei (nat_lit 120568) (nat_lit 2062) z407, ei (nat_lit 120569) (nat_lit 2065) z408, ei (nat_lit 120570) (nat_lit 2068) z409, ei (nat_lit 120589) (nat_lit 2071) z239, ei (nat_lit 120604) (nat_lit 2074) z398, ei (nat_lit 120605) (nat_lit 2077) z240, ei (nat_lit 120606) (nat_lit 2080) z328, ei (nat_lit 120607) (nat_lit 2083) z399]
noncomputable def ck105 (P : Params) : List DictEntry := [ei (nat_lit 120608) (nat_lit 2086) z249, ei (nat_lit 120609) (nat_lit 2089) z400, ei (nat_lit 120610) (nat_lit 2092) z401, ei (nat_lit 120611) (nat_lit 2095) z241, ei (nat_lit 120612) (nat_lit 2098) z235, ei (nat_lit 120613) (nat_lit 2101) z247, ei (nat_lit 120614) (nat_lit 2104) z402, ei (nat_lit 120615) (nat_lit 2107) z229]
noncomputable def ck106 (P : Params) : List DictEntry := [ei (nat_lit 120616) (nat_lit 2110) z403, ei (nat_lit 120617) (nat_lit 2113) z404, ei (nat_lit 120618) (nat_lit 2116) z405, ei (nat_lit 120619) (nat_lit 2119) z246, ei (nat_lit 120620) (nat_lit 2122) z248, ei (nat_lit 120621) (nat_lit 2125) z241, ei (nat_lit 120622) (nat_lit 2128) z239, ei (nat_lit 120623) (nat_lit 2131) z406]
noncomputable def ck107 (P : Params) : List DictEntry := [ei (nat_lit 120624) (nat_lit 2134) z242, ei (nat_lit 120625) (nat_lit 2137) z245, ei (nat_lit 120626) (nat_lit 2140) z407, ei (nat_lit 120627) (nat_lit 2143) z408, ei (nat_lit 120628) (nat_lit 2146) z409, ei (nat_lit 120647) (nat_lit 2149) z239, ei (nat_lit 120662) (nat_lit 2152) z398, ei (nat_lit 120663) (nat_lit 2155) z240]
noncomputable def ck108 (P : Params) : List DictEntry := [ei (nat_lit 120664) (nat_lit 2158) z328, ei (nat_lit 120665) (nat_lit 2161) z399, ei (nat_lit 120666) (nat_lit 2164) z249, ei (nat_lit 120667) (nat_lit 2167) z400, ei (nat_lit 120668) (nat_lit 2170) z401, ei (nat_lit 120669) (nat_lit 2173) z241, ei (nat_lit 120670) (nat_lit 2176) z235, ei (nat_lit 120671) (nat_lit 2179) z247]
noncomputable def ck109 (P : Params) : List DictEntry := [ei (nat_lit 120672) (nat_lit 2182) z402, ei (nat_lit 120673) (nat_lit 2185) z229, ei (nat_lit 120674) (nat_lit 2188) z403, ei (nat_lit 120675) (nat_lit 2191) z404, ei (nat_lit 120676) (nat_lit 2194) z405, ei (nat_lit 120677) (nat_lit 2197) z246, ei (nat_lit 120678) (nat_lit 2200) z248, ei (nat_lit 120679) (nat_lit 2203) z241]
noncomputable def ck110 (P : Params) : List DictEntry := [ei (nat_lit 120680) (nat_lit 2206) z239, ei (nat_lit 120681) (nat_lit 2209) z406, ei (nat_lit 120682) (nat_lit 2212) z242, ei (nat_lit 120683) (nat_lit 2215) z245, ei (nat_lit 120684) (nat_lit 2218) z407, ei (nat_lit 120685) (nat_lit 2221) z408, ei (nat_lit 120686) (nat_lit 2224) z409, ei (nat_lit 120705) (nat_lit 2227) z239]
noncomputable def ck111 (P : Params) : List DictEntry := [ei (nat_lit 120720) (nat_lit 2230) z398, ei (nat_lit 120721) (nat_lit 2233) z240, ei (nat_lit 120722) (nat_lit 2236) z328, ei (nat_lit 120723) (nat_lit 2239) z399, ei (nat_lit 120724) (nat_lit 2242) z249, ei (nat_lit 120725) (nat_lit 2245) z400, ei (nat_lit 120726) (nat_lit 2248) z401, ei (nat_lit 120727) (nat_lit 2251) z241]
noncomputable def ck112 (P : Params) : List DictEntry := [ei (nat_lit 120728) (nat_lit 2254) z235, ei (nat_lit 120729) (nat_lit 2257) z247, ei (nat_lit 120730) (nat_lit 2260) z402, ei (nat_lit 120731) (nat_lit 2263) z229, ei (nat_lit 120732) (nat_lit 2266) z403, ei (nat_lit 120733) (nat_lit 2269) z404, ei (nat_lit 120734) (nat_lit 2272) z405, ei (nat_lit 120735) (nat_lit 2275) z246]
noncomputable def ck113 (P : Params) : List DictEntry := [ei (nat_lit 120736) (nat_lit 2278) z248, ei (nat_lit 120737) (nat_lit 2281) z241, ei (nat_lit 120738) (nat_lit 2284) z239, ei (nat_lit 120739) (nat_lit 2287) z406, ei (nat_lit 120740) (nat_lit 2290) z242, ei (nat_lit 120741) (nat_lit 2293) z245, ei (nat_lit 120742) (nat_lit 2296) z407, ei (nat_lit 120743) (nat_lit 2298) z408]
noncomputable def ck114 (P : Params) : List DictEntry := [ei (nat_lit 120744) (nat_lit 2300) z409, ei (nat_lit 120763) (nat_lit 2302) z239]
noncomputable def ck115 (P : Params) : List DictEntry := ((ck33 P) ++ ((ck34 P) ++ ((ck35 P) ++ ((ck36 P) ++ ((ck37 P) ++ ((ck38 P) ++ ((ck39 P) ++ (ck40 P))))))))
noncomputable def ck116 (P : Params) : List DictEntry := ((ck41 P) ++ ((ck42 P) ++ ((ck43 P) ++ ((ck44 P) ++ ((ck45 P) ++ ((ck46 P) ++ ((ck47 P) ++ (ck48 P))))))))
noncomputable def ck117 (P : Params) : List DictEntry := ((ck49 P) ++ ((ck50 P) ++ ((ck51 P) ++ ((ck52 P) ++ ((ck53 P) ++ ((ck54 P) ++ ((ck55 P) ++ (ck56 P))))))))
noncomputable def ck118 (P : Params) : List DictEntry := ((ck57 P) ++ ((ck58 P) ++ ((ck59 P) ++ ((ck60 P) ++ ((ck61 P) ++ ((ck62 P) ++ ((ck63 P) ++ (ck64 P))))))))
noncomputable def ck119 (P : Params) : List DictEntry := ((ck65 P) ++ ((ck66 P) ++ ((ck67 P) ++ ((ck68 P) ++ ((ck69 P) ++ ((ck70 P) ++ ((ck71 P) ++ (ck72 P))))))))
noncomputable def ck120 (P : Params) : List DictEntry := ((ck73 P) ++ ((ck74 P) ++ ((ck75 P) ++ ((ck76 P) ++ ((ck77 P) ++ ((ck78 P) ++ ((ck79 P) ++ (ck80 P))))))))
noncomputable def ck121 (P : Params) : List DictEntry := ((ck81 P) ++ ((ck82 P) ++ ((ck83 P) ++ ((ck84 P) ++ ((ck85 P) ++ ((ck86 P) ++ ((ck87 P) ++ (ck88 P))))))))
noncomputable def ck122 (P : Params) : List DictEntry := ((ck89 P) ++ ((ck90 P) ++ ((ck91 P) ++ ((ck92 P) ++ ((ck93 P) ++ ((ck94 P) ++ ((ck95 P) ++ (ck96 P))))))))
noncomputable def ck123 (P : Params) : List DictEntry := ((ck97 P) ++ ((ck98 P) ++ ((ck99 P) ++ ((ck100 P) ++ ((ck101 P) ++ ((ck102 P) ++ ((ck103 P) ++ (ck104 P))))))))
noncomputable def ck124 (P : Params) : List DictEntry := ((ck105 P) ++ ((ck106 P) ++ ((ck107 P) ++ ((ck108 P) ++ ((ck109 P) ++ ((ck110 P) ++ ((ck111 P) ++ (ck112 P))))))))
noncomputable def ck125 (P : Params) : List DictEntry := ((ck113 P) ++ (ck114 P))
noncomputable def ck126 (P : Params) : List DictEntry := ((ck115 P) ++ ((ck116 P) ++ ((ck117 P) ++ ((ck118 P) ++ ((ck119 P) ++ ((ck120 P) ++ ((ck121 P) ++ (ck122 P))))))))
noncomputable def ck127 (P : Params) : List DictEntry := ((ck123 P) ++ ((ck124 P) ++ (ck125 P)))
noncomputable def o57 (P : Params) : Obj := ⟨(.type y0), none, (.dict ((ck126 P) ++ (ck127 P)).toArray 650), #[]⟩
noncomputable def ck128 (P : Params) : List DictEntry := [ei (nat_lit 982) (nat_lit 409) z246, ei (nat_lit 1008) (nat_lit 412) z247, ei (nat_lit 1009) (nat_lit 415) z248, ei (nat_lit 1010) (nat_lit 418) z239, ei (nat_lit 1013) (nat_lit 421) z249, ei (nat_lit 1415) (nat_lit 424) z250, ei (nat_lit 7830) (nat_lit 427) z251, ei (nat_lit 7831) (nat_lit 430) z252]
noncomputable def ck129 (P : Params) : List DictEntry := [ei (nat_lit 7832) (nat_lit 433) z253, ei (nat_lit 7833) (nat_lit 436) z254, ei (nat_lit 7834) (nat_lit 439) z255, ei (nat_lit 7835) (nat_lit 442) z256, ei (nat_lit 8016) (nat_lit 445) z257, ei (nat_lit 8018) (nat_lit 448) z258, ei (nat_lit 8020) (nat_lit 451) z259, ei (nat_lit 8022) (nat_lit 454) z260]
noncomputable def ck130 (P : Params) : List DictEntry := [ei (nat_lit 8064) (nat_lit 457) z261]
noncomputable def o58 (P : Params) : Obj := ⟨(.type y0), none, (.dict ((ck128 P) ++ ((ck129 P) ++ (ck130 P))).toArray 17), #[]⟩
noncomputable def ck131 (P : Params) : List DictEntry := [ei (nat_lit 8065) (nat_lit 460) z262, ei (nat_lit 8066) (nat_lit 463) z263, ei (nat_lit 8067) (nat_lit 466) z264, ei (nat_lit 8068) (nat_lit 469) z265, ei (nat_lit 8069) (nat_lit 472) z266, ei (nat_lit 8070) (nat_lit 475) z267, ei (nat_lit 8071) (nat_lit 478) z268, ei (nat_lit 8072) (nat_lit 481) z261]
noncomputable def ck132 (P : Params) : List DictEntry := [ei (nat_lit 8073) (nat_lit 484) z262, ei (nat_lit 8074) (nat_lit 487) z263, ei (nat_lit 8075) (nat_lit 490) z264, ei (nat_lit 8076) (nat_lit 493) z265, ei (nat_lit 8077) (nat_lit 496) z266, ei (nat_lit 8078) (nat_lit 499) z267, ei (nat_lit 8079) (nat_lit 502) z268, ei (nat_lit 8080) (nat_lit 505) z269]
noncomputable def ck133 (P : Params) : List DictEntry := [ei (nat_lit 8081) (nat_lit 508) z270]
noncomputable def o59 (P : Params) : Obj := ⟨(.type y0), none, (.dict ((ck131 P) ++ ((ck132 P) ++ (ck133 P))).toArray 17), #[]⟩
noncomputable def ck134 (P : Params) : List DictEntry := [ei (nat_lit 8082) (nat_lit 511) z271, ei (nat_lit 8083) (nat_lit 514) z272, ei (nat_lit 8084) (nat_lit 517) z273, ei (nat_lit 8085) (nat_lit 520) z274, ei (nat_lit 8086) (nat_lit 523) z275, ei (nat_lit 8087) (nat_lit 526) z276, ei (nat_lit 8088) (nat_lit 529) z269, ei (nat_lit 8089) (nat_lit 532) z270]
noncomputable def ck135 (P : Params) : List DictEntry := [ei (nat_lit 8090) (nat_lit 535) z271, ei (nat_lit 8091) (nat_lit 538) z272, ei (nat_lit 8092) (nat_lit 541) z273, ei (nat_lit 8093) (nat_lit 544) z274, ei (nat_lit 8094) (nat_lit 547) z275, ei (nat_lit 8095) (nat_lit 550) z276, ei (nat_lit 8096) (nat_lit 553) z277, ei (nat_lit 8097) (nat_lit 556) z278]
noncomputable def ck136 (P : Params) : List DictEntry := [ei (nat_lit 8098) (nat_lit 559) z279]
noncomputable def o60 (P : Params) : Obj := ⟨(.type y0), none, (.dict ((ck134 P) ++ ((ck135 P) ++ (ck136 P))).toArray 17), #[]⟩
noncomputable def ck137 (P : Params) : List DictEntry := [ei (nat_lit 8099) (nat_lit 562) z280, ei (nat_lit 8100) (nat_lit 565) z281, ei (nat_lit 8101) (nat_lit 568) z282, ei (nat_lit 8102) (nat_lit 571) z283, ei (nat_lit 8103) (nat_lit 574) z284, ei (nat_lit 8104) (nat_lit 577) z277, ei (nat_lit 8105) (nat_lit 580) z278, ei (nat_lit 8106) (nat_lit 583) z279]
noncomputable def ck138 (P : Params) : List DictEntry := [ei (nat_lit 8107) (nat_lit 586) z280, ei (nat_lit 8108) (nat_lit 589) z281, ei (nat_lit 8109) (nat_lit 592) z282, ei (nat_lit 8110) (nat_lit 595) z283, ei (nat_lit 8111) (nat_lit 598) z284, ei (nat_lit 8114) (nat_lit 601) z285, ei (nat_lit 8115) (nat_lit 604) z286, ei (nat_lit 8116) (nat_lit 607) z287]
noncomputable def ck139 (P : Params) : List DictEntry := [ei (nat_lit 8118) (nat_lit 610) z288]
noncomputable def o61 (P : Params) : Obj := ⟨(.type y0), none, (.dict ((ck137 P) ++ ((ck138 P) ++ (ck139 P))).toArray 17), #[]⟩
noncomputable def ck140 (P : Params) : List DictEntry := [ei (nat_lit 8119) (nat_lit 613) z289, ei (nat_lit 8124) (nat_lit 616) z286, ei (nat_lit 8126) (nat_lit 619) z235, ei (nat_lit 8130) (nat_lit 622) z290, ei (nat_lit 8131) (nat_lit 625) z291, ei (nat_lit 8132) (nat_lit 628) z292, ei (nat_lit 8134) (nat_lit 631) z293, ei (nat_lit 8135) (nat_lit 634) z294]
noncomputable def ck141 (P : Params) : List DictEntry := [ei (nat_lit 8140) (nat_lit 637) z291, ei (nat_lit 8146) (nat_lit 640) z295, ei (nat_lit 8147) (nat_lit 643) z237, ei (nat_lit 8150) (nat_lit 646) z296, ei (nat_lit 8151) (nat_lit 649) z297, ei (nat_lit 8162) (nat_lit 652) z298, ei (nat_lit 8163) (nat_lit 655) z238, ei (nat_lit 8164) (nat_lit 658) z299]
noncomputable def ck142 (P : Params) : List DictEntry := [ei (nat_lit 8166) (nat_lit 661) z300]
noncomputable def o62 (P : Params) : Obj := ⟨(.type y0), none, (.dict ((ck140 P) ++ ((ck141 P) ++ (ck142 P))).toArray 17), #[]⟩
noncomputable def ck143 (P : Params) : List DictEntry := [ei (nat_lit 8167) (nat_lit 664) z301, ei (nat_lit 8178) (nat_lit 667) z302, ei (nat_lit 8179) (nat_lit 670) z303, ei (nat_lit 8180) (nat_lit 673) z304, ei (nat_lit 8182) (nat_lit 676) z305, ei (nat_lit 8183) (nat_lit 679) z306, ei (nat_lit 8188) (nat_lit 682) z303, ei (nat_lit 8360) (nat_lit 685) z307]
noncomputable def ck144 (P : Params) : List DictEntry := [ei (nat_lit 8450) (nat_lit 688) z308, ei (nat_lit 8451) (nat_lit 691) z309, ei (nat_lit 8455) (nat_lit 694) z310, ei (nat_lit 8457) (nat_lit 697) z311, ei (nat_lit 8459) (nat_lit 700) z312, ei (nat_lit 8460) (nat_lit 703) z312, ei (nat_lit 8461) (nat_lit 706) z312, ei (nat_lit 8464) (nat_lit 709) z313]
noncomputable def ck145 (P : Params) : List DictEntry := [ei (nat_lit 8465) (nat_lit 712) z313]
noncomputable def o63 (P : Params) : Obj := ⟨(.type y0), none, (.dict ((ck143 P) ++ ((ck144 P) ++ (ck145 P))).toArray 17), #[]⟩
noncomputable def ck146 (P : Params) : List DictEntry := [ei (nat_lit 8466) (nat_lit 715) z314, ei (nat_lit 8469) (nat_lit 718) z315, ei (nat_lit 8470) (nat_lit 721) z316, ei (nat_lit 8473) (nat_lit 724) z317, ei (nat_lit 8474) (nat_lit 727) z318, ei (nat_lit 8475) (nat_lit 730) z319, ei (nat_lit 8476) (nat_lit 733) z319, ei (nat_lit 8477) (nat_lit 736) z319]
noncomputable def ck147 (P : Params) : List DictEntry := [ei (nat_lit 8480) (nat_lit 739) z320, ei (nat_lit 8481) (nat_lit 742) z321, ei (nat_lit 8482) (nat_lit 745) z322, ei (nat_lit 8484) (nat_lit 748) z323, ei (nat_lit 8488) (nat_lit 751) z323, ei (nat_lit 8492) (nat_lit 754) z324, ei (nat_lit 8493) (nat_lit 757) z308, ei (nat_lit 8496) (nat_lit 760) z325]
noncomputable def ck148 (P : Params) : List DictEntry := [ei (nat_lit 8497) (nat_lit 763) z326]
noncomputable def o64 (P : Params) : Obj := ⟨(.type y0), none, (.dict ((ck146 P) ++ ((ck147 P) ++ (ck148 P))).toArray 17), #[]⟩
noncomputable def ck149 (P : Params) : List DictEntry := [ei (nat_lit 13195) (nat_lit 814) z342]
noncomputable def o65 (P : Params) : Obj := ⟨(.type y0), none, (.dict ((ck50 P) ++ ((ck51 P) ++ (ck149 P))).toArray 17), #[]⟩
noncomputable def ck150 (P : Params) : List DictEntry := [ei (nat_lit 13196) (nat_lit 817) z343, ei (nat_lit 13200) (nat_lit 820) z344, ei (nat_lit 13201) (nat_lit 823) z345, ei (nat_lit 13202) (nat_lit 826) z346, ei (nat_lit 13203) (nat_lit 829) z347, ei (nat_lit 13204) (nat_lit 832) z348, ei (nat_lit 13225) (nat_lit 835) z333, ei (nat_lit 13226) (nat_lit 838) z349]
noncomputable def ck151 (P : Params) : List DictEntry := [ei (nat_lit 13227) (nat_lit 841) z350, ei (nat_lit 13228) (nat_lit 844) z351, ei (nat_lit 13236) (nat_lit 847) z352, ei (nat_lit 13237) (nat_lit 850) z353, ei (nat_lit 13238) (nat_lit 853) z354, ei (nat_lit 13239) (nat_lit 856) z355, ei (nat_lit 13240) (nat_lit 859) z356, ei (nat_lit 13241) (nat_lit 862) z355]
noncomputable def ck152 (P : Params) : List DictEntry := [ei (nat_lit 13242) (nat_lit 865) z357]
noncomputable def o66 (P : Params) : Obj := ⟨(.type y0), none, (.dict ((ck150 P) ++ ((ck151 P) ++ (ck152 P))).toArray 17), #[]⟩
noncomputable def ck153 (P : Params) : List DictEntry := [ei (nat_lit 13243) (nat_lit 868) z358, ei (nat_lit 13244) (nat_lit 871) z359, ei (nat_lit 13245) (nat_lit 874) z360, ei (nat_lit 13246) (nat_lit 877) z361, ei (nat_lit 13247) (nat_lit 880) z360, ei (nat_lit 13248) (nat_lit 883) z362, ei (nat_lit 13249) (nat_lit 886) z363, ei (nat_lit 13251) (nat_lit 889) z364]
noncomputable def ck154 (P : Params) : List DictEntry := [ei (nat_lit 13254) (nat_lit 892) z365, ei (nat_lit 13255) (nat_lit 895) z366, ei (nat_lit 13256) (nat_lit 898) z367, ei (nat_lit 13257) (nat_lit 901) z368, ei (nat_lit 13259) (nat_lit 904) z369, ei (nat_lit 13261) (nat_lit 907) z370, ei (nat_lit 13262) (nat_lit 910) z371, ei (nat_lit 13271) (nat_lit 913) z372]
noncomputable def ck155 (P : Params) : List DictEntry := [ei (nat_lit 13273) (nat_lit 916) z373]
noncomputable def o67 (P : Params) : Obj := ⟨(.type y0), none, (.dict ((ck153 P) ++ ((ck154 P) ++ (ck155 P))).toArray 17), #[]⟩
noncomputable def ck156 (P : Params) : List DictEntry := [ei (nat_lit 13274) (nat_lit 919) z374, ei (nat_lit 13276) (nat_lit 922) z375, ei (nat_lit 13277) (nat_lit 925) z376, ei (nat_lit 64256) (nat_lit 928) z377, ei (nat_lit 64257) (nat_lit 931) z378, ei (nat_lit 64258) (nat_lit 934) z379, ei (nat_lit 64259) (nat_lit 937) z380, ei (nat_lit 64260) (nat_lit 940) z381]
noncomputable def ck157 (P : Params) : List DictEntry := [ei (nat_lit 64261) (nat_lit 943) z382, ei (nat_lit 64262) (nat_lit 946) z382, ei (nat_lit 64275) (nat_lit 949) z383, ei (nat_lit 64276) (nat_lit 952) z384, ei (nat_lit 64277) (nat_lit 955) z385, ei (nat_lit 64278) (nat_lit 958) z386, ei (nat_lit 64279) (nat_lit 961) z387, ei (nat_lit 119808) (nat_lit 964) z388]
noncomputable def ck158 (P : Params) : List DictEntry := [ei (nat_lit 119809) (nat_lit 967) z324]
noncomputable def o68 (P : Params) : Obj := ⟨(.type y0), none, (.dict ((ck156 P) ++ ((ck157 P) ++ (ck158 P))).toArray 17), #[]⟩
noncomputable def ck159 (P : Params) : List DictEntry := [ei (nat_lit 119810) (nat_lit 970) z308, ei (nat_lit 119811) (nat_lit 973) z329, ei (nat_lit 119812) (nat_lit 976) z325, ei (nat_lit 119813) (nat_lit 979) z326, ei (nat_lit 119814) (nat_lit 982) z389, ei (nat_lit 119815) (nat_lit 985) z312, ei (nat_lit 119816) (nat_lit 988) z313, ei (nat_lit 119817) (nat_lit 991) z390]
noncomputable def ck160 (P : Params) : List DictEntry := [ei (nat_lit 119818) (nat_lit 994) z226, ei (nat_lit 119819) (nat_lit 997) z314, ei (nat_lit 119820) (nat_lit 1000) z327, ei (nat_lit 119821) (nat_lit 1003) z315, ei (nat_lit 119822) (nat_lit 1006) z391, ei (nat_lit 119823) (nat_lit 1009) z317, ei (nat_lit 119824) (nat_lit 1012) z318, ei (nat_lit 119825) (nat_lit 1015) z319]
noncomputable def ck161 (P : Params) : List DictEntry := [ei (nat_lit 119826) (nat_lit 1018) z233]
noncomputable def o69 (P : Params) : Obj := ⟨(.type y0), none, (.dict ((ck159 P) ++ ((ck160 P) ++ (ck161 P))).toArray 17), #[]⟩
noncomputable def ck162 (P : Params) : List DictEntry := [ei (nat_lit 119827) (nat_lit 1021) z392, ei (nat_lit 119828) (nat_lit 1024) z393, ei (nat_lit 119829) (nat_lit 1027) z394, ei (nat_lit 119830) (nat_lit 1030) z395, ei (nat_lit 119831) (nat_lit 1033) z396, ei (nat_lit 119832) (nat_lit 1036) z397, ei (nat_lit 119833) (nat_lit 1039) z323, ei (nat_lit 119860) (nat_lit 1042) z388]
noncomputable def ck163 (P : Params) : List DictEntry := [ei (nat_lit 119861) (nat_lit 1045) z324, ei (nat_lit 119862) (nat_lit 1048) z308, ei (nat_lit 119863) (nat_lit 1051) z329, ei (nat_lit 119864) (nat_lit 1054) z325, ei (nat_lit 119865) (nat_lit 1057) z326, ei (nat_lit 119866) (nat_lit 1060) z389, ei (nat_lit 119867) (nat_lit 1063) z312, ei (nat_lit 119868) (nat_lit 1066) z313]
noncomputable def ck164 (P : Params) : List DictEntry := [ei (nat_lit 119869) (nat_lit 1069) z390]
noncomputable def o70 (P : Params) : Obj := ⟨(.type y0), none, (.dict ((ck162 P) ++ ((ck163 P) ++ (ck164 P))).toArray 17), #[]⟩
noncomputable def ck165 (P : Params) : List DictEntry := [ei (nat_lit 119870) (nat_lit 1072) z226, ei (nat_lit 119871) (nat_lit 1075) z314, ei (nat_lit 119872) (nat_lit 1078) z327, ei (nat_lit 119873) (nat_lit 1081) z315, ei (nat_lit 119874) (nat_lit 1084) z391, ei (nat_lit 119875) (nat_lit 1087) z317, ei (nat_lit 119876) (nat_lit 1090) z318, ei (nat_lit 119877) (nat_lit 1093) z319]
noncomputable def ck166 (P : Params) : List DictEntry := [ei (nat_lit 119878) (nat_lit 1096) z233, ei (nat_lit 119879) (nat_lit 1099) z392, ei (nat_lit 119880) (nat_lit 1102) z393, ei (nat_lit 119881) (nat_lit 1105) z394, ei (nat_lit 119882) (nat_lit 1108) z395, ei (nat_lit 119883) (nat_lit 1111) z396, ei (nat_lit 119884) (nat_lit 1114) z397, ei (nat_lit 119885) (nat_lit 1117) z323]
noncomputable def ck167 (P : Params) : List DictEntry := [ei (nat_lit 119912) (nat_lit 1120) z388]
noncomputable def o71 (P : Params) : Obj := ⟨(.type y0), none, (.dict ((ck165 P) ++ ((ck166 P) ++ (ck167 P))).toArray 17), #[]⟩
noncomputable def ck168 (P : Params) : List DictEntry := [ei (nat_lit 119913) (nat_lit 1123) z324, ei (nat_lit 119914) (nat_lit 1126) z308, ei (nat_lit 119915) (nat_lit 1129) z329, ei (nat_lit 119916) (nat_lit 1132) z325, ei (nat_lit 119917) (nat_lit 1135) z326, ei (nat_lit 119918) (nat_lit 1138) z389, ei (nat_lit 119919) (nat_lit 1141) z312, ei (nat_lit 119920) (nat_lit 1144) z313]
noncomputable def ck169 (P : Params) : List DictEntry := [ei (nat_lit 119921) (nat_lit 1147) z390, ei (nat_lit 119922) (nat_lit 1150) z226, ei (nat_lit 119923) (nat_lit 1153) z314, ei (nat_lit 119924) (nat_lit 1156) z327, ei (nat_lit 119925) (nat_lit 1159) z315, ei (nat_lit 119926) (nat_lit 1162) z391, ei (nat_lit 119927) (nat_lit 1165) z317, ei (nat_lit 119928) (nat_lit 1168) z318]
noncomputable def ck170 (P : Params) : List DictEntry := [ei (nat_lit 119929) (nat_lit 1171) z319]
noncomputable def o72 (P : Params) : Obj := ⟨(.type y0), none, (.dict ((ck168 P) ++ ((ck169 P) ++ (ck170 P))).toArray 17), #[]⟩
noncomputable def ck171 (P : Params) : List DictEntry := [ei (nat_lit 119979) (nat_lit 1222) z317]
noncomputable def o73 (P : Params) : Obj := ⟨(.type y0), none, (.dict ((ck67 P) ++ ((ck68 P) ++ (ck171 P))).toArray 17), #[]⟩
noncomputable def ck172 (P : Params) : List DictEntry := [ei (nat_lit 119980) (nat_lit 1225) z318, ei (nat_lit 119982) (nat_lit 1228) z233, ei (nat_lit 119983) (nat_lit 1231) z392, ei (nat_lit 119984) (nat_lit 1234) z393, ei (nat_lit 119985) (nat_lit 1237) z394, ei (nat_lit 119986) (nat_lit 1240) z395, ei (nat_lit 119987) (nat_lit 1243) z396, ei (nat_lit 119988) (nat_lit 1246) z397]
noncomputable def ck173 (P : Params) : List DictEntry := [ei (nat_lit 119989) (nat_lit 1249) z323, ei (nat_lit 120016) (nat_lit 1252) z388, ei (nat_lit 120017) (nat_lit 1255) z324, ei (nat_lit 120018) (nat_lit 1258) z308, ei (nat_lit 120019) (nat_lit 1261) z329, ei (nat_lit 120020) (nat_lit 1264) z325, ei (nat_lit 120021) (nat_lit 1267) z326, ei (nat_lit 120022) (nat_lit 1270) z389]
noncomputable def ck174 (P : Params) : List DictEntry := [ei (nat_lit 120023) (nat_lit 1273) z312]
noncomputable def o74 (P : Params) : Obj := ⟨(.type y0), none, (.dict ((ck172 P) ++ ((ck173 P) ++ (ck174 P))).toArray 17), #[]⟩
noncomputable def ck175 (P : Params) : List DictEntry := [ei (nat_lit 120024) (nat_lit 1276) z313, ei (nat_lit 120025) (nat_lit 1279) z390, ei (nat_lit 120026) (nat_lit 1282) z226, ei (nat_lit 120027) (nat_lit 1285) z314, ei (nat_lit 120028) (nat_lit 1288) z327, ei (nat_lit 120029) (nat_lit 1291) z315, ei (nat_lit 120030) (nat_lit 1294) z391, ei (nat_lit 120031) (nat_lit 1297) z317]
noncomputable def ck176 (P : Params) : List DictEntry := [ei (nat_lit 120032) (nat_lit 1300) z318, ei (nat_lit 120033) (nat_lit 1303) z319, ei (nat_lit 120034) (nat_lit 1306) z233, ei (nat_lit 120035) (nat_lit 1309) z392, ei (nat_lit 120036) (nat_lit 1312) z393, ei (nat_lit 120037) (nat_lit 1315) z394, ei (nat_lit 120038) (nat_lit 1318) z395, ei (nat_lit 120039) (nat_lit 1321) z396]
noncomputable def ck177 (P : Params) : List DictEntry := [ei (nat_lit 120040) (nat_lit 1324) z397]
noncomputable def o75 (P : Params) : Obj := ⟨(.type y0), none, (.dict ((ck175 P) ++ ((ck176 P) ++ (ck177 P))).toArray 17), #[]⟩
noncomputable def ck178 (P : Params) : List DictEntry := [ei (nat_lit 120041) (nat_lit 1327) z323, ei (nat_lit 120068) (nat_lit 1330) z388, ei (nat_lit 120069) (nat_lit 1333) z324, ei (nat_lit 120071) (nat_lit 1336) z329, ei (nat_lit 120072) (nat_lit 1339) z325, ei (nat_lit 120073) (nat_lit 1342) z326, ei (nat_lit 120074) (nat_lit 1345) z389, ei (nat_lit 120077) (nat_lit 1348) z390]
noncomputable def ck179 (P : Params) : List DictEntry := [ei (nat_lit 120078) (nat_lit 1351) z226, ei (nat_lit 120079) (nat_lit 1354) z314, ei (nat_lit 120080) (nat_lit 1357) z327, ei (nat_lit 120081) (nat_lit 1360) z315, ei (nat_lit 120082) (nat_lit 1363) z391, ei (nat_lit 120083) (nat_lit 1366) z317, ei (nat_lit 120084) (nat_lit 1369) z318, ei (nat_lit 120086) (nat_lit 1372) z233]
noncomputable def ck180 (P : Params) : List DictEntry := [ei (nat_lit 120087) (nat_lit 1375) z392]
noncomputable def o76 (P : Params) : Obj := ⟨(.type y0), none, (.dict ((ck178 P) ++ ((ck179 P) ++ (ck180 P))).toArray 17), #[]⟩
noncomputable def ck181 (P : Params) : List DictEntry := [ei (nat_lit 120088) (nat_lit 1378) z393, ei (nat_lit 120089) (nat_lit 1381) z394, ei (nat_lit 120090) (nat_lit 1384) z395, ei (nat_lit 120091) (nat_lit 1387) z396, ei (nat_lit 120092) (nat_lit 1390) z397, ei (nat_lit 120120) (nat_lit 1393) z388, ei (nat_lit 120121) (nat_lit 1396) z324, ei (nat_lit 120123) (nat_lit 1399) z329]
noncomputable def ck182 (P : Params) : List DictEntry := [ei (nat_lit 120124) (nat_lit 1402) z325, ei (nat_lit 120125) (nat_lit 1405) z326, ei (nat_lit 120126) (nat_lit 1408) z389, ei (nat_lit 120128) (nat_lit 1411) z313, ei (nat_lit 120129) (nat_lit 1414) z390, ei (nat_lit 120130) (nat_lit 1417) z226, ei (nat_lit 120131) (nat_lit 1420) z314, ei (nat_lit 120132) (nat_lit 1423) z327]
noncomputable def ck183 (P : Params) : List DictEntry := [ei (nat_lit 120134) (nat_lit 1426) z391]
noncomputable def o77 (P : Params) : Obj := ⟨(.type y0), none, (.dict ((ck181 P) ++ ((ck182 P) ++ (ck183 P))).toArray 17), #[]⟩
noncomputable def ck184 (P : Params) : List DictEntry := [ei (nat_lit 120138) (nat_lit 1429) z233, ei (nat_lit 120139) (nat_lit 1432) z392, ei (nat_lit 120140) (nat_lit 1435) z393, ei (nat_lit 120141) (nat_lit 1438) z394, ei (nat_lit 120142) (nat_lit 1441) z395, ei (nat_lit 120143) (nat_lit 1444) z396, ei (nat_lit 120144) (nat_lit 1447) z397, ei (nat_lit 120172) (nat_lit 1450) z388]
noncomputable def ck185 (P : Params) : List DictEntry := [ei (nat_lit 120173) (nat_lit 1453) z324, ei (nat_lit 120174) (nat_lit 1456) z308, ei (nat_lit 120175) (nat_lit 1459) z329, ei (nat_lit 120176) (nat_lit 1462) z325, ei (nat_lit 120177) (nat_lit 1465) z326, ei (nat_lit 120178) (nat_lit 1468) z389, ei (nat_lit 120179) (nat_lit 1471) z312, ei (nat_lit 120180) (nat_lit 1474) z313]
noncomputable def ck186 (P : Params) : List DictEntry := [ei (nat_lit 120181) (nat_lit 1477) z390]
noncomputable def o78 (P : Params) : Obj := ⟨(.type y0), none, (.dict ((ck184 P) ++ ((ck185 P) ++ (ck186 P))).toArray 17), #[]⟩
noncomputable def ck187 (P : Params) : List DictEntry := [ei (nat_lit 120182) (nat_lit 1480) z226, ei (nat_lit 120183) (nat_lit 1483) z314, ei (nat_lit 120184) (nat_lit 1486) z327, ei (nat_lit 120185) (nat_lit 1489) z315, ei (nat_lit 120186) (nat_lit 1492) z391, ei (nat_lit 120187) (nat_lit 1495) z317, ei (nat_lit 120188) (nat_lit 1498) z318, ei (nat_lit 120189) (nat_lit 1501) z319]
noncomputable def ck188 (P : Params) : List DictEntry := [ei (nat_lit 120190) (nat_lit 1504) z233, ei (nat_lit 120191) (nat_lit 1507) z392, ei (nat_lit 120192) (nat_lit 1510) z393, ei (nat_lit 120193) (nat_lit 1513) z394, ei (nat_lit 120194) (nat_lit 1516) z395, ei (nat_lit 120195) (nat_lit 1519) z396, ei (nat_lit 120196) (nat_lit 1522) z397, ei (nat_lit 120197) (nat_lit 1525) z323]
noncomputable def ck189 (P : Params) : List DictEntry := [ei (nat_lit 120224) (nat_lit 1528) z388]
noncomputable def o79 (P : Params) : Obj := ⟨(.type y0), none, (.dict ((ck187 P) ++ ((ck188 P) ++ (ck189 P))).toArray 17), #[]⟩
noncomputable def ck190 (P : Params) : List DictEntry := [ei (nat_lit 120225) (nat_lit 1531) z324, ei (nat_lit 120226) (nat_lit 1534) z308, ei (nat_lit 120227) (nat_lit 1537) z329, ei (nat_lit 120228) (nat_lit 1540) z325, ei (nat_lit 120229) (nat_lit 1543) z326, ei (nat_lit 120230) (nat_lit 1546) z389, ei (nat_lit 120231) (nat_lit 1549) z312, ei (nat_lit 120232) (nat_lit 1552) z313]
noncomputable def ck191 (P : Params) : List DictEntry := [ei (nat_lit 120233) (nat_lit 1555) z390, ei (nat_lit 120234) (nat_lit 1558) z226, ei (nat_lit 120235) (nat_lit 1561) z314, ei (nat_lit 120236) (nat_lit 1564) z327, ei (nat_lit 120237) (nat_lit 1567) z315, ei (nat_lit 120238) (nat_lit 1570) z391, ei (nat_lit 120239) (nat_lit 1573) z317, ei (nat_lit 120240) (nat_lit 1576) z318]
noncomputable def ck192 (P : Params) : List DictEntry := [ei (nat_lit 120241) (nat_lit 1579) z319]
noncomputable def o80 (P : Params) : Obj := ⟨(.type y0), none, (.dict ((ck190 P) ++ ((ck191 P) ++ (ck192 P))).toArray 17), #[]⟩
noncomputable def ck193 (P : Params) : List DictEntry := [ei (nat_lit 120284) (nat_lit 1630) z313]
noncomputable def o81 (P : Params) : Obj := ⟨(.type y0), none, (.dict ((ck84 P) ++ ((ck85 P) ++ (ck193 P))).toArray 17), #[]⟩
noncomputable def ck194 (P : Params) : List DictEntry := [ei (nat_lit 120285) (nat_lit 1633) z390, ei (nat_lit 120286) (nat_lit 1636) z226, ei (nat_lit 120287) (nat_lit 1639) z314, ei (nat_lit 120288) (nat_lit 1642) z327, ei (nat_lit 120289) (nat_lit 1645) z315, ei (nat_lit 120290) (nat_lit 1648) z391, ei (nat_lit 120291) (nat_lit 1651) z317, ei (nat_lit 120292) (nat_lit 1654) z318]
noncomputable def ck195 (P : Params) : List DictEntry := [ei (nat_lit 120293) (nat_lit 1657) z319, ei (nat_lit 120294) (nat_lit 1660) z233, ei (nat_lit 120295) (nat_lit 1663) z392, ei (nat_lit 120296) (nat_lit 1666) z393, ei (nat_lit 120297) (nat_lit 1669) z394, ei (nat_lit 120298) (nat_lit 1672) z395, ei (nat_lit 120299) (nat_lit 1675) z396, ei (nat_lit 120300) (nat_lit 1678) z397]
noncomputable def ck196 (P : Params) : List DictEntry := [ei (nat_lit 120301) (nat_lit 1681) z323]
noncomputable def o82 (P : Params) : Obj := ⟨(.type y0), none, (.dict ((ck194 P) ++ ((ck195 P) ++ (ck196 P))).toArray 17), #[]⟩
noncomputable def ck197 (P : Params) : List DictEntry := [ei (nat_lit 120328) (nat_lit 1684) z388, ei (nat_lit 120329) (nat_lit 1687) z324, ei (nat_lit 120330) (nat_lit 1690) z308, ei (nat_lit 120331) (nat_lit 1693) z329, ei (nat_lit 120332) (nat_lit 1696) z325, ei (nat_lit 120333) (nat_lit 1699) z326, ei (nat_lit 120334) (nat_lit 1702) z389, ei (nat_lit 120335) (nat_lit 1705) z312]
noncomputable def ck198 (P : Params) : List DictEntry := [ei (nat_lit 120336) (nat_lit 1708) z313, ei (nat_lit 120337) (nat_lit 1711) z390, ei (nat_lit 120338) (nat_lit 1714) z226, ei (nat_lit 120339) (nat_lit 1717) z314, ei (nat_lit 120340) (nat_lit 1720) z327, ei (nat_lit 120341) (nat_lit 1723) z315, ei (nat_lit 120342) (nat_lit 1726) z391, ei (nat_lit 120343) (nat_lit 1729) z317]
noncomputable def ck199 (P : Params) : List DictEntry := [ei (nat_lit 120344) (nat_lit 1732) z318]
noncomputable def o83 (P : Params) : Obj := ⟨(.type y0), none, (.dict ((ck197 P) ++ ((ck198 P) ++ (ck199 P))).toArray 17), #[]⟩
noncomputable def ck200 (P : Params) : List DictEntry := [ei (nat_lit 120345) (nat_lit 1735) z319, ei (nat_lit 120346) (nat_lit 1738) z233, ei (nat_lit 120347) (nat_lit 1741) z392, ei (nat_lit 120348) (nat_lit 1744) z393, ei (nat_lit 120349) (nat_lit 1747) z394, ei (nat_lit 120350) (nat_lit 1750) z395, ei (nat_lit 120351) (nat_lit 1753) z396, ei (nat_lit 120352) (nat_lit 1756) z397]
noncomputable def ck201 (P : Params) : List DictEntry := [ei (nat_lit 120353) (nat_lit 1759) z323, ei (nat_lit 120380) (nat_lit 1762) z388, ei (nat_lit 120381) (nat_lit 1765) z324, ei (nat_lit 120382) (nat_lit 1768) z308, ei (nat_lit 120383) (nat_lit 1771) z329, ei (nat_lit 120384) (nat_lit 1774) z325, ei (nat_lit 120385) (nat_lit 1777) z326, ei (nat_lit 120386) (nat_lit 1780) z389]
noncomputable def ck202 (P : Params) : List DictEntry := [ei (nat_lit 120387) (nat_lit 1783) z312]
noncomputable def o84 (P : Params) : Obj := ⟨(.type y0), none, (.dict ((ck200 P) ++ ((ck201 P) ++ (ck202 P))).toArray 17), #[]⟩
noncomputable def ck203 (P : Params) : List DictEntry := [ei (nat_lit 120388) (nat_lit 1786) z313, ei (nat_lit 120389) (nat_lit 1789) z390, ei (nat_lit 120390) (nat_lit 1792) z226, ei (nat_lit 120391) (nat_lit 1795) z314, ei (nat_lit 120392) (nat_lit 1798) z327, ei (nat_lit 120393) (nat_lit 1801) z315, ei (nat_lit 120394) (nat_lit 1804) z391, ei (nat_lit 120395) (nat_lit 1807) z317]
noncomputable def ck204 (P : Params) : List DictEntry := [ei (nat_lit 120396) (nat_lit 1810) z318, ei (nat_lit 120397) (nat_lit 1813) z319, ei (nat_lit 120398) (nat_lit 1816) z233, ei (nat_lit 120399) (nat_lit 1819) z392, ei (nat_lit 120400) (nat_lit 1822) z393, ei (nat_lit 120401) (nat_lit 1825) z394, ei (nat_lit 120402) (nat_lit 1828) z395, ei (nat_lit 120403) (nat_lit 1831) z396]
noncomputable def ck205 (P : Params) : List DictEntry := [ei (nat_lit 120404) (nat_lit 1834) z397]
noncomputable def o85 (P : Params) : Obj := ⟨(.type y0), none, (.dict ((ck203 P) ++ ((ck204 P) ++ (ck205 P))).toArray 17), #[]⟩
noncomputable def ck206 (P : Params) : List DictEntry := [ei (nat_lit 120405) (nat_lit 1837) z323, ei (nat_lit 120432) (nat_lit 1840) z388, ei (nat_lit 120433) (nat_lit 1843) z324, ei (nat_lit 120434) (nat_lit 1846) z308, ei (nat_lit 120435) (nat_lit 1849) z329, ei (nat_lit 120436) (nat_lit 1852) z325, ei (nat_lit 120437) (nat_lit 1855) z326, ei (nat_lit 120438) (nat_lit 1858) z389]
noncomputable def ck207 (P : Params) : List DictEntry := [ei (nat_lit 120439) (nat_lit 1861) z312, ei (nat_lit 120440) (nat_lit 1864) z313, ei (nat_lit 120441) (nat_lit 1867) z390, ei (nat_lit 120442) (nat_lit 1870) z226, ei (nat_lit 120443) (nat_lit 1873) z314, ei (nat_lit 120444) (nat_lit 1876) z327, ei (nat_lit 120445) (nat_lit 1879) z315, ei (nat_lit 120446) (nat_lit 1882) z391]
noncomputable def ck208 (P : Params) : List DictEntry := [ei (nat_lit 120447) (nat_lit 1885) z317]
noncomputable def o86 (P : Params) : Obj := ⟨(.type y0), none, (.dict ((ck206 P) ++ ((ck207 P) ++ (ck208 P))).toArray 17), #[]⟩
noncomputable def ck209 (P : Params) : List DictEntry := [ei (nat_lit 120448) (nat_lit 1888) z318, ei (nat_lit 120449) (nat_lit 1891) z319, ei (nat_lit 120450) (nat_lit 1894) z233, ei (nat_lit 120451) (nat_lit 1897) z392, ei (nat_lit 120452) (nat_lit 1900) z393, ei (nat_lit 120453) (nat_lit 1903) z394, ei (nat_lit 120454) (nat_lit 1906) z395, ei (nat_lit 120455) (nat_lit 1909) z396]
noncomputable def ck210 (P : Params) : List DictEntry := [ei (nat_lit 120456) (nat_lit 1912) z397, ei (nat_lit 120457) (nat_lit 1915) z323, ei (nat_lit 120488) (nat_lit 1918) z398, ei (nat_lit 120489) (nat_lit 1921) z240, ei (nat_lit 120490) (nat_lit 1924) z328, ei (nat_lit 120491) (nat_lit 1927) z399, ei (nat_lit 120492) (nat_lit 1930) z249, ei (nat_lit 120493) (nat_lit 1933) z400]
noncomputable def ck211 (P : Params) : List DictEntry := [ei (nat_lit 120494) (nat_lit 1936) z401]
noncomputable def o87 (P : Params) : Obj := ⟨(.type y0), none, (.dict ((ck209 P) ++ ((ck210 P) ++ (ck211 P))).toArray 17), #[]⟩
noncomputable def ck212 (P : Params) : List DictEntry := [ei (nat_lit 120495) (nat_lit 1939) z241, ei (nat_lit 120496) (nat_lit 1942) z235, ei (nat_lit 120497) (nat_lit 1945) z247, ei (nat_lit 120498) (nat_lit 1948) z402, ei (nat_lit 120499) (nat_lit 1951) z229, ei (nat_lit 120500) (nat_lit 1954) z403, ei (nat_lit 120501) (nat_lit 1957) z404, ei (nat_lit 120502) (nat_lit 1960) z405]
noncomputable def ck213 (P : Params) : List DictEntry := [ei (nat_lit 120503) (nat_lit 1963) z246, ei (nat_lit 120504) (nat_lit 1966) z248, ei (nat_lit 120505) (nat_lit 1969) z241, ei (nat_lit 120506) (nat_lit 1972) z239, ei (nat_lit 120507) (nat_lit 1975) z406, ei (nat_lit 120508) (nat_lit 1978) z242, ei (nat_lit 120509) (nat_lit 1981) z245, ei (nat_lit 120510) (nat_lit 1984) z407]
noncomputable def ck214 (P : Params) : List DictEntry := [ei (nat_lit 120511) (nat_lit 1987) z408]
noncomputable def o88 (P : Params) : Obj := ⟨(.type y0), none, (.dict ((ck212 P) ++ ((ck213 P) ++ (ck214 P))).toArray 17), #[]⟩
noncomputable def ck215 (P : Params) : List DictEntry := [ei (nat_lit 120560) (nat_lit 2038) z405]
noncomputable def o89 (P : Params) : Obj := ⟨(.type y0), none, (.dict ((ck101 P) ++ ((ck102 P) ++ (ck215 P))).toArray 17), #[]⟩
noncomputable def ck216 (P : Params) : List DictEntry := [ei (nat_lit 120561) (nat_lit 2041) z246, ei (nat_lit 120562) (nat_lit 2044) z248, ei (nat_lit 120563) (nat_lit 2047) z241, ei (nat_lit 120564) (nat_lit 2050) z239, ei (nat_lit 120565) (nat_lit 2053) z406, ei (nat_lit 120566) (nat_lit 2056) z242, ei (nat_lit 120567) (nat_lit 2059) z245, ei (nat_lit 120568) (nat_lit 2062) z407]
noncomputable def ck217 (P : Params) : List DictEntry := [ei (nat_lit 120569) (nat_lit 2065) z408, ei (nat_lit 120570) (nat_lit 2068) z409, ei (nat_lit 120589) (nat_lit 2071) z239, ei (nat_lit 120604) (nat_lit 2074) z398, ei (nat_lit 120605) (nat_lit 2077) z240, ei (nat_lit 120606) (nat_lit 2080) z328, ei (nat_lit 120607) (nat_lit 2083) z399, ei (nat_lit 120608) (nat_lit 2086) z249]
noncomputable def ck218 (P : Params) : List DictEntry := [ei (nat_lit 120609) (nat_lit 2089) z400]
noncomputable def o90 (P : Params) : Obj := ⟨(.type y0), none, (.dict ((ck216 P) ++ ((ck217 P) ++ (ck218 P))).toArray 17), #[]⟩
noncomputable def ck219 (P : Params) : List DictEntry := [ei (nat_lit 120610) (nat_lit 2092) z401, ei (nat_lit 120611) (nat_lit 2095) z241, ei (nat_lit 120612) (nat_lit 2098) z235, ei (nat_lit 120613) (nat_lit 2101) z247, ei (nat_lit 120614) (nat_lit 2104) z402, ei (nat_lit 120615) (nat_lit 2107) z229, ei (nat_lit 120616) (nat_lit 2110) z403, ei (nat_lit 120617) (nat_lit 2113) z404]
noncomputable def ck220 (P : Params) : List DictEntry := [ei (nat_lit 120618) (nat_lit 2116) z405, ei (nat_lit 120619) (nat_lit 2119) z246, ei (nat_lit 120620) (nat_lit 2122) z248, ei (nat_lit 120621) (nat_lit 2125) z241, ei (nat_lit 120622) (nat_lit 2128) z239, ei (nat_lit 120623) (nat_lit 2131) z406, ei (nat_lit 120624) (nat_lit 2134) z242, ei (nat_lit 120625) (nat_lit 2137) z245]
noncomputable def ck221 (P : Params) : List DictEntry := [ei (nat_lit 120626) (nat_lit 2140) z407]
noncomputable def o91 (P : Params) : Obj := ⟨(.type y0), none, (.dict ((ck219 P) ++ ((ck220 P) ++ (ck221 P))).toArray 17), #[]⟩
noncomputable def ck222 (P : Params) : List DictEntry := [ei (nat_lit 120627) (nat_lit 2143) z408, ei (nat_lit 120628) (nat_lit 2146) z409, ei (nat_lit 120647) (nat_lit 2149) z239, ei (nat_lit 120662) (nat_lit 2152) z398, ei (nat_lit 120663) (nat_lit 2155) z240, ei (nat_lit 120664) (nat_lit 2158) z328, ei (nat_lit 120665) (nat_lit 2161) z399, ei (nat_lit 120666) (nat_lit 2164) z249]
noncomputable def ck223 (P : Params) : List DictEntry := [ei (nat_lit 120667) (nat_lit 2167) z400, ei (nat_lit 120668) (nat_lit 2170) z401, ei (nat_lit 120669) (nat_lit 2173) z241, ei (nat_lit 120670) (nat_lit 2176) z235, ei (nat_lit 120671) (nat_lit 2179) z247, ei (nat_lit 120672) (nat_lit 2182) z402, ei (nat_lit 120673) (nat_lit 2185) z229, ei (nat_lit 120674) (nat_lit 2188) z403]
noncomputable def ck224 (P : Params) : List DictEntry := [ei (nat_lit 120675) (nat_lit 2191) z404]
noncomputable def o92 (P : Params) : Obj := ⟨(.type y0), none, (.dict ((ck222 P) ++ ((ck223 P) ++ (ck224 P))).toArray 17), #[]⟩
noncomputable def ck225 (P : Params) : List DictEntry := [ei (nat_lit 120676) (nat_lit 2194) z405, ei (nat_lit 120677) (nat_lit 2197) z246, ei (nat_lit 120678) (nat_lit 2200) z248, ei (nat_lit 120679) (nat_lit 2203) z241, ei (nat_lit 120680) (nat_lit 2206) z239, ei (nat_lit 120681) (nat_lit 2209) z406, ei (nat_lit 120682) (nat_lit 2212) z242, ei (nat_lit 120683) (nat_lit 2215) z245]
noncomputable def ck226 (P : Params) : List DictEntry := [ei (nat_lit 120684) (nat_lit 2218) z407, ei (nat_lit 120685) (nat_lit 2221) z408, ei (nat_lit 120686) (nat_lit 2224) z409, ei (nat_lit 120705) (nat_lit 2227) z239, ei (nat_lit 120720) (nat_lit 2230) z398, ei (nat_lit 120721) (nat_lit 2233) z240, ei (nat_lit 120722) (nat_lit 2236) z328, ei (nat_lit 120723) (nat_lit 2239) z399]
noncomputable def ck227 (P : Params) : List DictEntry := [ei (nat_lit 120724) (nat_lit 2242) z249]
noncomputable def o93 (P : Params) : Obj := ⟨(.type y0), none, (.dict ((ck225 P) ++ ((ck226 P) ++ (ck227 P))).toArray 17), #[]⟩
noncomputable def ck228 (P : Params) : List DictEntry := [ei (nat_lit 120725) (nat_lit 2245) z400, ei (nat_lit 120726) (nat_lit 2248) z401, ei (nat_lit 120727) (nat_lit 2251) z241, ei (nat_lit 120728) (nat_lit 2254) z235, ei (nat_lit 120729) (nat_lit 2257) z247, ei (nat_lit 120730) (nat_lit 2260) z402, ei (nat_lit 120731) (nat_lit 2263) z229, ei (nat_lit 120732) (nat_lit 2266) z403]
noncomputable def ck229 (P : Params) : List DictEntry := [ei (nat_lit 120733) (nat_lit 2269) z404, ei (nat_lit 120734) (nat_lit 2272) z405, ei (nat_lit 120735) (nat_lit 2275) z246, ei (nat_lit 120736) (nat_lit 2278) z248, ei (nat_lit 120737) (nat_lit 2281) z241, ei (nat_lit 120738) (nat_lit 2284) z239, ei (nat_lit 120739) (nat_lit 2287) z406, ei (nat_lit 120740) (nat_lit 2290) z242]
noncomputable def ck230 (P : Params) : List DictEntry := [ei (nat_lit 120741) (nat_lit 2293) z245]
noncomputable def o94 (P : Params) : Obj := ⟨(.type y0), none, (.dict ((ck228 P) ++ ((ck229 P) ++ (ck230 P))).toArray 17), #[]⟩
noncomputable def o95 (P : Params) : Obj := ⟨(.type y0), none, (.dict #[ei (nat_lit 120742) (nat_lit 2296) z407, ei (nat_lit 120743) (nat_lit 2298) z408, ei (nat_lit 120744) (nat_lit 2300) z409, ei (nat_lit 120763) (nat_lit 2302) z239] 4), #[]⟩
noncomputable def bt21 (P : Params) : BT := (.node (o7 P) (.node (o15 P) (.node (o31 P) (.node (o63 P) .nil .nil) (.node (o95 P) .nil .nil)) (.node (o47 P) (.node (o79 P) .nil .nil) .nil)) (.node (o23 P) (.node (o39 P) (.node (o71 P) .nil .nil) .nil) (.node (o55 P) (.node (o87 P) .nil .nil) .nil)))
noncomputable def bt22 (P : Params) : BT := (.node (o11 P) (.node (o19 P) (.node (o35 P) (.node (o67 P) .nil .nil) .nil) (.node (o51 P) (.node (o83 P) .nil .nil) .nil)) (.node (o27 P) (.node (o43 P) (.node (o75 P) .nil .nil) .nil) (.node (o59 P) (.node (o91 P) .nil .nil) .nil)))
noncomputable def bt23 (P : Params) : BT := (.node (o9 P) (.node (o17 P) (.node (o33 P) (.node (o65 P) .nil .nil) .nil) (.node (o49 P) (.node (o81 P) .nil .nil) .nil)) (.node (o25 P) (.node (o41 P) (.node (o73 P) .nil .nil) .nil) (.node (o57 P) (.node (o89 P) .nil .nil) .nil)))
noncomputable def bt24 (P : Params) : BT := (.node (o13 P) (.node (o21 P) (.node (o37 P) (.node (o69 P) .nil .nil) .nil) (.node (o53 P) (.node (o85 P) .nil .nil) .nil)) (.node (o29v2 P) (.node (o45 P) (.node (o77 P) .nil .nil) .nil) (.node (o61 P) (.node (o93 P) .nil .nil) .nil)))
noncomputable def bt25 (P : Params) : BT := (.node (o8 P) (.node (o16 P) (.node (o32 P) (.node (o64 P) .nil .nil) .nil) (.node (o48 P) (.node (o80 P) .nil .nil) .nil)) (.node (o24 P) (.node (o40 P) (.node (o72 P) .nil .nil) .nil) (.node (o56 P) (.node (o88 P) .nil .nil) .nil)))
noncomputable def bt26 (P : Params) : BT := (.node (o12 P) (.node (o20 P) (.node (o36 P) (.node (o68 P) .nil .nil) .nil) (.node (o52 P) (.node (o84 P) .nil .nil) .nil)) (.node (o28 P) (.node (o44 P) (.node (o76 P) .nil .nil) .nil) (.node (o60 P) (.node (o92 P) .nil .nil) .nil)))
noncomputable def bt27 (P : Params) : BT := (.node (o10 P) (.node (o18 P) (.node (o34 P) (.node (o66 P) .nil .nil) .nil) (.node (o50 P) (.node (o82 P) .nil .nil) .nil)) (.node (o26 P) (.node (o42 P) (.node (o74 P) .nil .nil) .nil) (.node (o58 P) (.node (o90 P) .nil .nil) .nil)))
noncomputable def bt28 (P : Params) : BT := (.node (o14 P) (.node (o22 P) (.node (o38 P) (.node (o70 P) .nil .nil) .nil) (.node (o54 P) (.node (o86 P) .nil .nil) .nil)) (.node (o30 P) (.node (o46 P) (.node (o78 P) .nil .nil) .nil) (.node (o62 P) (.node (o94 P) .nil .nil) .nil)))
noncomputable def trE (P : Params) : BT := (.node (o0 P) (.node (o1 P) (.node (o3v3 P) (bt21 P) (bt22 P)) (.node (o5 P) (bt23 P) (bt24 P))) (.node (o2 P) (.node (o4 P) (bt25 P) (bt26 P)) (.node (o6 P) (bt27 P) (bt28 P))))
noncomputable def trX (P : Params) : BT := (.node (o0 P) (.node (o1 P) (.node (o3v2 P) (bt21 P) (bt22 P)) (.node (o5 P) (bt23 P) (bt24 P))) (.node (o2 P) (.node (o4 P) (bt25 P) (bt26 P)) (.node (o6 P) (bt27 P) (bt28 P))))
noncomputable def ck231 (P : Params) : List DictEntry := [en P z0 (nat_lit 165) (.str z410 2582), en P z2 (nat_lit 166) .none, en P z3 (nat_lit 167) .none, en P z4 (nat_lit 168) (.builtin y10), en P z5 (nat_lit 169) .none, en P z171 (nat_lit 170) (.ref 6), en P z172 (nat_lit 171) (.ref 4), en P z173 (nat_lit 173) (.str z174 172)]
noncomputable def ck232 (P : Params) : List DictEntry := [en P z175 (nat_lit 174) .none, en P z161 (nat_lit 275) (.ref 12), en P z223 (nat_lit 288) (.ref 38), en P z224 (nat_lit 350) (.ref 46), en P z225 (nat_lit 357) (.ref 56), en P z228 (nat_lit 2308) (.ref 57), en P z411 (nat_lit 2316) (.ref 102), en P z412 (nat_lit 2352) (.ref 107)]
noncomputable def ck233 (P : Params) : List DictEntry := [en P z413 (nat_lit 2378) (.ref 112), en P z414 (nat_lit 2412) (.ref 117), en P z415 (nat_lit 2422) (.ref 125), en P z416 (nat_lit 2581) (.ref 248), en P z417 (nat_lit 2589) (.ref 257), en P z418 (nat_lit 2597) (.ref 264), en P z419 (nat_lit 2610) (.ref 271), en P z420 (nat_lit 2619) (.ref 278)]
noncomputable def ck234 (P : Params) : List DictEntry := [en P z421 (nat_lit 2625) (.ref 283), en P z422 (nat_lit 2631) (.ref 288), en P z423 (nat_lit 2640) (.ref 295), en P z424 (nat_lit 2647) (.ref 302), en P z425 (nat_lit 2653) (.ref 307), en P z426 (nat_lit 2669) (.ref 314)]
noncomputable def o3v4 (P : Params) : Obj := ⟨(.type y0), none, (.dict ((ck231 P) ++ ((ck232 P) ++ ((ck233 P) ++ (ck234 P)))).toArray 30), #[]⟩
noncomputable def o29v4 (P : Params) : Obj := ⟨.none, none, (.fields #[(.int 2 0), (.int 0 0), (.ref 37), (.int 7 0), (.int 0 0), (.ref 55), (.int 10 0), (.int 0 0), (.ref 101), (.int 19 0), (.int 0 0), (.ref 124), (.int 28 0), (.int 0 0), (.ref 131), (.int 110 0), (.int 0 0), (.ref 256), (.int 112 0), (.int 0 0), (.ref 263), (.int 121 0), (.int 0 0), (.ref 270), (.int 144 0), (.int 0 0), (.ref 277), (.int 154 0), (.int 0 0), (.ref 282), (.int 156 0), (.int 0 0), (.ref 287), (.int 159 0), (.int 0 0), (.ref 294), (.int 165 0), (.int 0 0), (.ref 301), (.int 170 0), (.int 0 0), (.ref 306), (.int 174 0), (.int 0 0), (.ref 313)]), #[]⟩
noncomputable def o96 (P : Params) : Obj := ⟨(.type y6), none, (.seq #[] 0), #[]⟩
noncomputable def o97 (P : Params) : Obj := ⟨.none, none, (.fields #[]), #[]⟩
noncomputable def o98 (P : Params) : Obj := ⟨(.type y6), none, (.seq #[(.str z227 2312), (.str z319 2313)] 0), #[]⟩
noncomputable def o99 (P : Params) : Obj := ⟨(.type y6), none, (.seq #[] 0), #[]⟩
noncomputable def o100 (P : Params) : Obj := ⟨.none, none, (.func { name := z411, qualname := z411, params := sArgs (stAt 6), body := .stmts (sBody (stAt 6)), scope := sScope (stAt 6), globals := 0, closure := [], defaults := .none, kwdefaults := .none, doc := .none, pyModule := .none, annotations := none, code := .none, closureTuple := .none, builtins := 0 }), #[]⟩
noncomputable def o101 (P : Params) : Obj := ⟨(.type y12), none, (.fields #[(.str z411 2309), (.str z411 2310), (.str z174 2311), (.int 10 0), (.int 1 0), (.int 0 0), (.int 0 0), (.int 3 0), (.ref 96), (.bool true), (.int 276 0), (.ref 97), .none, (.ref 98), (.ref 99), (.ref 100), (.int 2314 0), (.int 10 0), (.str z174 2315)]), #[]⟩
noncomputable def o102 (P : Params) : Obj := ⟨(.type y18), none, (.func { name := z411, qualname := z411, params := sArgs (stAt 6), body := .stmts (sBody (stAt 6)), scope := sScope (stAt 6), globals := 3, closure := [], defaults := .none, kwdefaults := .none, doc := .none, pyModule := (.str z222 289), annotations := none, code := (.ref 101), closureTuple := .none, builtins := 0 }), #[]⟩
noncomputable def o103 (P : Params) : Obj := ⟨(.type y1), none, (.seq #[(.int 14 2322), (.int 14 2323), (.int 4 2324), (.int 1 2325), (.int 1 2326), (.int 9 2327), (.int 0 2328), (.int 4227896069 2329), (.int 939524097 2330), (.int 0 2331), (.int 0 2332), (.int 0 2333), (.int 0 2334), (.int 0 2335), (.int 0 2336), (.int 13 2337), (.int 11 2338), (.int 9 2339), (.int 0 2340), (.int 4227896069 2341), (.int 939524097 2342), (.int 0 2343), (.int 0 2344), (.int 0 2345), (.int 0 2346), (.int 0 2347), (.int 0 2348), (.int 1 2349)] 0), #[]⟩
noncomputable def o104 (P : Params) : Obj := ⟨(.type y0), none, (.dict #[] 0), #[]⟩
noncomputable def o105 (P : Params) : Obj := ⟨(.type y6), none, (.seq #[.none] 0), #[]⟩
noncomputable def o106 (P : Params) : Obj := ⟨(.type y6), none, (.seq #[(.int 14 0), (.int 14 0), (.int 4 0), (.int 1 0), (.int 1 0), (.int 9 0), (.int 0 0), (.int 4227896069 0), (.int 939524097 0), (.int 0 0), (.int 0 0), (.int 0 0), (.int 0 0), (.int 0 0), (.int 0 0), (.int 13 0), (.int 11 0), (.int 9 0), (.int 0 0), (.int 4227896069 0), (.int 939524097 0), (.int 0 0), (.int 0 0), (.int 0 0), (.int 0 0), (.int 0 0), (.int 0 0), (.int 1 0)] 0), #[]⟩
noncomputable def o107 (P : Params) : Obj := ⟨(.type y19), none, (.fields #[(.str z427 2320), (.int 32 2351), (.int 0 0), .none, .none, (.ref 106), (.int 0 0)]), #[]⟩
noncomputable def o108 (P : Params) : Obj := ⟨(.type y1), none, (.seq #[(.int 14 2356), (.int 10 2357), (.int 4 2358), (.int 1 2359), (.int 1 2360), (.int 22 2361), (.int 0 2362), (.int 31 2363), (.int 16 2364), (.int 127 2365), (.int 0 2366), (.int 13 2367), (.int 7 2368), (.int 22 2369), (.int 0 2370), (.int 31 2371), (.int 16 2372), (.int 127 2373), (.int 0 2374), (.int 1 2375)] 0), #[]⟩
noncomputable def o109 (P : Params) : Obj := ⟨(.type y0), none, (.dict #[] 0), #[]⟩
noncomputable def o110 (P : Params) : Obj := ⟨(.type y6), none, (.seq #[.none] 0), #[]⟩
noncomputable def o111 (P : Params) : Obj := ⟨(.type y6), none, (.seq #[(.int 14 0), (.int 10 0), (.int 4 0), (.int 1 0), (.int 1 0), (.int 22 0), (.int 0 0), (.int 31 0), (.int 16 0), (.int 127 0), (.int 0 0), (.int 13 0), (.int 7 0), (.int 22 0), (.int 0 0), (.int 31 0), (.int 16 0), (.int 127 0), (.int 0 0), (.int 1 0)] 0), #[]⟩
noncomputable def o112 (P : Params) : Obj := ⟨(.type y19), none, (.fields #[(.str z428 2354), (.int 32 2377), (.int 0 0), .none, .none, (.ref 111), (.int 0 0)]), #[]⟩
noncomputable def o113 (P : Params) : Obj := ⟨(.type y1), none, (.seq #[(.int 14 2382), (.int 14 2383), (.int 4 2384), (.int 1 2385), (.int 1 2386), (.int 9 2387), (.int 4294966783 2388), (.int 0 2389), (.int 0 2390), (.int 2147483648 2391), (.int 0 2392), (.int 0 2393), (.int 0 2394), (.int 0 2395), (.int 0 2396), (.int 13 2397), (.int 11 2398), (.int 9 2399), (.int 4294966783 2400), (.int 0 2401), (.int 0 2402), (.int 2147483648 2403), (.int 0 2404), (.int 0 2405), (.int 0 2406), (.int 0 2407), (.int 0 2408), (.int 1 2409)] 0), #[]⟩
noncomputable def o114 (P : Params) : Obj := ⟨(.type y0), none, (.dict #[] 0), #[]⟩
noncomputable def o115 (P : Params) : Obj := ⟨(.type y6), none, (.seq #[.none] 0), #[]⟩
noncomputable def o116 (P : Params) : Obj := ⟨(.type y6), none, (.seq #[(.int 14 0), (.int 14 0), (.int 4 0), (.int 1 0), (.int 1 0), (.int 9 0), (.int 4294966783 0), (.int 0 0), (.int 0 0), (.int 2147483648 0), (.int 0 0), (.int 0 0), (.int 0 0), (.int 0 0), (.int 0 0), (.int 13 0), (.int 11 0), (.int 9 0), (.int 4294966783 0), (.int 0 0), (.int 0 0), (.int 2147483648 0), (.int 0 0), (.int 0 0), (.int 0 0), (.int 0 0), (.int 0 0), (.int 1 0)] 0), #[]⟩
noncomputable def o117 (P : Params) : Obj := ⟨(.type y19), none, (.fields #[(.str z429 2380), (.int 32 2411), (.int 0 0), .none, .none, (.ref 116), (.int 0 0)]), #[]⟩
noncomputable def o118 (P : Params) : Obj := ⟨(.type y6), none, (.seq #[.none, (.int 1 2413)] 0), #[]⟩
noncomputable def o119 (P : Params) : Obj := ⟨(.type y6), none, (.seq #[] 0), #[]⟩
noncomputable def o120 (P : Params) : Obj := ⟨.none, none, (.fields #[]), #[]⟩
noncomputable def o121 (P : Params) : Obj := ⟨(.type y6), none, (.seq #[(.str z430 2417), (.str z431 2418), (.str z432 2419)] 0), #[]⟩
noncomputable def o122 (P : Params) : Obj := ⟨(.type y6), none, (.seq #[] 0), #[]⟩
noncomputable def o123 (P : Params) : Obj := ⟨.none, none, (.func { name := z415, qualname := z415, params := sArgs (stAt 11), body := .stmts (sBody (stAt 11)), scope := sScope (stAt 11), globals := 0, closure := [], defaults := .none, kwdefaults := .none, doc := .none, pyModule := .none, annotations := none, code := .none, closureTuple := .none, builtins := 0 }), #[]⟩
noncomputable def o124 (P : Params) : Obj := ⟨(.type y12), none, (.fields #[(.str z415 2414), (.str z415 2415), (.str z174 2416), (.int 19 0), (.int 3 0), (.int 0 0), (.int 0 0), (.int 3 0), (.ref 119), (.bool true), (.int 276 0), (.ref 120), .none, (.ref 121), (.ref 122), (.ref 123), (.int 2420 0), (.int 19 0), (.str z174 2421)]), #[]⟩
noncomputable def o125 (P : Params) : Obj := ⟨(.type y18), none, (.func { name := z415, qualname := z415, params := sArgs (stAt 11), body := .stmts (sBody (stAt 11)), scope := sScope (stAt 11), globals := 3, closure := [], defaults := (.ref 118), kwdefaults := .none, doc := .none, pyModule := (.str z433 2317), annotations := none, code := (.ref 124), closureTuple := .none, builtins := 0 }), #[]⟩
noncomputable def o126 (P : Params) : Obj := ⟨(.type y6), none, (.seq #[] 0), #[]⟩
noncomputable def o127 (P : Params) : Obj := ⟨(.type y20), none, (.fields #[(.builtin s10062305145149207511x16), (.type y7)]), #[]⟩
noncomputable def ck235 (P : Params) : List DictEntry := [en P z189 (nat_lit 2430) (.str z433 2317), en P z434 (nat_lit 2432) (.str z416 2431), en P z191 (nat_lit 2434) (.int 28 2433), en P z214 (nat_lit 2444) (.ref 140), en P z435 (nat_lit 2454) (.ref 147), en P z436 (nat_lit 2461) (.ref 154), en P z437 (nat_lit 2470) (.ref 161), en P z438 (nat_lit 2476) (.ref 166)]
noncomputable def ck236 (P : Params) : List DictEntry := [en P z439 (nat_lit 2484) (.ref 173), en P z440 (nat_lit 2492) (.ref 180), en P z441 (nat_lit 2500) (.ref 187), en P z442 (nat_lit 2511) (.ref 195), en P z443 (nat_lit 2517) (.ref 200), en P z444 (nat_lit 2523) (.ref 205), en P z445 (nat_lit 2530) (.ref 212), en P z215 (nat_lit 2537) (.ref 219)]
noncomputable def ck237 (P : Params) : List DictEntry := [en P z446 (nat_lit 2543) (.ref 224), en P z447 (nat_lit 2550) (.ref 231), en P z448 (nat_lit 2559) (.ref 238), en P z449 (nat_lit 2572) (.ref 245), en P z201 (nat_lit 2574) (.ref 246)]
noncomputable def o128 (P : Params) : Obj := ⟨(.type y0), none, (.dict ((ck235 P) ++ ((ck236 P) ++ (ck237 P))).toArray 21), #[]⟩
noncomputable def o129 (P : Params) : Obj := ⟨(.type y6), none, (.seq #[] 0), #[]⟩
noncomputable def o130 (P : Params) : Obj := ⟨.none, none, (.fields #[(.int 30 0), (.int 4 0), (.ref 139), (.int 40 0), (.int 4 0), (.ref 146), (.int 48 0), (.int 4 0), (.ref 153), (.int 51 0), (.int 4 0), (.ref 160), (.int 55 0), (.int 4 0), (.ref 165), (.int 59 0), (.int 4 0), (.ref 172), (.int 62 0), (.int 4 0), (.ref 179), (.int 65 0), (.int 4 0), (.ref 186), (.int 68 0), (.int 4 0), (.ref 194), (.int 75 0), (.int 4 0), (.ref 199), (.int 78 0), (.int 4 0), (.ref 204), (.int 81 0), (.int 4 0), (.ref 211), (.int 84 0), (.int 4 0), (.ref 218), (.int 87 0), (.int 4 0), (.ref 223), (.int 90 0), (.int 4 0), (.ref 230), (.int 93 0), (.int 4 0), (.ref 237), (.int 96 0), (.int 4 0), (.ref 244)]), #[]⟩
noncomputable def o131 (P : Params) : Obj := ⟨(.type y12), none, (.fields #[(.str z416 2425), (.str z416 2426), (.str z174 2427), (.int 28 0), (.int 0 0), (.int 0 0), (.int 0 0), (.int 0 0), (.ref 129), (.bool false), (.int 276 0), (.ref 130), .none, .none, .none, .none, (.int 2428 0), (.int 28 0), (.str z174 2429)]), #[]⟩
noncomputable def o132 (P : Params) : Obj := ⟨(.type y13), none, .plain, #[(some (.ref 131)), (some (.ref 3)), (some (.ref 128)), none, (some (.str z433 2317)), none, (some (.ref 0))]⟩
noncomputable def o133 (P : Params) : Obj := ⟨(.type y6), none, (.seq #[.none] 0), #[]⟩
noncomputable def o134 (P : Params) : Obj := ⟨(.type y6), none, (.seq #[] 0), #[]⟩
noncomputable def o135 (P : Params) : Obj := ⟨.none, none, (.fields #[]), #[]⟩
noncomputable def o136 (P : Params) : Obj := ⟨(.type y6), none, (.seq #[(.str z450 2438), (.str z451 2439), (.str z226 2440), (.str z394 2441)] 0), #[]⟩
noncomputable def o137 (P : Params) : Obj := ⟨(.type y6), none, (.seq #[] 0), #[]⟩
noncomputable def o138 (P : Params) : Obj := ⟨.none, none, (.func { name := z214, qualname := z452, params := sArgs (stIn 12 0), body := .stmts (sBody (stIn 12 0)), scope := sScope (stIn 12 0), globals := 0, closure := [], defaults := .none, kwdefaults := .none, doc := .none, pyModule := .none, annotations := none, code := .none, closureTuple := .none, builtins := 0 }), #[]⟩
noncomputable def o139 (P : Params) : Obj := ⟨(.type y12), none, (.fields #[(.str z214 2435), (.str z452 2436), (.str z174 2437), (.int 30 0), (.int 2 0), (.int 0 0), (.int 0 0), (.int 3 0), (.ref 134), (.bool true), (.int 276 0), (.ref 135), .none, (.ref 136), (.ref 137), (.ref 138), (.int 2442 0), (.int 30 0), (.str z174 2443)]), #[]⟩
noncomputable def o140 (P : Params) : Obj := ⟨(.type y18), none, (.func { name := z214, qualname := z452, params := sArgs (stIn 12 0), body := .stmts (sBody (stIn 12 0)), scope := sScope (stIn 12 0), globals := 3, closure := [], defaults := (.ref 133), kwdefaults := .none, doc := .none, pyModule := (.str z433 2317), annotations := none, code := (.ref 139), closureTuple := .none, builtins := 0 }), #[]⟩
noncomputable def o141 (P : Params) : Obj := ⟨(.type y6), none, (.seq #[] 0), #[]⟩
noncomputable def o142 (P : Params) : Obj := ⟨.none, none, (.fields #[]), #[]⟩
noncomputable def o143 (P : Params) : Obj := ⟨(.type y6), none, (.seq #[(.str z450 2448), (.str z431 2449), (.str z205 2450), (.str z453 2451)] 0), #[]⟩
noncomputable def o144 (P : Params) : Obj := ⟨(.type y6), none, (.seq #[] 0), #[]⟩
noncomputable def o145 (P : Params) : Obj := ⟨.none, none, (.func { name := z435, qualname := z454, params := sArgs (stIn 12 1), body := .stmts (sBody (stIn 12 1)), scope := sScope (stIn 12 1), globals := 0, closure := [], defaults := .none, kwdefaults := .none, doc := .none, pyModule := .none, annotations := none, code := .none, closureTuple := .none, builtins := 0 }), #[]⟩
noncomputable def o146 (P : Params) : Obj := ⟨(.type y12), none, (.fields #[(.str z435 2445), (.str z454 2446), (.str z174 2447), (.int 40 0), (.int 2 0), (.int 0 0), (.int 1 0), (.int 3 0), (.ref 141), (.bool true), (.int 276 0), (.ref 142), .none, (.ref 143), (.ref 144), (.ref 145), (.int 2452 0), (.int 40 0), (.str z174 2453)]), #[]⟩
noncomputable def o147 (P : Params) : Obj := ⟨(.type y18), none, (.func { name := z435, qualname := z454, params := sArgs (stIn 12 1), body := .stmts (sBody (stIn 12 1)), scope := sScope (stIn 12 1), globals := 3, closure := [], defaults := .none, kwdefaults := .none, doc := .none, pyModule := (.str z433 2317), annotations := none, code := (.ref 146), closureTuple := .none, builtins := 0 }), #[]⟩
noncomputable def o148 (P : Params) : Obj := ⟨(.type y6), none, (.seq #[] 0), #[]⟩
noncomputable def o149 (P : Params) : Obj := ⟨.none, none, (.fields #[]), #[]⟩
noncomputable def o150 (P : Params) : Obj := ⟨(.type y6), none, (.seq #[(.str z450 2458)] 0), #[]⟩
noncomputable def o151 (P : Params) : Obj := ⟨(.type y6), none, (.seq #[] 0), #[]⟩
noncomputable def o152 (P : Params) : Obj := ⟨.none, none, (.func { name := z436, qualname := z455, params := sArgs (stIn 12 2), body := .stmts (sBody (stIn 12 2)), scope := sScope (stIn 12 2), globals := 0, closure := [], defaults := .none, kwdefaults := .none, doc := .none, pyModule := .none, annotations := none, code := .none, closureTuple := .none, builtins := 0 }), #[]⟩
noncomputable def o153 (P : Params) : Obj := ⟨(.type y12), none, (.fields #[(.str z436 2455), (.str z455 2456), (.str z174 2457), (.int 48 0), (.int 1 0), (.int 0 0), (.int 0 0), (.int 3 0), (.ref 148), (.bool true), (.int 276 0), (.ref 149), .none, (.ref 150), (.ref 151), (.ref 152), (.int 2459 0), (.int 48 0), (.str z174 2460)]), #[]⟩
noncomputable def o154 (P : Params) : Obj := ⟨(.type y18), none, (.func { name := z436, qualname := z455, params := sArgs (stIn 12 2), body := .stmts (sBody (stIn 12 2)), scope := sScope (stIn 12 2), globals := 3, closure := [], defaults := .none, kwdefaults := .none, doc := .none, pyModule := (.str z433 2317), annotations := none, code := (.ref 153), closureTuple := .none, builtins := 0 }), #[]⟩
noncomputable def o155 (P : Params) : Obj := ⟨(.type y6), none, (.seq #[] 0), #[]⟩
noncomputable def o156 (P : Params) : Obj := ⟨.none, none, (.fields #[]), #[]⟩
noncomputable def o157 (P : Params) : Obj := ⟨(.type y6), none, (.seq #[(.str z450 2465), (.str z205 2466), (.str z456 2467)] 0), #[]⟩
noncomputable def o158 (P : Params) : Obj := ⟨(.type y6), none, (.seq #[] 0), #[]⟩
noncomputable def o159 (P : Params) : Obj := ⟨.none, none, (.func { name := z437, qualname := z457, params := sArgs (stIn 12 3), body := .stmts (sBody (stIn 12 3)), scope := sScope (stIn 12 3), globals := 0, closure := [], defaults := .none, kwdefaults := .none, doc := .none, pyModule := .none, annotations := none, code := .none, closureTuple := .none, builtins := 0 }), #[]⟩
noncomputable def o160 (P : Params) : Obj := ⟨(.type y12), none, (.fields #[(.str z437 2462), (.str z457 2463), (.str z174 2464), (.int 51 0), (.int 3 0), (.int 0 0), (.int 0 0), (.int 3 0), (.ref 155), (.bool true), (.int 276 0), (.ref 156), .none, (.ref 157), (.ref 158), (.ref 159), (.int 2468 0), (.int 51 0), (.str z174 2469)]), #[]⟩
noncomputable def o161 (P : Params) : Obj := ⟨(.type y18), none, (.func { name := z437, qualname := z457, params := sArgs (stIn 12 3), body := .stmts (sBody (stIn 12 3)), scope := sScope (stIn 12 3), globals := 3, closure := [], defaults := .none, kwdefaults := .none, doc := .none, pyModule := (.str z433 2317), annotations := none, code := (.ref 160), closureTuple := .none, builtins := 0 }), #[]⟩
noncomputable def o162 (P : Params) : Obj := ⟨(.type y6), none, (.seq #[] 0), #[]⟩
noncomputable def o163 (P : Params) : Obj := ⟨.none, none, (.fields #[]), #[]⟩
noncomputable def o164 (P : Params) : Obj := ⟨.none, none, (.func { name := z438, qualname := z458, params := sArgs (stIn 12 4), body := .stmts (sBody (stIn 12 4)), scope := sScope (stIn 12 4), globals := 0, closure := [], defaults := .none, kwdefaults := .none, doc := .none, pyModule := .none, annotations := none, code := .none, closureTuple := .none, builtins := 0 }), #[]⟩
noncomputable def o165 (P : Params) : Obj := ⟨(.type y12), none, (.fields #[(.str z438 2471), (.str z458 2472), (.str z174 2473), (.int 55 0), (.int 2 0), (.int 0 0), (.int 0 0), (.int 3 0), (.ref 162), (.bool true), (.int 276 0), (.ref 163), .none, .none, .none, (.ref 164), (.int 2474 0), (.int 55 0), (.str z174 2475)]), #[]⟩
noncomputable def o166 (P : Params) : Obj := ⟨(.type y18), none, (.func { name := z438, qualname := z458, params := sArgs (stIn 12 4), body := .stmts (sBody (stIn 12 4)), scope := sScope (stIn 12 4), globals := 3, closure := [], defaults := .none, kwdefaults := .none, doc := .none, pyModule := (.str z433 2317), annotations := none, code := (.ref 165), closureTuple := .none, builtins := 0 }), #[]⟩
noncomputable def o167 (P : Params) : Obj := ⟨(.type y6), none, (.seq #[] 0), #[]⟩
noncomputable def o168 (P : Params) : Obj := ⟨.none, none, (.fields #[]), #[]⟩
noncomputable def o169 (P : Params) : Obj := ⟨(.type y6), none, (.seq #[(.str z450 2480), (.str z205 2481)] 0), #[]⟩
noncomputable def o170 (P : Params) : Obj := ⟨(.type y6), none, (.seq #[] 0), #[]⟩
noncomputable def o171 (P : Params) : Obj := ⟨.none, none, (.func { name := z439, qualname := z459, params := sArgs (stIn 12 5), body := .stmts (sBody (stIn 12 5)), scope := sScope (stIn 12 5), globals := 0, closure := [], defaults := .none, kwdefaults := .none, doc := .none, pyModule := .none, annotations := none, code := .none, closureTuple := .none, builtins := 0 }), #[]⟩
noncomputable def o172 (P : Params) : Obj := ⟨(.type y12), none, (.fields #[(.str z439 2477), (.str z459 2478), (.str z174 2479), (.int 59 0), (.int 2 0), (.int 0 0), (.int 0 0), (.int 3 0), (.ref 167), (.bool true), (.int 276 0), (.ref 168), .none, (.ref 169), (.ref 170), (.ref 171), (.int 2482 0), (.int 59 0), (.str z174 2483)]), #[]⟩
noncomputable def o173 (P : Params) : Obj := ⟨(.type y18), none, (.func { name := z439, qualname := z459, params := sArgs (stIn 12 5), body := .stmts (sBody (stIn 12 5)), scope := sScope (stIn 12 5), globals := 3, closure := [], defaults := .none, kwdefaults := .none, doc := .none, pyModule := (.str z433 2317), annotations := none, code := (.ref 172), closureTuple := .none, builtins := 0 }), #[]⟩
noncomputable def o174 (P : Params) : Obj := ⟨(.type y6), none, (.seq #[] 0), #[]⟩
noncomputable def o175 (P : Params) : Obj := ⟨.none, none, (.fields #[]), #[]⟩
noncomputable def o176 (P : Params) : Obj := ⟨(.type y6), none, (.seq #[(.str z450 2488), (.str z205 2489)] 0), #[]⟩
noncomputable def o177 (P : Params) : Obj := ⟨(.type y6), none, (.seq #[] 0), #[]⟩
noncomputable def o178 (P : Params) : Obj := ⟨.none, none, (.func { name := z440, qualname := z460, params := sArgs (stIn 12 6), body := .stmts (sBody (stIn 12 6)), scope := sScope (stIn 12 6), globals := 0, closure := [], defaults := .none, kwdefaults := .none, doc := .none, pyModule := .none, annotations := none, code := .none, closureTuple := .none, builtins := 0 }), #[]⟩
noncomputable def o179 (P : Params) : Obj := ⟨(.type y12), none, (.fields #[(.str z440 2485), (.str z460 2486), (.str z174 2487), (.int 62 0), (.int 2 0), (.int 0 0), (.int 0 0), (.int 3 0), (.ref 174), (.bool true), (.int 276 0), (.ref 175), .none, (.ref 176), (.ref 177), (.ref 178), (.int 2490 0), (.int 62 0), (.str z174 2491)]), #[]⟩
noncomputable def o180 (P : Params) : Obj := ⟨(.type y18), none, (.func { name := z440, qualname := z460, params := sArgs (stIn 12 6), body := .stmts (sBody (stIn 12 6)), scope := sScope (stIn 12 6), globals := 3, closure := [], defaults := .none, kwdefaults := .none, doc := .none, pyModule := (.str z433 2317), annotations := none, code := (.ref 179), closureTuple := .none, builtins := 0 }), #[]⟩
noncomputable def o181 (P : Params) : Obj := ⟨(.type y6), none, (.seq #[] 0), #[]⟩
noncomputable def o182 (P : Params) : Obj := ⟨.none, none, (.fields #[]), #[]⟩
noncomputable def o183 (P : Params) : Obj := ⟨(.type y6), none, (.seq #[(.str z450 2496), (.str z205 2497)] 0), #[]⟩
noncomputable def o184 (P : Params) : Obj := ⟨(.type y6), none, (.seq #[] 0), #[]⟩
noncomputable def o185 (P : Params) : Obj := ⟨.none, none, (.func { name := z441, qualname := z461, params := sArgs (stIn 12 7), body := .stmts (sBody (stIn 12 7)), scope := sScope (stIn 12 7), globals := 0, closure := [], defaults := .none, kwdefaults := .none, doc := .none, pyModule := .none, annotations := none, code := .none, closureTuple := .none, builtins := 0 }), #[]⟩
noncomputable def o186 (P : Params) : Obj := ⟨(.type y12), none, (.fields #[(.str z441 2493), (.str z461 2494), (.str z174 2495), (.int 65 0), (.int 2 0), (.int 0 0), (.int 0 0), (.int 3 0), (.ref 181), (.bool true), (.int 276 0), (.ref 182), .none, (.ref 183), (.ref 184), (.ref 185), (.int 2498 0), (.int 65 0), (.str z174 2499)]), #[]⟩
noncomputable def o187 (P : Params) : Obj := ⟨(.type y18), none, (.func { name := z441, qualname := z461, params := sArgs (stIn 12 7), body := .stmts (sBody (stIn 12 7)), scope := sScope (stIn 12 7), globals := 3, closure := [], defaults := .none, kwdefaults := .none, doc := .none, pyModule := (.str z433 2317), annotations := none, code := (.ref 186), closureTuple := .none, builtins := 0 }), #[]⟩
noncomputable def o188 (P : Params) : Obj := ⟨(.type y6), none, (.seq #[.none] 0), #[]⟩
noncomputable def o189 (P : Params) : Obj := ⟨(.type y6), none, (.seq #[] 0), #[]⟩
noncomputable def o190 (P : Params) : Obj := ⟨.none, none, (.fields #[]), #[]⟩
noncomputable def o191 (P : Params) : Obj := ⟨(.type y6), none, (.seq #[(.str z450 2504), (.str z205 2505), (.str z462 2506), (.str z226 2507), (.str z394 2508)] 0), #[]⟩
noncomputable def o192 (P : Params) : Obj := ⟨(.type y6), none, (.seq #[] 0), #[]⟩
noncomputable def o193 (P : Params) : Obj := ⟨.none, none, (.func { name := z442, qualname := z463, params := sArgs (stIn 12 8), body := .stmts (sBody (stIn 12 8)), scope := sScope (stIn 12 8), globals := 0, closure := [], defaults := .none, kwdefaults := .none, doc := .none, pyModule := .none, annotations := none, code := .none, closureTuple := .none, builtins := 0 }), #[]⟩
noncomputable def o194 (P : Params) : Obj := ⟨(.type y12), none, (.fields #[(.str z442 2501), (.str z463 2502), (.str z174 2503), (.int 68 0), (.int 3 0), (.int 0 0), (.int 0 0), (.int 3 0), (.ref 189), (.bool true), (.int 276 0), (.ref 190), .none, (.ref 191), (.ref 192), (.ref 193), (.int 2509 0), (.int 68 0), (.str z174 2510)]), #[]⟩
noncomputable def o195 (P : Params) : Obj := ⟨(.type y18), none, (.func { name := z442, qualname := z463, params := sArgs (stIn 12 8), body := .stmts (sBody (stIn 12 8)), scope := sScope (stIn 12 8), globals := 3, closure := [], defaults := (.ref 188), kwdefaults := .none, doc := .none, pyModule := (.str z433 2317), annotations := none, code := (.ref 194), closureTuple := .none, builtins := 0 }), #[]⟩
noncomputable def o196 (P : Params) : Obj := ⟨(.type y6), none, (.seq #[] 0), #[]⟩
noncomputable def o197 (P : Params) : Obj := ⟨.none, none, (.fields #[]), #[]⟩
noncomputable def o198 (P : Params) : Obj := ⟨.none, none, (.func { name := z443, qualname := z464, params := sArgs (stIn 12 9), body := .stmts (sBody (stIn 12 9)), scope := sScope (stIn 12 9), globals := 0, closure := [], defaults := .none, kwdefaults := .none, doc := .none, pyModule := .none, annotations := none, code := .none, closureTuple := .none, builtins := 0 }), #[]⟩
noncomputable def o199 (P : Params) : Obj := ⟨(.type y12), none, (.fields #[(.str z443 2512), (.str z464 2513), (.str z174 2514), (.int 75 0), (.int 1 0), (.int 0 0), (.int 0 0), (.int 3 0), (.ref 196), (.bool true), (.int 276 0), (.ref 197), .none, .none, .none, (.ref 198), (.int 2515 0), (.int 75 0), (.str z174 2516)]), #[]⟩
noncomputable def o200 (P : Params) : Obj := ⟨(.type y18), none, (.func { name := z443, qualname := z464, params := sArgs (stIn 12 9), body := .stmts (sBody (stIn 12 9)), scope := sScope (stIn 12 9), globals := 3, closure := [], defaults := .none, kwdefaults := .none, doc := .none, pyModule := (.str z433 2317), annotations := none, code := (.ref 199), closureTuple := .none, builtins := 0 }), #[]⟩
noncomputable def o201 (P : Params) : Obj := ⟨(.type y6), none, (.seq #[] 0), #[]⟩
noncomputable def o202 (P : Params) : Obj := ⟨.none, none, (.fields #[]), #[]⟩
noncomputable def o203 (P : Params) : Obj := ⟨.none, none, (.func { name := z444, qualname := z465, params := sArgs (stIn 12 10), body := .stmts (sBody (stIn 12 10)), scope := sScope (stIn 12 10), globals := 0, closure := [], defaults := .none, kwdefaults := .none, doc := .none, pyModule := .none, annotations := none, code := .none, closureTuple := .none, builtins := 0 }), #[]⟩
noncomputable def o204 (P : Params) : Obj := ⟨(.type y12), none, (.fields #[(.str z444 2518), (.str z465 2519), (.str z174 2520), (.int 78 0), (.int 1 0), (.int 0 0), (.int 0 0), (.int 3 0), (.ref 201), (.bool true), (.int 276 0), (.ref 202), .none, .none, .none, (.ref 203), (.int 2521 0), (.int 78 0), (.str z174 2522)]), #[]⟩
noncomputable def o205 (P : Params) : Obj := ⟨(.type y18), none, (.func { name := z444, qualname := z465, params := sArgs (stIn 12 10), body := .stmts (sBody (stIn 12 10)), scope := sScope (stIn 12 10), globals := 3, closure := [], defaults := .none, kwdefaults := .none, doc := .none, pyModule := (.str z433 2317), annotations := none, code := (.ref 204), closureTuple := .none, builtins := 0 }), #[]⟩
noncomputable def o206 (P : Params) : Obj := ⟨(.type y6), none, (.seq #[] 0), #[]⟩
noncomputable def o207 (P : Params) : Obj := ⟨.none, none, (.fields #[]), #[]⟩
noncomputable def o208 (P : Params) : Obj := ⟨(.type y6), none, (.seq #[(.str z450 2527)] 0), #[]⟩
noncomputable def o209 (P : Params) : Obj := ⟨(.type y6), none, (.seq #[] 0), #[]⟩
noncomputable def o210 (P : Params) : Obj := ⟨.none, none, (.func { name := z445, qualname := z466, params := sArgs (stIn 12 11), body := .stmts (sBody (stIn 12 11)), scope := sScope (stIn 12 11), globals := 0, closure := [], defaults := .none, kwdefaults := .none, doc := .none, pyModule := .none, annotations := none, code := .none, closureTuple := .none, builtins := 0 }), #[]⟩
noncomputable def o211 (P : Params) : Obj := ⟨(.type y12), none, (.fields #[(.str z445 2524), (.str z466 2525), (.str z174 2526), (.int 81 0), (.int 1 0), (.int 0 0), (.int 0 0), (.int 3 0), (.ref 206), (.bool true), (.int 276 0), (.ref 207), .none, (.ref 208), (.ref 209), (.ref 210), (.int 2528 0), (.int 81 0), (.str z174 2529)]), #[]⟩
noncomputable def o212 (P : Params) : Obj := ⟨(.type y18), none, (.func { name := z445, qualname := z466, params := sArgs (stIn 12 11), body := .stmts (sBody (stIn 12 11)), scope := sScope (stIn 12 11), globals := 3, closure := [], defaults := .none, kwdefaults := .none, doc := .none, pyModule := (.str z433 2317), annotations := none, code := (.ref 211), closureTuple := .none, builtins := 0 }), #[]⟩
noncomputable def o213 (P : Params) : Obj := ⟨(.type y6), none, (.seq #[] 0), #[]⟩
noncomputable def o214 (P : Params) : Obj := ⟨.none, none, (.fields #[]), #[]⟩
noncomputable def o215 (P : Params) : Obj := ⟨(.type y6), none, (.seq #[(.str z450 2534)] 0), #[]⟩
noncomputable def o216 (P : Params) : Obj := ⟨(.type y6), none, (.seq #[] 0), #[]⟩
noncomputable def o217 (P : Params) : Obj := ⟨.none, none, (.func { name := z215, qualname := z467, params := sArgs (stIn 12 12), body := .stmts (sBody (stIn 12 12)), scope := sScope (stIn 12 12), globals := 0, closure := [], defaults := .none, kwdefaults := .none, doc := .none, pyModule := .none, annotations := none, code := .none, closureTuple := .none, builtins := 0 }), #[]⟩
noncomputable def o218 (P : Params) : Obj := ⟨(.type y12), none, (.fields #[(.str z215 2531), (.str z467 2532), (.str z174 2533), (.int 84 0), (.int 1 0), (.int 0 0), (.int 0 0), (.int 3 0), (.ref 213), (.bool true), (.int 276 0), (.ref 214), .none, (.ref 215), (.ref 216), (.ref 217), (.int 2535 0), (.int 84 0), (.str z174 2536)]), #[]⟩
noncomputable def o219 (P : Params) : Obj := ⟨(.type y18), none, (.func { name := z215, qualname := z467, params := sArgs (stIn 12 12), body := .stmts (sBody (stIn 12 12)), scope := sScope (stIn 12 12), globals := 3, closure := [], defaults := .none, kwdefaults := .none, doc := .none, pyModule := (.str z433 2317), annotations := none, code := (.ref 218), closureTuple := .none, builtins := 0 }), #[]⟩
noncomputable def o220 (P : Params) : Obj := ⟨(.type y6), none, (.seq #[] 0), #[]⟩
noncomputable def o221 (P : Params) : Obj := ⟨.none, none, (.fields #[]), #[]⟩
noncomputable def o222 (P : Params) : Obj := ⟨.none, none, (.func { name := z446, qualname := z468, params := sArgs (stIn 12 13), body := .stmts (sBody (stIn 12 13)), scope := sScope (stIn 12 13), globals := 0, closure := [], defaults := .none, kwdefaults := .none, doc := .none, pyModule := .none, annotations := none, code := .none, closureTuple := .none, builtins := 0 }), #[]⟩
noncomputable def o223 (P : Params) : Obj := ⟨(.type y12), none, (.fields #[(.str z446 2538), (.str z468 2539), (.str z174 2540), (.int 87 0), (.int 1 0), (.int 0 0), (.int 0 0), (.int 3 0), (.ref 220), (.bool true), (.int 276 0), (.ref 221), .none, .none, .none, (.ref 222), (.int 2541 0), (.int 87 0), (.str z174 2542)]), #[]⟩
noncomputable def o224 (P : Params) : Obj := ⟨(.type y18), none, (.func { name := z446, qualname := z468, params := sArgs (stIn 12 13), body := .stmts (sBody (stIn 12 13)), scope := sScope (stIn 12 13), globals := 3, closure := [], defaults := .none, kwdefaults := .none, doc := .none, pyModule := (.str z433 2317), annotations := none, code := (.ref 223), closureTuple := .none, builtins := 0 }), #[]⟩
noncomputable def o225 (P : Params) : Obj := ⟨(.type y6), none, (.seq #[] 0), #[]⟩
noncomputable def o226 (P : Params) : Obj := ⟨.none, none, (.fields #[]), #[]⟩
noncomputable def o227 (P : Params) : Obj := ⟨(.type y6), none, (.seq #[(.str z450 2547)] 0), #[]⟩
noncomputable def o228 (P : Params) : Obj := ⟨(.type y6), none, (.seq #[] 0), #[]⟩
noncomputable def o229 (P : Params) : Obj := ⟨.none, none, (.func { name := z447, qualname := z469, params := sArgs (stIn 12 14), body := .stmts (sBody (stIn 12 14)), scope := sScope (stIn 12 14), globals := 0, closure := [], defaults := .none, kwdefaults := .none, doc := .none, pyModule := .none, annotations := none, code := .none, closureTuple := .none, builtins := 0 }), #[]⟩
noncomputable def o230 (P : Params) : Obj := ⟨(.type y12), none, (.fields #[(.str z447 2544), (.str z469 2545), (.str z174 2546), (.int 90 0), (.int 1 0), (.int 0 0), (.int 0 0), (.int 3 0), (.ref 225), (.bool true), (.int 276 0), (.ref 226), .none, (.ref 227), (.ref 228), (.ref 229), (.int 2548 0), (.int 90 0), (.str z174 2549)]), #[]⟩
noncomputable def o231 (P : Params) : Obj := ⟨(.type y18), none, (.func { name := z447, qualname := z469, params := sArgs (stIn 12 14), body := .stmts (sBody (stIn 12 14)), scope := sScope (stIn 12 14), globals := 3, closure := [], defaults := .none, kwdefaults := .none, doc := .none, pyModule := (.str z433 2317), annotations := none, code := (.ref 230), closureTuple := .none, builtins := 0 }), #[]⟩
noncomputable def o232 (P : Params) : Obj := ⟨(.type y6), none, (.seq #[] 0), #[]⟩
noncomputable def o233 (P : Params) : Obj := ⟨.none, none, (.fields #[]), #[]⟩
noncomputable def o234 (P : Params) : Obj := ⟨(.type y6), none, (.seq #[(.str z450 2554), (.str z205 2555), (.str z431 2556)] 0), #[]⟩
noncomputable def o235 (P : Params) : Obj := ⟨(.type y6), none, (.seq #[] 0), #[]⟩
noncomputable def o236 (P : Params) : Obj := ⟨.none, none, (.func { name := z448, qualname := z470, params := sArgs (stIn 12 15), body := .stmts (sBody (stIn 12 15)), scope := sScope (stIn 12 15), globals := 0, closure := [], defaults := .none, kwdefaults := .none, doc := .none, pyModule := .none, annotations := none, code := .none, closureTuple := .none, builtins := 0 }), #[]⟩
noncomputable def o237 (P : Params) : Obj := ⟨(.type y12), none, (.fields #[(.str z448 2551), (.str z470 2552), (.str z174 2553), (.int 93 0), (.int 3 0), (.int 0 0), (.int 0 0), (.int 3 0), (.ref 232), (.bool true), (.int 276 0), (.ref 233), .none, (.ref 234), (.ref 235), (.ref 236), (.int 2557 0), (.int 93 0), (.str z174 2558)]), #[]⟩
noncomputable def o238 (P : Params) : Obj := ⟨(.type y18), none, (.func { name := z448, qualname := z470, params := sArgs (stIn 12 15), body := .stmts (sBody (stIn 12 15)), scope := sScope (stIn 12 15), globals := 3, closure := [], defaults := .none, kwdefaults := .none, doc := .none, pyModule := (.str z433 2317), annotations := none, code := (.ref 237), closureTuple := .none, builtins := 0 }), #[]⟩
noncomputable def o239 (P : Params) : Obj := ⟨(.type y6), none, (.seq #[] 0), #[]⟩
noncomputable def o240 (P : Params) : Obj := ⟨.none, none, (.fields #[]), #[]⟩
noncomputable def o241 (P : Params) : Obj := ⟨(.type y6), none, (.seq #[(.str z450 2563), (.str z471 2564), (.str z472 2565), (.str z473 2566), (.str z474 2567), (.str z226 2568), (.str z394 2569)] 0), #[]⟩
noncomputable def o242 (P : Params) : Obj := ⟨(.type y6), none, (.seq #[] 0), #[]⟩
noncomputable def o243 (P : Params) : Obj := ⟨.none, none, (.func { name := z449, qualname := z475, params := sArgs (stIn 12 16), body := .stmts (sBody (stIn 12 16)), scope := sScope (stIn 12 16), globals := 0, closure := [], defaults := .none, kwdefaults := .none, doc := .none, pyModule := .none, annotations := none, code := .none, closureTuple := .none, builtins := 0 }), #[]⟩
noncomputable def o244 (P : Params) : Obj := ⟨(.type y12), none, (.fields #[(.str z449 2560), (.str z475 2561), (.str z174 2562), (.int 96 0), (.int 3 0), (.int 0 0), (.int 0 0), (.int 11 0), (.ref 239), (.bool true), (.int 276 0), (.ref 240), .none, (.ref 241), (.ref 242), (.ref 243), (.int 2570 0), (.int 96 0), (.str z174 2571)]), #[]⟩
noncomputable def o245 (P : Params) : Obj := ⟨(.type y18), none, (.func { name := z449, qualname := z475, params := sArgs (stIn 12 16), body := .stmts (sBody (stIn 12 16)), scope := sScope (stIn 12 16), globals := 3, closure := [], defaults := .none, kwdefaults := .none, doc := .none, pyModule := (.str z433 2317), annotations := none, code := (.ref 244), closureTuple := .none, builtins := 0 }), #[]⟩
noncomputable def o246 (P : Params) : Obj := ⟨(.type y6), none, (.seq #[(.str z476 2573)] 0), #[]⟩
noncomputable def ck238 (P : Params) : List DictEntry := [en P z189 (nat_lit 2430) (.str z433 2317), en P z191 (nat_lit 2434) (.int 28 2433), en P z214 (nat_lit 2444) (.ref 140), en P z435 (nat_lit 2454) (.ref 147), en P z436 (nat_lit 2461) (.ref 154), en P z437 (nat_lit 2470) (.ref 161), en P z438 (nat_lit 2476) (.ref 166), en P z439 (nat_lit 2484) (.ref 173)]
noncomputable def ck239 (P : Params) : List DictEntry := [en P z440 (nat_lit 2492) (.ref 180), en P z441 (nat_lit 2500) (.ref 187), en P z442 (nat_lit 2511) (.ref 195), en P z443 (nat_lit 2517) (.ref 200), en P z444 (nat_lit 2523) (.ref 205), en P z445 (nat_lit 2530) (.ref 212), en P z215 (nat_lit 2537) (.ref 219), en P z446 (nat_lit 2543) (.ref 224)]
noncomputable def ck240 (P : Params) : List DictEntry := [en P z447 (nat_lit 2550) (.ref 231), en P z448 (nat_lit 2559) (.ref 238), en P z449 (nat_lit 2572) (.ref 245), en P z201 (nat_lit 2574) (.ref 246), en P z202 (nat_lit 2576) (.ref 249), en P z203 (nat_lit 2578) (.ref 250), en P z2 (nat_lit 2579) .none]
noncomputable def o247 (P : Params) : Obj := ⟨(.type y0), none, (.dict ((ck238 P) ++ ((ck239 P) ++ (ck240 P))).toArray 4), #[]⟩
noncomputable def o248 (P : Params) : Obj := ⟨(.type y7), none, (.cls { name := z416, bases := [(.type y2)], mro := [(.ref 248), (.type y2)], ns := 247, qualname := z416, hasDict := true, slotNames := [], subclasses := [], abstract := false, collection := none, hasDel := false }), #[none, none, (some (.str z416 2423)), (some (.str z416 2431)), (some (.builtin s11443829558043349243x14)), (some (.bool true))]⟩
noncomputable def o249 (P : Params) : Obj := ⟨(.type y14), none, (.fields #[(.str z202 2575), (.ref 248), (.builtin y15), (.builtin y16)]), #[]⟩
noncomputable def o250 (P : Params) : Obj := ⟨(.type y14), none, (.fields #[(.str z203 2577), (.ref 248), (.builtin y17), .none]), #[]⟩
noncomputable def o251 (P : Params) : Obj := ⟨(.type y5), none, (.fields #[(.ref 248), (.ref 248), (.ref 248)]), #[]⟩
noncomputable def o252 (P : Params) : Obj := ⟨(.type y20), none, (.fields #[(.builtin s4860613602091757760x24), (.ref 248)]), #[]⟩
noncomputable def o253 (P : Params) : Obj := ⟨(.type y6), none, (.seq #[] 0), #[]⟩
noncomputable def o254 (P : Params) : Obj := ⟨.none, none, (.fields #[]), #[]⟩
noncomputable def o255 (P : Params) : Obj := ⟨.none, none, (.func { name := z417, qualname := z417, params := sArgs (stAt 14), body := .stmts (sBody (stAt 14)), scope := sScope (stAt 14), globals := 0, closure := [], defaults := .none, kwdefaults := .none, doc := .none, pyModule := .none, annotations := none, code := .none, closureTuple := .none, builtins := 0 }), #[]⟩
noncomputable def o256 (P : Params) : Obj := ⟨(.type y12), none, (.fields #[(.str z417 2584), (.str z417 2585), (.str z174 2586), (.int 110 0), (.int 1 0), (.int 0 0), (.int 0 0), (.int 3 0), (.ref 253), (.bool true), (.int 276 0), (.ref 254), .none, .none, .none, (.ref 255), (.int 2587 0), (.int 110 0), (.str z174 2588)]), #[]⟩
noncomputable def o257 (P : Params) : Obj := ⟨(.type y18), none, (.func { name := z417, qualname := z417, params := sArgs (stAt 14), body := .stmts (sBody (stAt 14)), scope := sScope (stAt 14), globals := 3, closure := [], defaults := .none, kwdefaults := .none, doc := .none, pyModule := (.str z410 2582), annotations := none, code := (.ref 256), closureTuple := .none, builtins := 0 }), #[]⟩
noncomputable def o258 (P : Params) : Obj := ⟨(.type y6), none, (.seq #[] 0), #[]⟩
noncomputable def o259 (P : Params) : Obj := ⟨.none, none, (.fields #[]), #[]⟩
noncomputable def o260 (P : Params) : Obj := ⟨(.type y6), none, (.seq #[(.str z227 2593), (.str z477 2594)] 0), #[]⟩
noncomputable def o261 (P : Params) : Obj := ⟨(.type y6), none, (.seq #[] 0), #[]⟩
noncomputable def o262 (P : Params) : Obj := ⟨.none, none, (.func { name := z418, qualname := z418, params := sArgs (stAt 15), body := .stmts (sBody (stAt 15)), scope := sScope (stAt 15), globals := 0, closure := [], defaults := .none, kwdefaults := .none, doc := .none, pyModule := .none, annotations := none, code := .none, closureTuple := .none, builtins := 0 }), #[]⟩
noncomputable def o263 (P : Params) : Obj := ⟨(.type y12), none, (.fields #[(.str z418 2590), (.str z418 2591), (.str z174 2592), (.int 112 0), (.int 1 0), (.int 0 0), (.int 0 0), (.int 3 0), (.ref 258), (.bool true), (.int 276 0), (.ref 259), .none, (.ref 260), (.ref 261), (.ref 262), (.int 2595 0), (.int 112 0), (.str z174 2596)]), #[]⟩
noncomputable def o264 (P : Params) : Obj := ⟨(.type y18), none, (.func { name := z418, qualname := z418, params := sArgs (stAt 15), body := .stmts (sBody (stAt 15)), scope := sScope (stAt 15), globals := 3, closure := [], defaults := .none, kwdefaults := .none, doc := .none, pyModule := (.str z410 2582), annotations := none, code := (.ref 263), closureTuple := .none, builtins := 0 }), #[]⟩
noncomputable def o265 (P : Params) : Obj := ⟨(.type y6), none, (.seq #[] 0), #[]⟩
noncomputable def o266 (P : Params) : Obj := ⟨.none, none, (.fields #[]), #[]⟩
noncomputable def o267 (P : Params) : Obj := ⟨(.type y6), none, (.seq #[(.str z478 2601), (.str z479 2602), (.str z227 2603), (.str z480 2604), (.str z481 2605), (.str z482 2606), (.str z483 2607)] 0), #[]⟩
noncomputable def o268 (P : Params) : Obj := ⟨(.type y6), none, (.seq #[] 0), #[]⟩
noncomputable def o269 (P : Params) : Obj := ⟨.none, none, (.func { name := z419, qualname := z419, params := sArgs (stAt 16), body := .stmts (sBody (stAt 16)), scope := sScope (stAt 16), globals := 0, closure := [], defaults := .none, kwdefaults := .none, doc := .none, pyModule := .none, annotations := none, code := .none, closureTuple := .none, builtins := 0 }), #[]⟩
noncomputable def o270 (P : Params) : Obj := ⟨(.type y12), none, (.fields #[(.str z419 2598), (.str z419 2599), (.str z174 2600), (.int 121 0), (.int 1 0), (.int 0 0), (.int 0 0), (.int 3 0), (.ref 265), (.bool true), (.int 276 0), (.ref 266), .none, (.ref 267), (.ref 268), (.ref 269), (.int 2608 0), (.int 121 0), (.str z174 2609)]), #[]⟩
noncomputable def o271 (P : Params) : Obj := ⟨(.type y18), none, (.func { name := z419, qualname := z419, params := sArgs (stAt 16), body := .stmts (sBody (stAt 16)), scope := sScope (stAt 16), globals := 3, closure := [], defaults := .none, kwdefaults := .none, doc := .none, pyModule := (.str z410 2582), annotations := none, code := (.ref 270), closureTuple := .none, builtins := 0 }), #[]⟩
noncomputable def o272 (P : Params) : Obj := ⟨(.type y6), none, (.seq #[] 0), #[]⟩
noncomputable def o273 (P : Params) : Obj := ⟨.none, none, (.fields #[]), #[]⟩
noncomputable def o274 (P : Params) : Obj := ⟨(.type y6), none, (.seq #[(.str z484 2614), (.str z485 2615), (.str z478 2616)] 0), #[]⟩
noncomputable def o275 (P : Params) : Obj := ⟨(.type y6), none, (.seq #[] 0), #[]⟩
noncomputable def o276 (P : Params) : Obj := ⟨.none, none, (.func { name := z420, qualname := z420, params := sArgs (stAt 17), body := .stmts (sBody (stAt 17)), scope := sScope (stAt 17), globals := 0, closure := [], defaults := .none, kwdefaults := .none, doc := .none, pyModule := .none, annotations := none, code := .none, closureTuple := .none, builtins := 0 }), #[]⟩
noncomputable def o277 (P : Params) : Obj := ⟨(.type y12), none, (.fields #[(.str z420 2611), (.str z420 2612), (.str z174 2613), (.int 144 0), (.int 1 0), (.int 0 0), (.int 0 0), (.int 3 0), (.ref 272), (.bool true), (.int 276 0), (.ref 273), .none, (.ref 274), (.ref 275), (.ref 276), (.int 2617 0), (.int 144 0), (.str z174 2618)]), #[]⟩
noncomputable def o278 (P : Params) : Obj := ⟨(.type y18), none, (.func { name := z420, qualname := z420, params := sArgs (stAt 17), body := .stmts (sBody (stAt 17)), scope := sScope (stAt 17), globals := 3, closure := [], defaults := .none, kwdefaults := .none, doc := .none, pyModule := (.str z410 2582), annotations := none, code := (.ref 277), closureTuple := .none, builtins := 0 }), #[]⟩
noncomputable def o279 (P : Params) : Obj := ⟨(.type y6), none, (.seq #[] 0), #[]⟩
noncomputable def o280 (P : Params) : Obj := ⟨.none, none, (.fields #[]), #[]⟩
noncomputable def o281 (P : Params) : Obj := ⟨.none, none, (.func { name := z421, qualname := z421, params := sArgs (stAt 18), body := .stmts (sBody (stAt 18)), scope := sScope (stAt 18), globals := 0, closure := [], defaults := .none, kwdefaults := .none, doc := .none, pyModule := .none, annotations := none, code := .none, closureTuple := .none, builtins := 0 }), #[]⟩
noncomputable def o282 (P : Params) : Obj := ⟨(.type y12), none, (.fields #[(.str z421 2620), (.str z421 2621), (.str z174 2622), (.int 154 0), (.int 2 0), (.int 0 0), (.int 0 0), (.int 3 0), (.ref 279), (.bool true), (.int 276 0), (.ref 280), .none, .none, .none, (.ref 281), (.int 2623 0), (.int 154 0), (.str z174 2624)]), #[]⟩
noncomputable def o283 (P : Params) : Obj := ⟨(.type y18), none, (.func { name := z421, qualname := z421, params := sArgs (stAt 18), body := .stmts (sBody (stAt 18)), scope := sScope (stAt 18), globals := 3, closure := [], defaults := .none, kwdefaults := .none, doc := .none, pyModule := (.str z410 2582), annotations := none, code := (.ref 282), closureTuple := .none, builtins := 0 }), #[]⟩
noncomputable def o284 (P : Params) : Obj := ⟨(.type y6), none, (.seq #[] 0), #[]⟩
noncomputable def o285 (P : Params) : Obj := ⟨.none, none, (.fields #[]), #[]⟩
noncomputable def o286 (P : Params) : Obj := ⟨.none, none, (.func { name := z422, qualname := z422, params := sArgs (stAt 19), body := .stmts (sBody (stAt 19)), scope := sScope (stAt 19), globals := 0, closure := [], defaults := .none, kwdefaults := .none, doc := .none, pyModule := .none, annotations := none, code := .none, closureTuple := .none, builtins := 0 }), #[]⟩
noncomputable def o287 (P : Params) : Obj := ⟨(.type y12), none, (.fields #[(.str z422 2626), (.str z422 2627), (.str z174 2628), (.int 156 0), (.int 2 0), (.int 0 0), (.int 0 0), (.int 3 0), (.ref 284), (.bool true), (.int 276 0), (.ref 285), .none, .none, .none, (.ref 286), (.int 2629 0), (.int 156 0), (.str z174 2630)]), #[]⟩
noncomputable def o288 (P : Params) : Obj := ⟨(.type y18), none, (.func { name := z422, qualname := z422, params := sArgs (stAt 19), body := .stmts (sBody (stAt 19)), scope := sScope (stAt 19), globals := 3, closure := [], defaults := .none, kwdefaults := .none, doc := .none, pyModule := (.str z410 2582), annotations := none, code := (.ref 287), closureTuple := .none, builtins := 0 }), #[]⟩
noncomputable def o289 (P : Params) : Obj := ⟨(.type y6), none, (.seq #[] 0), #[]⟩
noncomputable def o290 (P : Params) : Obj := ⟨.none, none, (.fields #[]), #[]⟩
noncomputable def o291 (P : Params) : Obj := ⟨(.type y6), none, (.seq #[(.str z486 2635), (.str z205 2636), (.str z431 2637)] 0), #[]⟩
noncomputable def o292 (P : Params) : Obj := ⟨(.type y6), none, (.seq #[] 0), #[]⟩
noncomputable def o293 (P : Params) : Obj := ⟨.none, none, (.func { name := z423, qualname := z423, params := sArgs (stAt 20), body := .stmts (sBody (stAt 20)), scope := sScope (stAt 20), globals := 0, closure := [], defaults := .none, kwdefaults := .none, doc := .none, pyModule := .none, annotations := none, code := .none, closureTuple := .none, builtins := 0 }), #[]⟩
noncomputable def o294 (P : Params) : Obj := ⟨(.type y12), none, (.fields #[(.str z423 2632), (.str z423 2633), (.str z174 2634), (.int 159 0), (.int 3 0), (.int 0 0), (.int 0 0), (.int 3 0), (.ref 289), (.bool true), (.int 276 0), (.ref 290), .none, (.ref 291), (.ref 292), (.ref 293), (.int 2638 0), (.int 159 0), (.str z174 2639)]), #[]⟩
noncomputable def o295 (P : Params) : Obj := ⟨(.type y18), none, (.func { name := z423, qualname := z423, params := sArgs (stAt 20), body := .stmts (sBody (stAt 20)), scope := sScope (stAt 20), globals := 3, closure := [], defaults := .none, kwdefaults := .none, doc := .none, pyModule := (.str z410 2582), annotations := none, code := (.ref 294), closureTuple := .none, builtins := 0 }), #[]⟩
noncomputable def o296 (P : Params) : Obj := ⟨(.type y6), none, (.seq #[] 0), #[]⟩
noncomputable def o297 (P : Params) : Obj := ⟨.none, none, (.fields #[]), #[]⟩
noncomputable def o298 (P : Params) : Obj := ⟨(.type y6), none, (.seq #[(.str z486 2644)] 0), #[]⟩
noncomputable def o299 (P : Params) : Obj := ⟨(.type y6), none, (.seq #[] 0), #[]⟩
noncomputable def o300 (P : Params) : Obj := ⟨.none, none, (.func { name := z424, qualname := z424, params := sArgs (stAt 21), body := .stmts (sBody (stAt 21)), scope := sScope (stAt 21), globals := 0, closure := [], defaults := .none, kwdefaults := .none, doc := .none, pyModule := .none, annotations := none, code := .none, closureTuple := .none, builtins := 0 }), #[]⟩
noncomputable def o301 (P : Params) : Obj := ⟨(.type y12), none, (.fields #[(.str z424 2641), (.str z424 2642), (.str z174 2643), (.int 165 0), (.int 1 0), (.int 0 0), (.int 0 0), (.int 3 0), (.ref 296), (.bool true), (.int 276 0), (.ref 297), .none, (.ref 298), (.ref 299), (.ref 300), (.int 2645 0), (.int 165 0), (.str z174 2646)]), #[]⟩
noncomputable def o302 (P : Params) : Obj := ⟨(.type y18), none, (.func { name := z424, qualname := z424, params := sArgs (stAt 21), body := .stmts (sBody (stAt 21)), scope := sScope (stAt 21), globals := 3, closure := [], defaults := .none, kwdefaults := .none, doc := .none, pyModule := (.str z410 2582), annotations := none, code := (.ref 301), closureTuple := .none, builtins := 0 }), #[]⟩
noncomputable def o303 (P : Params) : Obj := ⟨(.type y6), none, (.seq #[] 0), #[]⟩
noncomputable def o304 (P : Params) : Obj := ⟨.none, none, (.fields #[]), #[]⟩
noncomputable def o305 (P : Params) : Obj := ⟨.none, none, (.func { name := z425, qualname := z425, params := sArgs (stAt 22), body := .stmts (sBody (stAt 22)), scope := sScope (stAt 22), globals := 0, closure := [], defaults := .none, kwdefaults := .none, doc := .none, pyModule := .none, annotations := none, code := .none, closureTuple := .none, builtins := 0 }), #[]⟩
noncomputable def o306 (P : Params) : Obj := ⟨(.type y12), none, (.fields #[(.str z425 2648), (.str z425 2649), (.str z174 2650), (.int 170 0), (.int 1 0), (.int 0 0), (.int 0 0), (.int 3 0), (.ref 303), (.bool true), (.int 276 0), (.ref 304), .none, .none, .none, (.ref 305), (.int 2651 0), (.int 170 0), (.str z174 2652)]), #[]⟩
noncomputable def o307 (P : Params) : Obj := ⟨(.type y18), none, (.func { name := z425, qualname := z425, params := sArgs (stAt 22), body := .stmts (sBody (stAt 22)), scope := sScope (stAt 22), globals := 3, closure := [], defaults := .none, kwdefaults := .none, doc := .none, pyModule := (.str z410 2582), annotations := none, code := (.ref 306), closureTuple := .none, builtins := 0 }), #[]⟩
noncomputable def o308 (P : Params) : Obj := ⟨(.type y6), none, (.seq #[] 0), #[]⟩
noncomputable def o309 (P : Params) : Obj := ⟨.none, none, (.fields #[]), #[]⟩
noncomputable def o310 (P : Params) : Obj := ⟨(.type y6), none, (.seq #[(.str z484 2657), (.str z487 2658), (.str z488 2659), (.str z489 2660), (.str z490 2661), (.str z491 2662), (.str z492 2663), (.str z493 2664), (.str z494 2665), (.str z495 2666)] 0), #[]⟩
noncomputable def o311 (P : Params) : Obj := ⟨(.type y6), none, (.seq #[] 0), #[]⟩
noncomputable def o312 (P : Params) : Obj := ⟨.none, none, (.func { name := z426, qualname := z426, params := sArgs (stAt 23), body := .stmts (sBody (stAt 23)), scope := sScope (stAt 23), globals := 0, closure := [], defaults := .none, kwdefaults := .none, doc := .none, pyModule := .none, annotations := none, code := .none, closureTuple := .none, builtins := 0 }), #[]⟩
noncomputable def o313 (P : Params) : Obj := ⟨(.type y12), none, (.fields #[(.str z426 2654), (.str z426 2655), (.str z174 2656), (.int 174 0), (.int 1 0), (.int 0 0), (.int 0 0), (.int 3 0), (.ref 308), (.bool true), (.int 276 0), (.ref 309), .none, (.ref 310), (.ref 311), (.ref 312), (.int 2667 0), (.int 174 0), (.str z174 2668)]), #[]⟩
noncomputable def o314 (P : Params) : Obj := ⟨(.type y18), none, (.func { name := z426, qualname := z426, params := sArgs (stAt 23), body := .stmts (sBody (stAt 23)), scope := sScope (stAt 23), globals := 3, closure := [], defaults := .none, kwdefaults := .none, doc := .none, pyModule := (.str z410 2582), annotations := none, code := (.ref 313), closureTuple := .none, builtins := 0 }), #[]⟩
noncomputable def bt29 (P : Params) : BT := (.node (o63 P) (.node (o127 P) (.node (o255 P) .nil .nil) .nil) (.node (o191 P) .nil .nil))
noncomputable def bt30 (P : Params) : BT := (.node (o95 P) (.node (o159 P) (.node (o287 P) .nil .nil) .nil) (.node (o223 P) .nil .nil))
noncomputable def bt31 (P : Params) : BT := (.node (o79 P) (.node (o143 P) (.node (o271 P) .nil .nil) .nil) (.node (o207 P) .nil .nil))
noncomputable def bt32 (P : Params) : BT := (.node (o111 P) (.node (o175 P) (.node (o303 P) .nil .nil) .nil) (.node (o239 P) .nil .nil))
noncomputable def bt33 (P : Params) : BT := (.node (o71 P) (.node (o135 P) (.node (o263 P) .nil .nil) .nil) (.node (o199 P) .nil .nil))
noncomputable def bt34 (P : Params) : BT := (.node (o103 P) (.node (o167 P) (.node (o295 P) .nil .nil) .nil) (.node (o231 P) .nil .nil))
noncomputable def bt35 (P : Params) : BT := (.node (o87 P) (.node (o151 P) (.node (o279 P) .nil .nil) .nil) (.node (o215 P) .nil .nil))
noncomputable def bt36 (P : Params) : BT := (.node (o119 P) (.node (o183 P) (.node (o311 P) .nil .nil) .nil) (.node (o247 P) .nil .nil))
noncomputable def bt37 (P : Params) : BT := (.node (o7 P) (.node (o15 P) (.node (o31 P) (bt29 P) (bt30 P)) (.node (o47 P) (bt31 P) (bt32 P))) (.node (o23 P) (.node (o39 P) (bt33 P) (bt34 P)) (.node (o55 P) (bt35 P) (bt36 P))))
noncomputable def bt38 (P : Params) : BT := (.node (o67 P) (.node (o131 P) (.node (o259 P) .nil .nil) .nil) (.node (o195 P) .nil .nil))
noncomputable def bt39 (P : Params) : BT := (.node (o99 P) (.node (o163 P) (.node (o291 P) .nil .nil) .nil) (.node (o227 P) .nil .nil))
noncomputable def bt40 (P : Params) : BT := (.node (o83 P) (.node (o147 P) (.node (o275 P) .nil .nil) .nil) (.node (o211 P) .nil .nil))
noncomputable def bt41 (P : Params) : BT := (.node (o115 P) (.node (o179 P) (.node (o307 P) .nil .nil) .nil) (.node (o243 P) .nil .nil))
noncomputable def bt42 (P : Params) : BT := (.node (o75 P) (.node (o139 P) (.node (o267 P) .nil .nil) .nil) (.node (o203 P) .nil .nil))
noncomputable def bt43 (P : Params) : BT := (.node (o107 P) (.node (o171 P) (.node (o299 P) .nil .nil) .nil) (.node (o235 P) .nil .nil))
noncomputable def bt44 (P : Params) : BT := (.node (o91 P) (.node (o155 P) (.node (o283 P) .nil .nil) .nil) (.node (o219 P) .nil .nil))
noncomputable def bt45 (P : Params) : BT := (.node (o123 P) (.node (o187 P) .nil .nil) (.node (o251 P) .nil .nil))
noncomputable def bt46 (P : Params) : BT := (.node (o11 P) (.node (o19 P) (.node (o35 P) (bt38 P) (bt39 P)) (.node (o51 P) (bt40 P) (bt41 P))) (.node (o27 P) (.node (o43 P) (bt42 P) (bt43 P)) (.node (o59 P) (bt44 P) (bt45 P))))
noncomputable def bt47 (P : Params) : BT := (.node (o65 P) (.node (o129 P) (.node (o257 P) .nil .nil) .nil) (.node (o193 P) .nil .nil))
noncomputable def bt48 (P : Params) : BT := (.node (o97 P) (.node (o161 P) (.node (o289 P) .nil .nil) .nil) (.node (o225 P) .nil .nil))
noncomputable def bt49 (P : Params) : BT := (.node (o81 P) (.node (o145 P) (.node (o273 P) .nil .nil) .nil) (.node (o209 P) .nil .nil))
noncomputable def bt50 (P : Params) : BT := (.node (o113 P) (.node (o177 P) (.node (o305 P) .nil .nil) .nil) (.node (o241 P) .nil .nil))
noncomputable def bt51 (P : Params) : BT := (.node (o73 P) (.node (o137 P) (.node (o265 P) .nil .nil) .nil) (.node (o201 P) .nil .nil))
noncomputable def bt52 (P : Params) : BT := (.node (o105 P) (.node (o169 P) (.node (o297 P) .nil .nil) .nil) (.node (o233 P) .nil .nil))
noncomputable def bt53 (P : Params) : BT := (.node (o89 P) (.node (o153 P) (.node (o281 P) .nil .nil) .nil) (.node (o217 P) .nil .nil))
noncomputable def bt54 (P : Params) : BT := (.node (o121 P) (.node (o185 P) (.node (o313 P) .nil .nil) .nil) (.node (o249 P) .nil .nil))
noncomputable def bt55 (P : Params) : BT := (.node (o9 P) (.node (o17 P) (.node (o33 P) (bt47 P) (bt48 P)) (.node (o49 P) (bt49 P) (bt50 P))) (.node (o25 P) (.node (o41 P) (bt51 P) (bt52 P)) (.node (o57 P) (bt53 P) (bt54 P))))
noncomputable def bt56 (P : Params) : BT := (.node (o69 P) (.node (o133 P) (.node (o261 P) .nil .nil) .nil) (.node (o197 P) .nil .nil))
noncomputable def bt57 (P : Params) : BT := (.node (o101 P) (.node (o165 P) (.node (o293 P) .nil .nil) .nil) (.node (o229 P) .nil .nil))
noncomputable def bt58 (P : Params) : BT := (.node (o85 P) (.node (o149 P) (.node (o277 P) .nil .nil) .nil) (.node (o213 P) .nil .nil))
noncomputable def bt59 (P : Params) : BT := (.node (o117 P) (.node (o181 P) (.node (o309 P) .nil .nil) .nil) (.node (o245 P) .nil .nil))
noncomputable def bt60 (P : Params) : BT := (.node (o77 P) (.node (o141 P) (.node (o269 P) .nil .nil) .nil) (.node (o205 P) .nil .nil))
noncomputable def bt61 (P : Params) : BT := (.node (o109 P) (.node (o173 P) (.node (o301 P) .nil .nil) .nil) (.node (o237 P) .nil .nil))
noncomputable def bt62 (P : Params) : BT := (.node (o93 P) (.node (o157 P) (.node (o285 P) .nil .nil) .nil) (.node (o221 P) .nil .nil))
noncomputable def bt63 (P : Params) : BT := (.node (o125 P) (.node (o189 P) .nil .nil) (.node (o253 P) .nil .nil))
noncomputable def bt64 (P : Params) : BT := (.node (o13 P) (.node (o21 P) (.node (o37 P) (bt56 P) (bt57 P)) (.node (o53 P) (bt58 P) (bt59 P))) (.node (o29v4 P) (.node (o45 P) (bt60 P) (bt61 P)) (.node (o61 P) (bt62 P) (bt63 P))))
noncomputable def bt65 (P : Params) : BT := (.node (o64 P) (.node (o128 P) (.node (o256 P) .nil .nil) .nil) (.node (o192 P) .nil .nil))
noncomputable def bt66 (P : Params) : BT := (.node (o96 P) (.node (o160 P) (.node (o288 P) .nil .nil) .nil) (.node (o224 P) .nil .nil))
noncomputable def bt67 (P : Params) : BT := (.node (o80 P) (.node (o144 P) (.node (o272 P) .nil .nil) .nil) (.node (o208 P) .nil .nil))
noncomputable def bt68 (P : Params) : BT := (.node (o112 P) (.node (o176 P) (.node (o304 P) .nil .nil) .nil) (.node (o240 P) .nil .nil))
noncomputable def bt69 (P : Params) : BT := (.node (o72 P) (.node (o136 P) (.node (o264 P) .nil .nil) .nil) (.node (o200 P) .nil .nil))
noncomputable def bt70 (P : Params) : BT := (.node (o104 P) (.node (o168 P) (.node (o296 P) .nil .nil) .nil) (.node (o232 P) .nil .nil))
noncomputable def bt71 (P : Params) : BT := (.node (o88 P) (.node (o152 P) (.node (o280 P) .nil .nil) .nil) (.node (o216 P) .nil .nil))
noncomputable def bt72 (P : Params) : BT := (.node (o120 P) (.node (o184 P) (.node (o312 P) .nil .nil) .nil) (.node (o248 P) .nil .nil))
noncomputable def bt73 (P : Params) : BT := (.node (o8 P) (.node (o16 P) (.node (o32 P) (bt65 P) (bt66 P)) (.node (o48 P) (bt67 P) (bt68 P))) (.node (o24 P) (.node (o40 P) (bt69 P) (bt70 P)) (.node (o56 P) (bt71 P) (bt72 P))))
noncomputable def bt74 (P : Params) : BT := (.node (o68 P) (.node (o132 P) (.node (o260 P) .nil .nil) .nil) (.node (o196 P) .nil .nil))
noncomputable def bt75 (P : Params) : BT := (.node (o100 P) (.node (o164 P) (.node (o292 P) .nil .nil) .nil) (.node (o228 P) .nil .nil))
noncomputable def bt76 (P : Params) : BT := (.node (o84 P) (.node (o148 P) (.node (o276 P) .nil .nil) .nil) (.node (o212 P) .nil .nil))
noncomputable def bt77 (P : Params) : BT := (.node (o116 P) (.node (o180 P) (.node (o308 P) .nil .nil) .nil) (.node (o244 P) .nil .nil))
noncomputable def bt78 (P : Params) : BT := (.node (o76 P) (.node (o140 P) (.node (o268 P) .nil .nil) .nil) (.node (o204 P) .nil .nil))
noncomputable def bt79 (P : Params) : BT := (.node (o108 P) (.node (o172 P) (.node (o300 P) .nil .nil) .nil) (.node (o236 P) .nil .nil))
noncomputable def bt80 (P : Params) : BT := (.node (o92 P) (.node (o156 P) (.node (o284 P) .nil .nil) .nil) (.node (o220 P) .nil .nil))
noncomputable def bt81 (P : Params) : BT := (.node (o124 P) (.node (o188 P) .nil .nil) (.node (o252 P) .nil .nil))
noncomputable def bt82 (P : Params) : BT := (.node (o12 P) (.node (o20 P) (.node (o36 P) (bt74 P) (bt75 P)) (.node (o52 P) (bt76 P) (bt77 P))) (.node (o28 P) (.node (o44 P) (bt78 P) (bt79 P)) (.node (o60 P) (bt80 P) (bt81 P))))
noncomputable def bt83 (P : Params) : BT := (.node (o66 P) (.node (o130 P) (.node (o258 P) .nil .nil) .nil) (.node (o194 P) .nil .nil))
noncomputable def bt84 (P : Params) : BT := (.node (o98 P) (.node (o162 P) (.node (o290 P) .nil .nil) .nil) (.node (o226 P) .nil .nil))
noncomputable def bt85 (P : Params) : BT := (.node (o82 P) (.node (o146 P) (.node (o274 P) .nil .nil) .nil) (.node (o210 P) .nil .nil))
noncomputable def bt86 (P : Params) : BT := (.node (o114 P) (.node (o178 P) (.node (o306 P) .nil .nil) .nil) (.node (o242 P) .nil .nil))
noncomputable def bt87 (P : Params) : BT := (.node (o74 P) (.node (o138 P) (.node (o266 P) .nil .nil) .nil) (.node (o202 P) .nil .nil))
noncomputable def bt88 (P : Params) : BT := (.node (o106 P) (.node (o170 P) (.node (o298 P) .nil .nil) .nil) (.node (o234 P) .nil .nil))
noncomputable def bt89 (P : Params) : BT := (.node (o90 P) (.node (o154 P) (.node (o282 P) .nil .nil) .nil) (.node (o218 P) .nil .nil))
noncomputable def bt90 (P : Params) : BT := (.node (o122 P) (.node (o186 P) (.node (o314 P) .nil .nil) .nil) (.node (o250 P) .nil .nil))
noncomputable def bt91 (P : Params) : BT := (.node (o10 P) (.node (o18 P) (.node (o34 P) (bt83 P) (bt84 P)) (.node (o50 P) (bt85 P) (bt86 P))) (.node (o26 P) (.node (o42 P) (bt87 P) (bt88 P)) (.node (o58 P) (bt89 P) (bt90 P))))
noncomputable def bt92 (P : Params) : BT := (.node (o70 P) (.node (o134 P) (.node (o262 P) .nil .nil) .nil) (.node (o198 P) .nil .nil))
noncomputable def bt93 (P : Params) : BT := (.node (o102 P) (.node (o166 P) (.node (o294 P) .nil .nil) .nil) (.node (o230 P) .nil .nil))
noncomputable def bt94 (P : Params) : BT := (.node (o86 P) (.node (o150 P) (.node (o278 P) .nil .nil) .nil) (.node (o214 P) .nil .nil))
noncomputable def bt95 (P : Params) : BT := (.node (o118 P) (.node (o182 P) (.node (o310 P) .nil .nil) .nil) (.node (o246 P) .nil .nil))
noncomputable def bt96 (P : Params) : BT := (.node (o78 P) (.node (o142 P) (.node (o270 P) .nil .nil) .nil) (.node (o206 P) .nil .nil))
noncomputable def bt97 (P : Params) : BT := (.node (o110 P) (.node (o174 P) (.node (o302 P) .nil .nil) .nil) (.node (o238 P) .nil .nil))
noncomputable def bt98 (P : Params) : BT := (.node (o94 P) (.node (o158 P) (.node (o286 P) .nil .nil) .nil) (.node (o222 P) .nil .nil))
noncomputable def bt99 (P : Params) : BT := (.node (o126 P) (.node (o190 P) .nil .nil) (.node (o254 P) .nil .nil))
noncomputable def bt100 (P : Params) : BT := (.node (o14 P) (.node (o22 P) (.node (o38 P) (bt92 P) (bt93 P)) (.node (o54 P) (bt94 P) (bt95 P))) (.node (o30 P) (.node (o46 P) (bt96 P) (bt97 P)) (.node (o62 P) (bt98 P) (bt99 P))))
noncomputable def trF (P : Params) : BT := (.node (o0 P) (.node (o1 P) (.node (o3v4 P) (bt37 P) (bt46 P)) (.node (o5 P) (bt55 P) (bt64 P))) (.node (o2 P) (.node (o4 P) (bt73 P) (bt82 P)) (.node (o6 P) (bt91 P) (bt100 P))))
noncomputable def life0 : Life := {}
noncomputable def drawn0 : Drawn := {}
noncomputable def env0 : Env := { scope := P0.main.scope, locals := mainNs, globals := mainNs, cells := [], code := (.ref 30), frame := some 31 }
noncomputable def cd0 : Code := .body (behindTheImports P0) env0
noncomputable def fr0 : List Frame := [topFrame ⟨0, 0, 0, 0⟩]
noncomputable def ann0 : Option Value := some (.ref 6)
noncomputable def stsA : List Stmt := (behindTheImports P0).take 4
noncomputable def stsE : List Stmt := (behindTheImports P0).drop 5
noncomputable def stD : Stmt := ((behindTheImports P0)[4]?).getD (.Pass ⟨0, 0, 0, 0⟩)
noncomputable def SA (w : World) (os : OsState) : SharedT := ⟨trA w.params, 32, life0, #[], drawn0, 282, os⟩
noncomputable def SD (w : World) (os : OsState) : SharedT := ⟨trD w.params, 57, life0, #[], drawn0, 358, os⟩
noncomputable def SE (w : World) (os : OsState) : SharedT := ⟨trE w.params, 96, life0, #[], drawn0, 2309, os⟩
noncomputable def SF (w : World) (os : OsState) : SharedT := ⟨trF w.params, 315, life0, #[], drawn0, 2670, os⟩
noncomputable def opL (w : World) : Option (Heap × Array GenState × Drawn × Nat) := (fencedOpening treeTable P0 w 30000).map (fun s => (s.heap, s.gens, s.drawn, s.toks))
noncomputable def opR (w : World) : Option (Heap × Array GenState × Drawn × Nat) := some (absHeap (tr0 w.params) 28 life0, #[], drawn0, 276)
theorem opL_r : opL = opL := rfl
theorem opR_r : opR = opR := rfl
name_quick mopL for opL by opL_r
name_quick mopR for opR by opR_r
theorem op_q : ∀ w, PySem.W.Fast.mopL w = PySem.W.Fast.mopR w := by intro w; kernel_rfl
theorem op_ok : ∀ w, opL w = opR w := fun w => (congrFun PySem.W.Fast.mopL_eq w).trans ((op_q w).trans (congrFun PySem.W.Fast.mopR_eq w).symm)
noncomputable def preL (w : World) (os : OsState) : Option (Shared × Thread) := topGo treeTable P0 w 28 ann0 12 ⟨absHeap (tr0 w.params) 28 life0, #[], drawn0, 276, os⟩ (topStub P0)
noncomputable def preR (w : World) (os : OsState) : Option (Shared × Thread) := some ((SA w os).abs, ⟨denote treeTable cd0, cd0, ⟨0, 0, 0, 0⟩, fr0⟩)
theorem preL_r : preL = preL := rfl
theorem preR_r : preR = preR := rfl
name_quick mpreL for preL by preL_r
name_quick mpreR for preR by preR_r
theorem pre_q : ∀ w os, PySem.W.Fast.mpreL w os = PySem.W.Fast.mpreR w os := by intro w os; kernel_rfl
theorem pre_ok : ∀ w os, preL w os = preR w os := fun w os => (congrFun (congrFun PySem.W.Fast.mpreL_eq w) os).trans ((pre_q w os).trans (congrFun (congrFun PySem.W.Fast.mpreR_eq w) os).symm)
noncomputable def blkL (w : World) (os : OsState) : Option (Flow × Shared × Code × Pos) := segRun treeTable P0 w 28 ann0 1 1 (SA w os).abs (blockOf (behindTheImports P0) env0 cd0 ⟨0, 0, 0, 0⟩ fr0)
noncomputable def blkR (w : World) (os : OsState) : Option (Flow × Shared × Code × Pos) := some (.next, (SA w os).abs, cd0, ⟨0, 0, 0, 0⟩)
theorem blkL_r : blkL = blkL := rfl
theorem blkR_r : blkR = blkR := rfl
name_quick mblkL for blkL by blkL_r
name_quick mblkR for blkR by blkR_r
theorem blk_q : ∀ w os, PySem.W.Fast.mblkL w os = PySem.W.Fast.mblkR w os := by intro w os; kernel_rfl
theorem blk_ok : ∀ w os, blkL w os = blkR w os := fun w os => (congrFun (congrFun PySem.W.Fast.mblkL_eq w) os).trans ((blk_q w os).trans (congrFun (congrFun PySem.W.Fast.mblkR_eq w) os).symm)
noncomputable def segAL (w : World) (os : OsState) : Option (Flow × SharedT × Code × Pos) := segRunT treeTable P0 w 28 ann0 1 1066 (SA w os) (piecesOf stsA env0 cd0 ⟨0, 0, 0, 0⟩ fr0)
noncomputable def segAR (w : World) (os : OsState) : Option (Flow × SharedT × Code × Pos) := some (.next, SD w os, cd0, ⟨7, 0, 8, 30⟩)
theorem segAL_r : segAL = segAL := rfl
theorem segAR_r : segAR = segAR := rfl
name_quick msegAL for segAL by segAL_r
name_quick msegAR for segAR by segAR_r
noncomputable def wAt (a b : Bool) (w : World) : World := (w.withFollow "special-get-raises" b).withFollow "set-order" a
theorem segA_q00 : ∀ w os, PySem.W.Fast.msegAL (wAt false false w) os = PySem.W.Fast.msegAR (wAt false false w) os := by intro w os; kernel_rfl
theorem segA_q01 : ∀ w os, PySem.W.Fast.msegAL (wAt false true w) os = PySem.W.Fast.msegAR (wAt false true w) os := by intro w os; kernel_rfl
theorem segA_q10 : ∀ w os, PySem.W.Fast.msegAL (wAt true false w) os = PySem.W.Fast.msegAR (wAt true false w) os := by intro w os; kernel_rfl
theorem segA_q11 : ∀ w os, PySem.W.Fast.msegAL (wAt true true w) os = PySem.W.Fast.msegAR (wAt true true w) os := by intro w os; kernel_rfl
theorem segA_q : ∀ w, ∀ os, PySem.W.Fast.msegAL w os = PySem.W.Fast.msegAR w os :=
 byRow2 "set-order" (P := fun w => ∀ os, PySem.W.Fast.msegAL w os = PySem.W.Fast.msegAR w os)
  (byRow2 "special-get-raises" (P := fun w => ∀ os, PySem.W.Fast.msegAL (w.withFollow "set-order" false) os = PySem.W.Fast.msegAR (w.withFollow "set-order" false) os) segA_q00 segA_q01)
  (byRow2 "special-get-raises" (P := fun w => ∀ os, PySem.W.Fast.msegAL (w.withFollow "set-order" true) os = PySem.W.Fast.msegAR (w.withFollow "set-order" true) os) segA_q10 segA_q11)
theorem segA_ok : ∀ w os, segAL w os = segAR w os := fun w os => (congrFun (congrFun PySem.W.Fast.msegAL_eq w) os).trans ((segA_q w os).trans (congrFun (congrFun PySem.W.Fast.msegAR_eq w) os).symm)
noncomputable def segEL (w : World) (os : OsState) : Option (Flow × SharedT × Code × Pos) := segRunT treeTable P0 w 28 ann0 1 1333 (SE w os) (piecesOf stsE env0 cd0 ⟨9, 0, 9, 13⟩ fr0)
noncomputable def segER (w : World) (os : OsState) : Option (Flow × SharedT × Code × Pos) := some (.next, SF w os, cd0, ⟨174, 0, 194, 49⟩)
theorem segEL_r : segEL = segEL := rfl
theorem segER_r : segER = segER := rfl
name_quick msegEL for segEL by segEL_r
name_quick msegER for segER by segER_r
theorem segE_q : ∀ w os, PySem.W.Fast.msegEL w os = PySem.W.Fast.msegER w os := by intro w os; kernel_rfl
theorem segE_ok : ∀ w os, segEL w os = segER w os := fun w os => (congrFun (congrFun PySem.W.Fast.msegEL_eq w) os).trans ((segE_q w os).trans (congrFun (congrFun PySem.W.Fast.msegER_eq w) os).symm)
noncomputable def SX (w : World) (os : OsState) : SharedT := ⟨trX w.params, 96, life0, #[], drawn0, 2308, os⟩
noncomputable def LL : List (Int × Str) := (cPairs (dKs stD) (dVs stD)).getD []
theorem LL_some : cPairs (dKs stD) (dVs stD) = some LL := by
 have h : (cPairs (dKs stD) (dVs stD)).isSome = true := by decide +kernel
 obtain ⟨l, e⟩ := Option.isSome_iff_exists.mp h
 unfold LL; rw [e]; rfl
theorem LL_len : LL.length = 650 := by decide +kernel
theorem LL_up : upB (-1) LL = true := by decide +kernel
theorem stD_is : stD = .Assign [.Name (Str.ofString "b3_exceptions") ⟨9, 0, 9, 13⟩] (.Dict (dKs stD) (dVs stD) ⟨9, 16, 9, 8704⟩) ⟨9, 0, 9, 8704⟩ := by kernel_rfl
noncomputable def hxL (w : World) : Heap := absHeap (trX w.params) 96 life0
noncomputable def hxR (w : World) : Heap := Hp (absHeap (trD w.params) 57 life0) (dictObjs 37 LL 358)
theorem hxL_r : hxL = hxL := rfl
theorem hxR_r : hxR = hxR := rfl
name_quick mhxL for hxL by hxL_r
name_quick mhxR for hxR by hxR_r
theorem hx_q : ∀ w, PySem.W.Fast.mhxL w = PySem.W.Fast.mhxR w := by intro w; kernel_rfl
theorem hx_ok : ∀ w, hxL w = hxR w := fun w => (congrFun PySem.W.Fast.mhxL_eq w).trans ((hx_q w).trans (congrFun PySem.W.Fast.mhxR_eq w).symm)
noncomputable def tlL (w : World) (os : OsState) : Option (Flow × SharedT × Code × Pos) := segRunT treeTable P0 w 28 ann0 1 60 (SX w os) ⟨(tailD (Str.ofString "b3_exceptions") ⟨9, 0, 9, 13⟩ env0 (.ref 57)).wrap doneF deadEnd id id, cd0, ⟨9, 16, 9, 8704⟩, fr0⟩
noncomputable def tlR (w : World) (os : OsState) : Option (Flow × SharedT × Code × Pos) := some (.next, SE w os, cd0, ⟨9, 0, 9, 13⟩)
theorem tlL_r : tlL = tlL := rfl
theorem tlR_r : tlR = tlR := rfl
name_quick mtlL for tlL by tlL_r
name_quick mtlR for tlR by tlR_r
theorem tl_q : ∀ w os, PySem.W.Fast.mtlL w os = PySem.W.Fast.mtlR w os := by intro w os; kernel_rfl
theorem tl_ok : ∀ w os, tlL w os = tlR w os := fun w os => (congrFun (congrFun PySem.W.Fast.mtlL_eq w) os).trans ((tl_q w os).trans (congrFun (congrFun PySem.W.Fast.mtlR_eq w) os).symm)
theorem segD_ok (w : World) (os : OsState) : segRun treeTable P0 w 28 ann0 1 ((1 + (1 + dictSteps 37 (LL.length - (17 + 17 * 37)))) + 60) (SD w os).abs (piecesOf [stD] env0 cd0 ⟨7, 0, 8, 30⟩ fr0) = some (.next, (SE w os).abs, cd0, ⟨9, 0, 9, 13⟩) := by
 have hsz : (SD w os).abs.heap.objs.size = 57 := absHeap_size _ _ _
 have t := segRun_of (tl_ok w os)
 have ex : (SX w os).abs = { (SD w os).abs with heap := Hp (SD w os).abs.heap (dictObjs 37 LL (SD w os).abs.toks), toks := (SD w os).abs.toks + 3 * LL.length } := by
  rw [LL_len]
  show (⟨hxL w, #[], drawn0, 2308, os⟩ : Shared) = ⟨hxR w, #[], drawn0, 358 + 3 * 650, os⟩
  rw [hx_ok]
 rw [ex] at t
 rw [stD_is]
 rw [← table_eq_tree] at t ⊢
 refine seg_dict (n := 37) (L := LL) LL_some (by rw [hsz]; decide) (by rw [hsz]; decide) LL_up (by rw [LL_len]; decide) (by rw [LL_len]; decide) (by rw [LL_len]; decide) ?_
 rw [hsz]
 exact t
noncomputable def finL (w : World) (os : OsState) : Option Shared := topRun treeTable P0 w 28 ann0 2 (SF w os).abs ⟨doneF .next, cd0, ⟨174, 0, 194, 49⟩, fr0⟩
noncomputable def finR (w : World) (os : OsState) : Option Shared := some (SF w os).abs
theorem finL_r : finL = finL := rfl
theorem finR_r : finR = finR := rfl
name_quick mfinL for finL by finL_r
name_quick mfinR for finR by finR_r
theorem fin_q : ∀ w os, PySem.W.Fast.mfinL w os = PySem.W.Fast.mfinR w os := by intro w os; kernel_rfl
theorem fin_ok : ∀ w os, finL w os = finR w os := fun w os => (congrFun (congrFun PySem.W.Fast.mfinL_eq w) os).trans ((fin_q w os).trans (congrFun (congrFun PySem.W.Fast.mfinR_eq w) os).symm)
theorem body_is : behindTheImports P0 = stsA ++ ([stD] ++ (stsE ++ [])) := by kernel_rfl
noncomputable def nRun : Nat := 12 + (1 + (1066 + (((1 + (1 + dictSteps 37 (LL.length - (17 + 17 * 37)))) + 60) + (1333 + 2))))
theorem run_ok (w : World) (os : OsState) : topRun treeTable P0 w 28 ann0 nRun ⟨absHeap (tr0 w.params) 28 life0, #[], drawn0, 276, os⟩ (topStub P0) = some (SF w os).abs := by
 refine go_top (pre_ok w os) (piece_block (blk_ok w os) ?_)
 have e := body_is
 have k : topRun treeTable P0 w 28 ann0 (1066 + (((1 + (1 + dictSteps 37 (LL.length - (17 + 17 * 37)))) + 60) + (1333 + 2))) (SA w os).abs (restOf (stsA ++ ([stD] ++ (stsE ++ []))) env0 cd0 ⟨0, 0, 0, 0⟩ fr0) = some (SF w os).abs :=
  piece_app (segRun_of (segA_ok w os)) (piece_app (segD_ok w os) (piece_app (segRun_of (segE_ok w os)) (piece_nil (fin_ok w os))))
 rw [← e] at k
 exact k
noncomputable def szL (w : World) : Bool × Nat × Option Value := ((absHeap (tr0 w.params) 28 life0).isNs mainGlobals && (#[] : Array GenState).size == 0, (absHeap (tr0 w.params) 28 life0).objs.size, (absHeap (tr0 w.params) 28 life0).nsMap mainGlobals "__annotations__")
noncomputable def szR (w : World) : Bool × Nat × Option Value := (true, 28, ann0)
theorem szL_r : szL = szL := rfl
name_quick mszL for szL by szL_r
theorem sz_q : ∀ w, PySem.W.Fast.mszL w = szR w := by intro w; kernel_rfl
theorem sz_ok : ∀ w, szL w = szR w := fun w => (congrFun PySem.W.Fast.mszL_eq w).trans (sz_q w)
noncomputable def q0 : Program := view P0 [0, 1, 3, 4, 5, 6, 8, 9, 10, 12, 14, 15, 16, 17, 18, 19, 20, 21, 22, 23]
noncomputable def loose0 : List Str := [Str.ofString "b1_set", Str.ofString "b3_exceptions", Str.ofString "tspecials", Str.ofString "_name_disallowed_re", Str.ofString "_value_disallowed_re", Str.ofString "_formatparam"]
noncomputable def Xt0 (s : Shared) : Bool := xlAt q0 [] s && recOk [] s
noncomputable def HF (w : World) : Heap := absHeap (trF w.params) 315 life0
noncomputable def laL (w : World) (os : OsState) : Bool := staticsOk (importedModules P0.main.body) (absHeap (tr0 w.params) 28 life0) (HF w) && namesBound P0 (HF w) && gensDone ⟨HF w, #[], drawn0, 2670, os⟩ && laidKept (absHeap (tr0 w.params) 28 life0) (HF w)
theorem laL_r : laL = laL := rfl
name_quick mlaL for laL by laL_r
theorem la_q : ∀ w os, PySem.W.Fast.mlaL w os = true := by intro w os; kernel_rfl
theorem la_ok : ∀ w os, laL w os = true := fun w os => (congrFun (congrFun PySem.W.Fast.mlaL_eq w) os).trans (la_q w os)
noncomputable def lbL (w : World) (os : OsState) := openSeen q0 loose0 (importedModules P0.main.body) Xt0 true ⟨HF w, #[], drawn0, 2670, os⟩
noncomputable def lbR (_w : World) (_os : OsState) := openGood q0 loose0
theorem lbL_r : lbL = lbL := rfl
theorem lbR_r : lbR = lbR := rfl
name_quick mlbL for lbL by lbL_r
name_quick mlbR for lbR by lbR_r
theorem lb_q : ∀ w os, PySem.W.Fast.mlbL w os = PySem.W.Fast.mlbR w os := by intro w os; kernel_rfl
theorem lb_ok : ∀ w os, lbL w os = lbR w os := fun w os => (congrFun (congrFun PySem.W.Fast.mlbL_eq w) os).trans ((lb_q w os).trans (congrFun (congrFun PySem.W.Fast.mlbR_eq w) os).symm)
theorem left1 : LeftO P0 q0 loose0 Xt0 (fun s => (s.heap, s.toks)) (fun w => (HF w, 2670)) 30000 :=
 LeftO.of_pieces (H₀ := fun P => absHeap (tr0 P) 28 life0) (H₁ := fun P => absHeap (trF P) 315 life0) (gs₀ := #[]) (gs₁ := #[]) (d₀ := drawn0) (d₁ := drawn0) (k₀ := 276) (k₁ := 2670) (m₀ := 28) (ann := ann0) (M := nRun)
  op_ok sz_ok run_ok (by unfold nRun; rw [LL_len]; decide +kernel) (fun w => funext fun os => Prod.ext (la_ok w os) (Prod.ext (lb_ok w os) rfl))
inductive D where
 | val (v : Value)
 | int (i : Int)
 | str (x : Str)
 | tup (l : List D)
 | lst (l : List D)
 | rng (a b c : Int)
 | ins (k : Addr) (fs : List (Str × D))
 | dct (p : Program) (w : World) (kvs : List (Str × D))
 | byt (b : Array UInt8)
 deriving Inhabited
theorem toL {h : Heap} {a : Addr} {vs : Array Value} (x : h.PlainList a vs) : PlainL h a vs := let ⟨n, e⟩ := x; ⟨_, n, e, rfl, rfl, rfl⟩
mutual
inductive Rd (W : Addr → Prop) (h : Heap) : Value → D → Prop
 | val (v : Value) : Rd W h v (.val v)
 | int (i : Int) (t : Tok) : Rd W h (.int i t) (.int i)
 | str (x : Str) (t : Tok) : Rd W h (.str x t) (.str x)
 | tup {a : Addr} {vs : Array Value} {l : List D} : ¬ W a → h.IsTuple a vs → RdL W h vs.toList l → Rd W h (.ref a) (.tup l)
 | lst {a : Addr} {vs : Array Value} {l : List D} : ¬ W a → PlainL h a vs → RdL W h vs.toList l → Rd W h (.ref a) (.lst l)
 | rng {r : Addr} {a b c : Int} {t u v : Tok} : ¬ W r → IsRange h r a b c t u v → Rd W h (.ref r) (.rng a b c)
 | ins {t dx k : Addr} {o : Obj} {m : Str → Option Value} {fs : List (Str × D)} : ¬ W t → ¬ W dx → h.get? t = some o → (o.cls = .ref k ∧ (∀ c, o.data ≠ .cls c) ∧ o.dict = some dx ∧ dx ≠ t) → h.Ns1 dx m → (∀ x, fs.lookup x = none → m x = none) → RdF W h m fs → Rd W h (.ref t) (.ins k fs)
 | dct {p : Program} {w : World} {a : Addr} {us : List (Str × Value)} {kvs : List (Str × D)} : ¬ W a → h.DictOf (strKind p w) a us → RdL W h (us.map (·.2)) (kvs.map (·.2)) → us.map (·.1) = kvs.map (·.1) ∧ (a == sysModules) = false → Rd W h (.ref a) (.dct p w kvs)
 | byt (b : Array UInt8) (t : Tok) : Rd W h (.bytes b t) (.byt b)
inductive RdL (W : Addr → Prop) (h : Heap) : List Value → List D → Prop
 | nil : RdL W h [] []
 | cons {v : Value} {d : D} {vs : List Value} {ds : List D} : Rd W h v d → RdL W h vs ds → RdL W h (v :: vs) (d :: ds)
inductive RdF (W : Addr → Prop) (h : Heap) : (Str → Option Value) → List (Str × D) → Prop
 | nil {m : Str → Option Value} : RdF W h m []
 | cons {m : Str → Option Value} {x : Str} {v : Value} {d : D} {fs : List (Str × D)} : m x = some v → Rd W h v d → RdF W h m fs → RdF W h m ((x, d) :: fs)
end
theorem Rd.mono3 {W W' : Addr → Prop} {h h' : Heap} (hk : ∀ b o, ¬ W b → h.get? b = some o → h'.get? b = some o) (hw : ∀ b o, ¬ W b → h.get? b = some o → ¬ W' b) :
  (∀ v d, Rd W h v d → Rd W' h' v d) ∧ (∀ vs ds, RdL W h vs ds → RdL W' h' vs ds) ∧ (∀ m fs, RdF W h m fs → RdF W' h' m fs) := by
 refine ⟨@Rd.rec W h (fun v d _ => Rd W' h' v d) (fun vs ds _ => RdL W' h' vs ds) (fun m fs _ => RdF W' h' m fs) .val .int .str ?tup ?lst ?rng ?ins ?dct .byt .nil ?cons .nil ?consF, @RdL.rec W h (fun v d _ => Rd W' h' v d) (fun vs ds _ => RdL W' h' vs ds) (fun m fs _ => RdF W' h' m fs) .val .int .str ?tup ?lst ?rng ?ins ?dct .byt .nil ?cons .nil ?consF, @RdF.rec W h (fun v d _ => Rd W' h' v d) (fun vs ds _ => RdL W' h' vs ds) (fun m fs _ => RdF W' h' m fs) .val .int .str ?tup ?lst ?rng ?ins ?dct .byt .nil ?cons .nil ?consF⟩
 case tup => exact fun ha ⟨o, e, r⟩ _ ih => .tup (hw _ _ ha e) ⟨o, hk _ _ ha e, r⟩ ih
 case lst => exact fun ha ⟨o, n, e, r⟩ _ ih => .lst (hw _ _ ha e) ⟨o, n, hk _ _ ha e, r⟩ ih
 case rng => exact fun ha hr => .rng (hw _ _ ha hr) (hk _ _ ha hr)
 case ins => exact fun ha hb ht ho ⟨o, es, ep, e, r⟩ hx _ ih => .ins (hw _ _ ha ht) (hw _ _ hb e) (hk _ _ ha ht) ho ⟨o, es, ep, hk _ _ hb e, r⟩ hx ih
 case dct => exact fun ha ⟨o, es, ep, e, r⟩ _ he ih => .dct (hw _ _ ha e) ⟨o, es, ep, hk _ _ ha e, r⟩ ih he
 case cons => exact fun _ _ a b => .cons a b
 case consF => exact fun e _ _ a b => .cons e a b
theorem Rd.mono {W W' : Addr → Prop} {h h' : Heap} (hk : ∀ b o, ¬ W b → h.get? b = some o → h'.get? b = some o) (hw : ∀ b o, ¬ W b → h.get? b = some o → ¬ W' b) {v : Value} {d : D} (r : Rd W h v d) : Rd W' h' v d := (Rd.mono3 hk hw).1 _ _ r
theorem RdL.mono {W W' : Addr → Prop} {h h' : Heap} (hk : ∀ b o, ¬ W b → h.get? b = some o → h'.get? b = some o) (hw : ∀ b o, ¬ W b → h.get? b = some o → ¬ W' b) {v : List Value} {d : List D} (r : RdL W h v d) : RdL W' h' v d := (Rd.mono3 hk hw).2.1 _ _ r
theorem RdL.ind {W : Addr → Prop} {h : Heap} {P : List Value → List D → Prop} (n : P [] []) (k : ∀ v d vs ds, Rd W h v d → RdL W h vs ds → P vs ds → P (v :: vs) (d :: ds)) {vs : List Value} {ds : List D} (r : RdL W h vs ds) : P vs ds :=
 @RdL.rec W h (fun _ _ _ => True) (fun vs ds _ => P vs ds) (fun _ _ _ => True) (fun _ => trivial) (fun _ _ => trivial) (fun _ _ => trivial) (fun _ _ _ _ => trivial) (fun _ _ _ _ => trivial) (fun _ _ => trivial) (fun _ _ _ _ _ _ _ _ => trivial) (fun _ _ _ _ _ => trivial) (fun _ _ => trivial) n (fun a b _ ih => k _ _ _ _ a b ih) trivial (fun _ _ _ _ _ => trivial) _ _ r
theorem RdF.get {W : Addr → Prop} {h : Heap} {m : Str → Option Value} {x : Str} {d : D} : ∀ {fs : List (Str × D)}, RdF W h m fs → fs.lookup x = some d → ∃ v, m x = some v ∧ Rd W h v d := by
 intro fs
 induction fs with
 | nil => intro _ e; cases e
 | cons p fs ih =>
  intro r q
  cases r with
  | cons e a b =>
   rw [List.lookup_cons] at q
   split at q
   ·rename_i z
    have := eq_of_beq z; subst this
    cases q
    exact ⟨_, e, a⟩
   ·exact ih b q
theorem Rd.keeps {W : Addr → Prop} {h h' : Heap} (hk : ∀ b o, h.get? b = some o → h'.get? b = some o) {v : Value} {d : D} (r : Rd W h v d) : Rd W h' v d :=
 r.mono (fun b o _ e => hk b o e) (fun _ _ h _ => h)
theorem RdL.keeps {W : Addr → Prop} {h h' : Heap} (hk : ∀ b o, h.get? b = some o → h'.get? b = some o) {v : List Value} {d : List D} (r : RdL W h v d) : RdL W h' v d :=
 r.mono (fun b o _ e => hk b o e) (fun _ _ h _ => h)
theorem RdL.length {W : Addr → Prop} {h : Heap} {vs : List Value} {ds : List D} (r : RdL W h vs ds) : vs.length = ds.length :=
 r.ind (P := fun vs ds => vs.length = ds.length) rfl fun _ _ _ _ _ _ e => congrArg (· + 1) e
theorem RdL.get {W : Addr → Prop} {h : Heap} {vs : List Value} {ds : List D} (r : RdL W h vs ds) : ∀ {i : Nat} {d : D}, ds[i]? = some d → ∃ v, vs[i]? = some v ∧ Rd W h v d :=
 r.ind (P := fun vs ds => ∀ {i : Nat} {d : D}, ds[i]? = some d → ∃ v, vs[i]? = some v ∧ Rd W h v d) (fun e => by cases e) fun v d vs ds a b ih i e q => by
  cases i with
  | zero => cases q; exact ⟨_, rfl, a⟩
  | succ i => exact ih (i := i) q
theorem RdL.app {W : Addr → Prop} {h : Heap} {vs vs' : List Value} {ds ds' : List D} (a : RdL W h vs ds) (r : RdL W h vs' ds') : RdL W h (vs ++ vs') (ds ++ ds') :=
 a.ind (P := fun vs ds => RdL W h (vs ++ vs') (ds ++ ds')) r fun _ _ _ _ a _ ih => .cons a ih
theorem RdL.drop {W : Addr → Prop} {h : Heap} {vs : List Value} {ds : List D} (n : Nat) (r : RdL W h vs ds) : RdL W h (vs.drop n) (ds.drop n) := by
 induction n generalizing vs ds with
 | zero => exact r
 | succ n ih => cases r with
  | nil => exact .nil
  | cons _ b => exact ih b
theorem RdL.take {W : Addr → Prop} {h : Heap} {vs : List Value} {ds : List D} (n : Nat) (r : RdL W h vs ds) : RdL W h (vs.take n) (ds.take n) := by
 induction n generalizing vs ds with
 | zero => exact .nil
 | succ n ih => cases r with
  | nil => exact .nil
  | cons a b => exact .cons a (ih b)
structure Kq (s s' : Shared) : Prop where
 eq : ∃ h tk, s' = { s with heap := h, toks := tk }
 heap : ∀ b o, s.heap.get? b = some o → s'.heap.get? b = some o
theorem Kq.refl (s : Shared) : Kq s s := ⟨⟨s.heap, s.toks, rfl⟩, fun _ _ e => e⟩
theorem Kq.trans {s s' s'' : Shared} (a : Kq s s') (b : Kq s' s'') : Kq s s'' := by
 obtain ⟨⟨h, t, rfl⟩, k⟩ := a
 obtain ⟨⟨h', t', rfl⟩, k'⟩ := b
 exact ⟨⟨h', t', rfl⟩, fun b o e => k' b o (k b o e)⟩
theorem Kq.tok {s : Shared} (t : Nat) : Kq s { s with toks := t } := ⟨⟨s.heap, t, rfl⟩, fun _ _ e => e⟩
theorem Kq.push {s : Shared} (o : Obj) : Kq s { s with heap := s.heap.push o } := ⟨⟨_, s.toks, rfl⟩, fun b o' e => Heap.get?_push_of_some _ e⟩
theorem Kq.with {s : Shared} {h : Heap} {t : Nat} (k : ∀ b o, s.heap.get? b = some o → h.get? b = some o) : Kq s { s with heap := h, toks := t } := ⟨⟨h, t, rfl⟩, k⟩
noncomputable def HasK (K : Addr → Option Obj) (h : Heap) : Prop := ∀ a o, K a = some o → h.get? a = some o
theorem HasK.keeps {K : Addr → Option Obj} {h h' : Heap} (k : HasK K h) (hk : ∀ b o, h.get? b = some o → h'.get? b = some o) : HasK K h' := fun a o e => hk a o (k a o e)
noncomputable def Bnd (mg mb : Str → Option Value) (env : Env) (h : Heap) (x : Str) (v : Value) : Prop :=
 match env.kindOf x with
 | some .local => ∃ m, h.Ns env.locals m ∧ m x = some v
 | some .cell | some .free => ∃ c o, env.cells.lookup x = some c ∧ h.get? c = some o ∧ o.data = .cell (some v)
 | some .globalImplicit => mg x = some v ∨ (mg x = none ∧ mb x = some v)
 | _ => False
structure EnvOk (env : Env) : Prop where
 kind : env.scope.kind = .function
 glob : env.globals = mainGlobals
 blt : env.builtins = builtinsNs
theorem Heap.Ns.keepsAt {h h' : Heap} {a : Addr} {m : Str → Option Value} (n : h.Ns a m) (e : ∀ o, h.get? a = some o → h'.get? a = some o) : h'.Ns a m :=
 let ⟨o, es, ep, x, r⟩ := n; ⟨o, es, ep, e _ x, r⟩
theorem Bnd.keeps {mg mb : Str → Option Value} {env : Env} {h h' : Heap} {x : Str} {v : Value} (hk : ∀ b o, h.get? b = some o → h'.get? b = some o) (b : Bnd mg mb env h x v) : Bnd mg mb env h' x v := by
 unfold Bnd at b ⊢
 split at b
 ·obtain ⟨m, n, e⟩ := b; exact ⟨m, Heap.Ns.keepsAt n (fun o e => hk _ o e), e⟩
 ·obtain ⟨c, o, e1, e2, e3⟩ := b; exact ⟨c, o, e1, hk _ _ e2, e3⟩
 ·obtain ⟨c, o, e1, e2, e3⟩ := b; exact ⟨c, o, e1, hk _ _ e2, e3⟩
 ·exact b
 ·exact b
structure Cx where
 prog : Program
 w : World
 K : Addr → Option Obj
 mg : Str → Option Value
 mb : Str → Option Value
 hg : ∀ h, HasK K h → h.Ns mainGlobals mg
 hb : ∀ h, HasK K h → h.Ns builtinsNs mb
 hl : ∀ h, HasK K h → h.NoLimit
noncomputable abbrev Cx.M (c : Cx) : Model := model c.prog c.w
structure Kt (s s' : Shared) : Prop extends Kq s s' where
 tk : s.toks ≤ s'.toks
theorem Kt.refl (s : Shared) : Kt s s := ⟨.refl s, Nat.le_refl _⟩
theorem Kt.trans {s s' s'' : Shared} (a : Kt s s') (b : Kt s' s'') : Kt s s'' := ⟨a.toKq.trans b.toKq, Nat.le_trans a.tk b.tk⟩
structure Room (A : Around) (n : Nat) : Prop where
 hh : A.handled = none
 depth : A.depth + n ≤ 990
 units : A.units + 8 * n ≤ 9800
theorem Room.deeper {A : Around} {n : Nat} (r : Room A (n + 1)) (env : Env) : Room (A.deeper env) n := ⟨r.hh, by show A.depth + 1 + n ≤ 990; have := r.depth; omega, by show A.units + 3 + 8 * n ≤ 9800; have := r.units; omega⟩
theorem Room.in1 {A : Around} {n : Nat} (r : Room A (n + 1)) : Room A.in1 n := ⟨r.hh, by show A.depth + n ≤ 990; have := r.depth; omega, by show A.units + 1 + 8 * n ≤ 9800; have := r.units; omega⟩
theorem Room.lim {A : Around} {n : Nat} (r : Room A n) : A.depth < recursionLimit := by have := r.depth; show A.depth < 1000; omega
structure View (c : Cx) (W : Addr → Prop) (env : Env) (σ : List (Str × D)) (s : Shared) : Prop where
 base : HasK c.K s.heap
 wold : ∀ a, W a → ∃ o, s.heap.get? a = some o
 tok : 0 < s.toks
 vars : ∀ x d, σ.lookup x = some d → ∃ v, Bnd c.mg c.mb env s.heap x v ∧ Rd W s.heap v d
theorem View.keeps {c : Cx} {W : Addr → Prop} {env : Env} {σ : List (Str × D)} {s s' : Shared} (V : View c W env σ s) (k : Kt s s') : View c W env σ s' :=
 ⟨V.base.keeps k.heap, fun a h => let ⟨o, e⟩ := V.wold a h; ⟨o, k.heap _ _ e⟩, Nat.lt_of_lt_of_le V.tok k.tk, fun x d e => let ⟨v, b, r⟩ := V.vars x d e; ⟨v, b.keeps k.heap, r.keeps k.heap⟩⟩
theorem View.new {c : Cx} {W : Addr → Prop} {env : Env} {σ : List (Str × D)} {s : Shared} (V : View c W env σ s) {a : Addr} (h : s.heap.get? a = none) : ¬ W a := fun hw => by
 obtain ⟨o, e⟩ := V.wold a hw; rw [h] at e; cases e
theorem View.newSize {c : Cx} {W : Addr → Prop} {env : Env} {σ : List (Str × D)} {s : Shared} (V : View c W env σ s) : ¬ W s.heap.objs.size := fun hw => by
 obtain ⟨o, e⟩ := V.wold _ hw; exact absurd (Heap.lt_size e) (Nat.lt_irrefl _)
noncomputable def Ev (c : Cx) (A : Around) (env : Env) (σ : List (Str × D)) (e : Expr) (d : D) : Prop :=
 ∀ (W : Addr → Prop) (s : Shared) (E : Value → Shared → Prop), View c W env σ s → wpAny c.M A (eval e env) (fun v s' => Kt s s' ∧ Rd W s'.heap v d) E s
noncomputable def Et (c : Cx) (A : Around) (env : Env) (σ : List (Str × D)) (t : Sem Value) (d : D) : Prop :=
 ∀ (W : Addr → Prop) (s : Shared) (E : Value → Shared → Prop), View c W env σ s → wpAny c.M A t (fun v s' => Kt s s' ∧ Rd W s'.heap v d) E s
noncomputable def EvL (c : Cx) (A : Around) (env : Env) (σ : List (Str × D)) (ts : List (Bool × Sem Value)) (ds : List D) : Prop :=
 ∀ (W : Addr → Prop) (s : Shared) (E : Value → Shared → Prop), View c W env σ s → wpAny c.M A (spliced ts) (fun vs s' => Kt s s' ∧ RdL W s'.heap vs ds) E s
noncomputable def Tv (c : Cx) (A : Around) (env : Env) (σ : List (Str × D)) (e : Expr) (b : Bool) : Prop :=
 ∀ (W : Addr → Prop) (s : Shared) (E : Value → Shared → Prop), View c W env σ s → wpAny c.M A (isTrue e env (eval e env)) (fun v s' => Kt s s' ∧ v = b) E s
section
variable {c : Cx} {A : Around} {env : Env} {σ : List (Str × D)} {W : Addr → Prop} {s : Shared} {E : Value → Shared → Prop}
theorem kt_of {α : Type} {t : Sem α} {M : Model} {P : α → Shared → Prop} (h : wpAny M A t (fun v s' => Kq s s' ∧ P v s') E s) : wpAny M A t (fun v s' => Kt s s' ∧ P v s') E s :=
 wpAny_mono (wpAny_toks_of (Nat.le_refl s.toks) h) (fun _ _ q => ⟨⟨q.2.1, q.1⟩, q.2.2⟩) fun _ _ q => q.2
theorem Et.use {t : Sem Value} {d : D} {Q : Value → Shared → Prop} (h : Et c A env σ t d) (V : View c W env σ s) (k : ∀ v s', Kt s s' → View c W env σ s' → Rd W s'.heap v d → Q v s') : wpAny c.M A t Q E s :=
 wpAny_mono (h W s E V) (fun v s' q => k v s' q.1 (V.keeps q.1) q.2) fun _ _ e => e
theorem Ev.use {e : Expr} {d : D} {Q : Value → Shared → Prop} (h : Ev c A env σ e d) (V : View c W env σ s) (k : ∀ v s', Kt s s' → View c W env σ s' → Rd W s'.heap v d → Q v s') : wpAny c.M A (eval e env) Q E s :=
 Et.use (t := eval e env) h V k
theorem EvL.use {ts : List (Bool × Sem Value)} {ds : List D} {Q : List Value → Shared → Prop} (h : EvL c A env σ ts ds) (V : View c W env σ s) (k : ∀ vs s', Kt s s' → View c W env σ s' → RdL W s'.heap vs ds → Q vs s') : wpAny c.M A (spliced ts) Q E s :=
 wpAny_mono (h W s E V) (fun v s' q => k v s' q.1 (V.keeps q.1) q.2) fun _ _ e => e
theorem Tv.use {e : Expr} {b : Bool} {Q : Bool → Shared → Prop} (h : Tv c A env σ e b) (V : View c W env σ s) (k : ∀ s', Kt s s' → View c W env σ s' → Q b s') : wpAny c.M A (isTrue e env (eval e env)) Q E s :=
 wpAny_mono (h W s E V) (fun v s' q => by obtain ⟨q1, rfl⟩ := q; exact k s' q1 (V.keeps q1)) fun _ _ e => e
theorem Ev.intro {e : Expr} {d : D} (h : ∀ (W : Addr → Prop) (s : Shared) (E : Value → Shared → Prop), View c W env σ s → wpAny c.M A (eval e env) (fun v s' => Kq s s' ∧ Rd W s'.heap v d) E s) : Ev c A env σ e d :=
 fun W s E V => kt_of (h W s E V)
theorem Ev.int {i : Int} {k : Nat} {p : Pos} : Ev c A env σ (.Constant (.int i) k p) (.int i) :=
 .intro fun W s E V => wpAny_Constant_int ⟨.tok _, .int _ _⟩
theorem Ev.str {x : Str} {k : Nat} {p : Pos} : Ev c A env σ (.Constant (.str x) k p) (.str x) :=
 .intro fun W s E V => Calls.Constant_str ⟨.tok _, .str _ _⟩
theorem Ev.none {k : Nat} {p : Pos} : Ev c A env σ (.Constant .none k p) (.val .none) :=
 .intro fun W s E V => by rw [eval_Constant]; exact wpAny_pure ⟨.refl _, .val _⟩
theorem Ev.bool {b : Bool} {k : Nat} {p : Pos} : Ev c A env σ (.Constant (.bool b) k p) (.val (.bool b)) :=
 .intro fun W s E V => by rw [eval_Constant]; exact wpAny_pure ⟨.refl _, .val _⟩
theorem wpAny_cell {M : Model} {Q : Value → Shared → Prop} {x : Str} {cc : Addr} {o : Obj} {v : Value} (hf : env.blockKind = .function) (hk : env.kindOf x = some .cell ∨ env.kindOf x = some .free) (hnc : (x == ("__classdict__" : Str)) = false) (hl : env.cells.lookup x = some cc)
  (ho : s.heap.get? cc = some o) (hd : o.data = .cell (some v)) (hann : env.scope.kind.isAnnotationScope = false) (h : Q v s) : wpAny M A (loadName env x) Q E s := by
 have hc : wpAny M A (do cellGet (← cellOf env x)) (fun r s' => r = some v ∧ s' = s) E s := by
  unfold cellOf
  rw [hl]
  refine wpAny_bind (wpAny_pure ?_)
  unfold cellGet
  refine wpAny_bind (wpAny_load ho ?_)
  rw [hd]
  exact wpAny_pure ⟨rfl, rfl⟩
 have hc' : ∀ {k : Option Value → Sem Value}, (∀ {Q' : Value → Shared → Prop}, Q' v s → wpAny M A (k (some v)) Q' E s) → wpAny M A (do let r ← (do cellGet (← cellOf env x)); k r) Q E s := fun {k} hk' =>
  wpAny_bind (wpAny_mono hc (fun r s' q => by obtain ⟨rfl, rfl⟩ := q; exact hk' h) fun _ _ e => e)
 unfold loadName
 rw [hann]
 simp only [Bool.false_and, Bool.false_eq_true, if_false]
 rw [hf]
 rcases hk with hk | hk
 ·rw [hk]
  have := hc' (k := fun r => match r with
   | some v => pure v
   | Option.none => do
    rule "name.cell.unbound"
    raiseError "UnboundLocalError" s!"cannot access local variable '{x.toString}' where it is not associated with a value") (fun q => wpAny_pure q)
  rw [bind_assoc] at this
  exact this
 ·rw [hk]
  dsimp only
  rw [hnc]
  simp only [Bool.false_eq_true, if_false]
  have := hc' (k := fun r => match r with
   | some v => pure v
   | Option.none => do
    rule "name.free.unbound"
    raiseNameError x s!"cannot access free variable '{x.toString}' where it is not associated with a value in enclosing scope") (fun q => wpAny_pure q)
  rw [bind_assoc] at this
  exact this
theorem load_name (ok : EnvOk env) {x : Str} {v : Value} {Q : Value → Shared → Prop} (base : HasK c.K s.heap) (hb : Bnd c.mg c.mb env s.heap x v) (hnc : (x == ("__classdict__" : Str)) = false) (h : Q v s) : wpAny c.M A (loadName env x) Q E s := by
 unfold Bnd at hb
 have hann : env.scope.kind.isAnnotationScope = false := by rw [ok.kind]; rfl
 have hf : env.blockKind = .function := by unfold Env.blockKind; rw [ok.kind]; rfl
 split at hb
 ·rename_i hk
  obtain ⟨m, n, e⟩ := hb
  exact wpAny_loadName_local ok.kind hk n e h
 ·rename_i hk
  obtain ⟨cc, o, e1, e2, e3⟩ := hb
  exact wpAny_cell hf (.inl hk) hnc e1 e2 e3 hann h
 ·rename_i hk
  obtain ⟨cc, o, e1, e2, e3⟩ := hb
  exact wpAny_cell hf (.inr hk) hnc e1 e2 e3 hann h
 ·rename_i hk
  have hgl : s.heap.Ns env.globals c.mg := ok.glob ▸ c.hg _ base
  have hlo : wpAny c.M A (loadGlobal env x) Q E s := by
   rcases hb with hb | ⟨hb1, hb2⟩
   ·exact Calls.loadGlobal_global hgl hb h
   ·exact Calls.loadGlobal_builtin hgl hb1 (ok.blt ▸ c.hb _ base) hb2 h
  unfold loadName
  simp only [hann, Bool.false_and, Bool.false_eq_true, if_false, hf, hk]
  exact hlo
 ·exact hb.elim
theorem Ev.name (ok : EnvOk env) {x : Str} {p : Pos} {d : D} (hx : σ.lookup x = some d) (hnc : (x == ("__classdict__" : Str)) = false := by decide +kernel) (hd : (x == ("__debug__" : Str)) = false := by decide +kernel) : Ev c A env σ (.Name x p) d :=
 .intro fun W s E V => by
  obtain ⟨v, b, r⟩ := V.vars x d hx
  exact wpAny_Name (load_name ok V.base b hnc ⟨.refl _, r⟩) hd
theorem Ev.glob (ok : EnvOk env) {x : Str} {p : Pos} {v : Value} (hk : env.kindOf x = some .globalImplicit) (hx : c.mg x = some v ∨ (c.mg x = Option.none ∧ c.mb x = some v)) (hnc : (x == ("__classdict__" : Str)) = false := by decide +kernel) (hd : (x == ("__debug__" : Str)) = false := by decide +kernel) : Ev c A env σ (.Name x p) (.val v) :=
 .intro fun W s E V => wpAny_Name (load_name ok V.base (v := v) (by unfold Bnd; rw [hk]; exact hx) hnc ⟨.refl _, .val _⟩) hd
theorem EvL.nil : EvL c A env σ [] [] := fun W s E V => Calls.spliced_nil ⟨.refl _, .nil⟩
theorem EvL.cons {t : Sem Value} {d : D} {ts : List (Bool × Sem Value)} {ds : List D} (h : Et c A env σ t d) (k : EvL c A env σ ts ds) : EvL c A env σ ((false, t) :: ts) (d :: ds) := fun W s E V =>
 Calls.spliced_cons (h.use V fun v s₁ k₁ V₁ r₁ => k.use V₁ fun vs s₂ k₂ V₂ r₂ => ⟨k₁.trans k₂, .cons (r₁.keeps k₂.heap) r₂⟩)
theorem Ev.tuple {es : List Expr} {k : Nat} {p : Pos} {ds : List D} (h : EvL c A env σ (backTo p (starEach es env)) ds) (hn : ds.length ≤ 1000000 := by decide) : Ev c A env σ (.Tuple es k p) (.tup ds) :=
 .intro fun W s E V => Tuple_ (h.use V fun vs s₁ k₁ V₁ r₁ => wpAny_newObj_type ⟨k₁.toKq.trans (.push _), .tup V₁.newSize ⟨_, Heap.get?_push_size _ rfl, rfl, 0, rfl⟩ (by rw [List.toList_toArray]; exact r₁.keeps fun b o e => Heap.get?_push_of_some _ e)⟩
  (by show vs.toArray.size ≤ 2 ^ 24; rw [List.size_toArray, r₁.length]; omega))
theorem Ev.list {es : List Expr} {p : Pos} {ds : List D} (h : EvL c A env σ (backTo p (starEach es env)) ds) (hn : ds.length ≤ 1000000 := by decide) : Ev c A env σ (.List es p) (.lst ds) :=
 .intro fun W s E V => List_ (h.use V fun vs s₁ k₁ V₁ r₁ => wpAny_newObj_type ⟨k₁.toKq.trans (.push _), .lst V₁.newSize ⟨_, 0, Heap.get?_push_size _ rfl, rfl, rfl, rfl⟩ (by rw [List.toList_toArray]; exact r₁.keeps fun b o e => Heap.get?_push_of_some _ e)⟩
  (by show vs.toArray.size ≤ 2 ^ 24; rw [List.size_toArray, r₁.length]; omega))
end
mutual
noncomputable def toDat : D → Dat
 | .val _ => .none
 | .int i => .int i
 | .str x => .str x
 | .tup l => .tuple (toDats l)
 | .lst l => .list (toDats l)
 | .rng _ _ _ => .none
 | .ins _ _ => .none
 | .dct _ _ _ => .none
 | .byt _ => .none
noncomputable def toDats : List D → List Dat
 | [] => []
 | d :: r => toDat d :: toDats r
end
mutual
noncomputable def okD : Nat → D → Bool
 | _, .val v => decide (v = .none)
 | _, .int _ => true
 | _, .str x => PyData.strOk x
 | _, .rng _ _ _ => false
 | _, .ins _ _ => false
 | _, .dct _ _ _ => false
 | _, .byt _ => false
 | 0, .tup _ => false
 | 0, .lst _ => false
 | n + 1, .tup l => okDs n l
 | n + 1, .lst l => okDs n l
noncomputable def okDs : Nat → List D → Bool
 | _, [] => true
 | n, d :: r => okD n d && okDs n r
end
theorem okDs_all : ∀ (n : Nat) (l : List D), okDs n l = true ↔ ∀ d ∈ l, okD n d = true
 | n, [] => by rw [okDs]; simp
 | n, d :: r => by rw [okDs, Bool.and_eq_true, okDs_all n r]; simp
mutual
theorem toDat_ok : ∀ (n : Nat) (d : D), okD n d = true → kqdOk n (toDat d) = true
 | n, .val v, _ => by rw [toDat]; cases n <;> rfl
 | n, .int i, _ => by rw [toDat]; cases n <;> rfl
 | n, .str x, h => by rw [okD] at h; rw [toDat]; cases n <;> simpa [kqdOk] using h
 | n, .rng _ _ _, h => by cases n <;> (rw [okD] at h; cases h)
 | n, .ins _ _, h => by cases n <;> (rw [okD] at h; cases h)
 | n, .dct _ _ _, h => by cases n <;> (rw [okD] at h; cases h)
 | n, .byt _, h => by cases n <;> (rw [okD] at h; cases h)
 | 0, .tup l, h => by rw [okD] at h; cases h
 | 0, .lst l, h => by rw [okD] at h; cases h
 | n + 1, .tup l, h => by rw [okD] at h; rw [toDat, kqdOk]; exact toDats_ok n l h
 | n + 1, .lst l, h => by rw [okD] at h; rw [toDat, kqdOk]; exact toDats_ok n l h
theorem toDats_ok : ∀ (n : Nat) (l : List D), okDs n l = true → (toDats l).all (kqdOk n) = true
 | n, [], _ => by rw [toDats]; rfl
 | n, d :: r, h => by
  rw [okDs, Bool.and_eq_true] at h
  rw [toDats, List.all_cons, toDat_ok n d h.1, toDats_ok n r h.2]; rfl
end
mutual
noncomputable def ofDat : Dat → D
 | .none => .val .none
 | .bool _ => .val .none
 | .int i => .int i
 | .str x => .str x
 | .bytes _ => .val .none
 | .tuple l => .tup (ofDats l)
 | .list l => .lst (ofDats l)
noncomputable def ofDats : List Dat → List D
 | [] => []
 | d :: l => ofDat d :: ofDats l
end
theorem of_toDat : ∀ (n : Nat) (d : D), okD n d = true → ofDat (toDat d) = d := by
 intro n
 induction n with
 | zero => exact fun d h => by cases d <;> first | rfl | (rw [okD] at h; cases h; done) | (rw [okD] at h; have := of_decide_eq_true h; subst this; rfl)
 | succ n ih =>
  have L : ∀ l, okDs n l = true → ofDats (toDats l) = l := fun l => by
   induction l with
   | nil => exact fun _ => rfl
   | cons d l i2 =>
    intro h
    rw [okDs, Bool.and_eq_true] at h
    show ofDat (toDat d) :: ofDats (toDats l) = _
    rw [ih d h.1, i2 h.2]
  intro d h
  cases d with
  | tup l => rw [okD] at h; exact congrArg D.tup (L l h)
  | lst l => rw [okD] at h; exact congrArg D.lst (L l h)
  | val v => rw [okD] at h; have := of_decide_eq_true h; subst this; rfl
  | _ => first | rfl | (rw [okD] at h; cases h)
theorem toDat_inj (n m : Nat) (d e : D) (h : okD n d = true) (k : okD m e = true) (q : toDat d = toDat e) : d = e := by
 rw [← of_toDat n d h, ← of_toDat m e k, q]
theorem reads_tuple_is {h : Heap} {a : Addr} {vs : Array Value} {xs : List PyData} {as : List Addr} (ht : h.IsTuple a vs) (r : ReadsAll h vs.toList xs as) : ∃ bs, Reads h (.ref a) (.tuple xs) bs := by
 obtain ⟨o, e, hc, n, hd⟩ := ht
 exact ⟨_, reads_tuple_at e hc hd r⟩
theorem reads_list_is {h : Heap} {a : Addr} {vs : Array Value} {xs : List PyData} {as : List Addr} (ht : h.IsList a vs) (r : ReadsAll h vs.toList xs as) : ∃ bs, Reads h (.ref a) (.list xs) bs := by
 obtain ⟨o, e, hc, n, hd⟩ := ht
 exact ⟨_, reads_list_at e hc hd r⟩
theorem RdL.readsOf {W : Addr → Prop} {h : Heap} {n : Nat} (f : ∀ v d, Rd W h v d → okD n d = true → ∃ as, Reads h v (kqdP (toDat d)) as) : ∀ {ds : List D} {vs : List Value}, RdL W h vs ds → okDs n ds = true → ∃ as, ReadsAll h vs (kqdPs (toDats ds)) as := by
 intro ds
 induction ds with
 | nil => intro vs r _; cases r; rw [toDats, kqdPs]; exact ⟨_, ReadsAll.nil⟩
 | cons d ds ih =>
  intro vs r k
  cases r with
  | cons a b =>
   rw [okDs, Bool.and_eq_true] at k
   obtain ⟨as, q⟩ := f _ _ a k.1
   obtain ⟨bs, p⟩ := ih b k.2
   rw [toDats, kqdPs]; exact ⟨_, ReadsAll.cons q p⟩
theorem Rd.readsFlat {W : Addr → Prop} {h : Heap} {n : Nat} (f : ∀ m, n = m + 1 → ∀ v d, Rd W h v d → okD m d = true → ∃ as, Reads h v (kqdP (toDat d)) as) {v : Value} {d : D} (r : Rd W h v d) (k : okD n d = true) : ∃ as, Reads h v (kqdP (toDat d)) as := by
 cases r with
 | val v => rw [okD] at k; have := of_decide_eq_true k; subst this; rw [toDat, kqdP]; exact ⟨_, Reads.none⟩
 | int i t => rw [toDat, kqdP]; exact ⟨_, Reads.int i t⟩
 | str x t => rw [toDat, kqdP]; exact ⟨_, Reads.str x t⟩
 | tup _ ht r =>
  cases n with
  | zero => rw [okD] at k; cases k
  | succ n =>
   rw [okD] at k; rw [toDat, kqdP]
   obtain ⟨as, q⟩ := RdL.readsOf (f n rfl) r k
   exact reads_tuple_is ht q
 | lst _ ht r =>
  cases n with
  | zero => rw [okD] at k; cases k
  | succ n =>
   rw [okD] at k; rw [toDat, kqdP]
   obtain ⟨as, q⟩ := RdL.readsOf (f n rfl) r k
   exact reads_list_is ht.isList q
 | rng => rw [okD] at k; cases k
 | ins => rw [okD] at k; cases k
 | dct => rw [okD] at k; cases k
 | byt => rw [okD] at k; cases k
theorem Rd.reads {W : Addr → Prop} {h : Heap} : ∀ {v : Value} {d : D} (n : Nat), Rd W h v d → okD n d = true → ∃ as, Reads h v (kqdP (toDat d)) as := by
 intro v d n
 induction n generalizing v d with
 | zero => exact fun r k => r.readsFlat (fun m e => absurd e (by omega)) k
 | succ n ih => exact fun r k => r.readsFlat (fun m e v d r k => by cases e; exact ih r k) k
theorem shaped_ok {d : D} (h : okD 8 d = true) : SeqAt.shaped (kqdP (toDat d)) = true := by
 have l := kqd_lay 8 (toDat d) (toDat_ok 8 d h)
 unfold SeqAt.shaped; rw [l.1, Bool.true_and]; exact decide_eq_true (Nat.le_trans l.2 (by decide))
open Classical in
theorem eqv_ok {d e : D} (h : okD 8 d = true) (k : okD 8 e = true) : PyData.eqv (kqdP (toDat d)) (kqdP (toDat e)) = decide (d = e) := by
 have q := kqd_eqv 8 (toDat d) (toDat e) 8 (toDat_ok 8 d h) (toDat_ok 8 e k)
 by_cases z : d = e
 ·rw [decide_eq_true z]; exact q.mpr (by rw [z])
 ·rw [decide_eq_false z]; exact Bool.eq_false_iff.mpr fun x => z (toDat_inj 8 8 d e h k (q.mp x))
noncomputable def Cmp (c : Cx) (A : Around) (op : CmpOp) (d e : D) (b : Bool) : Prop :=
 ∀ (W : Addr → Prop) (s : Shared) (E : Value → Shared → Prop) (u v : Value), HasK c.K s.heap → Rd W s.heap u d → Rd W s.heap v e → wpAny c.M A (compareOp op u v) (fun r s' => Kt s s' ∧ r = .bool b) E s
section
variable {c : Cx} {A : Around} {env : Env} {σ : List (Str × D)}
open Classical in
theorem Cmp.eq {d e : D} {n : Nat} (r : Room A n) (hu : A.units + 64 < cLine) (h : okD 8 d = true) (k : okD 8 e = true) : Cmp c A .Eq d e (decide (d = e)) := fun W s E u v _ ru rv => by
 obtain ⟨as, ra⟩ := ru.reads 8 h
 obtain ⟨bs, rb⟩ := rv.reads 8 k
 exact eq_dataH ra rb (shaped_ok h) (shaped_ok k) hu ⟨.refl _, by rw [eqv_ok h k]⟩
open Classical in
theorem Cmp.ne {d e : D} {n : Nat} (r : Room A n) (hu : A.units + 64 < cLine) (h : okD 8 d = true) (k : okD 8 e = true) : Cmp c A .NotEq d e (!decide (d = e)) := fun W s E u v _ ru rv => by
 obtain ⟨as, ra⟩ := ru.reads 8 h
 obtain ⟨bs, rb⟩ := rv.reads 8 k
 exact ne_dataH ra rb (shaped_ok h) (shaped_ok k) hu ⟨.refl _, by rw [eqv_ok h k]⟩
noncomputable def D.none? : D → Bool
 | .val v => v == .none
 | _ => false
theorem Rd.none? {W : Addr → Prop} {h : Heap} {v : Value} {d : D} (r : Rd W h v d) : (v == Value.none) = d.none? := by
 cases r <;> first | rfl | exact beq_eq_false_iff_ne.mpr (fun e => nomatch e)
theorem Cmp.isNotNone {d : D} : Cmp c A .IsNot d (.val .none) (!d.none?) := fun W s E u v _ ru rv => by
 cases rv
 show wpAny _ _ (isSame u .none >>= fun r => pure (Value.bool !r)) _ _ _
 rw [isSame_none]
 exact wpAny_bind (wpAny_pure (wpAny_pure ⟨.refl _, by rw [ru.none?]⟩))
theorem Cmp.isType {a b : String} : Cmp c A .Is (.val (.type a)) (.val (.type b)) (a == b) := fun W s E u v _ ru rv => by
 cases ru; cases rv
 show wpAny _ _ (isSame (.type a) (.type b) >>= fun r => pure (Value.bool r)) _ _ _
 have e : isSame (.type a) (.type b) = pure (Value.type a == Value.type b) := rfl
 have q : (Value.type a == Value.type b) = (a == b) := by
  by_cases z : a = b
  ·subst z; simp
  ·rw [beq_eq_false_iff_ne.mpr z]; exact beq_eq_false_iff_ne.mpr fun x => z (by injection x)
 rw [e, q]
 exact wpAny_bind (wpAny_pure (wpAny_pure ⟨.refl _, rfl⟩))
theorem Cmp.isNotType {a b : String} : Cmp c A .IsNot (.val (.type a)) (.val (.type b)) (!(a == b)) := fun W s E u v _ ru rv => by
 cases ru; cases rv
 show wpAny _ _ (isSame (.type a) (.type b) >>= fun r => pure (Value.bool !r)) _ _ _
 have e : isSame (.type a) (.type b) = pure (Value.type a == Value.type b) := rfl
 have q : (Value.type a == Value.type b) = (a == b) := by
  by_cases z : a = b
  ·subst z; simp
  ·rw [beq_eq_false_iff_ne.mpr z]; exact beq_eq_false_iff_ne.mpr fun x => z (by injection x)
 rw [e, q]
 exact wpAny_bind (wpAny_pure (wpAny_pure ⟨.refl _, rfl⟩))
theorem Cmp.lt {i j : Int} : Cmp c A .Lt (.int i) (.int j) (decide (i < j)) := fun W s E u v _ ru rv => by
 cases ru; cases rv
 exact lt_int ⟨.refl _, rfl⟩
theorem Ev.cmp {l r : Expr} {op : CmpOp} {p : Pos} {d e : D} {b : Bool} (hl : Ev c A env σ l d) (hr : Ev c A env σ r e) (hc : Cmp c A op d e b) (hm : behindInMarks op r = false := by rfl) : Ev c A env σ (.Compare l [op] [r] p) (.val (.bool b)) := fun W s E V =>
 wpAny_Compare1 (hl.use V fun v s₁ k₁ V₁ r₁ => hr.use V₁ fun v₂ s₂ k₂ V₂ r₂ => wpAny_mono (hc W s₂ E v v₂ V₂.base (r₁.keeps k₂.heap) r₂) (fun r s₃ q => by obtain ⟨q1, rfl⟩ := q; exact ⟨(k₁.trans k₂).trans q1, .val _⟩) fun _ _ e => e) hm
theorem Tv.cmp {l r : Expr} {op : CmpOp} {p : Pos} {d e : D} {b : Bool} (hl : Ev c A env σ l d) (hr : Ev c A env σ r e) (hc : Cmp c A op d e b) (hm : behindInMarks op r = false := by rfl) : Tv c A env σ (.Compare l [op] [r] p) b := fun W s E V =>
 wpAny_isTrue_Compare1 (hl.use V fun v s₁ k₁ V₁ r₁ => hr.use V₁ fun v₂ s₂ k₂ V₂ r₂ => wpAny_mono (hc W s₂ E v v₂ V₂.base (r₁.keeps k₂.heap) r₂) (fun r s₃ q => by obtain ⟨q1, rfl⟩ := q; exact wpAny_truthy_bool ⟨(k₁.trans k₂).trans q1, rfl⟩) fun _ _ e => e) hm
end
end Mine
end
section
open PySem PySem.W PyProof.Rows PySem.Calls
namespace Mine
section
variable {c : Cx} {A : Around} {env : Env} {σ : List (Str × D)}
noncomputable def Bop (c : Cx) (A : Around) (op : Operator) (d e r : D) : Prop :=
 ∀ (W : Addr → Prop) (s : Shared) (E : Value → Shared → Prop) (u v : Value), (∀ a, W a → ∃ o, s.heap.get? a = some o) → 0 < s.toks → Rd W s.heap u d → Rd W s.heap v e → wpAny c.M A (binaryOp op u v) (fun x s' => Kq s s' ∧ Rd W s'.heap x r) E s
theorem Ev.bin {l r : Expr} {op : Operator} {p : Pos} {d e x : D} (hl : Ev c A env σ l d) (hr : Ev c A env σ r e) (hb : Bop c A op d e x) : Ev c A env σ (.BinOp l op r p) x :=
 fun W s E V => wpAny_BinOp (hl.use V fun v s₁ k₁ V₁ r₁ => hr.use V₁ fun v₂ s₂ k₂ V₂ r₂ => wpAny_mono (kt_of (hb W s₂ E v v₂ V₂.wold V₂.tok (r₁.keeps k₂.heap) r₂)) (fun x s₃ q => ⟨(k₁.trans k₂).trans q.1, q.2⟩) fun _ _ e => e)
theorem Bop.addI {i j : Int} : Bop c A .Add (.int i) (.int j) (.int (i + j)) := fun W s E u v _ _ ru rv => by cases ru; cases rv; exact add_int ⟨.tok _, .int _ _⟩
theorem Bop.modI {i j : Int} (h : j ≠ 0) : Bop c A .Mod (.int i) (.int j) (.int (i.fmod j)) := fun W s E u v _ _ ru rv => by cases ru; cases rv; exact mod_int' h ⟨.tok _, .int _ _⟩
theorem Bop.divI {i j : Int} (h : j ≠ 0) (hp : Builtin.divisionGoesByPylong i j = false) : Bop c A .FloorDiv (.int i) (.int j) (.int (i.fdiv j)) := fun W s E u v _ _ ru rv => by cases ru; cases rv; exact floordiv_int h ⟨.tok _, .int _ _⟩ (.inl hp)
theorem Bop.addS {x y : Str} (h : x.length + y.length ≤ 1000000) : Bop c A .Add (.str x) (.str y) (.str (x ++ y)) := fun W s E u v _ _ ru rv => by
 cases ru; cases rv; exact PyProof.Rows.add_str (fun t' tk => ⟨.tok _, .str _ _⟩) (by rw [sizeLine_eq]; omega)
theorem add_lists' {s : Shared} {E : Value → Shared → Prop} {a b : Addr} {xs ys : Array Value} {Q : Value → Shared → Prop} (hx : s.heap.IsList a xs) (hy : s.heap.IsList b ys) (hz : xs.size + ys.size ≤ sizeLine)
  (h : Q (.ref s.heap.objs.size) { s with heap := s.heap.push { cls := .type "list", data := .seq (xs ++ ys) } }) : wpAny c.M A (binaryOp .Add (.ref a) (.ref b)) Q E s := by
 obtain ⟨⟨c1, d1, dt1, s1⟩, e1, h1, n1, q1⟩ := id hx
 obtain ⟨⟨c2, d2, dt2, s2⟩, e2, h2, n2, q2⟩ := id hy
 simp only at h1 q1 h2 q2
 subst h1 q1 h2 q2
 exact concat_meets hx.typeIs hy.typeIs noFill_list_add seq_list_add PySem.F.slot_list_add PySem.F.entry_list_add (PySem.F.args_list_add_2 _ _) (list_addW a b xs ys n1 n2 d1 d2 s1 s2 hz) ⟨e1, e2, h⟩
theorem Bop.addL {x y : List D} (h : x.length + y.length ≤ 1000000) : Bop c A .Add (.lst x) (.lst y) (.lst (x ++ y)) := fun W s E u v wo _ ru rv => by
 cases ru with
 | lst ha hl hr =>
  rename_i a vs
  cases rv with
  | lst hb hm hs =>
   rename_i b us
   have el : vs.size = x.length := by rw [← hr.length]; simp
   have em : us.size = y.length := by rw [← hs.length]; simp
   refine add_lists' hl.isList hm.isList (by rw [el, em, sizeLine_eq]; omega) ⟨.push _, .lst ?_ ⟨_, 0, Heap.get?_push_size _ rfl, rfl, rfl, rfl⟩ ?_⟩
   ·intro hw; obtain ⟨o, e⟩ := wo _ hw; exact absurd (Heap.lt_size e) (Nat.lt_irrefl _)
   ·rw [Array.toList_append]
    exact (hr.app hs).keeps fun b o e => Heap.get?_push_of_some _ e
theorem Ev.call1 {x : Str} {np p : Pos} {e : Expr} {d r : D} {id : String} (hf : Ev c A env σ (.Name x np) (.val (.builtin id))) (hs : starEach [e] env = [(false, eval e env)]) (he : Ev c A env σ e d)
  (h : ∀ (W : Addr → Prop) (s : Shared) (E : Value → Shared → Prop) (v : Value), (∀ a, W a → ∃ o, s.heap.get? a = some o) → HasK c.K s.heap → Rd W s.heap v d → wpAny c.M A (call (.builtin id) [v]) (fun x s' => Kq s s' ∧ Rd W s'.heap x r) E s) : Ev c A env σ (.Call (.Name x np) [e] [] p) r :=
 fun W s E V => Call_name1 hs (hf.use V fun f s₁ k₁ V₁ r₁ => by
  cases r₁
  exact callWith_builtin1 (he.use V₁ fun v s₂ k₂ V₂ r₂ => wpAny_mono (kt_of (h W s₂ E v V₂.wold V₂.base r₂)) (fun x s₃ q => ⟨(k₁.trans k₂).trans q.1, q.2⟩) fun _ _ e => e))
theorem Ev.callT1 {x : Str} {np p : Pos} {e : Expr} {d r : D} {id : String} (hf : Ev c A env σ (.Name x np) (.val (.type id))) (hs : starEach [e] env = [(false, eval e env)]) (he : Ev c A env σ e d)
  (h : ∀ (W : Addr → Prop) (s : Shared) (E : Value → Shared → Prop) (v : Value), (∀ a, W a → ∃ o, s.heap.get? a = some o) → HasK c.K s.heap → Rd W s.heap v d → wpAny c.M A (call (.type id) [v]) (fun x s' => Kq s s' ∧ Rd W s'.heap x r) E s) : Ev c A env σ (.Call (.Name x np) [e] [] p) r :=
 fun W s E V => Call_name1 hs (hf.use V fun f s₁ k₁ V₁ r₁ => by
  cases r₁
  exact PySem.callWith_type1 (he.use V₁ fun v s₂ k₂ V₂ r₂ => wpAny_mono (kt_of (h W s₂ E v V₂.wold V₂.base r₂)) (fun x s₃ q => ⟨(k₁.trans k₂).trans q.1, q.2⟩) fun _ _ e => e))
theorem Ev.chr {x : Str} {np p : Pos} {e : Expr} {i : Int} (hf : Ev c A env σ (.Name x np) (.val (.builtin "chr"))) (hs : starEach [e] env = [(false, eval e env)]) (he : Ev c A env σ e (.int i)) (h0 : 0 ≤ i) (h1 : i ≤ 1114111) :
  Ev c A env σ (.Call (.Name x np) [e] [] p) (.str ⟨#[i.toNat]⟩) :=
 .call1 hf hs he fun W s E v _ _ r => by
  cases r
  refine P.chr_of_int ?_ ⟨.tok _, .str _ _⟩
  rw [decide_eq_false (by omega), decide_eq_false (by omega)]; rfl
theorem Ev.ord {x : Str} {np p : Pos} {e : Expr} {k : Nat} (hf : Ev c A env σ (.Name x np) (.val (.builtin "ord"))) (hs : starEach [e] env = [(false, eval e env)]) (he : Ev c A env σ e (.str ⟨#[k]⟩)) :
  Ev c A env σ (.Call (.Name x np) [e] [] p) (.int k) :=
 .call1 hf hs he fun W s E v _ _ r => by
  cases r
  exact P.ord_of_char ⟨.tok _, .int _ _⟩
theorem Ev.lenL {x : Str} {np p : Pos} {e : Expr} {l : List D} (hf : Ev c A env σ (.Name x np) (.val (.builtin "len"))) (hs : starEach [e] env = [(false, eval e env)]) (he : Ev c A env σ e (.lst l)) (hz : l.length < 1000000) :
  Ev c A env σ (.Call (.Name x np) [e] [] p) (.int l.length) :=
 .call1 hf hs he fun W s E v _ _ r => by
  cases r with
  | lst ha hl hr =>
   rename_i a vs
   have e := hr.length
   have e2 : vs.size = l.length := by rw [← e]; simp
   refine call_len_list hl.isList (by rw [e2]; omega) ⟨.tok _, ?_⟩
   rw [e2]; exact .int _ _
theorem Ev.subT {value slice : Expr} {p : Pos} {l : List D} {k : Int} {j : Nat} {d : D} (hv : Ev c A env σ value (.tup l)) (hi : Ev c A env σ slice (.int k)) (hlo : -(2 ^ 63) ≤ k) (hhi : k < 2 ^ 63) (hj : seqIndex? k l.length = some j) (hd : l[j]? = some d)
  (hs : ∀ (a : Addr) (u : Tok), subscripted slice false (.ref a) (.int k u) = operate [.ref a, .int k u] (getItem (.ref a) (.int k u)) := by intro _ _; rfl) : Ev c A env σ (.Subscript value slice p) d :=
 fun W s E V => Subscript_ (hv.use V fun v s₁ k₁ V₁ r₁ => hi.use V₁ fun i s₂ k₂ V₂ r₂ => by
  cases r₂
  cases r₁.keeps k₂.heap with
  | tup ha ht hr =>
   rename_i u a vs
   obtain ⟨x, hx, rx⟩ := hr.get hd
   have el : vs.size = l.length := by rw [← hr.length]; simp
   refine tail_any ht.typeIs slot_tuple_getitem.lookup (getItem_tuple ht hlo hhi (by rw [el]; exact hj) (by rw [← hx]; simp) ⟨k₁.trans k₂, rx⟩) (hs a u))
theorem Ev.subL {value slice : Expr} {p : Pos} {l : List D} {k : Int} {j : Nat} {d : D} (hv : Ev c A env σ value (.lst l)) (hi : Ev c A env σ slice (.int k)) (hlo : -(2 ^ 63) ≤ k) (hhi : k < 2 ^ 63) (hj : seqIndex? k l.length = some j) (hd : l[j]? = some d)
  (hs : ∀ (a : Addr) (u : Tok), subscripted slice false (.ref a) (.int k u) = operate [.ref a, .int k u] (getItem (.ref a) (.int k u)) := by intro _ _; rfl) : Ev c A env σ (.Subscript value slice p) d :=
 fun W s E V => Subscript_ (hv.use V fun v s₁ k₁ V₁ r₁ => hi.use V₁ fun i s₂ k₂ V₂ r₂ => by
  cases r₂
  cases r₁.keeps k₂.heap with
  | lst ha ht hr =>
   rename_i u a vs
   obtain ⟨x, hx, rx⟩ := hr.get hd
   have el : vs.size = l.length := by rw [← hr.length]; simp
   refine tail_any ht.isList.typeIs slot_list_getitem.lookup ?_ (hs a u)
   unfold seqIndex? at hj
   by_cases hk : k < 0
   ·simp only [hk, if_true] at hj
    by_cases hb : 0 ≤ k + (l.length : Int) ∧ k + (l.length : Int) < l.length
    ·rw [if_pos (by simp only [Bool.and_eq_true, decide_eq_true_eq]; exact hb)] at hj
     have hj' := Option.some.inj hj
     refine wpAny_getItem_list_neg ht.isList hk (by rw [el]; omega) hlo (x := x) ?_ ⟨k₁.trans k₂, rx⟩
     rw [el, hj', ← hx]; simp
    ·rw [if_neg (by simp only [Bool.and_eq_true, decide_eq_true_eq]; exact hb)] at hj; cases hj
   ·simp only [hk, if_false] at hj
    by_cases hb : 0 ≤ k ∧ k < l.length
    ·rw [if_pos (by simp only [Bool.and_eq_true, decide_eq_true_eq]; exact hb)] at hj
     have hj' := Option.some.inj hj
     refine PySem.wpAny_getItem_list ht.isList hb.1 hhi (x := x) ?_ ⟨k₁.trans k₂, rx⟩
     rw [hj', ← hx]; simp
    ·rw [if_neg (by simp only [Bool.and_eq_true, decide_eq_true_eq]; exact hb)] at hj; cases hj)
end
structure Upd (Mo : Addr → Prop) (s s' : Shared) : Prop where
 eq : ∃ h tk, s' = { s with heap := h, toks := tk }
 tk : s.toks ≤ s'.toks
 keep : ∀ b o, ¬ Mo b → s.heap.get? b = some o → s'.heap.get? b = some o
theorem Upd.of {Mo : Addr → Prop} {s s' : Shared} (k : Kt s s') : Upd Mo s s' := ⟨k.eq, k.tk, fun b o _ e => k.heap b o e⟩
theorem Upd.kt {s s' : Shared} (k : Upd (fun _ => False) s s') : Kt s s' := ⟨⟨k.eq, fun b o e => k.keep b o id e⟩, k.tk⟩
theorem Upd.refl {Mo : Addr → Prop} (s : Shared) : Upd Mo s s := .of (.refl s)
theorem Upd.trans {Mo : Addr → Prop} {s s' s'' : Shared} (a : Upd Mo s s') (b : Upd Mo s' s'') : Upd Mo s s'' := by
 obtain ⟨⟨h, t, rfl⟩, k1, k⟩ := a
 obtain ⟨⟨h', t', rfl⟩, k2, k'⟩ := b
 exact ⟨⟨h', t', rfl⟩, Nat.le_trans k1 k2, fun b o n e => k' b o n (k b o n e)⟩
theorem Upd.mono {Mo Mo' : Addr → Prop} {s s' : Shared} (h : ∀ a, Mo a → Mo' a) (u : Upd Mo s s') : Upd Mo' s s' := ⟨u.eq, u.tk, fun b o n e => u.keep b o (fun m => n (h b m)) e⟩
theorem Upd.rd {Mo W : Addr → Prop} {s s' : Shared} (u : Upd Mo s s') (hm : ∀ a, Mo a → W a) {v : Value} {d : D} (r : Rd W s.heap v d) : Rd W s'.heap v d :=
 r.mono (fun b o n e => u.keep b o (fun m => n (hm b m)) e) (fun _ _ h _ => h)
theorem Upd.rdL {Mo W : Addr → Prop} {s s' : Shared} (u : Upd Mo s s') (hm : ∀ a, Mo a → W a) {v : List Value} {d : List D} (r : RdL W s.heap v d) : RdL W s'.heap v d :=
 r.mono (fun b o n e => u.keep b o (fun m => n (hm b m)) e) (fun _ _ h _ => h)
theorem View.upd {c : Cx} {W Mo : Addr → Prop} {env : Env} {σ σ' : List (Str × D)} {s s' : Shared} (V : View c W env σ s) (U : Upd Mo s s') (hK : ∀ a, Mo a → c.K a = none) (hex : ∀ a, Mo a → ∃ o, s'.heap.get? a = some o)
  (hv : ∀ x d, σ'.lookup x = some d → ∃ v, Bnd c.mg c.mb env s'.heap x v ∧ Rd W s'.heap v d) : View c W env σ' s' :=
 {base := fun a o e => U.keep a o (fun m => absurd e (by rw [hK a m]; exact fun q => nomatch q)) (V.base a o e)
  wold := fun a h => (Classical.em (Mo a)).elim (hex a) fun m => (V.wold a h).imp fun o e => U.keep a o m e
  tok := Nat.lt_of_lt_of_le V.tok U.tk
  vars := hv }
theorem Bnd.atLocals {mg mb : Str → Option Value} {env : Env} {h h' : Heap} {x : Str} {v : Value} {m m' : Str → Option Value} (b : Bnd mg mb env h x v) (hn : h.Ns env.locals m) (hn' : h'.Ns env.locals m') (hm : m' x = m x) (hk : ∀ b o, b ≠ env.locals → h.get? b = some o → h'.get? b = some o) : Bnd mg mb env h' x v := by
 have cellNe : ∀ cc o, h.get? cc = some o → o.data = .cell (some v) → cc ≠ env.locals := by
  intro cc o e1 e2 e3
  subst e3
  obtain ⟨o', es, ep, e4, e5, _⟩ := hn
  rw [e1] at e4; cases e4; rw [e2] at e5; cases e5
 unfold Bnd at b ⊢
 split at b
 ·obtain ⟨m₀, n, e⟩ := b
  exact ⟨m', hn', by rw [hm, ← n.agree hn, e]⟩
 ·obtain ⟨cc, o, e1, e2, e3⟩ := b; exact ⟨cc, o, e1, hk _ _ (cellNe _ _ e2 e3) e2, e3⟩
 ·obtain ⟨cc, o, e1, e2, e3⟩ := b; exact ⟨cc, o, e1, hk _ _ (cellNe _ _ e2 e3) e2, e3⟩
 ·exact b
 ·exact b
section
variable {c : Cx} {A : Around} {env : Env} {σ : List (Str × D)} {W : Addr → Prop} {s : Shared} {E : Value → Shared → Prop}
theorem function_hp (ok : EnvOk env) : (env.scope.kind == .class || (env.scope.kind == .module && env.locals != env.globals)) = false := by rw [ok.kind]; rfl
theorem set_local (ok : EnvOk env) {x : Str} {v : Value} {d : D} {Q : Unit → Shared → Prop} (hk : env.kindOf x = some .local) (V : View c W env σ s) (hW : W env.locals) (hK : c.K env.locals = none) (hns : ∃ m, s.heap.Ns env.locals m) (r : Rd W s.heap v d)
  (h : ∀ s', View c W env ((x, d) :: σ) s' → Upd (fun b => b = env.locals) s s' → (∃ m, s'.heap.Ns env.locals m) → Q () s') : wpAny c.M A (storeName env x v) Q E s := by
 obtain ⟨m, hn⟩ := hns
 refine wpAny_storeName_local hk hn (fun h' hn' hs => ?_) (function_hp ok)
 have U : Upd (fun b => b = env.locals) s { s with heap := h', toks := s.toks + 1 } := ⟨⟨_, _, rfl⟩, Nat.le_succ _, fun b o n e => hs.extBut b o n e⟩
 have hm : ∀ a, a = env.locals → W a := fun a e => e ▸ hW
 refine h _ (V.upd U (fun a e => e ▸ hK) (fun a e => by subst e; obtain ⟨o, _, _, e, _⟩ := hn'; exact ⟨o, e⟩) fun y e hy => ?_) U ⟨_, hn'⟩
 rw [List.lookup_cons] at hy
 split at hy
 ·rename_i z
  have := eq_of_beq z; subst this; cases hy
  refine ⟨v, ?_, U.rd hm r⟩
  unfold Bnd; rw [hk]
  exact ⟨_, hn', if_pos rfl⟩
 ·rename_i z
  obtain ⟨u, b, ru⟩ := V.vars y e hy
  exact ⟨u, b.atLocals hn hn' (if_neg fun q => by subst q; simp at z) fun b o n e => hs.extBut b o n e, U.rd hm ru⟩
end
inductive Tgt (env : Env) : Expr → D → List (Str × D) → Prop
 | name {x : Str} {p : Pos} {d : D} : env.kindOf x = some .local → Tgt env (.Name x p) d [(x, d)]
 | pair {x y : Str} {p q pt : Pos} {k : Nat} {d e : D} : env.kindOf x = some .local → env.kindOf y = some .local → Tgt env (.Tuple [.Name x p, .Name y q] k pt) (.tup [d, e]) [(y, e), (x, d)]
section
variable {c : Cx} {A : Around} {env : Env} {σ : List (Str × D)} {W : Addr → Prop} {s : Shared} {E : Value → Shared → Prop}
theorem Tgt.set (ok : EnvOk env) (hh : A.handled = none) {t : Expr} {d : D} {bs : List (Str × D)} (T : Tgt env t d bs) {v : Value} {Q : Unit → Shared → Prop} (V : View c W env σ s) (hW : W env.locals) (hK : c.K env.locals = none) (hns : ∃ m, s.heap.Ns env.locals m) (r : Rd W s.heap v d)
  (h : ∀ s', View c W env (bs ++ σ) s' → Upd (fun b => b = env.locals) s s' → (∃ m, s'.heap.Ns env.locals m) → Q () s') : wpAny c.M A (assign t env v) Q E s := by
 cases T with
 | name hk => exact wpAny_assign_Name (set_local ok hk V hW hK hns r h)
 | pair hx hy =>
  cases r with
  | tup ha ht hl =>
   rename_i x y p q pt k d e a vs
   cases hl2 : vs.toList with
   | nil => rw [hl2] at hl; cases hl
   | cons u us =>
    rw [hl2] at hl
    cases hl with
    | cons r1 hl =>
     cases us with
     | nil => cases hl
     | cons u2 us =>
      cases hl with
      | cons r2 hl =>
       cases hl
       have hsz : vs.size = 2 := by rw [← Array.length_toList, hl2]; rfl
       refine wpAny_assign_Tuple hh ht (by rw [hsz]; rfl) (by rfl) fun h' hx' => ?_
       have k1 : Kt s { s with heap := h' } := ⟨⟨⟨_, s.toks, rfl⟩, fun b o e => hx' b o (Nat.ne_of_lt (Heap.lt_size e)) e⟩, Nat.le_refl _⟩
       have V1 := V.keeps k1
       have ns1 : ∃ m, h'.Ns env.locals m := by obtain ⟨m, n⟩ := hns; exact ⟨m, n.keeps k1.heap⟩
       rw [hl2]
       show wpAny _ _ (assignInOrder [assign (.Name x p) env, assign (.Name y q) env] [u, u2]) _ _ _
       show wpAny _ _ (do holding [u2] (assign (.Name x p) env u); assignInOrder [assign (.Name y q) env] [u2]) _ _ _
       refine wpAny_bind (wpAny_holding (wpAny_assign_Name (set_local ok hx V1 hW hK ns1 (r1.keeps k1.heap) fun s2 V2 U2 ns2 => ?_)))
       show wpAny _ _ (do holding [] (assign (.Name y q) env u2); pure ()) _ _ _
       refine wpAny_bind (wpAny_holding (wpAny_assign_Name (set_local ok hy V2 hW hK ns2 (U2.rd (fun a e => e ▸ hW) (r2.keeps k1.heap)) fun s3 V3 U3 ns3 => ?_)))
       exact wpAny_pure (h _ V3 (((Upd.of k1).trans U2).trans U3) ns3)
end
noncomputable def ownedKinds : List String := ["enumerate", "zip", "dict_itemiterator", "dict_reverseitemiterator", "odict_iterator", "itertools.zip_longest", "itertools.pairwise"]
theorem go_of {M : Model} {A : Around} {E : Value → Shared → Prop} {s : Shared} {I : Addr} {o : Obj} {n : String} {target : Expr} {v : Value} {Q : Unit → Shared → Prop} (ho : s.heap.get? I = some o) (hc : o.cls = .type n) (hn : ownedKinds.contains n = false) (h : Q () s) :
  wpAny M A (letOwnedTupleGo target (.ref I) v) Q E s := by
 have hn' : (["enumerate", "zip", "dict_itemiterator", "dict_reverseitemiterator", "odict_iterator", "itertools.zip_longest", "itertools.pairwise"].contains n) = false := hn
 have main : ∀ (a : Addr), wpAny M A (do
   let o ← load I
   match o.cls, o.data with
   | .type n, .fields vs =>
    if ["enumerate", "zip", "dict_itemiterator", "dict_reverseitemiterator", "odict_iterator", "itertools.zip_longest", "itertools.pairwise"].contains n && vs[0]? == some (rawInt a) then
     rule "for.unpacks-the-owned-tuple"
     updateField I 0 .none
   | _, _ => pure ()) Q E s := by
  intro a
  refine wpAny_bind (wpAny_load ho ?_)
  rw [hc]
  split
  ·rename_i n' vs h1 h2
   cases h1
   rw [hn', Bool.false_and]
   exact wpAny_pure h
  ·exact wpAny_pure h
 unfold letOwnedTupleGo
 split
 ·cases v with
  | ref a => exact main a
  | _ => exact wpAny_pure h
 ·cases v with
  | ref a => exact main a
  | _ => exact wpAny_pure h
 ·exact wpAny_pure h
structure Yd (c : Cx) (A : Around) (I : Addr) (fp : List Addr) (n : Nat) (P : Nat → Value → Prop) (St : Nat → Heap → Prop) : Prop where
 w : Walks c.prog c.w A I (I :: fp) [I] n P St
 cls : ∀ i h, St i h → ∃ o k vs, h.get? I = some o ∧ o.cls = .type k ∧ ownedKinds.contains k = false ∧ o.data = .fields vs
noncomputable def Itr (c : Cx) (A : Around) (d : D) (l : List D) : Prop :=
 ∀ (W : Addr → Prop) (s : Shared) (E : Value → Shared → Prop) (v : Value) (Q : Value → Shared → Prop), (∀ a, W a → ∃ o, s.heap.get? a = some o) → Rd W s.heap v d →
  (∀ I fp P St s', Kt s s' → s.heap.get? I = none → (∃ o, s'.heap.get? I = some o) → Yd c A I fp l.length P St → St 0 s'.heap → (∀ b ∈ fp, ¬ W b ∧ ∃ o, s.heap.get? b = some o) → (∀ i u, i < l.length → P i u → ∃ d', l[i]? = some d' ∧ Rd W s.heap u d') → Q (.ref I) s') →
  wpAny c.M A (pyIter v) Q E s
theorem size_none {h : Heap} : h.get? h.objs.size = none := by
 cases e : h.get? h.objs.size with
 | none => rfl
 | some o => exact absurd (Heap.lt_size e) (Nat.lt_irrefl _)
section
variable {c : Cx} {A : Around}
theorem Itr.lst (hh : A.handled = none) {l : List D} : Itr c A (.lst l) l := fun W s E v Q wo r h => by
 cases r with
 | lst ha hl hr =>
  rename_i a vs
  have hl := hl.isList
  have ne : a ≠ s.heap.objs.size := by obtain ⟨o, e, _⟩ := hl; exact Nat.ne_of_lt (Heap.lt_size e)
  have el : vs.size = l.length := by rw [← hr.length]; simp
  refine wpAny_pyIter_list hl (h _ [a] (fun i v => vs[i]? = some v) _ _ ⟨.push _, Nat.le_refl _⟩ size_none ⟨_, Heap.get?_push_size _ rfl⟩ ⟨el ▸ Walks.list hh s.heap.objs.size a ne vs, ?_⟩ ⟨⟨_, Heap.get?_push_size _ rfl, rfl, rfl⟩, hl.at fun o e => Heap.get?_push_of_some _ e⟩ ?_ ?_)
  ·rintro i h' ⟨⟨o, e, hc, hd⟩, _⟩
   exact ⟨o, _, _, e, hc, by decide, hd⟩
  ·intro b hb
   simp only [List.mem_singleton] at hb; subst hb
   obtain ⟨o, e, _⟩ := hl
   exact ⟨ha, o, e⟩
  ·intro i u hlt hu
   obtain ⟨v', e1, r1⟩ := hr.get (i := i) (d := l[i]) (by simp [hlt])
   have : v' = u := by rw [Array.getElem?_toList, hu] at e1; exact (Option.some.inj e1).symm
   subst this
   exact ⟨_, by simp [hlt], r1⟩
theorem Itr.tup (hh : A.handled = none) {l : List D} : Itr c A (.tup l) l := fun W s E v Q wo r h => by
 cases r with
 | tup ha hl hr =>
  rename_i a vs
  have ne : a ≠ s.heap.objs.size := by obtain ⟨o, e, _⟩ := hl; exact Nat.ne_of_lt (Heap.lt_size e)
  have el : vs.size = l.length := by rw [← hr.length]; simp
  refine wpAny_pyIter_tuple hl (h _ [a] (fun i v => vs[i]? = some v) _ _ ⟨.push _, Nat.le_refl _⟩ size_none ⟨_, Heap.get?_push_size _ rfl⟩ ⟨el ▸ Walks.tuple hh s.heap.objs.size a ne vs, ?_⟩ ⟨⟨_, Heap.get?_push_size _ rfl, rfl, rfl⟩, hl.at fun o e => Heap.get?_push_of_some _ e⟩ ?_ ?_)
  ·rintro i h' ⟨⟨o, e, hc, hd⟩, _⟩
   exact ⟨o, _, _, e, hc, by decide, hd⟩
  ·intro b hb
   simp only [List.mem_singleton] at hb; subst hb
   obtain ⟨o, e, _⟩ := hl
   exact ⟨ha, o, e⟩
  ·intro i u hlt hu
   obtain ⟨v', e1, r1⟩ := hr.get (i := i) (d := l[i]) (by simp [hlt])
   have : v' = u := by rw [Array.getElem?_toList, hu] at e1; exact (Option.some.inj e1).symm
   subst this
   exact ⟨_, by simp [hlt], r1⟩
theorem Itr.str (hh : A.handled = none) {x : Str} : Itr c A (.str x) (x.cps.toList.map fun k => .str ⟨#[k]⟩) := fun W s E v Q wo r h => by
 cases r with
 | str x t =>
  have el : (x.cps.toList.map fun k => D.str ⟨#[k]⟩).length = x.cps.size := by simp
  have key : ∀ i u, i < (x.cps.toList.map fun k => D.str ⟨#[k]⟩).length → SignAt x i u → ∃ d', (x.cps.toList.map fun k => D.str ⟨#[k]⟩)[i]? = some d' ∧ Rd W s.heap u d' := by
   rintro i u _ ⟨k, t', e, rfl⟩
   exact ⟨.str ⟨#[k]⟩, by rw [List.getElem?_map, Array.getElem?_toList, e]; rfl, .str _ _⟩
  cases ha : x.cps.all (· < 128)
  ·refine wpAny_pyIter_wide ha (h _ [] (SignAt x) _ _ ⟨.push _, Nat.le_refl _⟩ size_none ⟨_, Heap.get?_push_size _ rfl⟩ ⟨el ▸ Walks.strWide hh s.heap.objs.size x t, ?_⟩ ⟨_, Heap.get?_push_size _ rfl, rfl, rfl⟩ (by simp) key)
   rintro i h' ⟨o, e, hc, hd⟩
   exact ⟨o, _, _, e, hc, by decide, hd⟩
  ·refine wpAny_pyIter_ascii ha (h _ [] (SignAt x) _ _ ⟨.push _, Nat.le_refl _⟩ size_none ⟨_, Heap.get?_push_size _ rfl⟩ ⟨el ▸ Walks.strAscii hh s.heap.objs.size x t, ?_⟩ ⟨_, Heap.get?_push_size _ rfl, rfl, rfl⟩ (by simp) key)
   rintro i h' ⟨o, e, hc, hd⟩
   exact ⟨o, _, _, e, hc, by decide, hd⟩
end
theorem turn_list (elt target iter : Expr) (ifs : List Expr) (scope : Scope) (pos : Pos) (it acc : Value) (env : Env) :
  compTurn (.ListComp elt [⟨target, iter, ifs, 0⟩] scope pos) 0 it acc env = (do
   standAt iter.pos
   match ← pyNext it with
   | none => pure (.done .next)
   | some v =>
    letOwnedTupleGo target it v
    assign target env v
    let ok ← (forIn ifs true fun c r => if r = true then do let ok ← isTrue c env (eval c env); pure (ForInStep.yield ok) else pure (ForInStep.yield r))
    if ok then
     (do let _ ← call (.builtin "list.append") [acc, ← eval elt env])
    again (.compLoop (.ListComp elt [⟨target, iter, ifs, 0⟩] scope pos) 0 it acc env)) := by rfl
section
variable {c : Cx} {A : Around} {R : Result → Shared → Prop} {s : Shared}
noncomputable abbrev NB (c : Cx) (A : Around) (env : Env) (R : Result → Shared → Prop) : Value → Shared → Prop := notedBy c.M A env fun e s' => R (.error e) s'
theorem compLoop_any {elt target iter : Expr} {ifs : List Expr} {scope : Scope} {pos : Pos} {it acc : Value} {env : Env} (I : Nat → Shared → Prop)
  (turn : ∀ n s, I n s → wpAny c.M A (pyNext it) (fun r s₁ => match r with
   | none => R (.ok .next) s₁
   | some v => wpAny c.M A (letOwnedTupleGo target it v) (fun _ s₁' => wpAny c.M A (assign target env v) (fun _ s₂ =>
     wpAny c.M A (forIn ifs true fun c r => if r = true then do let ok ← isTrue c env (eval c env); pure (ForInStep.yield ok) else pure (ForInStep.yield r)) (fun ok s₃ =>
      if ok = true then wpAny c.M A (eval elt env) (fun x s₄ =>
       wpAny c.M A (call (.builtin "list.append") [acc, x]) (fun _ s₅ => ∃ m, m < n ∧ I m s₅) (NB c A env R) s₄) (NB c A env R) s₃
      else ∃ m, m < n ∧ I m s₃) (NB c A env R) s₂) (NB c A env R) s₁') (NB c A env R) s₁) (NB c A env R) s)
  (n : Nat) (h : I n s) :
  codeAny c.M A (.compLoop (.ListComp elt [⟨target, iter, ifs, 0⟩] scope pos) 0 it acc env) R s := by
 refine codeAny_loop rfl I (fun n s hI => ?_) n h
 show wpAny _ A ((compTurn (.ListComp elt [⟨target, iter, ifs, 0⟩] scope pos) 0 it acc env).onRaise (fun x => do noteFrame x env; theTreesLotGoes x)) _ _ s
 refine wpAny_noted ?_
 rw [turn_list]
 refine wpAny_bind (wpAny_standAt (wpAny_bind (wpAny_mono (turn n s hI) (fun r s₁ h₁ => ?_) fun _ _ h' => h')))
 cases r with
 | none => exact wpAny_pure h₁
 | some v =>
  refine wpAny_bind (wpAny_mono h₁ (fun _ s₁' h₁' => wpAny_bind (wpAny_mono h₁' (fun _ s₂ h₂ => wpAny_bind (wpAny_mono h₂ (fun ok s₃ h₃ => ?_) fun _ _ h' => h')) fun _ _ h' => h')) fun _ _ h' => h')
  cases ok with
  | false => exact wpAny_pure ⟨rfl, h₃⟩
  | true =>
   exact wpAny_bind (wpAny_bind (wpAny_mono h₃ (fun x s₄ h₄ => wpAny_bind (wpAny_mono h₄ (fun _ s₅ h₅ => wpAny_pure (wpAny_pure ⟨rfl, h₅⟩)) fun _ _ h' => h')) fun _ _ h' => h'))
end
noncomputable def Ts (c : Cx) (A : Around) (env : Env) (σ : List (Str × D)) (ifs : List Expr) (b : Bool) : Prop :=
 ∀ (W : Addr → Prop) (s : Shared) (E : Value → Shared → Prop), View c W env σ s →
  wpAny c.M A (forIn ifs true fun c r => if r = true then do let ok ← isTrue c env (eval c env); pure (ForInStep.yield ok) else pure (ForInStep.yield r)) (fun ok s' => Kt s s' ∧ ok = b) E s
section
variable {c : Cx} {A : Around} {env : Env} {σ : List (Str × D)}
theorem Ts.nil : Ts c A env σ [] true := fun W s E V => wpAny_tests_nil ⟨.refl _, rfl⟩
theorem Ts.one {e : Expr} {b : Bool} (h : Tv c A env σ e b) : Ts c A env σ [e] b := fun W s E V => wpAny_tests_one (h W s E V)
theorem lookup_relabel_free {env : Env} : ∀ {names : List (Str × NameKind)} {x : Str}, names.lookup x = some .free →
  (names.map fun (n, k) => if (k == NameKind.free && env.scope.kind == .function && env.kindOf n == some .cell) then (n, NameKind.cell) else (n, k)).lookup x = some .free ∨
  (names.map fun (n, k) => if (k == NameKind.free && env.scope.kind == .function && env.kindOf n == some .cell) then (n, NameKind.cell) else (n, k)).lookup x = some .cell
 | [], _, h => by simp at h
 | (n, k) :: r, x, h => by
  have ih := @lookup_relabel_free env r x
  show List.lookup x ((if (k == NameKind.free && env.scope.kind == .function && env.kindOf n == some .cell) = true then (n, NameKind.cell) else (n, k)) :: _) = _ ∨ List.lookup x ((if (k == NameKind.free && env.scope.kind == .function && env.kindOf n == some .cell) = true then (n, NameKind.cell) else (n, k)) :: _) = _
  cases hx : x == n with
  | true =>
   simp only [List.lookup_cons, hx] at h
   cases h
   by_cases hc : (NameKind.free == NameKind.free && env.scope.kind == .function && env.kindOf n == some .cell) = true
   ·rw [if_pos hc]; exact .inr (by simp [List.lookup_cons, hx])
   ·rw [if_neg hc]; exact .inl (by simp [List.lookup_cons, hx])
  | false =>
   simp only [List.lookup_cons, hx] at h
   by_cases hc : (k == NameKind.free && env.scope.kind == .function && env.kindOf n == some .cell) = true
   ·rw [if_pos hc]; simp only [List.lookup_cons, hx]; exact ih h
   ·rw [if_neg hc]; simp only [List.lookup_cons, hx]; exact ih h
theorem compEnvC_ok (ok : EnvOk env) {scope : Scope} {cl : List (Str × Addr)} {C : Addr} (hkind : scope.kind = .function) : EnvOk (compEnvC scope cl C env) :=
 ⟨hkind, ok.glob, ok.blt⟩
structure Cap (env : Env) (scope : Scope) (cl : List (Str × Addr)) (σ σc : List (Str × D)) : Prop where
 h : ∀ x d, σc.lookup x = some d → σ.lookup x = some d ∧ (env.kindOf x = some .cell ∨ env.kindOf x = some .free) ∧ scope.names.lookup x = some .free ∧ cl.lookup x = env.cells.lookup x
theorem outs_succ (p : D → Bool) (f : D → D) (l : List D) (i : Nat) (d : D) (h : l[i]? = some d) : ((l.take (i + 1)).filter p).map f = ((l.take i).filter p).map f ++ (if p d then [f d] else []) := by
 rw [take_succ_filter p l i d h, List.map_append]
 cases p d <;> rfl
theorem Rd.grow {W W' : Addr → Prop} {h : Heap} (hw : ∀ a, W' a → W a ∨ h.get? a = none) {v : Value} {d : D} (r : Rd W h v d) : Rd W' h v d :=
 r.mono (fun b o _ e => e) fun b o n e h => (hw b h).elim n fun e' => by rw [e] at e'; cases e'
theorem RdL.grow {W W' : Addr → Prop} {h : Heap} (hw : ∀ a, W' a → W a ∨ h.get? a = none) {v : List Value} {d : List D} (r : RdL W h v d) : RdL W' h v d :=
 r.mono (fun b o _ e => e) fun b o n e h => (hw b h).elim n fun e' => by rw [e] at e'; cases e'
theorem comp_core {W : Addr → Prop} {elt target iter : Expr} {ifs : List Expr} {scope : Scope} {pos : Pos} {cl : List (Str × Addr)} {l : List D} {p : D → Bool} {f : D → D} {σc : List (Str × D)} {fp : List Addr} {P : Nat → Value → Prop} {St : Nat → Heap → Prop}
  {I : Addr} {s₂ : Shared} {RR : Value → Addr → Result → Shared → Prop} {E : Value → Shared → Prop} (hh : A.handled = none) (ok : EnvOk env)
  (Y : Yd c A I fp l.length P St) (hst : St 0 s₂.heap) (V : View c W env σ s₂) (hI : W I) (hIK : c.K I = none)
  (hfp : ∀ b ∈ fp, b ≠ I ∧ ∃ o, s₂.heap.get? b = some o) (hP : ∀ i u, i < l.length → P i u → ∃ d, l[i]? = some d ∧ Rd W s₂.heap u d) (hn : l.length ≤ 1000000)
  (hcell : ∀ y ∈ scope.names, y.2 ≠ .cell) (hkind : scope.kind = .function) (cap : Cap env scope cl σ σc)
  (step : ∀ C d, d ∈ l → ∃ bs, Tgt (compEnvC scope cl C env) target d bs ∧ Ts c A (compEnvC scope cl C env) (bs ++ σc) ifs (p d) ∧ (p d = true → Ev c A (compEnvC scope cl C env) (bs ++ σc) elt (f d)))
  (hRR : ∀ B C s', s₂.heap.get? B = none → s₂.heap.get? C = none → B ≠ C → (∃ m, s'.heap.Ns C m) → Upd (fun b => b = I) s₂ s' →
   (∃ ys, s'.heap.PlainList B ys ∧ RdL (fun a => W a ∨ a = C ∨ a = B) s'.heap ys.toList ((l.filter p).map f)) → RR (.ref B) C (.ok .next) s') :
  wpAny c.M A (newList []) (fun acc s₃ => wpAny c.M A (newFunctionEnv scope env.globals cl [] env.qual none .none (some env)) (fun cenv s₄ =>
   codeAny c.M A (.compStart (.ListComp elt [⟨target, iter, ifs, 0⟩] scope pos) 0 (.ref I) acc { cenv with scope := relabel scope env }) (RR acc cenv.locals) s₄) E s₃) E s₂ := by
 refine wpAny_newObj_type (wpAny_newFunctionEnv hcell (by intro y hy; simp at hy) (fun h₁ hns₁ hsb₁ => ?_) hkind)
 dsimp only at hns₁ hsb₁ ⊢
 obtain ⟨oI, eI⟩ := V.wold I hI
 generalize hH2 : s₂.heap.push { cls := .type "list", dict := none, data := .seq ([] : List Value).toArray } = H2 at hns₁ hsb₁ ⊢
 have hC : H2.objs.size = s₂.heap.objs.size + 1 := by rw [← hH2, Heap.size_push]
 have fresh : ∀ a, s₂.heap.objs.size ≤ a → s₂.heap.get? a = none := fun a ha => by
  cases e : s₂.heap.get? a with
  | none => rfl
  | some o' => exact absurd (Heap.lt_size e) (Nat.not_lt.mpr ha)
 have old : ∀ b o, s₂.heap.get? b = some o → h₁.get? b = some o := fun b o e =>
  hsb₁.extBut b o (by have := Heap.lt_size e; rw [hC]; exact Nat.ne_of_lt (Nat.lt_succ_of_lt this)) (Heap.get?_push_of_some _ (hH2 ▸ Heap.get?_push_of_some _ e))
 have hBC : s₂.heap.objs.size ≠ H2.objs.size := by rw [hC]; exact Nat.ne_of_lt (Nat.lt_succ_self _)
 have hacc : h₁.PlainList s₂.heap.objs.size #[] := ⟨_, hsb₁.extBut _ _ hBC (Heap.get?_push_of_some _ (hH2 ▸ Heap.get?_push_size _ rfl))⟩
 have freshB : s₂.heap.get? s₂.heap.objs.size = none := fresh _ (Nat.le_refl _)
 have freshC : s₂.heap.get? H2.objs.size = none := fresh _ (by rw [hC]; exact Nat.le_succ _)
 have main : ∀ (B C : Addr) (s₃ : Shared), B ≠ C → s₂.heap.get? B = none → s₂.heap.get? C = none → Upd (fun _ => False) s₂ s₃ → s₃.heap.PlainList B #[] → (∃ m, s₃.heap.Ns C m) →
   codeAny c.M A (.compLoop (.ListComp elt [⟨target, iter, ifs, 0⟩] scope pos) 0 (.ref I) (.ref B) (compEnvC scope cl C env)) (RR (.ref B) C) s₃ := by
  clear hBC freshB freshC hacc old fresh hC hns₁ hsb₁ hH2 H2 h₁
  intro B C s₃ hBC freshB freshC U₃ acc₃ ns₃
  have hIB : I ≠ B := by rintro rfl; rw [freshB] at eI; cases eI
  have hIC : I ≠ C := by rintro rfl; rw [freshC] at eI; cases eI
  have Kfresh : ∀ a, s₂.heap.get? a = none → c.K a = none := fun a e => by
   cases e' : c.K a with
   | none => rfl
   | some o => rw [V.base a o e'] at e; cases e
  have st₃ : St 0 s₃.heap := Y.w.frame _ _ _ hst fun b _ o e => U₃.keep b o id e
  have hRR' := hRR B C
  generalize hW' : (fun a => W a ∨ a = C ∨ a = B) = W' at hRR'
  have okc : EnvOk (compEnvC scope cl C env) := compEnvC_ok ok hkind
  have W'loc : W' C := by subst hW'; exact .inr (.inl rfl)
  have W'I : W' I := by subst hW'; exact .inl hI
  have W'B : W' B := by subst hW'; exact .inr (.inr rfl)
  have WW' : ∀ a, W' a → W a ∨ s₂.heap.get? a = none := fun a h => by
   subst hW'
   rcases h with h | rfl | rfl
   ·exact .inl h
   ·exact .inr freshC
   ·exact .inr freshB
  have capV : ∀ s', Upd (fun b => b = I ∨ b = C ∨ b = B) s₂ s' → (∃ o, s'.heap.get? I = some o) → (∃ o, s'.heap.get? C = some o) → (∃ o, s'.heap.get? B = some o) → View c W' (compEnvC scope cl C env) σc s' := by
   intro s' U e1 e2 e3
   have keepNot : ∀ b o, s₂.heap.get? b = some o → b ≠ I → s'.heap.get? b = some o := fun b o e n =>
    U.keep b o (by
     rintro (rfl | rfl | rfl)
     ·exact n rfl
     ·rw [freshC] at e; cases e
     ·rw [freshB] at e; cases e) e
   refine ⟨fun a o e => keepNot a o (V.base a o e) (by rintro rfl; rw [hIK] at e; cases e), ?_, Nat.lt_of_lt_of_le V.tok U.tk, ?_⟩
   ·intro a h
    by_cases z : a = I
    ·subst z; exact e1
    ·rcases WW' a h with h | h
     ·obtain ⟨o, e⟩ := V.wold a h; exact ⟨o, keepNot a o e z⟩
     ·subst hW'
      rcases h with h | rfl | rfl
      ·obtain ⟨o, e⟩ := V.wold a h; exact ⟨o, keepNot a o e z⟩
      ·exact e2
      ·exact e3
   ·intro x d hx
    obtain ⟨h1, h2, h3, h4⟩ := cap.h x d hx
    obtain ⟨v, b, r⟩ := V.vars x d h1
    refine ⟨v, ?_, U.rd (fun a h => by rcases h with rfl | rfl | rfl <;> assumption) (r.grow WW')⟩
    have b' : ∃ a o, env.cells.lookup x = some a ∧ s₂.heap.get? a = some o ∧ o.data = .cell (some v) := by
     unfold Bnd at b
     rcases h2 with h2 | h2 <;> (rw [h2] at b; exact b)
    obtain ⟨a, o, q1, q2, q3⟩ := b'
    have ne : a ≠ I := by
     rintro rfl
     obtain ⟨o', k, vs, q4, q5, _, q6⟩ := Y.cls 0 _ hst
     rw [q2] at q4; cases q4; rw [q3] at q6; cases q6
    have kk : (compEnvC scope cl C env).kindOf x = some .free ∨ (compEnvC scope cl C env).kindOf x = some .cell := lookup_relabel_free (env := env) h3
    unfold Bnd
    rcases kk with kk | kk
    ·rw [kk]; exact ⟨a, o, h4.trans q1, keepNot a o q2 ne, q3⟩
    ·rw [kk]; exact ⟨a, o, h4.trans q1, keepNot a o q2 ne, q3⟩
  have kC : c.K C = none := Kfresh _ freshC
  have exB : ∀ (h : Heap) (ys : Array Value), h.PlainList B ys → ∃ o, h.get? B = some o := fun h ys q => by obtain ⟨n, e⟩ := q; exact ⟨_, e⟩
  have exC : ∀ h : Heap, (∃ m, h.Ns C m) → ∃ o, h.get? C = some o := fun h q => by obtain ⟨m, o, _, _, e, _⟩ := q; exact ⟨o, e⟩
  have exI : ∀ (h : Heap) (i : Nat), St i h → ∃ o, h.get? I = some o := fun h i st => by obtain ⟨o, _, _, e, _⟩ := Y.cls _ _ st; exact ⟨o, e⟩
  have fpNot : ∀ b ∈ (I :: fp), b ≠ B ∧ b ≠ C := fun b hb => by
   rcases List.mem_cons.mp hb with rfl | hb
   ·exact ⟨hIB, hIC⟩
   ·obtain ⟨_, o, e⟩ := hfp b hb
    refine ⟨fun q => ?_, fun q => ?_⟩
    ·subst q; exact absurd (freshB.symm.trans e) (by simp)
    ·subst q; exact absurd (freshC.symm.trans e) (by simp)
  obtain ⟨Iv, hIv⟩ : ∃ Iv : Nat → Shared → Prop, ∀ k s', Iv k s' ↔ (∃ i ys, i ≤ l.length ∧ k = l.length + 1 - i ∧ Upd (fun b => b = I ∨ b = C ∨ b = B) s₂ s' ∧ St i s'.heap ∧ s'.heap.PlainList B ys ∧ RdL W' s'.heap ys.toList (((l.take i).filter p).map f) ∧ (∃ m, s'.heap.Ns C m)) := ⟨_, fun _ _ => Iff.rfl⟩
  refine compLoop_any Iv ?_ (l.length + 1) ((hIv _ _).mpr ⟨0, #[], Nat.zero_le _, rfl, U₃.mono (fun a h => h.elim), st₃, acc₃, .nil, ns₃⟩)
  rintro k s' hk0
  obtain ⟨i, ys, hi, rfl, U, st, pl, ry, ns⟩ := (hIv _ _).mp hk0
  clear hk0
  by_cases hlt : i < l.length
  ·have h0 : wpAny c.M A (pyNext (.ref I)) (fun r s₁ => s'.toks ≤ s₁.toks ∧ ∃ v, r = some v ∧ P i v ∧ St (i + 1) s₁.heap ∧ (∃ h tk, s₁ = { s' with heap := h, toks := tk }) ∧ ∀ b o, b ≠ I → s'.heap.get? b = some o → s₁.heap.get? b = some o) (NB c A (compEnvC scope cl C env) (RR (.ref B) C)) s' :=
    wpAny_mono (wpAny_toks_of (E := NB c A (compEnvC scope cl C env) (RR (.ref B) C)) (Nat.le_refl s'.toks) (Y.w.item i s' (fun r s₁ => ∃ v, r = some v ∧ P i v ∧ St (i + 1) s₁.heap ∧ (∃ h tk, s₁ = { s' with heap := h, toks := tk }) ∧ ∀ b o, b ≠ I → s'.heap.get? b = some o → s₁.heap.get? b = some o) _ hlt st
     fun v h' tk hv st' hk => ⟨v, rfl, hv, st', ⟨_, _, rfl⟩, fun b o n e => hk b o (by simpa using n) e⟩)) (fun _ _ q => q) fun _ _ q => q.2
   refine wpAny_mono h0 (fun r s₁ q => ?_) fun _ _ e => e
   obtain ⟨tk₁, v, rfl, hv, st₁, eq₁, k₁⟩ := q
   have U₁ : Upd (fun b => b = I) s' s₁ := ⟨eq₁, tk₁, fun b o n e => k₁ b o n e⟩
   have UU₁ := U.trans (U₁.mono (fun a h => .inl h))
   obtain ⟨o₁, k, vs₁, e₁, c₁, n₁, _⟩ := Y.cls _ _ st₁
   obtain ⟨d, hd, rd⟩ := hP i v hlt hv
   obtain ⟨bs, T, tst, el⟩ := step C d (List.mem_of_getElem? hd)
   have pl₁ : s₁.heap.PlainList B ys := pl.at fun o e => k₁ B o (Ne.symm hIB) e
   have ns₁ : ∃ m, s₁.heap.Ns C m := by obtain ⟨m, n⟩ := ns; exact ⟨m, n.at fun o e => k₁ C o (Ne.symm hIC) e⟩
   have V₁ := capV s₁ UU₁ ⟨_, e₁⟩ (exC _ ns₁) (exB _ _ pl₁)
   have r₁ : Rd W' s₁.heap v d := UU₁.rd (fun a h => by rcases h with rfl | rfl | rfl <;> assumption) (rd.grow WW')
   have ry₁ : RdL W' s₁.heap ys.toList (((l.take i).filter p).map f) := U₁.rdL (fun a h => by subst h; exact W'I) ry
   refine go_of e₁ c₁ n₁ ?_
   refine T.set okc hh V₁ W'loc kC ns₁ r₁ fun s₂' V₂ U₂ ns₂ => ?_
   have U₂' : Upd (fun b => b = C) s₁ s₂' := U₂
   have pl₂ : s₂'.heap.PlainList B ys := pl₁.at fun o e => U₂'.keep B o hBC e
   have ry₂ := U₂'.rdL (fun a h => by subst h; exact W'loc) ry₁
   have st₂ : St (i + 1) s₂'.heap := Y.w.frame _ _ _ st₁ fun b hb o e => U₂'.keep b o (fpNot b hb).2 e
   have UU₂ := UU₁.trans (U₂'.mono (fun a h => .inr (.inl h)))
   refine wpAny_mono (tst W' s₂' _ V₂) (fun ok s₃' q => ?_) fun _ _ e => e
   obtain ⟨K₃, rfl⟩ := q
   have UU₃ := UU₂.trans (.of K₃)
   have pl₃ := pl₂.at fun o e => K₃.heap B o e
   have ry₃ := ry₂.keeps K₃.heap
   have st₃ : St (i + 1) s₃'.heap := Y.w.frame _ _ _ st₂ fun b _ o e => K₃.heap b o e
   have ns₃ : ∃ m, s₃'.heap.Ns C m := by obtain ⟨m, n⟩ := ns₂; exact ⟨m, n.keeps K₃.heap⟩
   have V₃ := V₂.keeps K₃
   cases hpd : p d with
   | false =>
    rw [if_neg (by simp)]
    refine ⟨l.length + 1 - (i + 1), by omega, (hIv _ _).mpr ⟨i + 1, ys, hlt, rfl, UU₃, st₃, pl₃, ?_, ns₃⟩⟩
    rw [outs_succ p f l i d hd, hpd]; simpa using ry₃
   | true =>
    rw [if_pos rfl]
    refine (el hpd).use V₃ fun y s₄ K₄ V₄ r₄ => ?_
    have pl₄ := pl₃.at fun o e => K₄.heap B o e
    have hys : ys.size ≤ sizeLine := by
     have e1 := ry.length
     have e2 : (((l.take i).filter p).map f).length ≤ l.length := by
      rw [List.length_map]
      exact Nat.le_trans (List.length_filter_le _ _) (by rw [List.length_take]; omega)
     rw [Array.length_toList] at e1
     rw [sizeLine_eq]; omega
    refine wpAny_list_append_plain (hsz := hys) pl₄ fun h₅ pl₅ sb₅ => ?_
    have U₅ : Upd (fun b => b = B) s₄ { s₄ with heap := h₅ } := ⟨⟨_, s₄.toks, rfl⟩, Nat.le_refl _, fun b o n e => sb₅.extBut b o n e⟩
    refine ⟨l.length + 1 - (i + 1), by omega, (hIv _ _).mpr ⟨i + 1, ys.push y, hlt, rfl, (UU₃.trans (.of K₄)).trans (U₅.mono fun a h => .inr (.inr h)), ?_, pl₅, ?_, ?_⟩⟩
    ·exact Y.w.frame _ _ _ st₃ fun b hb o e => U₅.keep b o (fpNot b hb).1 (K₄.heap b o e)
    ·rw [outs_succ p f l i d hd, hpd, Array.toList_push]
     exact (U₅.rdL (fun a h => by subst h; exact W'B) (ry₃.keeps K₄.heap)).app (.cons (U₅.rd (fun a h => by subst h; exact W'B) r₄) .nil)
    ·obtain ⟨m, n⟩ := ns₃; exact ⟨m, (n.keeps K₄.heap).at fun o e => U₅.keep C o (Ne.symm hBC) e⟩
  ·have hieq : i = l.length := by omega
   subst hieq
   have h0 : wpAny c.M A (pyNext (.ref I)) (fun r s₁ => s'.toks ≤ s₁.toks ∧ r = none ∧ (∃ h tk, s₁ = { s' with heap := h, toks := tk }) ∧ ∀ b o, b ≠ I → s'.heap.get? b = some o → s₁.heap.get? b = some o) (NB c A (compEnvC scope cl C env) (RR (.ref B) C)) s' :=
    wpAny_mono (wpAny_toks_of (E := NB c A (compEnvC scope cl C env) (RR (.ref B) C)) (Nat.le_refl s'.toks) (Y.w.done s' (fun r s₁ => r = none ∧ (∃ h tk, s₁ = { s' with heap := h, toks := tk }) ∧ ∀ b o, b ≠ I → s'.heap.get? b = some o → s₁.heap.get? b = some o) _ st
     fun h' tk hk => ⟨rfl, ⟨_, _, rfl⟩, fun b o n e => hk b o (by simpa using n) e⟩)) (fun _ _ q => q) fun _ _ q => q.2
   refine wpAny_mono h0 (fun r s₁ q => ?_) fun _ _ e => e
   obtain ⟨tk₁, rfl, eq₁, k₁⟩ := q
   have U₁ : Upd (fun b => b = I) s' s₁ := ⟨eq₁, tk₁, fun b o n e => k₁ b o n e⟩
   have UU := U.trans (U₁.mono (fun a h => .inl h))
   refine hRR' s₁ freshB freshC hBC ?_ ⟨UU.eq, UU.tk, fun b o n e => ?_⟩ ⟨ys, pl.at fun o e => k₁ B o (Ne.symm hIB) e, ?_⟩
   ·obtain ⟨m, n⟩ := ns; exact ⟨m, n.at fun o e => k₁ C o (Ne.symm hIC) e⟩
   ·refine UU.keep b o ?_ e
    rintro (q | q | q)
    ·exact n q
    ·subst q; exact absurd (freshC.symm.trans e) (by simp)
    ·subst q; exact absurd (freshB.symm.trans e) (by simp)
   ·rw [List.take_length] at ry
    exact U₁.rdL (fun a h => by subst h; exact W'I) ry
 exact codeAny_compStart_list (main _ _ _ hBC freshB freshC ⟨⟨_, _, rfl⟩, Nat.le_add_right _ _, fun b o _ e => old b o e⟩ hacc ⟨_, hns₁⟩)
  (Y.w.self 0 _ _ _ (Y.w.frame _ _ _ hst fun b _ o e => old b o e) (main _ _ _ hBC freshB freshC ⟨⟨_, _, rfl⟩, Nat.le_add_right _ _, fun b o _ e => old b o e⟩ hacc ⟨_, hns₁⟩))
end
section
variable {c : Cx} {A : Around} {env : Env} {σ : List (Str × D)} {W : Addr → Prop} {s : Shared}
theorem View.kfresh (V : View c W env σ s) {a : Addr} (h : s.heap.get? a = none) : c.K a = none := by
 cases e : c.K a with
 | none => rfl
 | some o => rw [V.base a o e] at h; cases h
theorem View.growK (V : View c W env σ s) {W' : Addr → Prop} {s' : Shared} (K : Kt s s') (hW : ∀ a, W' a → W a ∨ s.heap.get? a = none) (hx : ∀ a, W' a → ∃ o, s'.heap.get? a = some o) : View c W' env σ s' :=
 {base := V.base.keeps K.heap
  wold := hx
  tok := Nat.lt_of_lt_of_le V.tok K.tk
  vars := fun x d e => let ⟨v, b, r⟩ := V.vars x d e; ⟨v, b.keeps K.heap, (r.grow hW).keeps K.heap⟩ }
theorem comp_pre {elt target iter : Expr} {ifs : List Expr} {scope : Scope} {pos : Pos} {cl : List (Str × Addr)} {l : List D} {p : D → Bool} {f : D → D} {σc : List (Str × D)} {di : D} {RR : Value → Addr → Result → Shared → Prop} {E : Value → Shared → Prop}
  (hh : A.handled = none) (ok : EnvOk env) (hi : Ev c A env σ iter di) (it : Itr c A di l) (hn : l.length ≤ 1000000)
  (hcell : ∀ y ∈ scope.names, y.2 ≠ .cell) (hkind : scope.kind = .function) (cap : Cap env scope cl σ σc)
  (step : ∀ C d, d ∈ l → ∃ bs, Tgt (compEnvC scope cl C env) target d bs ∧ Ts c A (compEnvC scope cl C env) (bs ++ σc) ifs (p d) ∧ (p d = true → Ev c A (compEnvC scope cl C env) (bs ++ σc) elt (f d)))
  (V : View c W env σ s)
  (hRR : ∀ B C s' ys, Upd (fun _ => False) s s' → s.heap.get? B = none → s.heap.get? C = none → B ≠ C → (∃ m, s'.heap.Ns C m) → s'.heap.PlainList B ys → RdL (fun a => W a ∨ a = C ∨ a = B) s'.heap ys.toList ((l.filter p).map f) → RR (.ref B) C (.ok .next) s') :
  wpAny c.M A (eval iter env) (fun x s₁ => wpAny c.M A (pyIter x) (fun it s₂ => wpAny c.M A (newList []) (fun acc s₃ => wpAny c.M A (newFunctionEnv scope env.globals cl [] env.qual none .none (some env)) (fun cenv s₄ =>
   codeAny c.M A (.compStart (.ListComp elt [⟨target, iter, ifs, 0⟩] scope pos) 0 it acc { cenv with scope := relabel scope env }) (RR acc cenv.locals) s₄) E s₃) E s₂) E s₁) E s := by
 refine hi.use V fun x s₁ K₁ V₁ r₁ => it W s₁ E x _ V₁.wold r₁ fun I fp P St s₂ K₂ hI hIex Y st hfp hP => ?_
 have gr : ∀ a, (W a ∨ a = I) → W a ∨ s₁.heap.get? a = none := fun a h => h.elim .inl fun e => .inr (by rw [e]; exact hI)
 refine comp_core (W := fun a => W a ∨ a = I) hh ok Y st (V₁.growK K₂ gr fun a h => ?_) (.inr rfl) (V₁.kfresh hI) (fun b hb => ?_) (fun i u hlt hu => ?_) hn hcell hkind cap step fun B C s' hB hC hBC ns U ⟨ys, pl, ry⟩ => ?_
 ·rcases h with h | rfl
  ·obtain ⟨o, e⟩ := V₁.wold a h; exact ⟨o, K₂.heap _ _ e⟩
  ·exact hIex
 ·obtain ⟨_, o, e⟩ := hfp b hb
  refine ⟨fun q => ?_, o, K₂.heap _ _ e⟩
  rw [q, hI] at e; cases e
 ·obtain ⟨d, hd, r⟩ := hP i u hlt hu
  exact ⟨d, hd, (r.grow gr).keeps K₂.heap⟩
 ·have back : ∀ a, s₂.heap.get? a = none → s.heap.get? a = none := fun a e => by
   cases q : s.heap.get? a with
   | none => rfl
   | some o => rw [K₂.heap _ _ (K₁.heap _ _ q)] at e; cases e
  have hIs : s.heap.get? I = none := by
   cases q : s.heap.get? I with
   | none => rfl
   | some o => rw [K₁.heap _ _ q] at hI; cases hI
  have KK := K₁.trans K₂
  refine hRR B C s' ys ⟨?_, Nat.le_trans KK.tk U.tk, fun b o _ e => U.keep b o (fun q => by rw [q, hIs] at e; cases e) (KK.heap b o e)⟩ (back B hB) (back C hC) hBC ns pl ?_
  ·obtain ⟨h1, t1, q1⟩ := KK.eq
   obtain ⟨h2, t2, q2⟩ := U.eq
   exact ⟨h2, t2, by rw [q2, q1]⟩
  ·exact ry.mono (fun b o _ e => e) fun b o n _ h => n (by rcases h with h | h; exact .inl (.inl h); exact .inr h)
theorem comp_list {B C : Addr} {s' : Shared} {h' : Heap} {ys : Array Value} {ds : List D} (V : View c W env σ s) (U : Upd (fun _ => False) s s') (hB : s.heap.get? B = none) (hBC : B ≠ C) (pl : s'.heap.PlainList B ys) (ry : RdL (fun a => W a ∨ a = C ∨ a = B) s'.heap ys.toList ds)
  (sb : ∀ b o, b ≠ C → s'.heap.get? b = some o → h'.get? b = some o) : Rd W h' (.ref B) (.lst ds) :=
 .lst (V.new hB) (toL (pl.at fun o e => sb B o hBC e)) (ry.mono (fun b o n e => sb b o (fun q => n (.inr (.inl q))) e) fun b o n _ h => n (.inl h))
theorem Ev.comp {elt target iter : Expr} {ifs : List Expr} {scope : Scope} {pos : Pos} {cl : List (Str × Addr)} {l : List D} {p : D → Bool} {f : D → D} {σc : List (Str × D)} {di : D}
  (hh : A.handled = Option.none) (ok : EnvOk env) (hi : Ev c A env σ iter di) (it : Itr c A di l) (hn : l.length ≤ 1000000)
  (hclos : closureFor scope env = pure cl) (hcell : ∀ y ∈ scope.names, y.2 ≠ .cell) (hkind : scope.kind = .function) (hnames : ∀ y ∈ scope.names, y.2 = .local → scope.names.lookup y.1 = some .local) (cap : Cap env scope cl σ σc)
  (step : ∀ C d, d ∈ l → ∃ bs, Tgt (compEnvC scope cl C env) target d bs ∧ Ts c A (compEnvC scope cl C env) (bs ++ σc) ifs (p d) ∧ (p d = true → Ev c A (compEnvC scope cl C env) (bs ++ σc) elt (f d)))
  (hs : ∀ x, foldedSetIterable iter env x = pure x := by intro _; rfl) : Ev c A env σ (.ListComp elt [⟨target, iter, ifs, 0⟩] scope pos) (.lst ((l.filter p).map f)) := .intro fun W s E V => by
 rw [eval_ListComp]
 refine wpAny_comprehension_free (use := Option.none) rfl hs hclos hkind hnames (comp_pre (RR := fun acc C => compPost c.M A E Option.none _ acc C) hh ok hi it hn hcell hkind cap step V fun B C s' ys U hB hC hBC ns pl ry => ?_)
 obtain ⟨m, ns⟩ := ns
 refine ⟨m, ns, fun h' sb => ⟨⟨?_, fun b o e => sb.extBut b o (fun q => by rw [q, hC] at e; cases e) (U.keep b o id e)⟩, comp_list V U hB hBC pl ry fun b o n e => sb.extBut b o n e⟩⟩
 obtain ⟨h1, t1, q1⟩ := U.eq
 exact ⟨h', t1, by rw [q1]⟩
end
theorem RdL.imp {W W' : Addr → Prop} {h h' : Heap} (kr : ∀ v d, Rd W h v d → Rd W' h' v d) : ∀ {vs : List Value} {ds : List D}, RdL W h vs ds → RdL W' h' vs ds
 | _, _, .nil => .nil
 | _, _, .cons a b => .cons (kr _ _ a) (b.imp kr)
inductive Own where
 | l (ds : List D)
 | d (kvs : List (Str × D))
noncomputable def OwnAt (c : Cx) (W : Addr → Prop) (h : Heap) (a : Addr) : Own → Prop
 | .l ds => ∃ vs, h.PlainList a vs ∧ RdL W h vs.toList ds
 | .d kvs => ∃ us : List (Str × Value), h.DictOf (strKind c.prog c.w) a us ∧ (us.map (·.1) = kvs.map (·.1) ∧ (a == sysModules) = false) ∧ RdL W h (us.map (·.2)) (kvs.map (·.2))
theorem OwnAt.keep {c : Cx} {W W' : Addr → Prop} {h h' : Heap} {a : Addr} {o : Own} (x : OwnAt c W h a o) (ka : ∀ ob, h.get? a = some ob → h'.get? a = some ob) (kr : ∀ v d, Rd W h v d → Rd W' h' v d) : OwnAt c W' h' a o := by
 cases o with
 | l ds => obtain ⟨vs, p, r⟩ := x; exact ⟨vs, p.at ka, r.imp kr⟩
 | d kvs => obtain ⟨us, p, k, r⟩ := x; exact ⟨us, p.at ka, k, r.imp kr⟩
theorem OwnAt.data {c : Cx} {W : Addr → Prop} {h : Heap} {a : Addr} {o : Own} (x : OwnAt c W h a o) : ∃ ob, h.get? a = some ob ∧ ((∃ vs n, ob.data = .seq vs n) ∨ ∃ es ep, ob.data = .dict es ep) ∧ ob.cls ≠ .type "tuple" := by
 cases o with
 | l ds => obtain ⟨vs, ⟨n, e⟩, r⟩ := x; exact ⟨_, e, .inl ⟨_, _, rfl⟩, fun q : Value.type "list" = Value.type "tuple" => absurd q (by decide)⟩
 | d kvs => obtain ⟨us, ⟨ob, es, ep, e, ⟨hc, _⟩, hd, _⟩, _⟩ := x; exact ⟨ob, e, .inr ⟨es, ep, hd⟩, fun q => by rw [hc] at q; exact absurd q (by decide)⟩
theorem OwnAt.ex {c : Cx} {W : Addr → Prop} {h : Heap} {a : Addr} {o : Own} (x : OwnAt c W h a o) : ∃ ob, h.get? a = some ob := let ⟨ob, e, _⟩ := x.data; ⟨ob, e⟩
theorem OwnAt.ne_cell {c : Cx} {W : Addr → Prop} {h : Heap} {a b : Addr} {o : Own} {u : Option Value} (x : OwnAt c W h a o) (y : h.IsCell b u) : a ≠ b := by
 rintro rfl
 obtain ⟨ob, e, q, _⟩ := x.data
 obtain ⟨o', e3, e4⟩ := y
 rw [e] at e3; cases e3
 rcases q with ⟨_, _, q⟩ | ⟨_, _, q⟩ <;> (rw [e4] at q; cases q)
/-- a running body: s₀ where it was entered, W₀ what must not be read into what it gives back, Md what it may change,
W what is not to be read now, σ the names, μ the lists of its own -/
structure Fr (c : Cx) (s₀ : Shared) (W₀ Md W : Addr → Prop) (env : Env) (σ : List (Str × D)) (μ : List (Addr × Own)) (s : Shared) : Prop where
 view : View c W env σ s
 base0 : HasK c.K s₀.heap
 up : Upd Md s₀ s
 w0 : ∀ a, W₀ a → W a
 wn : ∀ a, W a → W₀ a ∨ s₀.heap.get? a = none
 w0old : ∀ a, W₀ a → ∃ o, s₀.heap.get? a = some o
 mdW : ∀ a, Md a → W₀ a
 mdK : ∀ a, Md a → c.K a = none
 loc : W env.locals ∧ (Md env.locals ∨ s₀.heap.get? env.locals = none)
 ns : ∃ m, s.heap.Ns env.locals m
 cell : ∀ x a, env.kindOf x = some .cell → env.cells.lookup x = some a → W a ∧ (Md a ∨ s₀.heap.get? a = none) ∧ ∃ v, s.heap.IsCell a v
 inj : ∀ x y a, env.cells.lookup x = some a → env.cells.lookup y = some a → x = y
 own : ∀ a l, (a, l) ∈ μ → W a ∧ (Md a ∨ s₀.heap.get? a = none) ∧ a ≠ env.locals ∧ OwnAt c W s.heap a l
 nd : (μ.map (·.1)).Nodup
noncomputable def Mine' (env : Env) (μ : List (Addr × Own)) (a : Addr) : Prop :=
 a = env.locals ∨ (∃ x, env.kindOf x = some .cell ∧ env.cells.lookup x = some a) ∨ ∃ l, (a, l) ∈ μ
section
variable {c : Cx} {A : Around} {s₀ : Shared} {W₀ Md W : Addr → Prop} {env : Env} {σ : List (Str × D)} {μ : List (Addr × Own)} {s : Shared} {E : Value → Shared → Prop}
theorem Fr.md_of (F : Fr c s₀ W₀ Md W env σ μ s) {a : Addr} (h : Mine' env μ a) : W a ∧ (Md a ∨ s₀.heap.get? a = none) := by
 rcases h with rfl | ⟨x, h1, h2⟩ | ⟨l, h⟩
 ·exact F.loc
 ·exact ⟨(F.cell x a h1 h2).1, (F.cell x a h1 h2).2.1⟩
 ·exact ⟨(F.own a l h).1, (F.own a l h).2.1⟩
theorem Fr.kn (F : Fr c s₀ W₀ Md W env σ μ s) {a : Addr} (h : Md a ∨ s₀.heap.get? a = none) : c.K a = none := by
 rcases h with h | h
 ·exact F.mdK a h
 ·cases e : c.K a with
  | none => rfl
  | some o => rw [F.base0 a o e] at h; cases h
theorem cell_ne_ns {h : Heap} {a b : Addr} {v : Option Value} {m : Str → Option Value} (x : h.IsCell a v) (y : h.Ns b m) : a ≠ b := by
 rintro rfl
 obtain ⟨o, e1, e2⟩ := x; obtain ⟨o', es, ep, e3, e4, _⟩ := y
 rw [e1] at e3; cases e3; rw [e2] at e4; cases e4
theorem IsCell.atK {h h' : Heap} {a : Addr} {v : Option Value} (x : h.IsCell a v) (k : ∀ o, h.get? a = some o → h'.get? a = some o) : h'.IsCell a v := let ⟨o, e, d⟩ := x; ⟨o, k o e, d⟩
theorem Fr.keeps (F : Fr c s₀ W₀ Md W env σ μ s) {s' : Shared} (K : Kt s s') : Fr c s₀ W₀ Md W env σ μ s' :=
 {F with
  view := F.view.keeps K
  up := F.up.trans (.of K)
  ns := let ⟨m, n⟩ := F.ns; ⟨m, n.keeps K.heap⟩
  cell := fun x a h1 h2 => let ⟨q1, q2, v, q3⟩ := F.cell x a h1 h2; ⟨q1, q2, v, q3.keeps K.heap⟩
  own := fun a l h => let ⟨q1, q2, q3, q4⟩ := F.own a l h; ⟨q1, q2, q3, q4.keep (fun o e => K.heap _ o e) fun v d r => r.keeps K.heap⟩ }
theorem Fr.set (ok : EnvOk env) (F : Fr c s₀ W₀ Md W env σ μ s) {x : Str} {v : Value} {d : D} {Q : Unit → Shared → Prop} (hk : env.kindOf x = some .local ∨ (env.kindOf x = some .cell ∧ ∃ a, env.cells.lookup x = some a)) (r : Rd W s.heap v d)
  (h : ∀ s', Fr c s₀ W₀ Md W env ((x, d) :: σ) μ s' → Upd (Mine' env []) s s' → Q () s') : wpAny c.M A (storeName env x v) Q E s := by
 rcases hk with hk | ⟨hk, a, ha⟩
 ·refine set_local ok hk F.view F.loc.1 (F.kn F.loc.2) F.ns r fun s' V' U' ns' => h s' ?_ (U'.mono fun a e => .inl e)
  obtain ⟨m, n⟩ := F.ns
  have hU : ∀ b o, b ≠ env.locals → s.heap.get? b = some o → s'.heap.get? b = some o := fun b o n e => U'.keep b o n e
  exact { F with
   view := V'
   up := ⟨by obtain ⟨h1, t1, q1⟩ := F.up.eq; obtain ⟨h2, t2, q2⟩ := U'.eq; exact ⟨h2, t2, by rw [q2, q1]⟩, Nat.le_trans F.up.tk U'.tk, fun b o hb e => hU b o (fun q => by
    subst q
    rcases F.loc.2 with q | q
    ·exact hb q
    ·rw [q] at e; cases e) (F.up.keep b o hb e)⟩
   ns := ns'
   cell := fun y b h1 h2 => let ⟨q1, q2, u, q3⟩ := F.cell y b h1 h2; ⟨q1, q2, u, IsCell.atK q3 fun o e => hU b o (cell_ne_ns q3 n) e⟩
   own := fun b l hb => let ⟨q1, q2, q3, q4⟩ := F.own b l hb; ⟨q1, q2, q3, q4.keep (fun o e => hU b o q3 e) fun v d r => U'.rd (fun a e => by subst e; exact F.loc.1) r⟩ }
 ·obtain ⟨hWa, hMa, u₀, hc⟩ := F.cell x a hk ha
  refine wpAny_storeName_cell ok.kind hk ha hc fun h' hc' sb => ?_
  have U' : Upd (fun b => b = a) s { s with heap := h' } := ⟨⟨h', s.toks, rfl⟩, Nat.le_refl _, fun b o n e => sb.extBut b o n e⟩
  have hm : ∀ b, b = a → W b := fun b e => by rw [e]; exact hWa
  obtain ⟨m, n⟩ := F.ns
  have neL : env.locals ≠ a := Ne.symm (cell_ne_ns hc n)
  refine h _ ?_ (U'.mono fun b e => .inr (.inl ⟨x, hk, by rw [e]; exact ha⟩))
  exact { F with
   view := F.view.upd U' (fun b e => by rw [e]; exact F.kn hMa) (fun b e => by rw [e]; obtain ⟨o, e, _⟩ := hc'; exact ⟨o, e⟩) fun y e hy => by
    rw [List.lookup_cons] at hy
    split at hy
    ·rename_i z
     have := eq_of_beq z; subst this; cases hy
     refine ⟨v, ?_, U'.rd hm r⟩
     unfold Bnd; rw [hk]
     obtain ⟨o, e1, e2⟩ := hc'
     exact ⟨a, o, ha, e1, e2⟩
    ·rename_i z
     obtain ⟨u, b, ru⟩ := F.view.vars y e hy
     refine ⟨u, ?_, U'.rd hm ru⟩
     have yx : y ≠ x := fun q => by subst q; simp at z
     have cne : ∀ b, env.cells.lookup y = some b → b ≠ a := fun b hb q => by subst q; exact yx (F.inj y x b hb ha)
     unfold Bnd at b ⊢
     split at b
     ·obtain ⟨m₀, n₀, e₀⟩ := b; exact ⟨m₀, n₀.at fun o e => sb.extBut _ o neL e, e₀⟩
     ·obtain ⟨b, o, e1, e2, e3⟩ := b; exact ⟨b, o, e1, sb.extBut b o (cne b e1) e2, e3⟩
     ·obtain ⟨b, o, e1, e2, e3⟩ := b; exact ⟨b, o, e1, sb.extBut b o (cne b e1) e2, e3⟩
     ·exact b
     ·exact b
   up := ⟨by obtain ⟨h1, t1, q1⟩ := F.up.eq; exact ⟨h', t1, by rw [q1]⟩, F.up.tk, fun b o hb e => sb.extBut b o (fun q => by
    subst q
    rcases hMa with q | q
    ·exact hb q
    ·rw [q] at e; cases e) (F.up.keep b o hb e)⟩
   ns := ⟨m, n.at fun o e => sb.extBut _ o neL e⟩
   cell := fun y b h1 h2 => by
    by_cases z : b = a
    ·subst z; exact ⟨hWa, hMa, _, hc'⟩
    ·obtain ⟨q1, q2, u, q3⟩ := F.cell y b h1 h2; exact ⟨q1, q2, u, IsCell.atK q3 fun o e => sb.extBut b o z e⟩
   own := fun b l hb => let ⟨q1, q2, q3, q4⟩ := F.own b l hb; ⟨q1, q2, q3, q4.keep (fun o e => sb.extBut b o (q4.ne_cell hc) e) fun v d r => U'.rd hm r⟩ }
theorem st_assign (ok : EnvOk env) (F : Fr c s₀ W₀ Md W env σ μ s) {x : Str} {px pos : Pos} {e : Expr} {d : D} {Q : Flow → Shared → Prop} (he : Ev c A env σ e d) (hk : env.kindOf x = some .local ∨ (env.kindOf x = some .cell ∧ ∃ a, env.cells.lookup x = some a))
  (h : ∀ s', Fr c s₀ W₀ Md W env ((x, d) :: σ) μ s' → Q .next s') (hs : swapsWith e (some (.Name x px)) pos.line env = pure false := by rfl) : wpAny c.M A (exec (.Assign [.Name x px] e pos) env) Q E s :=
 wpAny_Assign_Name (he.use F.view fun v s₁ K₁ V₁ r₁ => (F.keeps K₁).set ok hk r₁ fun s' F' _ => h s' F') hs
theorem st_if (F : Fr c s₀ W₀ Md W env σ μ s) {t : Expr} {body orelse : List Stmt} {pos : Pos} {b : Bool} {Q : Flow → Shared → Prop} (ht : Tv c A env σ t b)
  (h1 : b = true → ∀ s', Fr c s₀ W₀ Md W env σ μ s' → wpAny c.M A (execs body env) Q E s') (h2 : b = false → ∀ s', Fr c s₀ W₀ Md W env σ μ s' → wpAny c.M A (execs orelse env) Q E s') : wpAny c.M A (exec (.If t body orelse pos) env) Q E s :=
 wpAny_If (ht.use F.view fun s₁ K₁ V₁ => by
  cases b with
  | true => exact h1 rfl _ (F.keeps K₁)
  | false => exact h2 rfl _ (F.keeps K₁))
theorem st_return (F : Fr c s₀ W₀ Md W env σ μ s) {e : Expr} {pos : Pos} {d : D} {Q : Flow → Shared → Prop} (he : Ev c A env σ e d) (h : ∀ v s', Fr c s₀ W₀ Md W env σ μ s' → Rd W s'.heap v d → Q (.ret v) s') : wpAny c.M A (exec (.Return (some e) pos) env) Q E s :=
 wpAny_Return_some (he.use F.view fun v s₁ K₁ V₁ r₁ => h v s₁ (F.keeps K₁) r₁)
theorem Rd.less {W W' : Addr → Prop} {h : Heap} (hw : ∀ a, W' a → W a) {v : Value} {d : D} (r : Rd W h v d) : Rd W' h v d := r.grow fun a h => .inl (hw a h)
theorem RdL.less {W W' : Addr → Prop} {h : Heap} (hw : ∀ a, W' a → W a) {v : List Value} {d : List D} (r : RdL W h v d) : RdL W' h v d := r.grow fun a h => .inl (hw a h)
end
section
variable {c : Cx} {A : Around} {s₀ : Shared} {W₀ Md W : Addr → Prop} {env : Env} {σ : List (Str × D)} {μ : List (Addr × Own)} {s : Shared} {E : Value → Shared → Prop}
theorem Fr.sub (F : Fr c s₀ W₀ Md W env σ μ s) {σ' : List (Str × D)} (h : ∀ x d, σ'.lookup x = some d → σ.lookup x = some d) : Fr c s₀ W₀ Md W env σ' μ s :=
 {F with view := { F.view with vars := fun x d e => F.view.vars x d (h x d e) } }
theorem Fr.back (F : Fr c s₀ W₀ Md W env σ μ s) {a : Addr} (h : s.heap.get? a = none) : Md a ∨ s₀.heap.get? a = none := by
 cases e : s₀.heap.get? a with
 | none => exact .inr rfl
 | some o =>
  by_cases m : Md a
  ·exact .inl m
  ·rw [F.up.keep a o m e] at h; cases h
theorem Fr.fresh (F : Fr c s₀ W₀ Md W env σ μ s) {a : Addr} (h : s.heap.get? a = none) : s₀.heap.get? a = none := by
 cases e : s₀.heap.get? a with
 | none => rfl
 | some o =>
  by_cases m : Md a
  ·obtain ⟨o, q⟩ := F.view.wold a (F.w0 a (F.mdW a m)); rw [q] at h; cases h
  ·rw [F.up.keep a o m e] at h; cases h
theorem Fr.growK (F : Fr c s₀ W₀ Md W env σ μ s) {W' : Addr → Prop} {s' : Shared} (K : Kt s s') (hs : ∀ a, W a → W' a) (hW : ∀ a, W' a → W a ∨ s.heap.get? a = none) (hx : ∀ a, W' a → ∃ o, s'.heap.get? a = some o) : Fr c s₀ W₀ Md W' env σ μ s' :=
 {F with
  view := F.view.growK K hW hx
  up := F.up.trans (.of K)
  w0 := fun a h => hs a (F.w0 a h)
  wn := fun a h => (hW a h).elim (F.wn a) fun q => .inr (F.fresh q)
  loc := ⟨hs _ F.loc.1, F.loc.2⟩
  ns := let ⟨m, n⟩ := F.ns; ⟨m, n.keeps K.heap⟩
  cell := fun x a h1 h2 => let ⟨q1, q2, v, q3⟩ := F.cell x a h1 h2; ⟨hs _ q1, q2, v, q3.keeps K.heap⟩
  own := fun a l h => let ⟨q1, q2, q3, q4⟩ := F.own a l h; ⟨hs _ q1, q2, q3, q4.keep (fun o e => K.heap _ o e) fun v d r => (r.grow hW).keeps K.heap⟩ }
theorem Fr.adoptO (F : Fr c s₀ W₀ Md W env σ μ s) {s' : Shared} (K : Kt s s') {a : Addr} {o : Own} (ha : s.heap.get? a = none) (r : OwnAt c (fun b => W b ∨ b = a) s'.heap a o) :
  Fr c s₀ W₀ Md (fun b => W b ∨ b = a) env σ ((a, o) :: μ) s' := by
 have hW : ∀ b, (W b ∨ b = a) → W b ∨ s.heap.get? b = none := fun b h => h.elim .inl fun q => .inr (by rw [q]; exact ha)
 have G := F.growK (W' := fun b => W b ∨ b = a) K (fun b h => .inl h) hW (fun b h => by
  rcases h with h | rfl
  ·obtain ⟨o, e⟩ := F.view.wold b h; exact ⟨o, K.heap _ _ e⟩
  ·exact r.ex)
 exact { G with
  own := fun b k h => by
   rcases List.mem_cons.mp h with h | h
   ·cases h
    refine ⟨.inr rfl, .inr (F.fresh ha), fun q => ?_, r⟩
    obtain ⟨m, o', _, _, e, _⟩ := F.ns
    rw [← q, ha] at e; cases e
   ·exact G.own b k h
  nd := by
   rw [List.map_cons, List.nodup_cons]
   refine ⟨fun h => ?_, F.nd⟩
   obtain ⟨⟨b, k⟩, h1, h2⟩ := List.mem_map.mp h
   simp only at h2; subst h2
   obtain ⟨_, _, _, q⟩ := F.own b k h1
   obtain ⟨o', e⟩ := q.ex
   rw [ha] at e; cases e }
theorem Fr.adopt (F : Fr c s₀ W₀ Md W env σ μ s) {s' : Shared} (K : Kt s s') {a : Addr} {vs : Array Value} {l : List D} (ha : s.heap.get? a = none) (pl : s'.heap.PlainList a vs) (r : RdL (fun b => W b ∨ b = a) s'.heap vs.toList l) :
  Fr c s₀ W₀ Md (fun b => W b ∨ b = a) env σ ((a, .l l) :: μ) s' := F.adoptO K ha ⟨vs, pl, r⟩
theorem st_newlist (ok : EnvOk env) (F : Fr c s₀ W₀ Md W env σ μ s) {x : Str} {px pos lp : Pos} {Q : Flow → Shared → Prop} (hk : env.kindOf x = some .local ∨ (env.kindOf x = some .cell ∧ ∃ a, env.cells.lookup x = some a))
  (h : ∀ a s', s₀.heap.get? a = none → Fr c s₀ W₀ Md (fun b => W b ∨ b = a) env ((x, .val (.ref a)) :: σ) ((a, .l []) :: μ) s' → Q .next s') : wpAny c.M A (exec (.Assign [.Name x px] (.List [] lp) pos) env) Q E s := by
 refine wpAny_Assign_Name (List_ (Calls.spliced_nil (wpAny_newObj_type ?_)))
 have ha : s.heap.get? s.heap.objs.size = none := size_none
 have G := F.adopt (s' := { s with heap := s.heap.push { cls := .type "list", data := .seq ([] : List Value).toArray } }) (a := s.heap.objs.size) (vs := #[]) (l := []) ⟨.push _, Nat.le_refl _⟩ ha ⟨0, Heap.get?_push_size _ rfl⟩ .nil
 exact G.set ok hk (.val _) fun s' F' _ => h _ s' (F.fresh ha) F'
theorem Fr.putO (F : Fr c s₀ W₀ Md W env σ μ s) {W' : Addr → Prop} {a : Addr} {l l' : Own} {μ₁ μ₂ : List (Addr × Own)} (hμ : μ = μ₁ ++ (a, l) :: μ₂) {t : Shared} (U : Upd (fun b => b = a) s t)
  (hs : ∀ b, W b → W' b) (hW : ∀ b, W' b → W b ∨ s.heap.get? b = none) (hx : ∀ b, W' b → ∃ o, t.heap.get? b = some o) (r : OwnAt c W' t.heap a l') :
  Fr c s₀ W₀ Md W' env σ (μ₁ ++ (a, l') :: μ₂) t := by
 have hmem : (a, l) ∈ μ := by rw [hμ]; exact List.mem_append_right _ (List.mem_cons_self ..)
 obtain ⟨q1, q2, qL, q4⟩ := F.own a l hmem
 have kk : ∀ b o, b ≠ a → s.heap.get? b = some o → t.heap.get? b = some o := fun b o q e => U.keep b o q e
 have hm : ∀ b, b = a → W' b := fun b e => by rw [e]; exact hs _ q1
 obtain ⟨m, n⟩ := F.ns
 have nd := F.nd
 have neL : env.locals ≠ a := Ne.symm qL
 exact {
  view := ⟨fun b o e => kk b o (fun q => by rw [q, F.kn q2] at e; cases e) (F.view.base b o e), hx, Nat.lt_of_lt_of_le F.view.tok U.tk, fun y e hy => by
   obtain ⟨u, b, ru⟩ := F.view.vars y e hy
   refine ⟨u, ?_, U.rd hm (ru.grow hW)⟩
   unfold Bnd at b ⊢
   split at b
   ·obtain ⟨m₀, n₀, e₀⟩ := b; exact ⟨m₀, n₀.at fun o e => kk _ o neL e, e₀⟩
   ·obtain ⟨b, o, e1, e2, e3⟩ := b; exact ⟨b, o, e1, kk b o (Ne.symm (q4.ne_cell ⟨o, e2, e3⟩)) e2, e3⟩
   ·obtain ⟨b, o, e1, e2, e3⟩ := b; exact ⟨b, o, e1, kk b o (Ne.symm (q4.ne_cell ⟨o, e2, e3⟩)) e2, e3⟩
   ·exact b
   ·exact b⟩
  base0 := F.base0
  up := ⟨by obtain ⟨h1, t1, q1⟩ := F.up.eq; obtain ⟨h2, t2, q2⟩ := U.eq; exact ⟨h2, t2, by rw [q2, q1]⟩, Nat.le_trans F.up.tk U.tk, fun b o hb e => kk b o (fun q => by
   subst q
   rcases q2 with q | q
   ·exact hb q
   ·rw [q] at e; cases e) (F.up.keep b o hb e)⟩
  w0 := fun a h => hs a (F.w0 a h)
  wn := fun a h => (hW a h).elim (F.wn a) fun q => .inr (F.fresh q)
  w0old := F.w0old
  mdW := F.mdW
  mdK := F.mdK
  loc := ⟨hs _ F.loc.1, F.loc.2⟩
  inj := F.inj
  ns := ⟨m, n.at fun o e => kk _ o neL e⟩
  cell := fun y b h1 h2 => let ⟨p1, p2, u, p3⟩ := F.cell y b h1 h2; ⟨hs _ p1, p2, u, IsCell.atK p3 fun o e => kk b o (Ne.symm (q4.ne_cell p3)) e⟩
  own := fun b k hb => by
   by_cases z : b = a
   ·subst z
    have : k = l' := by
     rw [hμ, List.map_append, List.map_cons] at nd
     have nd' : ((μ₁ ++ (b, l') :: μ₂).map (·.1)).Nodup := by rw [List.map_append, List.map_cons]; exact nd
     clear nd
     rcases List.mem_append.mp hb with hb | hb
     ·exfalso
      rw [List.map_append, List.map_cons, List.nodup_append] at nd'
      exact nd'.2.2 b (List.mem_map.mpr ⟨_, hb, rfl⟩) b (List.mem_cons_self ..) rfl
     ·rcases List.mem_cons.mp hb with hb | hb
      ·cases hb; rfl
      ·exfalso
       rw [List.map_append, List.map_cons, List.nodup_append, List.nodup_cons] at nd'
       exact nd'.2.1.1 (List.mem_map.mpr ⟨_, hb, rfl⟩)
    subst this
    exact ⟨hs _ q1, q2, qL, r⟩
   ·have hb' : (b, k) ∈ μ := by
     rw [hμ]
     rcases List.mem_append.mp hb with hb | hb
     ·exact List.mem_append_left _ hb
     ·rcases List.mem_cons.mp hb with hb | hb
      ·cases hb; exact (z rfl).elim
      ·exact List.mem_append_right _ (List.mem_cons_of_mem _ hb)
    obtain ⟨p1, p2, p3, p4⟩ := F.own b k hb'
    exact ⟨hs _ p1, p2, p3, p4.keep (fun o e => kk b o z e) fun v d r => U.rd hm (r.grow hW)⟩
  nd := by
   have nd := F.nd
   rw [hμ] at nd
   rw [List.map_append, List.map_cons] at nd ⊢
   exact nd }
theorem Fr.putU (F : Fr c s₀ W₀ Md W env σ μ s) {a : Addr} {l : Own} {l' : Own} {μ₁ μ₂ : List (Addr × Own)} (hμ : μ = μ₁ ++ (a, l) :: μ₂) {t : Shared} (U : Upd (fun b => b = a) s t) (r : OwnAt c W t.heap a l') :
  Fr c s₀ W₀ Md W env σ (μ₁ ++ (a, l') :: μ₂) t :=
 F.putO hμ U (fun _ h => h) (fun _ h => .inl h) (fun b h => by
  by_cases z : b = a
  ·subst z; exact r.ex
  ·obtain ⟨o, e⟩ := F.view.wold b h; exact ⟨o, U.keep b o z e⟩) r
theorem upd_of {s : Shared} {a : Addr} {h' : Heap} (sb : Heap.SameBut a s.heap h') : Upd (fun b => b = a) s { s with heap := h' } := ⟨⟨h', s.toks, rfl⟩, Nat.le_refl _, fun b o n e => sb.extBut b o n e⟩
theorem st_append (F : Fr c s₀ W₀ Md W env σ μ s) {o e : Expr} {apos pos epos : Pos} {a : Addr} {l : List D} {d : D} {μ₁ μ₂ : List (Addr × Own)} {Q : Flow → Shared → Prop} (ho : Ev c A env σ o (.val (.ref a))) (he : Ev c A env σ e d) (hμ : μ = μ₁ ++ (a, .l l) :: μ₂) (hn : l.length ≤ 1000000)
  (hbase : attributeBase o "append" env (eval o env) = eval o env) (hs : starEach [e] env = [(false, eval e env)]) (hline : (apos.endLine == pos.line) = true)
  (h : ∀ s', Fr c s₀ W₀ Md W env σ (μ₁ ++ (a, .l (l ++ [d])) :: μ₂) s' → Q .next s') (hint : interactive env = false := by rfl) :
  wpAny c.M A (exec (.Expr (.Call (.Attribute o "append" apos) [e] [] pos) epos) env) Q E s := by
 refine wpAny_Expr (wpAny_Call_append hbase (by rw [hs]; rfl) hline (by rw [hs]; rfl) ?_) hint (by rfl)
 refine ho.use F.view fun v s₁ K₁ V₁ r₁ => ?_
 cases r₁
 have F₁ := F.keeps K₁
 have hmem : (a, .l l) ∈ μ := by rw [hμ]; exact List.mem_append_right _ (List.mem_cons_self ..)
 obtain ⟨q1, q2, qL, us, ⟨n, q3⟩, q4⟩ := F₁.own a (.l l) hmem
 refine ⟨a, us, rfl, ⟨_, n, q3, rfl, rfl, rfl⟩, he.use V₁ fun y s₂ K₂ V₂ r₂ => ?_⟩
 have F₂ := F₁.keeps K₂
 have el : us.size = l.length := by rw [← q4.length]; simp
 refine wpAny_list_append_plain (items := us) (hsz := by rw [el, sizeLine_eq]; omega) ⟨n, K₂.heap _ _ q3⟩ fun h' pl sb => ?_
 have hm : ∀ b, b = a → W b := fun b e => by rw [e]; exact q1
 refine h _ (F₂.putU hμ (upd_of sb) ⟨_, pl, ?_⟩)
 rw [Array.toList_push]
 exact (upd_of sb).rdL hm ((q4.keeps K₂.heap).app (.cons r₂ .nil))
theorem Fr.rebase (F : Fr c s₀ W₀ Md W env σ μ s) : Fr c s W (Mine' env μ) W env σ μ s :=
 {F with
  base0 := F.view.base
  up := .refl s
  w0 := fun a h => h
  wn := fun a h => .inl h
  w0old := F.view.wold
  mdW := fun a h => (F.md_of h).1
  mdK := fun a h => F.kn (F.md_of h).2
  loc := ⟨F.loc.1, .inl (.inl rfl)⟩
  cell := fun x a h1 h2 => let ⟨q1, q2, q3⟩ := F.cell x a h1 h2; ⟨q1, .inl (.inr (.inl ⟨x, h1, h2⟩)), q3⟩
  own := fun a l h => let ⟨q1, q2, q3⟩ := F.own a l h; ⟨q1, .inl (.inr (.inr ⟨l, h⟩)), q3⟩ }
theorem Fr.compose (F : Fr c s₀ W₀ Md W env σ μ s) {W' : Addr → Prop} {σ' : List (Str × D)} {μ' : List (Addr × Own)} {s' : Shared} (G : Fr c s W (Mine' env μ) W' env σ' μ' s') : Fr c s₀ W₀ Md W' env σ' μ' s' := by
 have tr : ∀ {a}, (Mine' env μ a ∨ s.heap.get? a = none) → Md a ∨ s₀.heap.get? a = none := fun h => h.elim (fun m => (F.md_of m).2) F.back
 exact { G with
  base0 := F.base0
  up := ⟨by obtain ⟨h1, t1, q1⟩ := F.up.eq; obtain ⟨h2, t2, q2⟩ := G.up.eq; exact ⟨h2, t2, by rw [q2, q1]⟩, Nat.le_trans F.up.tk G.up.tk, fun b o hb e => G.up.keep b o (fun m => by
   rcases (F.md_of m).2 with q | q
   ·exact hb q
   ·rw [q] at e; cases e) (F.up.keep b o hb e)⟩
  w0 := fun a h => G.w0 a (F.w0 a h)
  wn := fun a h => (G.wn a h).elim (F.wn a) fun q => .inr (F.fresh q)
  w0old := F.w0old
  mdW := F.mdW
  mdK := F.mdK
  loc := ⟨G.loc.1, F.loc.2⟩
  cell := fun x a h1 h2 => let ⟨q1, q2, q3⟩ := G.cell x a h1 h2; ⟨q1, tr q2, q3⟩
  own := fun a l h => let ⟨q1, q2, q3⟩ := G.own a l h; ⟨q1, tr q2, q3⟩ }
end
noncomputable def Nm (env : Env) (x : Str) : Prop := env.kindOf x = some .local ∨ (env.kindOf x = some .cell ∧ ∃ a, env.cells.lookup x = some a)
inductive TgtF (env : Env) : Expr → D → List (Str × D) → Prop
 | name {x : Str} {p : Pos} {d : D} : Nm env x → TgtF env (.Name x p) d [(x, d)]
 | pair {x y : Str} {p q pt : Pos} {k : Nat} {d e : D} : Nm env x → Nm env y → TgtF env (.Tuple [.Name x p, .Name y q] k pt) (.tup [d, e]) [(y, e), (x, d)]
section
variable {c : Cx} {A : Around} {s₀ : Shared} {W₀ Md W : Addr → Prop} {env : Env} {σ : List (Str × D)} {μ : List (Addr × Own)} {s : Shared} {E : Value → Shared → Prop}
theorem TgtF.set (ok : EnvOk env) (hh : A.handled = none) (F : Fr c s₀ W₀ Md W env σ μ s) {t : Expr} {d : D} {bs : List (Str × D)} (T : TgtF env t d bs) {v : Value} {Q : Unit → Shared → Prop} (r : Rd W s.heap v d)
  (h : ∀ s', Fr c s₀ W₀ Md W env (bs ++ σ) μ s' → Upd (Mine' env []) s s' → Q () s') : wpAny c.M A (assign t env v) Q E s := by
 cases T with
 | name hk => exact wpAny_assign_Name (F.set ok hk r h)
 | pair hx hy =>
  cases r with
  | tup ha ht hl =>
   rename_i x y p q pt k d e a vs
   cases hl2 : vs.toList with
   | nil => rw [hl2] at hl; cases hl
   | cons u us =>
    rw [hl2] at hl
    cases hl with
    | cons r1 hl =>
     cases us with
     | nil => cases hl
     | cons u2 us =>
      cases hl with
      | cons r2 hl =>
       cases hl
       have hsz : vs.size = 2 := by rw [← Array.length_toList, hl2]; rfl
       refine wpAny_assign_Tuple hh ht (by rw [hsz]; rfl) (by rfl) fun h' hx' => ?_
       have k1 : Kt s { s with heap := h' } := ⟨⟨⟨_, s.toks, rfl⟩, fun b o e => hx' b o (Nat.ne_of_lt (Heap.lt_size e)) e⟩, Nat.le_refl _⟩
       have F1 := F.keeps k1
       have hm : ∀ a, Mine' env [] a → W a := fun a h => (F.md_of (h.imp id (Or.imp id fun ⟨l, h⟩ => nomatch h))).1
       rw [hl2]
       show wpAny _ _ (do holding [u2] (assign (.Name x p) env u); assignInOrder [assign (.Name y q) env] [u2]) _ _ _
       refine wpAny_bind (wpAny_holding (wpAny_assign_Name (F1.set ok hx (r1.keeps k1.heap) fun s2 F2 U2 => ?_)))
       show wpAny _ _ (do holding [] (assign (.Name y q) env u2); pure ()) _ _ _
       refine wpAny_bind (wpAny_holding (wpAny_assign_Name (F2.set ok hy (U2.rd hm (r2.keeps k1.heap)) fun s3 F3 U3 => ?_)))
       exact wpAny_pure (h _ F3 (((Upd.of k1).trans U2).trans U3))
theorem iter_ne {h : Heap} {I : Addr} {o : Obj} {vs : Array Value} (e1 : h.get? I = some o) (e3 : o.data = .fields vs) :
  (∀ m, ¬ h.Ns I m) ∧ (∀ v, ¬ h.IsCell I v) := by
 refine ⟨?_, ?_⟩
 ·rintro m ⟨o', es, ep, q1, q2, _⟩; rw [e1] at q1; cases q1; rw [e3] at q2; cases q2
 ·rintro v ⟨o', q1, q2⟩; rw [e1] at q1; cases q1; rw [e3] at q2; cases q2
theorem Fr.bump (F : Fr c s₀ W₀ Md W env σ μ s) {I : Addr} {t : Shared} (U : Upd (fun b => b = I) s t) (hW : W I) (hK : c.K I = none) (h0 : s₀.heap.get? I = none) (hex : ∃ o, t.heap.get? I = some o)
  (hno : (∀ m, ¬ s.heap.Ns I m) ∧ (∀ v, ¬ s.heap.IsCell I v)) (hμ : ∀ o, (I, o) ∉ μ) : Fr c s₀ W₀ Md W env σ μ t := by
 have hm : ∀ b, b = I → W b := fun b e => by rw [e]; exact hW
 obtain ⟨m, n⟩ := F.ns
 have kk : ∀ b o, b ≠ I → s.heap.get? b = some o → t.heap.get? b = some o := fun b o q e => U.keep b o q e
 have neL : env.locals ≠ I := fun q => hno.1 m (q ▸ n)
 exact { F with
  view := F.view.upd U (fun b e => by rw [e]; exact hK) (fun b e => by rw [e]; exact hex) fun y e hy => by
   obtain ⟨u, b, ru⟩ := F.view.vars y e hy
   refine ⟨u, ?_, U.rd hm ru⟩
   unfold Bnd at b ⊢
   split at b
   ·obtain ⟨m₀, n₀, e₀⟩ := b; exact ⟨m₀, n₀.at fun o e => kk _ o neL e, e₀⟩
   ·obtain ⟨b, o, e1, e2, e3⟩ := b; exact ⟨b, o, e1, kk b o (fun q => hno.2 _ (q ▸ (⟨o, e2, e3⟩ : s.heap.IsCell b (some u)))) e2, e3⟩
   ·obtain ⟨b, o, e1, e2, e3⟩ := b; exact ⟨b, o, e1, kk b o (fun q => hno.2 _ (q ▸ (⟨o, e2, e3⟩ : s.heap.IsCell b (some u)))) e2, e3⟩
   ·exact b
   ·exact b
  up := ⟨by obtain ⟨h1, t1, q1⟩ := F.up.eq; obtain ⟨h2, t2, q2⟩ := U.eq; exact ⟨h2, t2, by rw [q2, q1]⟩, Nat.le_trans F.up.tk U.tk, fun b o hb e => kk b o (fun q => by rw [q, h0] at e; cases e) (F.up.keep b o hb e)⟩
  ns := ⟨m, n.at fun o e => kk _ o neL e⟩
  cell := fun y b h1 h2 => let ⟨p1, p2, u, p3⟩ := F.cell y b h1 h2; ⟨p1, p2, u, IsCell.atK p3 fun o e => kk b o (fun q => hno.2 _ (q ▸ p3)) e⟩
  own := fun b k hb => let ⟨p1, p2, p3, p4⟩ := F.own b k hb; ⟨p1, p2, p3, p4.keep (fun o e => kk b o (fun q => hμ k (q ▸ hb)) e) fun v d r => U.rd hm r⟩ }
theorem Fr.scrap (F : Fr c s₀ W₀ Md W env σ μ s) {I : Addr} {t : Shared} (U : Upd (fun b => b = I) s t) (hW : W I) (hK : c.K I = none) (h0 : s₀.heap.get? I = none)
  (neL : env.locals ≠ I) (hc : ∀ v, ¬ s.heap.IsCell I v) (hl : ∀ o, (I, o) ∉ μ) : Fr c s₀ W₀ Md (fun a => W a ∧ a ≠ I) env σ μ t := by
 have hm : ∀ b, b = I → W b := fun b e => by rw [e]; exact hW
 obtain ⟨m, n⟩ := F.ns
 have less : ∀ a, W a ∧ a ≠ I → W a := fun a h => h.1
 have kk : ∀ b o, b ≠ I → s.heap.get? b = some o → t.heap.get? b = some o := fun b o q e => U.keep b o q e
 exact { F with
  view := {
   base := fun a o e => kk a o (fun q => by rw [q, hK] at e; cases e) (F.view.base a o e)
   wold := fun a h => let ⟨o, e⟩ := F.view.wold a h.1; ⟨o, kk a o h.2 e⟩
   tok := Nat.lt_of_lt_of_le F.view.tok U.tk
   vars := fun y e hy => by
    obtain ⟨u, b, ru⟩ := F.view.vars y e hy
    refine ⟨u, ?_, (U.rd hm ru).less less⟩
    unfold Bnd at b ⊢
    split at b
    ·obtain ⟨m₀, n₀, e₀⟩ := b; exact ⟨m₀, n₀.at fun o e => kk _ o neL e, e₀⟩
    ·obtain ⟨b, o, e1, e2, e3⟩ := b; exact ⟨b, o, e1, kk b o (fun q => hc _ (q ▸ (⟨o, e2, e3⟩ : s.heap.IsCell b (some u)))) e2, e3⟩
    ·obtain ⟨b, o, e1, e2, e3⟩ := b; exact ⟨b, o, e1, kk b o (fun q => hc _ (q ▸ (⟨o, e2, e3⟩ : s.heap.IsCell b (some u)))) e2, e3⟩
    ·exact b
    ·exact b }
  up := ⟨by obtain ⟨h1, t1, q1⟩ := F.up.eq; obtain ⟨h2, t2, q2⟩ := U.eq; exact ⟨h2, t2, by rw [q2, q1]⟩, Nat.le_trans F.up.tk U.tk, fun b o hb e => kk b o (fun q => by rw [q, h0] at e; cases e) (F.up.keep b o hb e)⟩
  w0 := fun a h => ⟨F.w0 a h, fun q => by subst q; obtain ⟨o, e⟩ := F.w0old _ h; rw [h0] at e; cases e⟩
  wn := fun a h => F.wn a h.1
  loc := ⟨⟨F.loc.1, neL⟩, F.loc.2⟩
  ns := ⟨m, n.at fun o e => kk _ o neL e⟩
  cell := fun y b h1 h2 => let ⟨p1, p2, u, p3⟩ := F.cell y b h1 h2; have ne : b ≠ I := fun q => hc _ (q ▸ p3); ⟨⟨p1, ne⟩, p2, u, IsCell.atK p3 fun o e => kk b o ne e⟩
  own := fun b k hb => let ⟨p1, p2, p3, p4⟩ := F.own b k hb; have ne : b ≠ I := fun q => hl k (q ▸ hb); ⟨⟨p1, ne⟩, p2, p3, p4.keep (fun o e => kk b o ne e) fun v d r => (U.rd hm r).less less⟩ }
theorem st_forI (hh : A.handled = none) (ok : EnvOk env) (F : Fr c s₀ W₀ Md W env σ μ s) {target iter : Expr} {body : List Stmt} {pos : Pos} {di : D} {l : List D} {Q : Flow → Shared → Prop} (hi : Ev c A env σ iter di) (it : Itr c A di l)
  (Inv : Nat → List (Str × D) → List (Addr × Own) → Prop) (h0 : Inv 0 σ μ) (Ret : Nat → List (Str × D) → List (Addr × Own) → D → Prop)
  (hbody : ∀ i d σ₁ μ₁, l[i]? = some d → Inv i σ₁ μ₁ → ∃ bs, TgtF env target d bs ∧ ∀ (s₁ s₂ : Shared) (W₁ W₂ Md₁ : Addr → Prop) (E : Value → Shared → Prop), Fr c s₁ W₁ Md₁ W₂ env (bs ++ σ₁) μ₁ s₂ →
   wpAny c.M A (execs body env) (fun f s' => match f with
    | .next | .cont => ∃ σ₂ μ₂ W', Inv (i + 1) σ₂ μ₂ ∧ Fr c s₁ W₁ Md₁ W' env σ₂ μ₂ s'
    | .brk => False
    | .ret v => ∃ σ₂ μ₂ W' d', Ret i σ₂ μ₂ d' ∧ Fr c s₁ W₁ Md₁ W' env σ₂ μ₂ s' ∧ Rd W' s'.heap v d') E s₂)
  (hret : ∀ i σ₂ μ₂ d v s' W', i < l.length → Ret i σ₂ μ₂ d → Fr c s₀ W₀ Md W' env σ₂ μ₂ s' → Rd W' s'.heap v d → Q (.ret v) s')
  (hQ : ∀ σ₂ μ₂ s' W', Inv l.length σ₂ μ₂ → Fr c s₀ W₀ Md W' env σ₂ μ₂ s' → Q .next s')
  (hs : ∀ x, foldedSetIterable iter env x = pure x := by intro _; rfl) : wpAny c.M A (exec (.For target iter body [] pos) env) Q E s := by
 refine wpAny_For (hi.use F.view fun x s₁ K₁ V₁ r₁ => it W s₁ E x _ V₁.wold r₁ fun I fp P St s₂ K₂ hI hIex Y st hfp hP => ?_) hs
 have F₁ := F.keeps K₁
 have F₂ := F₁.growK (W' := fun b => W b ∨ b = I) K₂ (fun b h => .inl h) (fun b h => h.elim .inl fun q => .inr (by rw [q]; exact hI)) (fun b h => by
  rcases h with h | rfl
  ·obtain ⟨o, e⟩ := V₁.wold b h; exact ⟨o, K₂.heap _ _ e⟩
  ·exact hIex)
 have noMine : ∀ b ∈ (I :: fp), (∃ o, s₂.heap.get? b = some o) ∧ ¬ Mine' env μ b := by
  intro b hb
  rcases List.mem_cons.mp hb with rfl | hb
  ·refine ⟨hIex, fun m => ?_⟩
   have := (F₁.md_of m).1
   obtain ⟨o, e⟩ := V₁.wold _ this; rw [hI] at e; cases e
  ·obtain ⟨q, o, e⟩ := hfp b hb
   exact ⟨⟨o, K₂.heap _ _ e⟩, fun m => q (F₁.md_of m).1⟩
 have rdP : ∀ i u, i < l.length → P i u → ∃ d, l[i]? = some d ∧ Rd (fun b => W b ∨ b = I) s₂.heap u d := fun i u hlt hu => by
  obtain ⟨d, hd, r⟩ := hP i u hlt hu
  exact ⟨d, hd, (r.grow fun b h => h.elim .inl fun q => .inr (by rw [q]; exact hI)).keeps K₂.heap⟩
 generalize hWI : (fun b => W b ∨ b = I) = WI at F₂ rdP
 have WII : WI I := by subst hWI; exact .inr rfl
 clear K₁ K₂ hfp hP
 have hI0 : s₀.heap.get? I = none := F₁.fresh hI
 have hIK : c.K I = none := F₁.kn (.inr hI0)
 refine codeAny_forLoop_any (fun k s' => ∃ i σ₁ μ₁ W', i ≤ l.length ∧ k = l.length + 1 - i ∧ Inv i σ₁ μ₁ ∧ Fr c s₀ W₀ Md W' env σ₁ μ₁ s' ∧ St i s'.heap ∧ (∀ b ∈ (I :: fp), (∃ o, s'.heap.get? b = some o) ∧ ¬ Mine' env μ₁ b) ∧ W' I ∧
   (∀ j u, j < l.length → P j u → ∃ d, l[j]? = some d ∧ Rd W' s'.heap u d)) ?_ (l.length + 1)
  ⟨0, σ, μ, WI, Nat.zero_le _, rfl, h0, F₂, st, noMine, WII, rdP⟩
 rintro k s' ⟨i, σ₁, μ₁, W', hile, rfl, hinv, G, st', nm, WI', rd'⟩
 obtain ⟨oI, kI, vI, eI, cI, nI, dI⟩ := Y.cls _ _ st'
 by_cases hlt : i < l.length
 ·have h0 : wpAny c.M A (pyNext (.ref I)) (fun r s₁ => s'.toks ≤ s₁.toks ∧ ∃ v, r = some v ∧ P i v ∧ St (i + 1) s₁.heap ∧ (∃ h tk, s₁ = { s' with heap := h, toks := tk }) ∧ ∀ b o, b ≠ I → s'.heap.get? b = some o → s₁.heap.get? b = some o) (NB c A env fun r s' => match r with | .ok f => Q f s' | .error e => cameBackBy c.M A env E e s') s' :=
   wpAny_mono (wpAny_toks_of (E := NB c A env fun r s' => match r with | .ok f => Q f s' | .error e => cameBackBy c.M A env E e s') (Nat.le_refl s'.toks) (Y.w.item i s' (fun r s₁ => ∃ v, r = some v ∧ P i v ∧ St (i + 1) s₁.heap ∧ (∃ h tk, s₁ = { s' with heap := h, toks := tk }) ∧ ∀ b o, b ≠ I → s'.heap.get? b = some o → s₁.heap.get? b = some o) _ hlt st'
    fun v h' tk hv st' hk => ⟨v, rfl, hv, st', ⟨_, _, rfl⟩, fun b o n e => hk b o (by simpa using n) e⟩)) (fun _ _ q => q) fun _ _ q => q.2
  refine wpAny_mono h0 (fun r t q => ?_) fun _ _ e => e
  obtain ⟨tk₁, v, rfl, hv, st₁, eq₁, k₁⟩ := q
  obtain ⟨o₁, k, vs₁, e₁, c₁, n₁, d₁⟩ := Y.cls _ _ st₁
  refine go_of e₁ c₁ n₁ ?_
  have UI : Upd (fun b => b = I) s' t := ⟨eq₁, tk₁, fun b o n e => k₁ b o n e⟩
  have hmI : ∀ b, b = I → W' b := fun b e => by rw [e]; exact WI'
  have G' := G.bump UI WI' hIK hI0 ⟨_, e₁⟩ (iter_ne eI dI) (fun o h => (nm I (List.mem_cons_self ..)).2 (.inr (.inr ⟨o, h⟩)))
  have rdt : ∀ j u, j < l.length → P j u → ∃ d, l[j]? = some d ∧ Rd W' t.heap u d := fun j u hj hu => let ⟨d, hd, r⟩ := rd' j u hj hu; ⟨d, hd, UI.rd hmI r⟩
  have nmt : ∀ b ∈ (I :: fp), (∃ o, t.heap.get? b = some o) ∧ ¬ Mine' env μ₁ b := fun b hb => by
   obtain ⟨⟨o, e⟩, q⟩ := nm b hb
   by_cases z : b = I
   ·subst z; exact ⟨⟨_, e₁⟩, q⟩
   ·exact ⟨⟨o, UI.keep b o z e⟩, q⟩
  obtain ⟨d, hd, rv⟩ := rdt i v hlt hv
  obtain ⟨bs, T, hb⟩ := hbody i d σ₁ μ₁ hd hinv
  refine T.set ok hh G'.rebase rv fun t₂ H _ => ?_
  refine wpAny_mono (hb _ _ _ _ _ _ H) (fun f t₃ q => ?_) fun _ _ e => e
  have next : (∃ σ₂ μ₂ W'', Inv (i + 1) σ₂ μ₂ ∧ Fr c t W' (Mine' env μ₁) W'' env σ₂ μ₂ t₃) → ∃ m, m < l.length + 1 - i ∧ ∃ i σ₁ μ₁ W', i ≤ l.length ∧ m = l.length + 1 - i ∧ Inv i σ₁ μ₁ ∧ Fr c s₀ W₀ Md W' env σ₁ μ₁ t₃ ∧ St i t₃.heap ∧ (∀ b ∈ (I :: fp), (∃ o, t₃.heap.get? b = some o) ∧ ¬ Mine' env μ₁ b) ∧ W' I ∧
   (∀ j u, j < l.length → P j u → ∃ d, l[j]? = some d ∧ Rd W' t₃.heap u d) := by
   rintro ⟨σ₂, μ₂, W'', hinv', J⟩
   refine ⟨l.length + 1 - (i + 1), by omega, i + 1, σ₂, μ₂, W'', hlt, rfl, hinv', G'.compose J, ?_, ?_, J.w0 _ WI', ?_⟩
   ·exact Y.w.frame _ _ _ st₁ fun b hb o e => J.up.keep b o (nmt b hb).2 e
   ·intro b hb
    obtain ⟨⟨o, e⟩, q⟩ := nmt b hb
    refine ⟨⟨o, J.up.keep b o q e⟩, fun m => ?_⟩
    rcases (J.md_of m).2 with z | z
    ·exact q z
    ·rw [e] at z; cases z
   ·intro j u hj hu
    obtain ⟨d', hd', r'⟩ := rdt j u hj hu
    refine ⟨d', hd', ?_⟩
    have r2 : Rd (fun a => W' a ∨ W'' a) t.heap u d' := r'.grow fun a h => h.elim .inl (J.wn a)
    exact (J.up.rd (W := fun a => W' a ∨ W'' a) (fun a m => .inl (G'.md_of m).1) r2).less fun a h => .inr h
  cases f with
  | next => exact next q
  | cont => exact next q
  | brk => exact q.elim
  | ret v =>
   obtain ⟨σ₂, μ₂, W'', d', q1, J, r⟩ := q
   exact hret i σ₂ μ₂ d' v t₃ W'' hlt q1 (G'.compose J) r
 ·have hieq : i = l.length := by omega
  subst hieq
  have h0 : wpAny c.M A (pyNext (.ref I)) (fun r s₁ => s'.toks ≤ s₁.toks ∧ r = none ∧ (∃ h tk, s₁ = { s' with heap := h, toks := tk }) ∧ ∀ b o, b ≠ I → s'.heap.get? b = some o → s₁.heap.get? b = some o) (NB c A env fun r s' => match r with | .ok f => Q f s' | .error e => cameBackBy c.M A env E e s') s' :=
   wpAny_mono (wpAny_toks_of (E := NB c A env fun r s' => match r with | .ok f => Q f s' | .error e => cameBackBy c.M A env E e s') (Nat.le_refl s'.toks) (Y.w.done s' (fun r s₁ => r = none ∧ (∃ h tk, s₁ = { s' with heap := h, toks := tk }) ∧ ∀ b o, b ≠ I → s'.heap.get? b = some o → s₁.heap.get? b = some o) _ st'
    fun h' tk hk => ⟨rfl, ⟨_, _, rfl⟩, fun b o n e => hk b o (by simpa using n) e⟩)) (fun _ _ q => q) fun _ _ q => q.2
  refine wpAny_mono h0 (fun r t q => ?_) fun _ _ e => e
  obtain ⟨tk₁, rfl, eq₁, k₁⟩ := q
  have UI : Upd (fun b => b = I) s' t := ⟨eq₁, tk₁, fun b o n e => k₁ b o n e⟩
  have no := iter_ne eI dI
  refine wpAny_execs_nil (hQ σ₁ μ₁ t (fun a => W' a ∧ a ≠ I) hinv (G.scrap UI WI' hIK hI0 (fun q => ?_) no.2 (fun o h => (nm I (List.mem_cons_self ..)).2 (.inr (.inr ⟨o, h⟩)))))
  obtain ⟨m, n⟩ := G.ns
  exact no.1 m (q ▸ n)
theorem st_used (hh : A.handled = none) (ok : EnvOk env) (F : Fr c s₀ W₀ Md W env σ μ s) {elt target iter : Expr} {ifs : List Expr} {scope : Scope} {pos spos py : Pos} {cl : List (Str × Addr)} {l : List D} {p : D → Bool} {f : D → D} {σc : List (Str × D)} {di : D} {y : Str} {Q : Flow → Shared → Prop}
  (hi : Ev c A env σ iter di) (it : Itr c A di l) (hn : l.length ≤ 1000000)
  (hsw : swapsWith (.ListComp elt [⟨target, iter, ifs, 0⟩] scope pos) (some (.Name y py)) spos.line env = pure true)
  (hclos : closureFor scope env = pure cl) (hcell : ∀ y ∈ scope.names, y.2 ≠ .cell) (hkind : scope.kind = .function) (hnames : ∀ y ∈ scope.names, y.2 = .local → scope.names.lookup y.1 = some .local) (cap : Cap env scope cl σ σc)
  (step : ∀ C d, d ∈ l → ∃ bs, Tgt (compEnvC scope cl C env) target d bs ∧ Ts c A (compEnvC scope cl C env) (bs ++ σc) ifs (p d) ∧ (p d = true → Ev c A (compEnvC scope cl C env) (bs ++ σc) elt (f d)))
  (hy : env.kindOf y = some .local) (h : ∀ s' W', Fr c s₀ W₀ Md W' env ((y, .lst ((l.filter p).map f)) :: σ) μ s' → Q .next s')
  (hs : ∀ x, foldedSetIterable iter env x = pure x := by intro _; rfl) : wpAny c.M A (exec (.Assign [.Name y py] (.ListComp elt [⟨target, iter, ifs, 0⟩] scope pos) spos) env) Q E s := by
 rw [exec_Assign_Name_used _ _ _ _ hsw]
 refine wpAny_bind (wpAny_standAt (wpAny_bind ?_))
 show wpAny _ A (do let _ ← comprehension (.ListComp elt [⟨target, iter, ifs, 0⟩] scope pos) scope env _ (newList []) false (eval iter env) (some (assign (.Name y py) env))) _ _ s
 refine wpAny_bind (wpAny_mono (wpAny_comprehension_free (use := some (assign (.Name y py) env)) (Q := fun _ s' => Q .next s') rfl hs hclos hkind hnames
  (comp_pre (RR := fun acc C => compPost c.M A E (some (assign (.Name y py) env)) (fun _ s' => Q .next s') acc C) hh ok hi it hn hcell hkind cap step F.view fun B C s' ys U hB hC hBC ns pl ry => ?_)) (fun _ s' hq => wpAny_pure (wpAny_pure hq)) fun _ _ e => e)
 show wpAny _ A (assign (.Name y py) env (.ref B)) _ _ _
 have K := U.kt
 have hWn : ∀ a, (W a ∨ a = C) → W a ∨ s.heap.get? a = none := fun a h => h.elim .inl fun q => .inr (by rw [q]; exact hC)
 have exC : ∃ o, s'.heap.get? C = some o := by obtain ⟨m, o, _, _, e, _⟩ := ns; exact ⟨o, e⟩
 have F₁ := F.growK (W' := fun a => W a ∨ a = C) K (fun a h => .inl h) hWn (fun a h => by
  rcases h with h | rfl
  ·obtain ⟨o, e⟩ := F.view.wold a h; exact ⟨o, K.heap _ _ e⟩
  ·exact exC)
 have nWB : ¬ (W B ∨ B = C) := fun h => h.elim (F.view.new hB) hBC
 have r₁ : Rd (fun a => W a ∨ a = C) s'.heap (.ref B) (.lst ((l.filter p).map f)) := .lst nWB (toL pl) (ry.less fun a h => by rcases h with h | h; exact .inl h; exact .inr (.inl h))
 have nsL : env.locals ≠ C := fun q => by
  obtain ⟨m, o, _, _, e, _⟩ := F.ns
  rw [q, hC] at e; cases e
 refine wpAny_assign_Name (F₁.set ok (.inl hy) r₁ fun s₂ F₂ U₂ => ?_)
 have nC : ¬ Mine' env [] C := by
  rintro (q | ⟨x, q1, q2⟩ | ⟨_, q⟩)
  ·exact nsL q.symm
  ·obtain ⟨_, _, v, o, e, _⟩ := F.cell x C q1 q2; rw [hC] at e; cases e
  ·cases q
 obtain ⟨m, n⟩ := ns
 have n₂ : s₂.heap.Ns C m := n.at fun o e => U₂.keep C o nC e
 refine ⟨m, n₂, fun h' sb => ?_⟩
 have U₃ : Upd (fun b => b = C) s₂ { s₂ with heap := h' } := ⟨⟨h', s₂.toks, rfl⟩, Nat.le_refl _, fun b o n e => sb.extBut b o n e⟩
 exact h _ _ (F₂.scrap U₃ (.inr rfl) (F.view.kfresh hC) (F.fresh hC) nsL (fun v q => cell_ne_ns q n₂ rfl) (fun o q => by
  obtain ⟨_, _, _, x⟩ := F.own C o q
  obtain ⟨ob, e⟩ := x.ex
  rw [hC] at e; cases e))
end
inductive BR (W : Addr → Prop) (h : Heap) : List (Str × Value) → List (Str × D) → Prop
 | nil : BR W h [] []
 | cons {x : Str} {v : Value} {d : D} {b : List (Str × Value)} {σ : List (Str × D)} : Rd W h v d → BR W h b σ → BR W h ((x, v) :: b) ((x, d) :: σ)
theorem BR.get {W : Addr → Prop} {h : Heap} {b : List (Str × Value)} {σ : List (Str × D)} (r : BR W h b σ) : ∀ {x : Str} {d : D}, σ.lookup x = some d → ∃ v, b.lookup x = some v ∧ Rd W h v d := by
 induction r with
 | nil => intro x d e; cases e
 | cons r q ih =>
  rename_i y _ _ _ _
  intro x d e
  rw [List.lookup_cons] at e ⊢
  cases z : x == y with
  | true => rw [z] at e; cases e; exact ⟨_, rfl, r⟩
  | false => rw [z] at e; exact ih e
theorem bindL_not {k : Str → Option NameKind} : ∀ {b : List (Str × Value)} {m : Str → Option Value} {x : Str}, b.lookup x = none → bindL k b m x = m x
 | [], _, _, _ => rfl
 | (n, v) :: r, m, x, h => by
  rw [List.lookup_cons] at h
  cases z : x == n with
  | true => rw [z] at h; cases h
  | false =>
   rw [z] at h
   unfold bindL
   rw [bindL_not h]
   split
   ·exact if_neg fun q => by subst q; simp at z
   ·rfl
theorem bindC_not {k : Str → Option NameKind} : ∀ {b : List (Str × Value)} {m : Str → Option Value} {x : Str}, b.lookup x = none → bindC k b m x = m x
 | [], _, _, _ => rfl
 | (n, v) :: r, m, x, h => by
  rw [List.lookup_cons] at h
  cases z : x == n with
  | true => rw [z] at h; cases h
  | false =>
   rw [z] at h
   unfold bindC
   rw [bindC_not h]
   split
   ·rfl
   ·exact if_neg fun q => by subst q; simp at z
theorem lookup_none {β : Type} : ∀ {l : List (Str × β)} {x : Str}, x ∉ l.map (·.1) → l.lookup x = none
 | [], _, _ => rfl
 | (n, v) :: r, x, h => by
  rw [List.map_cons, List.mem_cons, not_or] at h
  rw [List.lookup_cons]
  cases z : x == n with
  | true => exact (h.1 (eq_of_beq z)).elim
  | false => exact lookup_none h.2
theorem bindL_get {k : Str → Option NameKind} : ∀ {b : List (Str × Value)} {m : Str → Option Value} {x : Str} {v : Value}, (b.map (·.1)).Nodup → b.lookup x = some v → k x = some .local → bindL k b m x = some v
 | [], _, _, _, _, e, _ => by cases e
 | (n, u) :: r, m, x, v, nd, h, hk => by
  rw [List.map_cons, List.nodup_cons] at nd
  rw [List.lookup_cons] at h
  unfold bindL
  cases z : x == n with
  | true =>
   rw [z] at h; cases h
   have := eq_of_beq z; subst this
   rw [bindL_not (lookup_none nd.1), if_pos hk]
   exact if_pos rfl
  | false => rw [z] at h; exact bindL_get nd.2 h hk
theorem bindC_get {k : Str → Option NameKind} : ∀ {b : List (Str × Value)} {m : Str → Option Value} {x : Str} {v : Value}, (b.map (·.1)).Nodup → b.lookup x = some v → k x = some .cell → bindC k b m x = some v
 | [], _, _, _, _, e, _ => by cases e
 | (n, u) :: r, m, x, v, nd, h, hk => by
  rw [List.map_cons, List.nodup_cons] at nd
  rw [List.lookup_cons] at h
  unfold bindC
  cases z : x == n with
  | true =>
   rw [z] at h; cases h
   have := eq_of_beq z; subst this
   rw [bindC_not (lookup_none nd.1), if_neg (by rw [hk]; decide)]
   exact if_pos rfl
  | false => rw [z] at h; exact bindC_get nd.2 h hk
structure Fun (c : Cx) (fa : Addr) (fd : FuncData) (body : List Stmt) : Prop where
 at_ : ∀ h, HasK c.K h → ∃ o, h.get? fa = some o ∧ o.data = .func fd
 code : ∀ h, HasK c.K h → h.CodeRec fd.code fd.qualname
 co : fd.scope.isCoroutine = false
 gen : fd.scope.isGenerator = false
 kind : fd.scope.kind = .function
 body : fd.body = .stmts body
 clo : fd.closure = []
 glob : fd.globals = mainGlobals
 blt : fd.builtins = builtinsNs
section
variable {c : Cx} {A : Around} {s : Shared} {W₀ Md : Addr → Prop} {E : Value → Shared → Prop}
theorem enter_env {fa : Addr} {fd : FuncData} {body : List Stmt} {binds : List (Str × Value)} {σ : List (Str × D)} {μ : List (Addr × Own)} {R : Result → Shared → Prop}
  (fn : Fun c fa fd body) (base : HasK c.K s.heap) (tok : 0 < s.toks) (w0 : ∀ a, W₀ a → ∃ o, s.heap.get? a = some o) (md : ∀ a, Md a → W₀ a ∧ c.K a = none)
  (hkind : ∀ L, ∀ x ∈ binds, (callEnvC fd L fa).kindOf x.1 = some .local ∨ ((callEnvC fd L fa).kindOf x.1 = some .cell ∧ ((callEnvC fd L fa).cells.lookup x.1).isSome = true))
  (hnd : (binds.map (·.1)).Nodup) (br : BR W₀ s.heap binds σ) (hμ : ∀ a l, (a, l) ∈ μ → Md a ∧ OwnAt c W₀ s.heap a l) (ndμ : (μ.map (·.1)).Nodup)
  (h : ∀ L W s' E', s.heap.get? (callEnvC fd L fa).locals = none → Kt s s' → EnvOk (callEnvC fd L fa) → Fr c s W₀ Md W (callEnvC fd L fa) σ μ s' → wpAny c.M (A.deeper (callEnvC fd L fa)) (execs body (callEnvC fd L fa)) (fun f s'' => R (.ok (.ret (match f with | .ret v => v | _ => .none))) s'') E' s') :
  wpAny c.M A.in1 (newFunctionEnv fd.scope fd.globals fd.closure binds (fd.qualname ++ ".<locals>.") (some fa) fd.code none fd.builtins) (fun env s₂ => s₂.heap.NoLimit ∧ codeAny c.M A (.func body env) R s₂) E s := by
 rw [fn.clo]
 refine wpAny_mono (wpAny_toks_of (E := fun _ _ => False) (Nat.le_refl s.toks) (wpAny_newFunctionEnv_cells (Q := fun env s' => env = callEnvC fd s.heap.objs.size fa ∧ InCallC s env.locals (bindL env.kindOf binds fun _ => none) env.cells (bindC env.kindOf binds fun _ => none) s') fn.kind (hkind s.heap.objs.size) fun env he s' x => ⟨he, x⟩)) (fun env s' q => ?_) fun _ _ q => q.2.elim
 obtain ⟨tk, rfl, x⟩ := q
 have ok : EnvOk (callEnvC fd s.heap.objs.size fa) := ⟨fn.kind, fn.glob, fn.blt⟩
 have keep := x.toInCall.keep
 have K : Kt s s' := ⟨⟨x.toInCall.same, keep⟩, tk⟩
 have freshL : ∀ a, s.heap.objs.size ≤ a → s.heap.get? a = none := fun a ha => by
  cases e : s.heap.get? a with
  | none => rfl
  | some o' => exact absurd (Heap.lt_size e) (Nat.not_lt.mpr ha)
 have fL : s.heap.get? (callEnvC fd s.heap.objs.size fa).locals = none := freshL _ (Nat.le_refl _)
 have fC : ∀ y a, (callEnvC fd s.heap.objs.size fa).cells.lookup y = some a → s.heap.get? a = none := fun y a e => freshL a (Nat.le_of_lt (x.above _ _ (mem_of_lookup e)))
 refine ⟨(c.hl _ (base.keeps keep)), codeAny_func ?_⟩
 have hW : ∀ a, (W₀ a ∨ s.heap.get? a = none ∧ (a = (callEnvC fd s.heap.objs.size fa).locals ∨ ∃ y, (callEnvC fd s.heap.objs.size fa).cells.lookup y = some a)) → W₀ a ∨ s.heap.get? a = none := fun a h => h.imp id fun q => q.1
 refine h _ (fun a => W₀ a ∨ s.heap.get? a = none ∧ (a = (callEnvC fd s.heap.objs.size fa).locals ∨ ∃ y, (callEnvC fd s.heap.objs.size fa).cells.lookup y = some a)) s' _ fL K ok ?_
 exact {
  view := {
   base := base.keeps keep
   wold := fun a h => by
    rcases h with h | ⟨_, rfl | ⟨y, h⟩⟩
    ·obtain ⟨o, e⟩ := w0 a h; exact ⟨o, keep _ _ e⟩
    ·obtain ⟨o, _, _, e, _⟩ := x.toInCall.ns; exact ⟨o, e⟩
    ·obtain ⟨o, e, _⟩ := x.cell y a h; exact ⟨o, e⟩
   tok := Nat.lt_of_lt_of_le tok tk
   vars := fun y d hy => by
    obtain ⟨v, hv, r⟩ := br.get hy
    refine ⟨v, ?_, (r.grow hW).keeps keep⟩
    have hk := hkind s.heap.objs.size (y, v) (mem_of_lookup hv)
    unfold Bnd
    rcases hk with hk | ⟨hk, hc⟩
    ·simp only at hk; rw [hk]; exact ⟨_, x.toInCall.ns, bindL_get hnd hv hk⟩
    ·simp only at hk hc; rw [hk]
     obtain ⟨a, ha⟩ := Option.isSome_iff_exists.mp hc
     obtain ⟨o, e1, e2⟩ := x.cell y a ha
     exact ⟨a, o, ha, e1, by rw [e2, bindC_get hnd hv hk]⟩ }
  base0 := base
  up := .of K
  w0 := fun a h => .inl h
  wn := hW
  w0old := w0
  mdW := fun a h => (md a h).1
  mdK := fun a h => (md a h).2
  loc := ⟨.inr ⟨fL, .inl rfl⟩, .inr fL⟩
  ns := ⟨_, x.toInCall.ns⟩
  cell := fun y a h1 h2 => ⟨.inr ⟨fC y a h2, .inr ⟨y, h2⟩⟩, .inr (fC y a h2), _, x.cell y a h2⟩
  inj := fun y z a h1 h2 => name_of_addr x.apart (mem_of_lookup h1) (mem_of_lookup h2)
  own := fun a l ha => by
   obtain ⟨q1, q2⟩ := hμ a l ha
   refine ⟨.inl (md a q1).1, .inl q1, fun q => ?_, q2.keep (fun o e => keep _ _ e) fun v d r => (r.grow hW).keeps keep⟩
   obtain ⟨ob, e⟩ := q2.ex
   rw [q, fL] at e; cases e
  nd := ndμ }
theorem enter {n : Nat} (room : Room A (n + 1)) {fa : Addr} {fd : FuncData} {body : List Stmt} {pos : List Value} {kw : List (Str × Value)} {binds : List (Str × Value)} {σ : List (Str × D)} {μ : List (Addr × Own)} {Q : Value → Shared → Prop}
  (fn : Fun c fa fd body) (base : HasK c.K s.heap) (tok : 0 < s.toks) (w0 : ∀ a, W₀ a → ∃ o, s.heap.get? a = some o) (md : ∀ a, Md a → W₀ a ∧ c.K a = none)
  (hbind : BindsTo s fd ⟨pos, kw⟩ binds) (hkind : ∀ L, ∀ x ∈ binds, (callEnvC fd L fa).kindOf x.1 = some .local ∨ ((callEnvC fd L fa).kindOf x.1 = some .cell ∧ ((callEnvC fd L fa).cells.lookup x.1).isSome = true))
  (hnd : (binds.map (·.1)).Nodup) (br : BR W₀ s.heap binds σ) (hμ : ∀ a l, (a, l) ∈ μ → Md a ∧ OwnAt c W₀ s.heap a l) (ndμ : (μ.map (·.1)).Nodup)
  (h : ∀ L W s' E', s.heap.get? (callEnvC fd L fa).locals = none → Kt s s' → EnvOk (callEnvC fd L fa) → Fr c s W₀ Md W (callEnvC fd L fa) σ μ s' → wpAny c.M (A.deeper (callEnvC fd L fa)) (execs body (callEnvC fd L fa)) (fun f s'' => Q (match f with | .ret v => v | _ => .none) s'') E' s') :
  wpAny c.M A (call (.ref fa) pos kw) Q E s := by
 obtain ⟨fo, ho, hd⟩ := fn.at_ _ base
 exact wpAny_call (codeAny_call_function (room.lim) ho hd fn.co fn.gen fn.body (fn.code _ base) (hbind _ _ _ _ (enter_env fn base tok w0 md hkind hnd br hμ ndμ h)))
theorem enterG {n : Nat} (room : Room A (n + 1)) {fa : Addr} {fd : FuncData} {body : List Stmt} {pos : List Value} {kw : List (Str × Value)} {names : List Str} {σ : List (Str × D)} {μ : List (Addr × Own)} {R : Result → Shared → Prop}
  (fn : Fun c fa fd body) (base : HasK c.K s.heap) (tok : 0 < s.toks) (w0 : ∀ a, W₀ a → ∃ o, s.heap.get? a = some o) (md : ∀ a, Md a → W₀ a ∧ c.K a = none)
  (hbind : ∀ (R' : List (Str × Value) → Shared → Prop) (E' : Value → Shared → Prop), (∀ binds s₁, Kt s s₁ → binds.map (·.1) = names → BR W₀ s₁.heap binds σ → R' binds s₁) → wpAny c.M A.in1 (bindArgs fd ⟨pos, kw⟩) R' E' s)
  (hkind : ∀ L, ∀ x ∈ names, (callEnvC fd L fa).kindOf x = some .local ∨ ((callEnvC fd L fa).kindOf x = some .cell ∧ ((callEnvC fd L fa).cells.lookup x).isSome = true))
  (hnd : names.Nodup) (hμ : ∀ a l, (a, l) ∈ μ → Md a ∧ OwnAt c W₀ s.heap a l) (ndμ : (μ.map (·.1)).Nodup)
  (h : ∀ s₁ L W s' E', Kt s s₁ → s₁.heap.get? (callEnvC fd L fa).locals = none → Kt s₁ s' → EnvOk (callEnvC fd L fa) → Fr c s₁ W₀ Md W (callEnvC fd L fa) σ μ s' → wpAny c.M (A.deeper (callEnvC fd L fa)) (execs body (callEnvC fd L fa)) (fun f s'' => R (.ok (.ret (match f with | .ret v => v | _ => .none))) s'') E' s') :
  codeAny c.M A (.call (.ref fa) ⟨pos, kw⟩) R s := by
 obtain ⟨fo, ho, hd⟩ := fn.at_ _ base
 refine codeAny_call_function (room.lim) ho hd fn.co fn.gen fn.body (fn.code _ base) (hbind _ _ fun binds s₁ K1 e1 br => ?_)
 refine enter_env fn (base.keeps K1.heap) (Nat.lt_of_lt_of_le tok K1.tk) (fun a q => let ⟨o, e⟩ := w0 a q; ⟨o, K1.heap _ _ e⟩) md (fun L x hx => hkind L x.1 (e1 ▸ List.mem_map.mpr ⟨x, hx, rfl⟩)) (e1 ▸ hnd) br (fun a l q => ⟨(hμ a l q).1, (hμ a l q).2.keep (fun o e => K1.heap _ o e) fun v d r => r.keeps K1.heap⟩) ndμ fun L W s' E' => h s₁ L W s' E' K1
end
structure Kls (c : Cx) (k N : Addr) (mN : Str → Option Value) : Prop where
 at_ : ∀ h, HasK c.K h → ClsAt h k N mN
 ga : mN "__getattribute__" = none
 gt : mN "__getattr__" = none
 sa : mN "__setattr__" = none
noncomputable def EvA (c : Cx) (A : Around) (env : Env) (σ : List (Str × D)) (args : List (Bool × Sem Value)) (kws : List (Option Str × Sem Value)) (ds : List D) (ks : List (Str × D)) : Prop :=
 ∀ (W : Addr → Prop) (s : Shared) (E : Value → Shared → Prop) (f : Value), View c W env σ s → wpAny c.M A (evalArgs f true args kws) (fun x s' => Kt s s' ∧ RdL W s'.heap x.pos ds ∧ BR W s'.heap x.kw ks) E s
section
variable {c : Cx} {A : Around} {env : Env} {σ : List (Str × D)} {W : Addr → Prop} {s : Shared} {E : Value → Shared → Prop}
theorem EvA.none : EvA c A env σ [] [] [] [] := fun W s E f V => PySem.evalArgs_none ⟨.refl _, .nil, .nil⟩
theorem EvA.plain {x : Sem Value} {rest : List (Bool × Sem Value)} {ds : List D} (h : EvL c A env σ ((false, x) :: rest) ds) : EvA c A env σ ((false, x) :: rest) [] ds [] := fun W s E f V =>
 evalArgs_plain (h.use V fun vs s' K V' r => ⟨K, r, .nil⟩)
theorem EvA.kw1 {x : Sem Value} {rest : List (Bool × Sem Value)} {ds : List D} {n : Str} {t : Sem Value} {d : D} (h : EvL c A env σ ((false, x) :: rest) ds) (hk : Et c A env σ t d) : EvA c A env σ ((false, x) :: rest) [(some n, t)] ds [(n, d)] := fun W s E f V =>
 evalArgs_kw rfl (h.use V fun vs s₁ K₁ V₁ r₁ => wpAny_evalAll_cons (hk.use V₁ fun v s₂ K₂ V₂ r₂ => wpAny_evalAll_nil ⟨K₁.trans K₂, r₁.keeps K₂.heap, .cons r₂ .nil⟩))
theorem Et.kw {e : Expr} {d : D} {pos : Pos} (h : Ev c A env σ e d) : Et c A env σ (do let v ← eval e env; standAt pos; pure v) d := fun W s E V =>
 wpAny_bind (wpAny_mono (h W s E V) (fun v s' q => wpAny_bind (wpAny_standAt (wpAny_pure q))) fun _ _ e => e)
noncomputable def Pf (c : Cx) (A : Around) (fa : Addr) (ds : List D) (ks : List (Str × D)) (d : D) : Prop :=
 ∀ (W : Addr → Prop) (s : Shared) (E : Value → Shared → Prop) (vs : List Value) (kvs : List (Str × Value)), HasK c.K s.heap → 0 < s.toks → (∀ a, W a → ∃ o, s.heap.get? a = some o) → RdL W s.heap vs ds → BR W s.heap kvs ks →
  wpAny c.M A (call (.ref fa) vs kvs) (fun v s' => Kt s s' ∧ Rd W s'.heap v d) E s
theorem fun_call {x : Str} {np pos : Pos} {es : List Expr} {kws : List Keyword} {fa : Addr} {fd : FuncData} {body : List Stmt} {ds : List D} {ks : List (Str × D)} {Q : Value → Shared → Prop} (hf : Ev c A env σ (.Name x np) (.val (.ref fa))) (fn : Fun c fa fd body)
  (ha : EvA c A env σ (backTo pos (starEach es env)) (backToKw pos (keywordEach kws env)) ds ks) (V : View c W env σ s)
  (h : ∀ vs kvs s', Kt s s' → View c W env σ s' → RdL W s'.heap vs ds → BR W s'.heap kvs ks → wpAny c.M A (call (.ref fa) vs kvs) Q E s') : wpAny c.M A (eval (.Call (.Name x np) es kws pos) env) Q E s :=
 wpAny_Call_Name_kw (hf.use V fun v s₁ K₁ V₁ r₁ => by
  cases r₁
  obtain ⟨o, ho, hd⟩ := fn.at_ _ V₁.base
  refine callWith_function_kw (o := o) (fd := fd) (wpAny_mono (ha W s₁ E _ V₁) (fun x s₂ q => ?_) fun _ _ e => e)
  obtain ⟨K₂, r, b⟩ := q
  exact ⟨⟨K₂.heap _ _ ho, hd⟩, h x.pos x.kw s₂ (K₁.trans K₂) (V₁.keeps K₂) r b⟩)
theorem Ev.call {x : Str} {np pos : Pos} {es : List Expr} {kws : List Keyword} {fa : Addr} {fd : FuncData} {body : List Stmt} {ds : List D} {ks : List (Str × D)} {d : D} (hf : Ev c A env σ (.Name x np) (.val (.ref fa))) (fn : Fun c fa fd body)
  (ha : EvA c A env σ (backTo pos (starEach es env)) (backToKw pos (keywordEach kws env)) ds ks) (hp : Pf c A fa ds ks d) : Ev c A env σ (.Call (.Name x np) es kws pos) d := fun W s E V =>
 fun_call hf fn ha V fun vs kvs s' K V' r b => wpAny_mono (hp W s' E vs kvs V'.base V'.tok V'.wold r b) (fun v s'' q => ⟨K.trans q.1, q.2⟩) fun _ _ e => e
noncomputable def D.notB : D → Bool
 | .val (.builtin _) => false
 | _ => true
theorem Rd.handed {h : Heap} {v : Value} {d : D} (r : Rd W h v d) (n : d.notB = true) : handedOut v = pure v := by
 cases r with
 | val v => cases v <;> first | rfl | cases n
 | _ => rfl
theorem Rd.inst {h : Heap} {v : Value} {k : Addr} {fs : List (Str × D)} (r : Rd W h v (.ins k fs)) : ∃ t m, v = .ref t ∧ h.Inst t k m ∧ (∀ x, fs.lookup x = Option.none → m x = Option.none) ∧ RdF W h m fs := by
 cases r with
 | ins ha hb ht ho hn hx hf => exact ⟨_, _, rfl, ⟨_, ht, ho.1, ho.2.1, .inr ⟨_, ho.2.2.1, ho.2.2.2, hn⟩⟩, hx, hf⟩
theorem Ev.attr {x a : Str} {xp pos : Pos} {k N : Addr} {mN : Str → Option Value} {fs : List (Str × D)} {d : D} (C : Kls c k N mN) (ho : Ev c A env σ (.Name x xp) (.ins k fs)) (hf : fs.lookup a = some d) (nb : d.notB = true) (hna : mN a = Option.none) (hB : typeLookup (.type "object") a = pure Option.none) :
  Ev c A env σ (.Attribute (.Name x xp) a pos) d := .intro fun W s E V =>
 Attribute_name (ho.use V fun v s₁ K₁ V₁ r₁ => by
  obtain ⟨t, m, rfl, I, hx, rf⟩ := r₁.inst
  obtain ⟨u, hu, ru⟩ := rf.get hf
  have X := C.at_ _ V₁.base
  obtain ⟨nm, q, bs, sn, sub, col, dd, k0, k1, k2, k3, k5, hC⟩ := X.obj
  have K₁' := K₁.toKq
  revert hC X I ru V₁ K₁' r₁ rf
  obtain ⟨hh, g, d, tk, os⟩ := s₁
  intro r₁ V₁ I rf ru X hC K₁'
  exact load_attr hC X.ns C.ga hna hB I hu (ru.handed nb) ⟨K₁'.trans (.tok _), ru⟩)
theorem meth_call {x a : Str} {xp apos pos : Pos} {es : List Expr} {kws : List Keyword} {k N fa : Addr} {mN : Str → Option Value} {fs : List (Str × D)} {fd : FuncData} {body : List Stmt} {ds : List D} {ks : List (Str × D)} {y : Option Value} {Q : Value → Shared → Prop} (C : Kls c k N mN) (ho : Ev c A env σ (.Name x xp) (.ins k fs))
  (hm : mN a = some (.ref fa)) (fn : Fun c fa fd body) (hfc : ∀ h o, HasK c.K h → h.get? fa = some o → o.cls = .type "function") (hsh : fs.lookup a = Option.none) (hB : typeLookup (.type "object") a = pure y)
  (hform : methodCallForm (es.length + kws.length) (backTo pos (starEach es env)) (backToKw pos (keywordEach kws env)) = true) (hline : (apos.endLine == pos.line) = true)
  (ha : EvA c A env σ (backTo pos (starEach es env)) (backToKw pos (keywordEach kws env)) ds ks) (V : View c W env σ s)
  (h : ∀ ov vs kvs s', Kt s s' → View c W env σ s' → Rd W s'.heap ov (.ins k fs) → RdL W s'.heap vs ds → BR W s'.heap kvs ks → wpAny c.M A (call (.ref fa) (ov :: vs) kvs) Q E s') :
  wpAny c.M A (eval (.Call (.Attribute (.Name x xp) a apos) es kws pos) env) Q E s := by
 rw [arm_eval_Call]
 have hbase : attributeBase (.Name x xp) a env (eval (.Name x xp) env) = eval (.Name x xp) env := rfl
 rw [hbase]
 refine wpAny_bind (ho.use V fun ov s₁ K₁ V₁ r₁ => wpAny_bind (wpAny_standAt ?_))
 have hpos : methodCallPos true (.Name x xp) env apos pos = pure pos := by unfold methodCallPos; simp [hline]
 unfold methodCall
 rw [hform]
 obtain ⟨o, hfo, hd⟩ := fn.at_ _ V₁.base
 have hfc' := hfc _ _ V₁.base hfo
 have goal : ∀ pl, wpAny c.M A (getMethod ov a pl) (fun p s' => p = (.ref fa, [ov]) ∧ s' = s₁) E s₁ := by
  intro pl
  obtain ⟨t, m, rfl, I, hx, rf⟩ := r₁.inst
  have X := C.at_ _ V₁.base
  obtain ⟨nm, q, bs, sn, sub, col, dd, k0, k1, k2, k3, k5, hC⟩ := X.obj
  clear r₁ V₁ K₁ rf
  obtain ⟨hh, g, d, tk, os⟩ := s₁
  exact method_of hC X.ns C.ga C.gt hm hfo hfc' hB I (hx a hsh) ⟨rfl, rfl⟩
 refine wpAny_bind (wpAny_holding (wpAny_mono (goal _) (fun p s' q => ?_) fun _ _ e => e))
 obtain ⟨rfl, rfl⟩ := q
 refine wpAny_bind (wpAny_of_eq hpos ?_)
 refine callWith_function_kw (o := o) (fd := fd) (wpAny_mono (ha W _ E _ V₁) (fun x s₂ q => ?_) fun _ _ e => e)
 obtain ⟨K₂, r, b⟩ := q
 exact ⟨⟨K₂.heap _ _ hfo, hd⟩, h ov x.pos x.kw s₂ (K₁.trans K₂) (V₁.keeps K₂) (r₁.keeps K₂.heap) r b⟩
theorem Ev.meth {x a : Str} {xp apos pos : Pos} {es : List Expr} {kws : List Keyword} {k N fa : Addr} {mN : Str → Option Value} {fs : List (Str × D)} {fd : FuncData} {body : List Stmt} {ds : List D} {ks : List (Str × D)} {y : Option Value} {d : D} (C : Kls c k N mN) (ho : Ev c A env σ (.Name x xp) (.ins k fs))
  (hm : mN a = some (.ref fa)) (fn : Fun c fa fd body) (hfc : ∀ h o, HasK c.K h → h.get? fa = some o → o.cls = .type "function") (hsh : fs.lookup a = Option.none) (hB : typeLookup (.type "object") a = pure y)
  (hform : methodCallForm (es.length + kws.length) (backTo pos (starEach es env)) (backToKw pos (keywordEach kws env)) = true) (hline : (apos.endLine == pos.line) = true)
  (ha : EvA c A env σ (backTo pos (starEach es env)) (backToKw pos (keywordEach kws env)) ds ks) (hp : Pf c A fa (.ins k fs :: ds) ks d) : Ev c A env σ (.Call (.Attribute (.Name x xp) a apos) es kws pos) d := fun W s E V =>
 meth_call C ho hm fn hfc hsh hB hform hline ha V fun ov vs kvs s' K V' ro r b => wpAny_mono (hp W s' E (ov :: vs) kvs V'.base V'.tok V'.wold (.cons ro r) b) (fun v s'' q => ⟨K.trans q.1, q.2⟩) fun _ _ e => e
theorem Tv.bool {e : Expr} {b : Bool} (h : Ev c A env σ e (.val (.bool b))) (he : ∀ whole, isTrue e env whole = (do let v ← whole; standAt e.pos; holding [v] (truthy v)) := by intro _; rfl) : Tv c A env σ e b := fun W s E V =>
 isTrue_plain (h.use V fun v s₁ K₁ V₁ r₁ => by cases r₁; exact wpAny_truthy_bool ⟨K₁, rfl⟩) (he _)
theorem Tv.none {e : Expr} (h : Ev c A env σ e (.val .none)) (he : ∀ whole, isTrue e env whole = (do let v ← whole; standAt e.pos; holding [v] (truthy v)) := by intro _; rfl) : Tv c A env σ e false := fun W s E V =>
 isTrue_plain (h.use V fun v s₁ K₁ V₁ r₁ => by cases r₁; exact truthy_none ⟨K₁, rfl⟩) (he _)
theorem Tv.not {e : Expr} {pos : Pos} {b : Bool} (h : Tv c A env σ e b) : Tv c A env σ (.UnaryOp .Not e pos) (!b) := fun W s E V =>
 isTrue_not (wpAny_mono (h W s E V) (fun v s' q => ⟨q.1, by rw [q.2]⟩) fun _ _ e => e)
theorem Tv.or2 {e f : Expr} {pos : Pos} {a b : Bool} (h : Tv c A env σ e a) (k : a = false → Tv c A env σ f b) : Tv c A env σ (.BoolOp .Or [e, f] pos) (a || b) := fun W s E V =>
 isTrue_or (wpAny_mono (h W s E V) (fun v s' q => by
  obtain ⟨K, rfl⟩ := q
  cases v with
  | true => exact ⟨K, rfl⟩
  | false => exact isTrue_or (wpAny_mono (k rfl W s' E (V.keeps K)) (fun v s'' q => by
    obtain ⟨K', rfl⟩ := q
    cases v with
    | true => exact ⟨K.trans K', rfl⟩
    | false => exact isTrue_or_nil ⟨K.trans K', rfl⟩) fun _ _ e => e)) fun _ _ e => e)
theorem Ev.ifExp {t e f : Expr} {pos : Pos} {b : Bool} {d : D} (ht : Tv c A env σ t b) (he : b = true → Ev c A env σ e d) (hf : b = false → Ev c A env σ f d) : Ev c A env σ (.IfExp t e f pos) d := fun W s E V =>
 wpAny_IfExp (wpAny_mono (ht W s E V) (fun v s' q => by
  obtain ⟨K, rfl⟩ := q
  cases v with
  | true => exact wpAny_mono (he rfl W s' E (V.keeps K)) (fun _ _ q => ⟨K.trans q.1, q.2⟩) fun _ _ e => e
  | false => exact wpAny_mono (hf rfl W s' E (V.keeps K)) (fun _ _ q => ⟨K.trans q.1, q.2⟩) fun _ _ e => e) fun _ _ e => e)
end
theorem pick_upto (items : Array Value) (b : Nat) : slicePick items none (some b) none = (items.toList.take b).toArray := by
 have e : sliceBounds none (some (b : Int)) none items.size = (((0 : Nat) : Int), ((min b items.size : Nat) : Int), 1) := by
  simp only [sliceBounds, Option.getD_none]
  have h2 : ¬ ((b : Int) < 0) := by omega
  simp only [h2, if_false, show (1 : Int) > 0 by decide, if_true]
  congr 1
  congr 1; omega
 unfold slicePick
 rw [e]
 simp only [sliceRange_one, pick_run]
 simp only [List.drop_zero, Nat.sub_zero]
 by_cases h : b ≤ items.size
 ·rw [Nat.min_eq_left h]
 ·rw [Nat.min_eq_right (by omega), List.take_of_length_le (by simp), List.take_of_length_le (by simp; omega)]
theorem pick_all (items : Array Value) : slicePick items none none none = items := by
 have e : sliceBounds none none none items.size = (((0 : Nat) : Int), (items.size : Int), 1) := by
  simp only [sliceBounds, Option.getD_none, show (1 : Int) > 0 by decide, if_true]; rfl
 unfold slicePick
 rw [e]
 simp only [sliceRange_one, pick_run]
 simp only [List.drop_zero, Nat.sub_zero]
 rw [List.take_of_length_le (by simp)]
section
variable {c : Cx} {A : Around} {env : Env} {σ : List (Str × D)} {W : Addr → Prop} {s : Shared} {E : Value → Shared → Prop}
theorem slice_end {s₃ : Shared} {vl vu : Value} {l' : List D} {vs' : Array Value} (V : View c W env σ s) (K : Kt s s₃) (hr : RdL W s₃.heap vs'.toList l') :
  Kt s { s₃ with heap := (s₃.heap.push { cls := .type "slice", data := .fields #[vl, vu, .none] }).push { cls := .type "list", data := .seq vs' } } ∧
  Rd W ((s₃.heap.push { cls := .type "slice", data := .fields #[vl, vu, .none] }).push { cls := .type "list", data := .seq vs' }) (.ref (s₃.heap.objs.size + 1)) (.lst l') := by
 have k : ∀ b o, s₃.heap.get? b = some o → ((s₃.heap.push { cls := .type "slice", data := .fields #[vl, vu, .none] }).push { cls := .type "list", data := .seq vs' }).get? b = some o :=
  fun b o e => Heap.get?_push_of_some _ (Heap.get?_push_of_some _ e)
 refine ⟨K.trans ⟨.with k, Nat.le_refl _⟩, .lst ?_ ⟨_, 0, by rw [← Heap.size_push s₃.heap]; exact Heap.get?_push_size _ rfl, rfl, rfl, rfl⟩ (hr.keeps k)⟩
 intro h
 obtain ⟨o, e⟩ := V.wold _ h
 exact absurd (Heap.lt_size (K.heap _ _ e)) (Nat.not_lt.mpr (Nat.le_succ _))
theorem Ev.sliceTo {value e : Expr} {p pos : Pos} {l : List D} {a : Nat} (hv : Ev c A env σ value (.lst l)) (he : Ev c A env σ e (.int a)) (hn : l.length ≤ 1000000) (ht : ∀ o r, letTemporaryGo value o r = pure () := by intro _ _; rfl) :
  Ev c A env σ (.Subscript value (.Slice Option.none (some e) Option.none p) pos) (.lst (l.take a)) := fun W s E V =>
 wpAny_Subscript_list_slice (hv.use V fun v s₁ K₁ V₁ r₁ => wpAny_evalPart_none (wpAny_evalPart_some (he.use V₁ fun u s₂ K₂ V₂ r₂ => by
  cases r₂
  cases r₁.keeps K₂.heap with
  | lst ha ht hr =>
   rename_i t b vs
   have el : vs.size = l.length := by rw [← hr.length]; simp
   refine ⟨b, vs, Option.none, some (a : Int), rfl, ht.isList, by rw [el, sizeLine_eq]; omega, .none, .int _ _, ?_⟩
   rw [pick_upto]
   exact slice_end V (K₁.trans K₂) (by rw [List.toList_toArray]; exact hr.take a)))) ht
noncomputable def D.typ : D → Option String
 | .int _ => some "int"
 | .str _ => some "str"
 | .tup _ => some "tuple"
 | .lst _ => some "list"
 | _ => Option.none
theorem Ev.typeOf {x : Str} {np p : Pos} {e : Expr} {d : D} {T : String} (hf : Ev c A env σ (.Name x np) (.val (.type "type"))) (hs : starEach [e] env = [(false, eval e env)]) (he : Ev c A env σ e d) (hT : d.typ = some T) :
  Ev c A env σ (.Call (.Name x np) [e] [] p) (.val (.type T)) :=
 .callT1 hf hs he fun W s E v _ _ r => by
  cases r with
  | int => cases hT; exact call_type_of (typeIs_int _ _ _) (by decide) ⟨.refl _, .val _⟩
  | str => cases hT; exact call_type_of (typeIs_str _ _ _) (by decide) ⟨.refl _, .val _⟩
  | tup ha ht hr => cases hT; exact call_type_of ht.typeIs (by decide) ⟨.refl _, .val _⟩
  | lst ha ht hr => cases hT; exact call_type_of ht.isList.typeIs (by decide) ⟨.refl _, .val _⟩
  | _ => cases hT
theorem Ev.lower {o : Expr} {apos pos : Pos} {x : Str} (ho : Ev c A env σ o (.str x)) (hbase : attributeBase o "lower" env (eval o env) = eval o env) (hline : (apos.endLine == pos.line) = true) (hfit : Builtin.Str.tooLong (Txt.lower x).length = false) :
  Ev c A env σ (.Call (.Attribute o "lower" apos) [] [] pos) (.str (Txt.lower x)) := .intro fun W s E V =>
 Call_method0 hbase hline (ho.use V fun v s₁ K₁ V₁ r₁ => by cases r₁; exact SB.lower hfit ⟨K₁.toKq.trans (.tok _), .str _ _⟩)
theorem strs_of {h : Heap} : ∀ {xs : List Str} {vs : List Value}, RdL W h vs (xs.map .str) → ∃ l : List (Str × Tok), vs = strValues l ∧ l.map (·.1) = xs := by
 intro xs
 induction xs with
 | nil => intro vs r; cases r; exact ⟨[], rfl, rfl⟩
 | cons x xs ih =>
  intro vs r
  rw [List.map_cons] at r
  cases r with
  | cons a b =>
   cases a
   obtain ⟨l, h1, h2⟩ := ih b
   exact ⟨(x, _) :: l, by rw [h1]; rfl, by rw [List.map_cons, h2]⟩
theorem Ev.join {o e : Expr} {apos pos : Pos} {x : Str} {xs : List Str} (ho : Ev c A env σ o (.str x)) (he : Ev c A env σ e (.lst (xs.map .str))) (hbase : attributeBase o "join" env (eval o env) = eval o env) (hs : starEach [e] env = [(false, eval e env)]) (hline : (apos.endLine == pos.line) = true) (hok : JoinOk x xs = true) :
  Ev c A env σ (.Call (.Attribute o "join" apos) [e] [] pos) (.str (Txt.join x xs)) := .intro fun W s E V =>
 Call_method1 hbase hs hline (ho.use V fun v s₁ K₁ V₁ r₁ => by
  cases r₁
  refine SB.join (he.use V₁ fun u s₂ K₂ V₂ r₂ => ?_)
  cases r₂ with
  | lst ha ht hr =>
   rename_i t b vs
   obtain ⟨l, h1, h2⟩ := strs_of hr
   refine ⟨b, l, rfl, ?_, xs, h2, hok, fun t' k => ⟨(K₁.trans K₂).toKq.trans (.tok _), .str _ _⟩⟩
   rw [← h1]; simpa using ht.isList)
end
theorem wpAny_loadIfAlive {M : Model} {A : Around} {E : Value → Shared → Prop} {s : Shared} {a : Addr} {Q : Option Obj → Shared → Prop} (h : Q (s.heap.get? a) s) : wpAny M A (loadIfAlive a) Q E s := fun Γ p hΓ => h
noncomputable abbrev IsZipT (h : Heap) (z TI TO T : Addr) (f : Bool) : Prop :=
 h.get? z = some { cls := .type "zip", dict := none, data := .fields #[rawInt T, .bool f, .bool false, .ref TI, .ref TO], slots := #[] }
section
variable {prog : Program} {w : World} {A : Around} {E : Value → Shared → Prop} {s : Shared}
theorem notFree {z TI TO T : Addr} {f : Bool} {oT : Obj} {Q : Bool → Shared → Prop} (hz : IsZipT s.heap z TI TO T f) (hT : s.heap.get? T = some oT) (h : ∀ h', IsZipT h' z TI TO T true → Heap.SameBut z s.heap h' → Q false { s with heap := h' }) :
  wpAny (model prog w) A (Builtin.SmallTypes.ownedTupleIsFree (.ref z)) Q E s := by
 unfold Builtin.SmallTypes.ownedTupleIsFree
 refine wpAny_bind (wpAny_field hz rfl (x := rawInt T) rfl ?_)
 show wpAny _ _ (do
  if (← loadIfAlive (T : Int).toNat).isNone then return true
  if (← field (.ref z) 1) != .bool true then setField (.ref z) 1 (.bool true)
  return false) _ _ _
 refine wpAny_bind (wpAny_loadIfAlive ?_)
 rw [Int.toNat_natCast, hT]
 show wpAny _ _ (do
  if (← field (.ref z) 1) != .bool true then setField (.ref z) 1 (.bool true)
  return false) _ _ _
 refine wpAny_bind (wpAny_field hz rfl (x := .bool f) rfl ?_)
 cases f with
 | true => exact wpAny_pure (h s.heap hz (Heap.SameBut.refl ..))
 | false =>
  refine wpAny_bind (m := setField (.ref z) 1 (.bool true)) (wpAny_setField_rec hz (by simp) fun h₁ hz₁ hs₁ => ?_)
  exact wpAny_pure (h h₁ hz₁ hs₁)
theorem zip2_item {z TI TO T i1 i2 l1 l2 : Addr} {f : Bool} {oT : Obj} {k1 k2 : Nat} {xs ys : Array Value} {x y : Value} {Q : Value → Shared → Prop} (D : ZipApart z TI TO i1 i2 l1 l2)
  (hz : IsZipT s.heap z TI TO T f) (hTT : s.heap.get? T = some oT) (hTI : IsPair s.heap TI (.ref i1) (.ref i2))
  (h1 : s.heap.IsListIter i1 l1 k1) (h2 : s.heap.IsListIter i2 l2 k2) (hl1 : s.heap.IsList l1 xs) (hl2 : s.heap.IsList l2 ys) (hx : xs[k1]? = some x) (hy : ys[k2]? = some y)
  (hQ : ∀ h', IsZipT h' z TI TO T true → h'.IsListIter i1 l1 (k1 + 1) → h'.IsListIter i2 l2 (k2 + 1) → IsPair h' s.heap.objs.size x y → h'.objs.size = s.heap.objs.size + 1 →
   (∀ c o, c ≠ z → c ≠ i1 → c ≠ i2 → s.heap.get? c = some o → h'.get? c = some o) → Q (.ref s.heap.objs.size) { s with heap := h' }) :
  wpAny (model prog w) A (Builtin.«zip.__next__» ⟨[.ref z], []⟩) (fun fin s' => ∃ v, fin = .done (.ret v) ∧ Q v s') E s := by
 show wpAny _ _ (field (.ref z) 2 >>= _) _ _ _
 refine wpAny_bind (wpAny_field hz rfl (x := .bool false) rfl ?_)
 show wpAny _ _ (field (.ref z) 3 >>= _) _ _ _
 refine wpAny_bind (wpAny_field hz rfl (x := .ref TI) rfl ?_)
 refine wpAny_bind (wpAny_seqItems hTI rfl ?_)
 show wpAny _ _ (Builtin.SmallTypes.ownedTupleIsFree (.ref z) >>= _) _ _ _
 refine wpAny_bind (notFree hz hTT fun h₁ hz₁ hs₁ => ?_)
 simp only [Bool.false_eq_true, if_false]
 simp only [List.forIn_cons, List.forIn_nil, Array.forIn_toList, ← Array.forIn_toList]
 refine wpAny_bind (wpAny_bind (wpAny_bind (wpAny_holding ?_)))
 show wpAny _ _ (Builtin.SmallTypes.nextOf (.ref i1) >>= _) _ _ _
 refine wpAny_bind (wpAny_nextOf_list_item (h1.extBut hs₁.extBut D.i1z) (hl1.extBut hs₁.extBut D.l1z) hx fun h₂ h1₂ hs₂ => wpAny_pure ?_)
 refine wpAny_pure ?_
 refine wpAny_bind (wpAny_bind (wpAny_holding ?_))
 show wpAny _ _ (Builtin.SmallTypes.nextOf (.ref i2) >>= _) _ _ _
 refine wpAny_bind (wpAny_nextOf_list_item ((h2.extBut hs₁.extBut D.i2z).extBut hs₂.extBut D.i12.symm) ((hl2.extBut hs₁.extBut D.l2z).extBut hs₂.extBut D.l2i1) hy fun h₃ h2₃ hs₃ => wpAny_pure ?_)
 refine wpAny_pure (wpAny_pure ?_)
 show wpAny _ _ (do ret (← newTuple [x, y])) _ _ _
 refine wpAny_bind (wpAny_newTuple (wpAny_pure ⟨_, rfl, ?_⟩))
 have hsz : h₃.objs.size = s.heap.objs.size := by rw [hs₃.1, hs₂.1, hs₁.1]
 have kk : ∀ c o, c ≠ z → c ≠ i1 → c ≠ i2 → s.heap.get? c = some o → (h₃.push { cls := .type "tuple", data := .seq #[x, y] }).get? c = some o := fun c o c1 c2 c3 e =>
  Heap.get?_push_of_some _ (hs₃.extBut _ _ c3 (hs₂.extBut _ _ c2 (hs₁.extBut _ _ c1 e)))
 show Q (.ref h₃.objs.size) _
 rw [hsz]
 refine hQ _ ?_ ?_ ?_ ?_ ?_ kk
 ·exact Heap.get?_push_of_some _ (hs₃.extBut _ _ D.i2z.symm (hs₂.extBut _ _ D.i1z.symm hz₁))
 ·exact (h1₂.extBut hs₃.extBut D.i12).at fun o e => Heap.get?_push_of_some _ e
 ·exact h2₃.at fun o e => Heap.get?_push_of_some _ e
 ·rw [← hsz]; exact Heap.get?_push_size _ rfl
 ·show (h₃.push { cls := .type "tuple", data := .seq #[x, y] }).objs.size = _
  rw [Heap.size_push, hsz]
theorem zip2_end {z TI TO T i1 i2 l1 l2 : Addr} {f : Bool} {oT : Obj} {k1 k2 : Nat} {xs ys : Array Value} {Q : Fin → Shared → Prop} (hh : A.handled = none) (D : ZipApart z TI TO i1 i2 l1 l2)
  (hz : IsZipT s.heap z TI TO T f) (hTT : s.heap.get? T = some oT) (hTI : IsPair s.heap TI (.ref i1) (.ref i2))
  (h1 : s.heap.IsListIter i1 l1 k1) (h2 : s.heap.IsListIter i2 l2 k2) (hl1 : s.heap.IsList l1 xs) (hl2 : s.heap.IsList l2 ys) (hend : xs[k1]? = none)
  (hE : ∀ h' e, (∀ c o, c ≠ z → c ≠ i1 → c ≠ i2 → s.heap.get? c = some o → h'.get? c = some o) → (∃ o, h'.get? e = some o ∧ o.cls = .type "StopIteration") → E (.ref e) { s with heap := h' }) :
  wpAny (model prog w) A (Builtin.«zip.__next__» ⟨[.ref z], []⟩) Q E s := by
 show wpAny _ _ (field (.ref z) 2 >>= _) _ _ _
 refine wpAny_bind (wpAny_field hz rfl (x := .bool false) rfl ?_)
 show wpAny _ _ (field (.ref z) 3 >>= _) _ _ _
 refine wpAny_bind (wpAny_field hz rfl (x := .ref TI) rfl ?_)
 refine wpAny_bind (wpAny_seqItems hTI rfl ?_)
 show wpAny _ _ (Builtin.SmallTypes.ownedTupleIsFree (.ref z) >>= _) _ _ _
 refine wpAny_bind (notFree hz hTT fun h₁ hz₁ hs₁ => ?_)
 simp only [Bool.false_eq_true, if_false]
 simp only [List.forIn_cons, List.forIn_nil, Array.forIn_toList, ← Array.forIn_toList]
 refine wpAny_bind (wpAny_bind (wpAny_bind (wpAny_holding ?_)))
 show wpAny _ _ (Builtin.SmallTypes.nextOf (.ref i1) >>= _) _ _ _
 refine wpAny_bind (wpAny_nextOf_list_end hh (h1.extBut hs₁.extBut D.i1z) (hl1.extBut hs₁.extBut D.l1z) hend fun h₂ e hs₂ he => ?_)
 exact hE h₂ e (fun c o c1 c2 c3 x => hs₂ _ _ c2 (hs₁.extBut _ _ c1 x)) he
theorem pyNext_zip2_item {z TI TO T i1 i2 l1 l2 : Addr} {f : Bool} {oT : Obj} {k1 k2 : Nat} {xs ys : Array Value} {x y : Value} {Q : Option Value → Shared → Prop} (D : ZipApart z TI TO i1 i2 l1 l2)
  (hz : IsZipT s.heap z TI TO T f) (hTT : s.heap.get? T = some oT) (hTI : IsPair s.heap TI (.ref i1) (.ref i2))
  (h1 : s.heap.IsListIter i1 l1 k1) (h2 : s.heap.IsListIter i2 l2 k2) (hl1 : s.heap.IsList l1 xs) (hl2 : s.heap.IsList l2 ys) (hx : xs[k1]? = some x) (hy : ys[k2]? = some y)
  (hQ : ∀ h', IsZipT h' z TI TO T true → h'.IsListIter i1 l1 (k1 + 1) → h'.IsListIter i2 l2 (k2 + 1) → IsPair h' s.heap.objs.size x y → h'.objs.size = s.heap.objs.size + 1 →
   (∀ c o, c ≠ z → c ≠ i1 → c ≠ i2 → s.heap.get? c = some o → h'.get? c = some o) → Q (some (.ref s.heap.objs.size)) { s with heap := h' }) :
  wpAny (model prog w) A (pyNext (.ref z)) Q E s := by
 have hT : s.TypeIs (.ref z) "zip" := ⟨_, hz, rfl⟩
 unfold pyNext
 exact wpAny_bind (wpAny_attempt (wpAny_callSpecial?_slot (name := Str.ofString "__next__") hT PySem.F.slot_zip_next
  (wpAny_call_entry PySem.F.slot_zip_next hT PySem.F.entry_zip_next
   (zip2_item D hz hTT hTI h1 h2 hl1 hl2 hx hy fun h' a1 a3 a4 a5 a6 a7 => wpAny_pure (hQ h' a1 a3 a4 a5 a6 a7)) (PySem.F.args_zip_next_1 _))))
theorem pyNext_zip2_end {z TI TO T i1 i2 l1 l2 : Addr} {f : Bool} {oT : Obj} {k1 k2 : Nat} {xs ys : Array Value} {Q : Option Value → Shared → Prop} (hh : A.handled = none) (D : ZipApart z TI TO i1 i2 l1 l2)
  (hz : IsZipT s.heap z TI TO T f) (hTT : s.heap.get? T = some oT) (hTI : IsPair s.heap TI (.ref i1) (.ref i2))
  (h1 : s.heap.IsListIter i1 l1 k1) (h2 : s.heap.IsListIter i2 l2 k2) (hl1 : s.heap.IsList l1 xs) (hl2 : s.heap.IsList l2 ys) (hend : xs[k1]? = none)
  (hQ : ∀ h', (∀ c o, c ≠ z → c ≠ i1 → c ≠ i2 → s.heap.get? c = some o → h'.get? c = some o) → Q none { s with heap := h' }) : wpAny (model prog w) A (pyNext (.ref z)) Q E s := by
 have hT : s.TypeIs (.ref z) "zip" := ⟨_, hz, rfl⟩
 unfold pyNext
 refine wpAny_bind (wpAny_attempt (wpAny_callSpecial?_slot (name := Str.ofString "__next__") hT PySem.F.slot_zip_next
  (wpAny_call_entry PySem.F.slot_zip_next hT PySem.F.entry_zip_next (zip2_end hh D hz hTT hTI h1 h2 hl1 hl2 hend fun h' e hk he => ?_) (PySem.F.args_zip_next_1 _))))
 obtain ⟨o, ho, hc⟩ := he
 refine wpAny_bind (wpAny_isInstance (T := "StopIteration") (b := true) ⟨o, ho, hc⟩ isSubtype_stop ?_)
 exact wpAny_pure (hQ _ hk)
end
structure ZS (h : Heap) (z TI TO i1 i2 l1 l2 : Addr) (xs ys : Array Value) (i : Nat) : Prop where
 st : (IsZip h z TI TO .none ∧ ∃ a b, IsPair h TO a b) ∨ (∃ T f oT, IsZipT h z TI TO T f ∧ h.get? T = some oT)
 to : ∃ o, h.get? TO = some o
 ti : IsPair h TI (.ref i1) (.ref i2)
 h1 : h.IsListIter i1 l1 i
 h2 : h.IsListIter i2 l2 i
 hl1 : h.IsList l1 xs
 hl2 : h.IsList l2 ys
section
variable {prog : Program} {w : World} {A : Around} {E : Value → Shared → Prop} {s : Shared}
theorem ZS.item {z TI TO i1 i2 l1 l2 : Addr} {xs ys : Array Value} {i : Nat} {x y : Value} {Q : Option Value → Shared → Prop} (D : ZipApart z TI TO i1 i2 l1 l2) (Z : ZS s.heap z TI TO i1 i2 l1 l2 xs ys i) (hx : xs[i]? = some x) (hy : ys[i]? = some y)
  (hQ : ∀ h', ZS h' z TI TO i1 i2 l1 l2 xs ys (i + 1) → IsPair h' s.heap.objs.size x y → h'.objs.size = s.heap.objs.size + 1 →
   (∀ c o, c ≠ z → c ≠ TO → c ≠ i1 → c ≠ i2 → s.heap.get? c = some o → h'.get? c = some o) → Q (some (.ref s.heap.objs.size)) { s with heap := h' }) :
  wpAny (model prog w) A (pyNext (.ref z)) Q E s := by
 have hti := Z.ti
 have l1' : ∀ {h' : Heap}, (∀ c o, c ≠ z → c ≠ TO → c ≠ i1 → c ≠ i2 → s.heap.get? c = some o → h'.get? c = some o) → h'.IsList l1 xs := fun k => Z.hl1.at fun o e => k _ o D.l1z D.l1TO D.l1i1 D.l1i2 e
 have l2' : ∀ {h' : Heap}, (∀ c o, c ≠ z → c ≠ TO → c ≠ i1 → c ≠ i2 → s.heap.get? c = some o → h'.get? c = some o) → h'.IsList l2 ys := fun k => Z.hl2.at fun o e => k _ o D.l2z D.l2TO D.l2i1 D.l2i2 e
 rcases Z.st with ⟨hz, a, b, hTO⟩ | ⟨T, f, oT, hz, hT⟩
 ·refine wpAny_pyNext_zip_item D hz Z.ti hTO Z.h1 Z.h2 Z.hl1 Z.hl2 hx hy fun h' a1 a2 a3 a4 a5 a6 a7 => hQ h' ⟨.inr ⟨_, _, _, a1, a5⟩, ⟨_, a2⟩, a7 _ _ D.TIz D.TITO D.TIi1 D.TIi2 Z.ti, a3, a4, l1' a7, l2' a7⟩ a5 a6 a7
 ·refine pyNext_zip2_item D hz hT Z.ti Z.h1 Z.h2 Z.hl1 Z.hl2 hx hy fun h' a1 a3 a4 a5 a6 a7 => ?_
  have a7' : ∀ c o, c ≠ z → c ≠ TO → c ≠ i1 → c ≠ i2 → s.heap.get? c = some o → h'.get? c = some o := fun c o c1 _ c3 c4 e => a7 c o c1 c3 c4 e
  have alive : ∃ o', h'.get? T = some o' := by
   by_cases c1 : T = z
   ·subst c1; exact ⟨_, a1⟩
   ·by_cases c2 : T = i1
    ·subst c2; obtain ⟨o, e, _⟩ := a3; exact ⟨o, e⟩
    ·by_cases c3 : T = i2
     ·subst c3; obtain ⟨o, e, _⟩ := a4; exact ⟨o, e⟩
     ·exact ⟨_, a7 T _ c1 c2 c3 hT⟩
  obtain ⟨o', e'⟩ := alive
  exact hQ h' ⟨.inr ⟨T, true, o', a1, e'⟩, (let ⟨o, e⟩ := Z.to; ⟨o, a7 _ _ D.TOz D.TOi1 D.TOi2 e⟩), a7' _ _ D.TIz D.TITO D.TIi1 D.TIi2 Z.ti, a3, a4, l1' a7', l2' a7'⟩ a5 a6 a7'
theorem ZS.done {z TI TO i1 i2 l1 l2 : Addr} {xs ys : Array Value} {i : Nat} {Q : Option Value → Shared → Prop} (hh : A.handled = none) (D : ZipApart z TI TO i1 i2 l1 l2) (Z : ZS s.heap z TI TO i1 i2 l1 l2 xs ys i) (hx : xs[i]? = none)
  (hQ : ∀ h', (∀ c o, c ≠ z → c ≠ TO → c ≠ i1 → c ≠ i2 → s.heap.get? c = some o → h'.get? c = some o) → Q none { s with heap := h' }) :
  wpAny (model prog w) A (pyNext (.ref z)) Q E s := by
 rcases Z.st with ⟨hz, a, b, hTO⟩ | ⟨T, f, oT, hz, hT⟩
 ·exact wpAny_pyNext_zip_end hh D hz Z.ti hTO Z.h1 Z.h2 Z.hl1 Z.hl2 (.inl hx) hQ
 ·exact pyNext_zip2_end hh D hz hT Z.ti Z.h1 Z.h2 Z.hl1 Z.hl2 hx fun h' k => hQ h' fun c o c1 _ c3 c4 e => k c o c1 c3 c4 e
theorem ZS.frame {h h' : Heap} {z TI TO i1 i2 l1 l2 S : Addr} {xs ys : Array Value} {i : Nat} (Z : ZS h z TI TO i1 i2 l1 l2 xs ys i) (hS : ∃ o, h'.get? S = some o) (n : S ≠ z ∧ S ≠ TI ∧ S ≠ TO ∧ S ≠ i1 ∧ S ≠ i2 ∧ S ≠ l1 ∧ S ≠ l2) (k : ∀ c o, c ≠ S → h.get? c = some o → h'.get? c = some o) : ZS h' z TI TO i1 i2 l1 l2 xs ys i := by
 obtain ⟨n1, n2, n3, n4, n5, n6, n7⟩ := n
 refine ⟨?_, (let ⟨o, e⟩ := Z.to; ⟨o, k _ _ n3.symm e⟩), k _ _ n2.symm Z.ti, Z.h1.at fun o e => k _ o n4.symm e, Z.h2.at fun o e => k _ o n5.symm e, Z.hl1.at fun o e => k _ o n6.symm e, Z.hl2.at fun o e => k _ o n7.symm e⟩
 rcases Z.st with ⟨hz, a, b, hTO⟩ | ⟨T, f, oT, hz, hT⟩
 ·exact .inl ⟨k _ _ n1.symm hz, a, b, k _ _ n3.symm hTO⟩
 ·by_cases c1 : T = S
  ·subst c1; obtain ⟨o, e⟩ := hS; exact .inr ⟨T, f, o, k _ _ n1.symm hz, e⟩
  ·exact .inr ⟨T, f, oT, k _ _ n1.symm hz, k _ _ c1 hT⟩
end
noncomputable def pairsOf (a b : List D) : List D := (a.zip b).map fun p => .tup [p.1, p.2]
theorem pairsOf_take (a b : List D) (i : Nat) (x y : D) (hx : a[i]? = some x) (hy : b[i]? = some y) : (pairsOf a b).take (i + 1) = (pairsOf a b).take i ++ [.tup [x, y]] := by
 rw [List.take_add_one]
 congr 1
 unfold pairsOf
 have : (a.zip b)[i]? = some (x, y) := List.getElem?_zip_eq_some.mpr ⟨hx, hy⟩
 rw [List.getElem?_map, this]
 rfl
section
variable {prog : Program} {w : World} {A : Around} {R : Result → Shared → Prop}
theorem extend_zip (hh : A.handled = none) {z TI TO i1 i2 l1 l2 S : Addr} {xs ys : Array Value} {dx dy : List D} {W Mo : Addr → Prop} (hMW : ∀ a, Mo a → W a) (D : ZipApart z TI TO i1 i2 l1 l2) (n : S ≠ z ∧ S ≠ TI ∧ S ≠ TO ∧ S ≠ i1 ∧ S ≠ i2 ∧ S ≠ l1 ∧ S ≠ l2)
  (hW : Mo z ∧ Mo TO ∧ Mo i1 ∧ Mo i2 ∧ Mo S) (hlx : dx.length = dy.length) (hn : dx.length ≤ 1000000) :
  ∀ (k i : Nat) (s : Shared) (acc : Array Value) (c : Nat), dx.length - i = k → i ≤ dx.length → ZS s.heap z TI TO i1 i2 l1 l2 xs ys i → s.heap.get? S = some { cls := .type "list", dict := none, data := .seq acc c, slots := #[] } →
   (∀ a, W a → ∃ o, s.heap.get? a = some o) → RdL W s.heap acc.toList ((pairsOf dx dy).take i) → RdL W s.heap xs.toList dx → RdL W s.heap ys.toList dy →
   (∀ h' acc' c', h'.get? S = some { cls := .type "list", dict := none, data := .seq acc' c', slots := #[] } → RdL W h' acc'.toList (pairsOf dx dy) → (∀ b o, ¬ Mo b → s.heap.get? b = some o → h'.get? b = some o) → R (.ok (.ret .none)) { s with heap := h' }) →
   codeAny (model prog w) A (.builtin "list.extend.loop" ⟨[.ref S, .ref z, .none], []⟩) R s := by
 obtain ⟨Wz, WTO, W1, W2, WS⟩ := hW
 have dn : ∀ {b}, ¬ W b → ¬ Mo b := fun h m => h (hMW _ m)
 intro k
 induction k with
 | zero =>
  intro i s acc c hk hi Z hS wo ra rx ry hR
  have hin : i = dx.length := by omega
  subst hin
  refine codeAny_builtin PySem.F.entry_extend_loop ?_
  rw [Around.under_plainId PySem.F.plain_extend_loop _]
  show wpAny _ A.in1 (pyNext (.ref z) >>= _) _ _ s
  refine wpAny_bind (Z.done hh D (by have := rx.length; rw [Array.length_toList] at this; exact Array.getElem?_eq_none (by omega)) fun h' kp => ?_)
  have km : ∀ b o, ¬ Mo b → s.heap.get? b = some o → h'.get? b = some o := fun b o hb e => kp b o (fun q => hb (q ▸ Wz)) (fun q => hb (q ▸ WTO)) (fun q => hb (q ▸ W1)) (fun q => hb (q ▸ W2)) e
  have kk : ∀ b o, ¬ W b → s.heap.get? b = some o → h'.get? b = some o := fun b o hb e => km b o (dn hb) e
  refine wpAny_pure (hR h' acc c (kp S _ n.1 n.2.2.1 n.2.2.2.1 n.2.2.2.2.1 hS) ?_ km)
  rw [List.take_of_length_le (by unfold pairsOf; rw [List.length_map, List.length_zip]; omega)] at ra
  exact ra.mono kk fun _ _ h _ => h
 | succ k ih =>
  intro i s acc c hk hi Z hS wo ra rx ry hR
  have hlt : i < dx.length := by omega
  obtain ⟨x, hx, rdx⟩ := rx.get (i := i) (d := dx[i]) (List.getElem?_eq_getElem hlt)
  obtain ⟨y, hy, rdy⟩ := ry.get (i := i) (d := dy[i]'(by omega)) (List.getElem?_eq_getElem (by omega))
  rw [Array.getElem?_toList] at hx hy
  refine codeAny_builtin PySem.F.entry_extend_loop ?_
  rw [Around.under_plainId PySem.F.plain_extend_loop _]
  show wpAny _ A.in1 (pyNext (.ref z) >>= _) _ _ s
  refine wpAny_bind (Z.item D hx hy fun h' Z' pr sz kp => ?_)
  have km : ∀ b o, ¬ Mo b → s.heap.get? b = some o → h'.get? b = some o := fun b o hb e => kp b o (fun q => hb (q ▸ Wz)) (fun q => hb (q ▸ WTO)) (fun q => hb (q ▸ W1)) (fun q => hb (q ▸ W2)) e
  have kk : ∀ b o, ¬ W b → s.heap.get? b = some o → h'.get? b = some o := fun b o hb e => km b o (dn hb) e
  have hS' := kp S _ n.1 n.2.2.1 n.2.2.2.1 n.2.2.2.2.1 hS
  have nWT : ¬ W s.heap.objs.size := fun h => by obtain ⟨o, e⟩ := wo _ h; exact absurd (Heap.lt_size e) (Nat.lt_irrefl _)
  show wpAny _ A.in1 (updateSeq S (·.push (.ref s.heap.objs.size)) >>= _) _ _ _
  have hacc : acc.size = i := by
   have := ra.length
   rw [Array.length_toList, List.length_take] at this
   rw [this]; unfold pairsOf; simp; omega
  refine wpAny_bind ?_
  refine wpAny_updateSeq hS' rfl (wpAny_pure ⟨plainId_quiet PySem.F.plain_extend_loop _, ih (i + 1) _ (acc.push (.ref s.heap.objs.size)) _ (by omega) hlt ?_ (Heap.get?_update_self _ hS' rfl) ?_ ?_ ?_ ?_ ?_⟩) (by rw [hacc, sizeLine_eq]; omega) (by show (acc.push _).size ≤ sizeLine + 1; rw [Array.size_push, hacc, sizeLine_eq]; omega)
  all_goals have k2 : ∀ b o, b ≠ S → h'.get? b = some o → (h'.update S (Obj.mapSeq (·.push (.ref s.heap.objs.size)))).get? b = some o := fun b o hb e => (Heap.get?_update_other _ _ (Ne.symm hb)).trans e
  all_goals have k4 : ∀ b o, ¬ Mo b → s.heap.get? b = some o → (h'.update S (Obj.mapSeq (·.push (.ref s.heap.objs.size)))).get? b = some o := fun b o hb e => k2 b o (fun q => hb (q ▸ WS)) (km b o hb e)
  all_goals have k3 : ∀ b o, ¬ W b → s.heap.get? b = some o → (h'.update S (Obj.mapSeq (·.push (.ref s.heap.objs.size)))).get? b = some o := fun b o hb e => k4 b o (dn hb) e
  ·exact Z'.frame ⟨_, Heap.get?_update_self _ hS' rfl⟩ n k2
  ·intro a ha
   by_cases c0 : a = S
   ·subst c0; exact ⟨_, Heap.get?_update_self _ hS' rfl⟩
   ·have : ∃ o, h'.get? a = some o := by
     by_cases c1 : a = z
     ·subst c1; rcases Z'.st with ⟨e, _⟩ | ⟨_, _, _, e, _⟩ <;> exact ⟨_, e⟩
     ·by_cases c2 : a = TO
      ·subst c2; exact Z'.to
      ·by_cases c3 : a = i1
       ·subst c3; obtain ⟨o, e, _⟩ := Z'.h1; exact ⟨o, e⟩
       ·by_cases c4 : a = i2
        ·subst c4; obtain ⟨o, e, _⟩ := Z'.h2; exact ⟨o, e⟩
        ·obtain ⟨o, e⟩ := wo a ha; exact ⟨o, kp a o c1 c2 c3 c4 e⟩
    obtain ⟨o, e⟩ := this
    exact ⟨o, k2 a o c0 e⟩
  ·rw [Array.toList_push, pairsOf_take dx dy i dx[i] (dy[i]'(by omega)) (List.getElem?_eq_getElem hlt) (List.getElem?_eq_getElem (by omega))]
   refine (ra.mono k3 fun _ _ h _ => h).app (.cons (.tup nWT ⟨_, k2 _ _ ?_ pr, rfl, 0, rfl⟩ (.cons (rdx.mono k3 fun _ _ h _ => h) (.cons (rdy.mono k3 fun _ _ h _ => h) .nil))) .nil)
   intro q; exact nWT (hMW _ (q ▸ WS))
  ·exact rx.mono k3 fun _ _ h _ => h
  ·exact ry.mono k3 fun _ _ h _ => h
  ·intro h'' acc' c' e1 e2 e3
   exact hR h'' acc' c' e1 e2 fun b o hb e => e3 b o hb (k4 b o hb e)
theorem zip_no_len : typeLookup (.type "zip") "__len__" = pure none := by rw [typeLookup_type, builtinLookup_eq_fast]; kernel_rfl
theorem zip_no_hint : typeLookup (.type "zip") "__length_hint__" = pure none := by rw [typeLookup_type, builtinLookup_eq_fast]; kernel_rfl
theorem list_init_zip (hh : A.handled = none) {z TI TO i1 i2 l1 l2 S : Addr} {xs ys : Array Value} {dx dy : List D} {W Mo : Addr → Prop} (hMW : ∀ a, Mo a → W a) (D : ZipApart z TI TO i1 i2 l1 l2) (n : S ≠ z ∧ S ≠ TI ∧ S ≠ TO ∧ S ≠ i1 ∧ S ≠ i2 ∧ S ≠ l1 ∧ S ≠ l2)
  (hW : Mo z ∧ Mo TO ∧ Mo i1 ∧ Mo i2 ∧ Mo S) (hlx : dx.length = dy.length) (hn : dx.length ≤ 1000000) (s : Shared) (hz : IsZip s.heap z TI TO .none) (Z : ZS s.heap z TI TO i1 i2 l1 l2 xs ys 0) (hS : s.heap.get? S = some { cls := .type "list", dict := none, data := .seq #[], slots := #[] })
  (wo : ∀ a, W a → ∃ o, s.heap.get? a = some o) (rx : RdL W s.heap xs.toList dx) (ry : RdL W s.heap ys.toList dy)
  (hR : ∀ h' acc' c', h'.get? S = some { cls := .type "list", dict := none, data := .seq acc' c', slots := #[] } → RdL W h' acc'.toList (pairsOf dx dy) → (∀ b o, ¬ Mo b → s.heap.get? b = some o → h'.get? b = some o) → R (.ok (.ret .none)) { s with heap := h' }) :
  wpAny (model prog w) A.in1 (Builtin.«list.__init__» ⟨[.ref S, .ref z], []⟩)
   (fun fin s' => match fin with | .done f => R (.ok f) s' | .again c' => c'.quiet = true ∧ codeAny (model prog w) A c' R s') (fun e s' => R (.error e) s') s := by
 show wpAny _ A.in1 (do let old ← Builtin.List.listItems (.ref S); Builtin.List.listUpdate (.ref S) (fun _ => #[]); letGo old.toList.reverse; Builtin.List.listExtendWith (.ref S) (.ref z) .none) _ _ s
 refine wpAny_bind ?_
 unfold Builtin.List.listItems
 refine wpAny_bind (wpAny_seqItems hS rfl (wpAny_pure ?_))
 show wpAny _ A.in1 (updateSeq S (fun _ => #[]) >>= fun _ => letGo (#[] : Array Value).toList.reverse >>= fun _ => Builtin.List.listExtendWith (.ref S) (.ref z) .none) _ _ s
 refine wpAny_bind (wpAny_updateSeq hS rfl ?_)
 have hS₂ := Heap.get?_update_self (Obj.mapSeq (fun _ => (#[] : Array Value))) hS rfl
 have hSz : S ≠ z := n.1
 refine wpAny_bind (wpAny_letGo ?_)
 have hz₂ : IsZip (s.heap.update S (Obj.mapSeq (fun _ => (#[] : Array Value)))) z TI TO .none := (Heap.get?_update_other _ _ hSz).trans hz
 have hT : ({ s with heap := s.heap.update S (Obj.mapSeq (fun _ => (#[] : Array Value))) } : Shared).TypeIs (.ref z) "zip" := ⟨_, hz₂, rfl⟩
 unfold Builtin.List.listExtendWith
 refine wpAny_bind (wpAny_typeOf hT ?_)
 have h1 : Builtin.List.listSameRef (.ref S) (.ref z) = false := by simp [Builtin.List.listSameRef, hSz]
 have h2 : (Value.type "zip" == Value.type "list") = false := by decide
 have h3 : (Value.type "zip" == Value.type "tuple") = false := by decide
 simp only [h1, h2, h3, Bool.or_false, Bool.false_eq_true, if_false]
 refine wpAny_bind (wpAny_pyIter_zip hz₂ ?_)
 refine wpAny_bind (wpAny_holding ?_)
 unfold Builtin.List.listLengthHint
 refine wpAny_bind (wpAny_specialOf hT zip_no_len ?_)
 show wpAny _ A.in1 (specialOf (Value.ref z) (Str.ofString "__length_hint__") >>= _) _ _ _
 refine wpAny_bind (wpAny_specialOf hT zip_no_hint ?_)
 refine wpAny_pure ?_
 show wpAny _ A.in1 (rule "list.extend.makes-room" >>= fun _ => Builtin.List.listTouch (.ref S) >>= fun _ =>
  again (.builtin "list.extend.loop" ⟨[.ref S, .ref z, .none], []⟩)) _ _ _
 refine wpAny_bind (wpAny_rule ?_)
 refine wpAny_bind ?_
 show wpAny _ A.in1 (updateSeq S (·.push .none) >>= fun _ => updateSeq S (·.pop)) _ _ _
 refine wpAny_bind (wpAny_updateSeq hS₂ rfl ?_)
 have hS₃ := Heap.get?_update_self (Obj.mapSeq (·.push Value.none)) hS₂ rfl
 refine wpAny_updateSeq (hz := by seq_fits) hS₃ rfl ?_
 have hS₄ := Heap.get?_update_self (Obj.mapSeq (·.pop)) hS₃ rfl
 generalize hH : (((s.heap.update S (Obj.mapSeq (fun _ => (#[] : Array Value)))).update S (Obj.mapSeq (·.push Value.none))).update S (Obj.mapSeq (·.pop))) = H at hS₄
 have oth : ∀ b o, b ≠ S → s.heap.get? b = some o → H.get? b = some o := fun b o hb e => by
  rw [← hH]
  exact (Heap.get?_update_other _ _ (Ne.symm hb)).trans ((Heap.get?_update_other _ _ (Ne.symm hb)).trans ((Heap.get?_update_other _ _ (Ne.symm hb)).trans e))
 have km : ∀ b o, ¬ Mo b → s.heap.get? b = some o → H.get? b = some o := fun b o hb e => oth b o (fun q => hb (q ▸ hW.2.2.2.2)) e
 have kk : ∀ b o, ¬ W b → s.heap.get? b = some o → H.get? b = some o := fun b o hb e => km b o (fun m => hb (hMW _ m)) e
 refine wpAny_pure ⟨plainId_quiet PySem.F.plain_extend_loop _, ?_⟩
 refine extend_zip hh hMW D n hW hlx hn _ 0 { s with heap := H } #[] _ rfl (Nat.zero_le _) (Z.frame ⟨_, hS₄⟩ n oth) hS₄ (fun a ha => ?_) .nil (rx.mono kk fun _ _ h _ => h) (ry.mono kk fun _ _ h _ => h) fun h' acc' c' e1 e2 e3 => hR h' acc' c' e1 e2 fun b o hb e => e3 b o hb (km b o hb e)
 by_cases c0 : a = S
 ·subst c0; exact ⟨_, hS₄⟩
 ·obtain ⟨o, e⟩ := wo a ha; exact ⟨o, oth a o c0 e⟩
end
theorem apartN (N l1 l2 : Nat) (h1 : l1 < N) (h2 : l2 < N) : ZipApart (N + 4) (N + 2) (N + 3) N (N + 1) l1 l2 := by
 constructor <;> (show ¬ ((_ : Nat) = _)) <;> omega
theorem nes6 (N l1 l2 : Nat) (h1 : l1 < N) (h2 : l2 < N) : N + 5 ≠ N + 4 ∧ N + 5 ≠ N + 2 ∧ N + 5 ≠ N + 3 ∧ N + 5 ≠ N ∧ N + 5 ≠ N + 1 ∧ N + 5 ≠ l1 ∧ N + 5 ≠ l2 := by omega
theorem cases6 (N a : Nat) (h1 : N ≤ a) (h2 : a ≤ N + 5) : a = N ∨ a = N + 1 ∨ a = N + 2 ∨ a = N + 3 ∨ a = N + 4 ∨ a = N + 5 := by omega
section
variable {c : Cx} {A : Around} {env : Env} {σ : List (Str × D)}
theorem list_of_zip (hh : A.handled = none) {W : Addr → Prop} {s : Shared} {h' : Heap} {l1 l2 : Addr} {xs ys : Array Value} {dx dy : List D} {E : Value → Shared → Prop} {Q : Value → Shared → Prop} (N : Nat) (hN : s.heap.objs.size = N)
  (wo : ∀ a, W a → ∃ o, s.heap.get? a = some o) (ht1 : PlainL s.heap l1 xs) (ht2 : PlainL s.heap l2 ys) (r1 : RdL W s.heap xs.toList dx) (r2 : RdL W s.heap ys.toList dy) (hl : dx.length = dy.length) (hn : dx.length ≤ 1000000)
  (z : IsZip h' (N + 4) (N + 2) (N + 3) .none) (ti : IsPair h' (N + 2) (.ref N) (.ref (N + 1))) (tO : IsPair h' (N + 3) .none .none) (i1 : h'.IsListIter N l1 0) (i2 : h'.IsListIter (N + 1) l2 0) (sz : h'.objs.size = N + 5) (kp : ∀ b o, s.heap.get? b = some o → h'.get? b = some o)
  (hQ : ∀ v h'', (∀ b o, s.heap.get? b = some o → h''.get? b = some o) → Rd W h'' v (.lst (pairsOf dx dy)) → Q v { s with heap := h'' }) : wpAny c.M A (call (.type "list") [.ref (N + 4)]) Q E { s with heap := h' } := by
 have lt1 : l1 < N := by rw [← hN]; obtain ⟨o, n, e, _⟩ := ht1; exact Heap.lt_size e
 have lt2 : l2 < N := by rw [← hN]; obtain ⟨o, n, e, _⟩ := ht2; exact Heap.lt_size e
 have D := apartN N l1 l2 lt1 lt2
 have old : ∀ b o, s.heap.get? b = some o → b < N := fun b o e => by rw [← hN]; exact Heap.lt_size e
 have fr : ∀ a : Nat, N ≤ a → s.heap.get? a = none := fun a h => by
  cases e : s.heap.get? a with
  | none => rfl
  | some o => exact absurd (old a o e) (Nat.not_lt.mpr h)
 refine callType_codes (Q₁ := fun obj s₁ => obj = .ref (N + 5) ∧ s₁ = { s with heap := h'.push { cls := .type "list", data := .seq #[] } }) PySem.F.called_list (PySem.F.typeCall_list_1 _) PySem.F.entry_list_init
  (code_list_new _ ⟨by rw [← sz], rfl⟩) fun obj s₁ h₁ => ?_
 obtain ⟨rfl, rfl⟩ := h₁
 have hS : (h'.push { cls := .type "list", data := .seq #[] }).get? (N + 5) = some { cls := .type "list", dict := none, data := .seq #[], slots := #[] } := by rw [← sz]; exact Heap.get?_push_size _ rfl
 have up : ∀ b o, h'.get? b = some o → (h'.push { cls := .type "list", data := .seq #[] }).get? b = some o := fun b o e => Heap.get?_push_of_some _ e
 have upp : ∀ b o, s.heap.get? b = some o → (h'.push { cls := .type "list", data := .seq #[] }).get? b = some o := fun b o e => up b o (kp b o e)
 refine ⟨⟨_, hS, rfl⟩, PySem.F.args_list_init_2 _ _, ?_⟩
 have gw : ∀ a : Nat, (W a ∨ (N ≤ a ∧ a ≤ N + 5)) → W a ∨ s.heap.get? a = none := fun a h => h.imp id fun q => fr a q.1
 refine list_init_zip (A := A.in1) hh (W := fun a => W a ∨ (N ≤ a ∧ a ≤ N + 5)) (Mo := fun a => N ≤ a ∧ a ≤ N + 5) (fun a h => .inr h) D ?_ ?_ hl hn _ (up _ _ z) ⟨.inl ⟨up _ _ z, _, _, up _ _ tO⟩, ⟨_, up _ _ tO⟩, up _ _ ti, i1.at fun o e => up _ o e, i2.at fun o e => up _ o e, ht1.isList.at fun o e => upp _ o e, ht2.isList.at fun o e => upp _ o e⟩ hS ?_ ((r1.grow gw).keeps upp) ((r2.grow gw).keeps upp) fun h'' acc c' e1 e2 e3 => ?_
 ·exact nes6 N l1 l2 lt1 lt2
 ·refine ⟨?_, ?_, ?_, ?_, ?_⟩ <;> (constructor <;> (show (_ : Nat) ≤ _) <;> omega)
 ·intro a h
  rcases h with h | ⟨h1, h2⟩
  ·obtain ⟨o, e⟩ := wo a h; exact ⟨o, upp a o e⟩
  ·rcases cases6 N a h1 h2 with rfl | rfl | rfl | rfl | rfl | rfl
   ·obtain ⟨o, e, _⟩ := i1; exact ⟨o, up _ _ e⟩
   ·obtain ⟨o, e, _⟩ := i2; exact ⟨o, up _ _ e⟩
   ·exact ⟨_, up _ _ ti⟩
   ·exact ⟨_, up _ _ tO⟩
   ·exact ⟨_, up _ _ z⟩
   ·exact ⟨_, hS⟩
 ·refine ⟨rfl, hQ _ h'' (fun b o e => e3 b o (fun q => Nat.not_lt.mpr q.1 (old b o e)) (upp b o e)) (.lst (fun h => ?_) ⟨_, _, e1, rfl, rfl, rfl⟩ (e2.less fun a h => .inl h))⟩
  obtain ⟨o, e⟩ := wo _ h
  rw [fr _ (Nat.le_add_right N 5)] at e; cases e
theorem Ev.listZip {x y : Str} {np nq p q : Pos} {e f : Expr} {dx dy : List D} (hh : A.handled = Option.none) (hx : Ev c A env σ (.Name x np) (.val (.type "list"))) (hy : Ev c A env σ (.Name y nq) (.val (.type "zip")))
  (hs : starEach [.Call (.Name y nq) [e, f] [] q] env = [(false, eval (.Call (.Name y nq) [e, f] [] q) env)]) (hs2 : starEach [e, f] env = [(false, eval e env), (false, eval f env)])
  (he : Ev c A env σ e (.lst dx)) (hf : Ev c A env σ f (.lst dy)) (hl : dx.length = dy.length) (hn : dx.length ≤ 1000000) :
  Ev c A env σ (.Call (.Name x np) [.Call (.Name y nq) [e, f] [] q] [] p) (.lst (pairsOf dx dy)) := .intro fun W s E V =>
 Call_name1 hs (hx.use V fun v s₁ K₁ V₁ r₁ => by
  cases r₁
  refine PySem.callWith_type1 ?_
  show wpAny _ _ (do callWith q (← eval (.Name y nq) env) [] (backTo q (starEach [e, f] env)) (backToKw q (keywordEach [] env))) _ _ _
  rw [hs2]
  refine wpAny_bind (hy.use V₁ fun v s₂ K₂ V₂ r₂ => ?_)
  cases r₂
  refine PySem.callWith_type (by rfl) (Calls.evalArgs_plain (wpAny_mono (EvL.cons (t := eval e env) he (EvL.cons (t := eval f env) hf EvL.nil) W s₂ E V₂) (fun vs s₃ q => ?_) fun _ _ e => e))
  obtain ⟨K₃, r₃⟩ := q
  have V₃ := V₂.keeps K₃
  have KK := (K₁.trans K₂).trans K₃
  clear V₁ V₂ K₁ K₂ K₃
  cases r₃ with
  | cons ra r₃ =>
   cases r₃ with
   | cons rb r₃ =>
    cases r₃
    cases ra with
    | lst ha hta hra =>
     cases rb with
     | lst hb htb hrb =>
      rename_i l1 xs l2 ys
      refine call_zip_2 hta.isList htb.isList fun h' z ti tO i1 i2 sz kp => ?_
      exact list_of_zip hh _ rfl V₃.wold hta htb hra hrb hl hn z ti tO i1 i2 sz kp fun v h'' k r => ⟨KK.toKq.trans (.with k), r⟩)
end
section
variable {c : Cx} {A : Around} {env : Env} {σ : List (Str × D)}
end
section
variable {prog : Program} {w : World} {A : Around} {E : Value → Shared → Prop} {s : Shared}
end
section
variable {c : Cx} {A : Around} {s₀ : Shared} {W₀ Md W : Addr → Prop} {env : Env} {σ : List (Str × D)} {μ : List (Addr × Own)} {s : Shared} {E : Value → Shared → Prop}
end
structure InsAt (h : Heap) (x dx k : Addr) (m : Str → Option Value) : Prop where
 inst : h.Inst x k m
 dict : ∀ o, h.get? x = some o → o.dict = some dx
theorem InsAt.at {h h' : Heap} {x dx k : Addr} {m : Str → Option Value} (I : InsAt h x dx k m) (kp : ∀ b o, b = x ∨ b = dx → h.get? b = some o → h'.get? b = some o) : InsAt h' x dx k m := by
 obtain ⟨o, e, c, nc, hd⟩ := id I.inst
 have d := I.dict o e
 have e' := kp x o (.inl rfl) e
 refine ⟨⟨o, e', c, nc, ?_⟩, fun o' q => by rw [e'] at q; cases q; exact d⟩
 rcases hd with ⟨n, _⟩ | ⟨d', h1, h2, h3⟩
 ·rw [d] at n; cases n
 ·rw [d] at h1; cases h1
  exact .inr ⟨dx, d, h2, h3.at fun o e => kp dx o (.inr rfl) e⟩
theorem InsAt.ns1 {h : Heap} {x dx k : Addr} {m : Str → Option Value} (I : InsAt h x dx k m) : h.Ns1 dx m ∧ dx ≠ x := by
 obtain ⟨o, e, c, nc, hd⟩ := I.inst
 have d := I.dict o e
 rcases hd with ⟨n, _⟩ | ⟨d', h1, h2, h3⟩
 ·rw [d] at n; cases n
 ·rw [d] at h1; cases h1; exact ⟨h3, h2⟩
section
variable {c : Cx} {A : Around} {s₀ : Shared} {W₀ Md W : Addr → Prop} {env : Env} {σ : List (Str × D)} {μ : List (Addr × Own)} {s : Shared} {E : Value → Shared → Prop}
theorem Fr.bumpP (F : Fr c s₀ W₀ Md W env σ μ s) {Mo : Addr → Prop} {t : Shared} (U : Upd Mo s t) (hm : ∀ a, Mo a → W a) (h0 : ∀ a, Mo a → Md a ∨ s₀.heap.get? a = none) (hex : ∀ a, Mo a → ∃ o, t.heap.get? a = some o)
  (neL : ¬ Mo env.locals) (hc : ∀ y b, env.cells.lookup y = some b → ¬ Mo b) (hl : ∀ a o, Mo a → (a, o) ∉ μ) : Fr c s₀ W₀ Md W env σ μ t := by
 obtain ⟨m, n⟩ := F.ns
 have kk : ∀ b o, ¬ Mo b → s.heap.get? b = some o → t.heap.get? b = some o := U.keep
 exact { F with
  view := F.view.upd U (fun b e => F.kn (h0 b e)) hex fun y e hy => by
   obtain ⟨u, b, ru⟩ := F.view.vars y e hy
   refine ⟨u, ?_, U.rd hm ru⟩
   unfold Bnd at b ⊢
   split at b
   ·obtain ⟨m₀, n₀, e₀⟩ := b; exact ⟨m₀, n₀.at fun o e => kk _ o neL e, e₀⟩
   ·obtain ⟨b, o, e1, e2, e3⟩ := b; exact ⟨b, o, e1, kk b o (hc _ b e1) e2, e3⟩
   ·obtain ⟨b, o, e1, e2, e3⟩ := b; exact ⟨b, o, e1, kk b o (hc _ b e1) e2, e3⟩
   ·exact b
   ·exact b
  up := ⟨by obtain ⟨h1, t1, q1⟩ := F.up.eq; obtain ⟨h2, t2, q2⟩ := U.eq; exact ⟨h2, t2, by rw [q2, q1]⟩, Nat.le_trans F.up.tk U.tk, fun b o hb e => kk b o (fun q => by
   rcases h0 b q with z | z
   ·exact hb z
   ·rw [z] at e; cases e) (F.up.keep b o hb e)⟩
  ns := ⟨m, n.at fun o e => kk _ o neL e⟩
  cell := fun y b h1 h2 => let ⟨p1, p2, u, p3⟩ := F.cell y b h1 h2; ⟨p1, p2, u, IsCell.atK p3 fun o e => kk b o (hc _ b h2) e⟩
  own := fun b k hb => let ⟨p1, p2, p3, p4⟩ := F.own b k hb; ⟨p1, p2, p3, p4.keep (fun o e => kk b o (fun q => hl b k q hb) e) fun v d r => U.rd hm r⟩ }
theorem st_setattr (F : Fr c s₀ W₀ Md W env σ μ s) {o value : Expr} {a : Str} {p pos : Pos} {x dx k N : Addr} {mN m : Str → Option Value} {d : D} {ns : List Str} {Q : Flow → Shared → Prop} (C : Kls c k N mN) (hv : Ev c A env σ value d) (ho : Ev c A env σ o (.val (.ref x)))
  (I : InsAt s.heap x dx k m) (hMx : Md x) (hMd : Md dx) (neL : env.locals ≠ x ∧ env.locals ≠ dx) (neO : ∀ o, (x, o) ∉ μ ∧ (dx, o) ∉ μ) (neC : ∀ y b, env.cells.lookup y = some b → b ≠ x ∧ b ≠ dx) (hna : mN a = none) (hB : typeLookup (.type "object") a = pure none) (hw : Within m ns) (hsz : ns.length ≤ sizeLine)
  (h : ∀ v s', Rd W s'.heap v d → InsAt s'.heap x dx k (fun y => if y = a then some v else m y) → Fr c s₀ W₀ Md W env σ μ s' → Q .next s')
  (hs : swapsWith value (some (.Attribute o a p)) pos.line env = pure false := by rfl) :
  wpAny c.M A (exec (.Assign [.Attribute o a p] value pos) env) Q E s := by
 refine plainObj_wpAny_Assign_Attribute (hv.use F.view fun v s₁ K₁ V₁ r₁ => ho.use V₁ fun u s₂ K₂ V₂ r₂ => ?_) hs
 cases r₂
 have KK := K₁.trans K₂
 have F₂ := F.keeps KK
 have I₂ := I.at (h' := s₂.heap) fun b o _ e => KK.heap b o e
 have r₁' := r₁.keeps K₂.heap
 have X := C.at_ _ V₂.base
 obtain ⟨nm, q, bs, sn, sub, col, dd, k0, k1, k2, k3, k5, hC⟩ := X.obj
 have Wx := F.w0 _ (F.mdW _ hMx)
 have Wd := F.w0 _ (F.mdW _ hMd)
 have hxC : x ≠ k := by
  intro e; subst e
  obtain ⟨o', e1, e2, e3, _⟩ := I₂.inst
  rw [hC] at e1; cases e1; cases e2
 obtain ⟨ox, hx, hcx, hncx, hdx⟩ := id I₂.inst
 have hdd := I₂.dict ox hx
 have ns1 := I₂.ns1
 have key : wpAny c.M A (setAttr (.ref x) a v) (fun _ s' => s₂.toks ≤ s'.toks ∧ (∃ h tk, s' = { s₂ with heap := h, toks := tk }) ∧ InsAt s'.heap x dx k (fun y => if y = a then some v else m y) ∧ ∀ b o, b ≠ x → b ≠ dx → s₂.heap.get? b = some o → s'.heap.get? b = some o) E s₂ := by
  refine wpAny_mono (wpAny_toks_of (E := E) (Nat.le_refl s₂.toks) (Q := fun _ s' => (∃ h tk, s' = { s₂ with heap := h, toks := tk }) ∧ InsAt s'.heap x dx k (fun y => if y = a then some v else m y) ∧ ∀ b o, b ≠ x → b ≠ dx → s₂.heap.get? b = some o → s'.heap.get? b = some o) ?_) (fun _ _ q => q) fun _ _ q => q.2
  clear h F₂ V₂ r₁' KK K₂ V₁ r₁ I K₁
  obtain ⟨hh, g, dr, t, os⟩ := s₂
  refine store_attr PySem.F.store_object hC X.ns C.sa hna hB hxC I₂.inst (fun h' tk' I' hk hsame => ⟨⟨_, _, rfl⟩, ⟨I', fun o' e' => ?_⟩, fun b o h1 h2 e => hk b o h1 (fun o₀ d' e₀ ed => ?_) e⟩) hw hsz
  ·obtain ⟨o₁, e₁, _, _, _, dk⟩ := hsame ox hx
   rw [e₁] at e'; cases e'
   exact dk dx hdd
  ·obtain rfl := Option.some.inj (hx.symm.trans e₀); obtain rfl := Option.some.inj (hdd.symm.trans ed); exact h2
 refine wpAny_mono key (fun _ s₃ q => ?_) fun _ _ e => e
 obtain ⟨tk, eq, I₃, kp⟩ := q
 have U : Upd (fun b => b = x ∨ b = dx) s₂ s₃ := ⟨eq, tk, fun b o n e => kp b o (fun z => n (.inl z)) (fun z => n (.inr z)) e⟩
 have hm : ∀ b, (b = x ∨ b = dx) → W b := fun b h => h.elim (fun e => by rw [e]; exact Wx) fun e => by rw [e]; exact Wd
 have nsd : s₂.heap.Ns dx m := ns1.1.ns
 have nx : ∀ oo, s₂.heap.get? x = some oo → oo.cls = .ref k := fun oo e => by rw [hx] at e; cases e; exact hcx
 refine h v s₃ (U.rd hm r₁') I₃ (F₂.bumpP U hm (fun b h => .inl (h.elim (fun e => by rw [e]; exact hMx) fun e => by rw [e]; exact hMd)) (fun b h => ?_) (fun h => h.elim neL.1 neL.2) (fun y b e h => h.elim (neC y b e).1 (neC y b e).2) (fun b o h q => h.elim (fun e => (neO o).1 (e ▸ q)) fun e => (neO o).2 (e ▸ q)))
 ·rcases h with rfl | rfl
  ·obtain ⟨o', e, _⟩ := I₃.inst; exact ⟨o', e⟩
  ·obtain ⟨⟨o', _, _, e, _⟩, _⟩ := I₃.ns1; exact ⟨o', e⟩
end
theorem under_depth (A : Around) (k : Addr) (vs : List Value) : (A.under (.builtin "type.__call__" ⟨.ref k :: vs, []⟩)).depth = A.depth + 1 := rfl
theorem Room.under {A : Around} {n : Nat} (r : Room A (n + 1)) (k : Addr) (vs : List Value) : Room (A.under (.builtin "type.__call__" ⟨.ref k :: vs, []⟩)) n := by
 refine ⟨r.hh, ?_, ?_⟩
 ·rw [under_depth]; have := r.depth; omega
 ·have : (A.under (.builtin "type.__call__" ⟨.ref k :: vs, []⟩)).units = A.units + 1 := rfl
  rw [this]; have := r.units; omega
section
variable {c : Cx} {A : Around} {env : Env} {σ : List (Str × D)} {W : Addr → Prop} {s : Shared} {E : Value → Shared → Prop}
theorem make_call {k N fI : Addr} {mN : Str → Option Value} {fd : FuncData} {body : List Stmt} {vs : List Value} {Q : Value → Shared → Prop} (C : Kls c k N mN) (hi : mN "__init__" = some (.ref fI)) (fn : Fun c fI fd body) (hfc : ∀ h o, HasK c.K h → h.get? fI = some o → o.cls = .type "function") (base : HasK c.K s.heap)
  (h : ∀ x dx s', Kt s s' → s.heap.get? x = none → s.heap.get? dx = none → InsAt s'.heap x dx k (fun _ => none) →
   wpAny c.M (A.under (.builtin "type.__call__" ⟨.ref k :: vs, []⟩)) (call (.ref fI) (.ref x :: vs)) (fun r s'' => r = .none ∧ Q (.ref x) s'') E s') :
  wpAny c.M A (call (.ref k) vs) Q E s := by
 have X := C.at_ _ base
 obtain ⟨nm, q, bs, sn, sub, col, dd, k0, k1, k2, k3, k5, hC⟩ := X.obj
 obtain ⟨o, ho, hd⟩ := fn.at_ _ base
 have hfc' := hfc _ _ base ho
 obtain ⟨hh, g, d, t, os⟩ := s
 exact wpAny_call_obj_init PySem.F.objNew hC X.ns hi ho hfc' fun h' x dx Mk => h x dx ⟨h', g, d, t, os⟩ ⟨⟨⟨_, _, rfl⟩, Mk.keeps⟩, Nat.le_refl _⟩ Mk.newX Mk.newD ⟨Mk.inst, Mk.dict⟩
theorem cls_call0 {x : Str} {np pos : Pos} {k N : Addr} {mN : Str → Option Value} {Q : Value → Shared → Prop} (C : Kls c k N mN) (hf : Ev c A env σ (.Name x np) (.val (.ref k))) (V : View c W env σ s)
  (h : ∀ s', Kt s s' → View c W env σ s' → wpAny c.M A (call (.ref k) []) Q E s') : wpAny c.M A (eval (.Call (.Name x np) [] [] pos) env) Q E s :=
 wpAny_Call_Name_kw (hf.use V fun v s₁ K₁ V₁ r₁ => by
  cases r₁
  exact callWith_cls0 (h₀ := s₁.heap) (C.at_ _ V₁.base) (fun b o e => e) (h s₁ K₁ V₁))
theorem cls_call1 {x : Str} {np pos : Pos} {e : Expr} {k N : Addr} {mN : Str → Option Value} {d : D} {Q : Value → Shared → Prop} (C : Kls c k N mN) (hf : Ev c A env σ (.Name x np) (.val (.ref k))) (he : Ev c A env σ e d) (hs : starEach [e] env = [(false, eval e env)]) (V : View c W env σ s)
  (h : ∀ v s', Kt s s' → View c W env σ s' → Rd W s'.heap v d → wpAny c.M A (call (.ref k) [v]) Q E s') : wpAny c.M A (eval (.Call (.Name x np) [e] [] pos) env) Q E s :=
 wpAny_Call_Name_kw (hf.use V fun v s₁ K₁ V₁ r₁ => by
  cases r₁
  refine callWith_cls (h₀ := s₁.heap) (C.at_ _ V₁.base) ?_ hs rfl
  rw [hs]
  refine Calls.spliced_cons (he.use V₁ fun u s₂ K₂ V₂ r₂ => Calls.spliced_nil ⟨K₂.heap, h u s₂ (K₁.trans K₂) V₂ r₂⟩))
end
section
variable {c : Cx} {A : Around} {env : Env} {σ : List (Str × D)}
theorem Cmp.inSet {i : Int} {a : Addr} {S : Int → Bool} {n : Nat} (hS : ∀ h, HasK c.K h → h.SetOf (intKind c.prog c.w) a S n) : Cmp c A .In (.int i) (.val (.ref a)) (S i) := fun W s E u v base ru rv => by
 cases ru; cases rv
 rename_i t
 exact wpAny_inSet_of (intKind_is _ _ i t) rfl (hS _ base) ⟨⟨.tok _, Nat.le_succ _⟩, rfl⟩
theorem Ev.dictGet {o e : Expr} {apos pos : Pos} {a : Addr} {i : Int} {f : Int → Option Value} {r : D} (hM : ∀ h, HasK c.K h → h.MapOf (intKind c.prog c.w) a f) (hd : (a == sysModules) = false) (ho : Ev c A env σ o (.val (.ref a))) (he : Ev c A env σ e (.int i))
  (hr : ∀ W h, Rd W h ((f i).getD Value.none) r) (hbase : attributeBase o "get" env (eval o env) = eval o env) (hs : starEach [e] env = [(false, eval e env)]) (hline : (apos.endLine == pos.line) = true) :
  Ev c A env σ (.Call (.Attribute o "get" apos) [e] [] pos) r := .intro fun W s E V =>
 Call_method1 hbase hs hline (ho.use V fun v s₁ K₁ V₁ r₁ => by
  cases r₁
  have M := hM _ V₁.base
  refine ⟨"dict", "dict.get", PySem.F.plainAttrs_dict, PySem.F.slot_dict_get, PySem.F.type_dict_get, M.typeIs, M.noDict, wpAny_dict_get1 (knd := intKind c.prog c.w) hd (he.use V₁ fun u s₂ K₂ V₂ r₂ => ?_)⟩
  cases r₂
  rename_i t
  exact ⟨i, f, intKind_is _ _ i t, hM _ V₂.base, (K₁.trans K₂).toKq.trans (.tok _), hr _ _⟩)
end
theorem mapOf_entries {prog : Program} {w : World} {h : Heap} {a : Addr} {o : Obj} {es : Array DictEntry} {ep : Nat} {L : List (Int × Str)} (ho : h.get? a = some o) (hx : o.ExactDict) (hd : o.data = .dict es ep)
  (hp : ∃ ts : List (Tok × Tok), ts.length = L.length ∧ es.toList = (L.zip ts).map fun p => ⟨(intKind prog w).hash p.1.1, .int p.1.1 p.2.1, .str p.1.2 p.2.2⟩) :
  ∃ f : Int → Option Value, h.MapOf (intKind prog w) a f ∧ ∀ i, match L.lookup i with
   | some x => ∃ t, f i = some (.str x t)
   | none => f i = none := by
 obtain ⟨ts, hl, he⟩ := hp
 refine ⟨fun k => findBy (intKind prog w).is es k, ⟨o, es, ep, ho, hx, hd, fun e hm => ?_, fun _ => rfl⟩, fun i => ?_⟩
 ·have hm' : e ∈ es.toList := by simpa using hm
  rw [he] at hm'
  obtain ⟨p, _, rfl⟩ := List.mem_map.mp hm'
  exact ⟨p.1.1, intKind_is _ _ _ _, rfl⟩
 ·unfold findBy
  simp only []
  rw [← Array.find?_toList, he]
  clear he ho hx hd
  show match L.lookup i with
   | some x => ∃ t, (List.find? (fun e : DictEntry => Value.isInt i e.key) ((L.zip ts).map fun p => (⟨(intKind prog w).hash p.1.1, .int p.1.1 p.2.1, .str p.1.2 p.2.2⟩ : DictEntry))).map (fun x : DictEntry => x.val) = some (.str x t)
   | none => (List.find? (fun e : DictEntry => Value.isInt i e.key) ((L.zip ts).map fun p => (⟨(intKind prog w).hash p.1.1, .int p.1.1 p.2.1, .str p.1.2 p.2.2⟩ : DictEntry))).map (fun x : DictEntry => x.val) = none
  induction L generalizing ts with
  | nil => rfl
  | cons x L ih =>
   cases ts with
   | nil => simp at hl
   | cons t ts =>
    obtain ⟨j, y⟩ := x
    rw [List.lookup_cons, List.zip_cons_cons, List.map_cons, List.find?_cons]
    by_cases z : i = j
    ·subst z
     have e1 : (i == i) = true := by simp
     have e2 : Value.isInt i (.int i t.1) = true := by simp [Value.isInt]
     simp only [e1, e2]
     exact ⟨t.2, rfl⟩
    ·have e1 : (i == j) = false := beq_eq_false_iff_ne.mpr z
     have e2 : Value.isInt i (.int j t.1) = false := by
      cases q : Value.isInt i (.int j t.1) with
      | false => rfl
      | true => obtain ⟨u, e⟩ := Value.isInt_shape q; cases e; exact (z rfl).elim
     simp only [e1, e2]
     exact ih ts (by simpa using hl)
theorem admitted_none {m : Sre.M} {good : Nat → Prop} (hin : ∀ c, good c → ∀ seen, ∃ seen', Sre.inSet m.code c m.code.size 5 true seen = .ok (false, seen')) :
  ∀ (fuel s : Nat) (seen : Sre.Seen), (∀ i, s ≤ i → i < m.lim → good (m.text.getD i 0)) → ∃ seen', Sre.M.admitted m fuel s seen = .ok (none, seen')
 | 0, s, seen, _ => ⟨seen, rfl⟩
 | fuel + 1, s, seen, h => by
  unfold Sre.M.admitted
  by_cases hs : s ≥ m.lim
  ·rw [if_pos hs]; exact ⟨_, rfl⟩
  ·rw [if_neg hs]
   obtain ⟨seen', e⟩ := hin _ (h s (Nat.le_refl _) (by omega)) seen
   rw [e]
   exact admitted_none hin fuel (s + 1) seen' fun i h1 h2 => h i (by omega) h2
noncomputable def nameCode : Array Nat := #[14, 10, 4, 1, 1, 22, 0, 31, 16, 127, 0, 13, 7, 22, 0, 31, 16, 127, 0, 1]
noncomputable def valueCode : Array Nat := #[14, 14, 4, 1, 1, 9, 4294966783, 0, 0, 2147483648, 0, 0, 0, 0, 0, 13, 11, 9, 4294966783, 0, 0, 2147483648, 0, 0, 0, 0, 0, 1]
theorem name_out (c : Nat) (h1 : 31 < c) (h2 : c ≠ 127) (seen : Sre.Seen) : ∃ seen', Sre.inSet nameCode c nameCode.size 5 true seen = .ok (false, seen') := by
 have e1 : ¬ ((0 ≤ c && c ≤ 31) = true) := by simp; omega
 have e2 : ¬ ((c == 127) = true) := by simpa using h2
 show ∃ seen', (if (0 ≤ c && c ≤ 31) = true then _ else _) = _
 rw [if_neg e1]
 show ∃ seen', (if (c == 127) = true then _ else _) = _
 rw [if_neg e2]
 exact ⟨_, rfl⟩
theorem value_out (c : Nat) (h : 31 < c ∧ c ≠ 127 ∨ c = 9) (seen : Sre.Seen) : ∃ seen', Sre.inSet valueCode c valueCode.size 5 true seen = .ok (false, seen') := by
 have e1 : ¬ ((c < 256 && (valueCode.getD (5 + (1 + c / 32)) 0).testBit (c % 32)) = true) := by
  by_cases z : c < 256
  ·have : ∀ c, c < 256 → (31 < c ∧ c ≠ 127 ∨ c = 9) → (valueCode.getD (5 + (1 + c / 32)) 0).testBit (c % 32) = false := by decide +kernel
   rw [this c z h]; simp
  ·simp [z]
 show ∃ seen', (if (c < 256 && (valueCode.getD (5 + (1 + c / 32)) 0).testBit (c % 32)) = true then _ else _) = _
 rw [if_neg e1]
 exact ⟨_, rfl⟩
theorem adm_ok {m : Sre.M} {code text : Array Nat} {good : Nat → Prop} (hin : ∀ c, good c → ∀ seen, ∃ seen', Sre.inSet code c code.size 5 true seen = .ok (false, seen')) (hgood : ∀ i, i < text.size → good (text.getD i 0)) {fuel s : Nat} {seen : Sre.Seen} {r : Except String (Option Nat × Sre.Seen)}
  (e : Sre.M.admitted m fuel s seen = r) (h1 : m.code = code) (h2 : m.text = text) (h3 : m.lim = text.size) : ∃ seen', r = .ok (none, seen') := by
 subst h1 h2
 obtain ⟨seen', e'⟩ := admitted_none hin fuel s seen fun i _ h => hgood i (by rw [← h3]; exact h)
 exact ⟨seen', by rw [← e, e']⟩
theorem search_none {code text : Array Nat} {good : Nat → Prop} (hin : ∀ c, good c → ∀ seen, ∃ seen', Sre.inSet code c code.size 5 true seen = .ok (false, seen')) (hs : ∀ m : Sre.M, m.code = code → m.hasFirstSet = true)
  (hgood : ∀ i, i < text.size → good (text.getD i 0)) : ∃ m', Sre.forSearch code text 0 0 text.size false = m' ∧ m'.answer = some false ∧ m'.frames = [] ∧ m'.outcome = none := by
 refine ⟨_, rfl, ?_⟩
 unfold Sre.forSearch
 simp only []
 split
 ·exact ⟨rfl, rfl, rfl⟩
 ·unfold Sre.M.attemptFrom
  rw [hs _ rfl]
  simp only [Bool.not_true, Bool.false_eq_true, if_false]
  split
  ·rename_i s seen e
   obtain ⟨seen', e'⟩ := adm_ok hin hgood e rfl rfl rfl
   cases e'
  ·exact ⟨rfl, rfl, rfl⟩
  ·rename_i why e
   obtain ⟨seen', e'⟩ := adm_ok hin hgood e rfl rfl rfl
   cases e'
section
variable {prog : Program} {w : World} {A : Around} {E : Value → Shared → Prop} {s : Shared}
theorem runToEnd_none {m : Sre.M} {Q : Option Sre.M → Shared → Prop} (h1 : m.answer = some false) (h2 : m.frames = []) (h3 : m.outcome = none) (h : Q none s) : wpAny (model prog w) A (Builtin.Re.reRunToEnd m) Q E s := by
 obtain ⟨m', hm', ho⟩ : ∃ m', m.runFor Builtin.Re.reTurnSteps = m' ∧ m'.outcome = some .failed := by
  refine ⟨_, rfl, ?_⟩
  show (Sre.M.runFor (3 + 1) m).outcome = _
  have e1 : m.step = { m with outcome := some .failed } := by
   unfold Sre.M.step
   rw [h3, h1, h2]; rfl
  unfold Sre.M.runFor
  rw [h3, e1]
  rfl
 unfold Builtin.Re.reRunToEnd
 have e2 : (2 : Nat) ^ 64 = 18446744073709551615 + 1 := by decide
 rw [e2]
 refine wpAny_bind ?_
 unfold Builtin.Re.reDrive
 simp only [hm', ho, Option.isSome_some, if_true]
 refine wpAny_pure ?_
 refine wpAny_bind ?_
 refine wpAny_forIn_list _ (fun _ _ s' => s' = s) _ ?_ ?_ _ _ rfl
 ·intro i rest _ s' hs'
  subst hs'
  by_cases hb : m'.seen.has i = true
  ·simp only [hb, if_true]; exact wpAny_bind (wpAny_rule (wpAny_pure rfl))
  ·simp only [Bool.not_eq_true] at hb; simp only [hb, Bool.false_eq_true, if_false]; exact wpAny_pure rfl
 ·intro _ s' hs'
  subst hs'
  rw [ho]
  exact wpAny_pure h
end
theorem plainAttrs_re : PlainAttrs "re.Pattern" :=
 ⟨⟨"object.__getattribute__", by rw [typeLookup_type, builtinLookup_eq_fast]; kernel_rfl, by decide +kernel⟩, by rw [typeLookup_type, builtinLookup_eq_fast]; kernel_rfl⟩
theorem slot_re_search : Slot "re.Pattern" "search" "re.Pattern.search" :=
 .of (owner := "re.Pattern") (n := "search") (by rw [typeLookup_type, builtinLookup_eq_fast]; kernel_rfl) (by decide +kernel) (by decide +kernel) (by decide +kernel)
  (by first | exact .inl (by decide +kernel) | exact .inr (by decide +kernel)) (by rw [isSubtype_type]; kernel_rfl)
theorem type_re_search : typeOf (.builtin "re.Pattern.search") = pure (.type "method_descriptor") := by show builtinType _ = _; rw [builtinType_eq_fast]; kernel_rfl
theorem entry_re_search : entryFor table "re.Pattern.search" = some Builtin.«re.Pattern.search» := entryFor_of_tree (by kernel_rfl)
theorem owner_re : Manifest.owners.lookup (String.ofList ['n', 'r', 'e', 't', 't', 'a', 'P', '.', 'e', 'r'].reverse) = some Manifest.sig_re_Pattern := by kernel_rfl
theorem args_re_search (a b : Value) : argsOk "re.Pattern.search" ⟨[a, b], []⟩ := by
 unfold argsOk; rw [signature?_of (id := "re.Pattern.search") (n := ['h', 'c', 'r', 'a', 'e', 's']) (o := ['n', 'r', 'e', 't', 't', 'a', 'P', '.', 'e', 'r']) (by kernel_rfl) owner_re]; kernel_rfl
theorem named_search (v : Value) : Builtin.Re.reNamed "re.Pattern.search" "search" ["string", "pos", "endpos"] 1 [v] [] = pure [some v, none, none] := by rfl
theorem text_str (x : Str) (t : Tok) : Builtin.Re.reTextOf (.str x t) = pure (x.cps, 0) := by rfl
section
variable {prog : Program} {w : World} {A : Around} {E : Value → Shared → Prop} {s : Shared}
theorem call_search {p ci : Addr} {pat : Value} {fl : Value} {cs : Array Value} {cn : Nat} {x : Str} {t : Tok} {Q : Value → Shared → Prop} {good : Nat → Prop} {code : Array Nat}
  (hp : s.heap.get? p = some ⟨.type "re.Pattern", none, .fields #[pat, fl, .int 0 0, .none, .none, .ref ci, .int 0 0], #[]⟩) (hc : s.heap.get? ci = some ⟨.type "tuple", none, .seq cs cn, #[]⟩) (hcode : (cs.map Builtin.Re.reRawOf).map (·.toNat) = code)
  (hin : ∀ c, good c → ∀ seen, ∃ seen', Sre.inSet code c code.size 5 true seen = .ok (false, seen')) (hs : ∀ m : Sre.M, m.code = code → m.hasFirstSet = true) (hgood : ∀ i, i < x.cps.size → good (x.cps.getD i 0)) (hsz : x.cps.size ≤ 1000000) (h : Q .none s) :
  wpAny (model prog w) A (call (.builtin "re.Pattern.search") [.ref p, .str x t]) Q E s := by
 have hT : s.TypeIs (.ref p) "re.Pattern" := ⟨_, hp, rfl⟩
 refine wpAny_call_entry slot_re_search hT entry_re_search ?_ (args_re_search _ _)
 unfold Builtin.«re.Pattern.search» Builtin.Re.reTarget
 refine wpAny_bind ?_
 show wpAny _ A.in1 (Builtin.Re.reNamed "re.Pattern.search" "search" ["string", "pos", "endpos"] 1 [.str x t] [] >>= _) _ _ _
 rw [named_search]
 refine wpAny_bind (wpAny_pure ?_)
 simp only []
 refine wpAny_bind (wpAny_pure ?_)
 refine wpAny_bind (wpAny_pure ?_)
 refine wpAny_bind (wpAny_fieldsOf hp rfl ?_)
 rw [text_str]
 refine wpAny_bind (wpAny_pure ?_)
 show wpAny _ A.in1 (do
   Builtin.Re.reNoCollectionInside (.str x t) 0
   let is ← Builtin.Re.reRawItems (.ref ci)
   pure ({ pattern := .ref p, string := .str x t, code := is.map (fun x => x.toNat), text := x.cps, kind := 0, groups := 0, pos := min (Int.toNat 0) x.cps.size, lim := min (2 ^ 63 - 1 : Int).toNat x.cps.size } : Builtin.Re.ReTarget)) _ _ _
 refine wpAny_bind (m := Builtin.Re.reNoCollectionInside (.str x t) 0) (wpAny_pure ?_)
 refine wpAny_bind ?_
 unfold Builtin.Re.reRawItems
 refine wpAny_bind (wpAny_seqItems hc rfl (wpAny_pure ?_))
 refine wpAny_pure ?_
 have e1 : min (Int.toNat 0) x.cps.size = 0 := by simp
 have e2 : min (2 ^ 63 - 1 : Int).toNat x.cps.size = x.cps.size := by
  have : (2 ^ 63 - 1 : Int).toNat = 9223372036854775807 := by decide
  rw [this]; omega
 rw [e1, e2]
 simp only [Option.getD_some]
 rw [hcode]
 obtain ⟨m', em, a1, a2, a3⟩ := search_none hin hs hgood
 rw [em]
 unfold Builtin.Re.reAnswer
 refine wpAny_bind (runToEnd_none a1 a2 a3 ?_)
 exact wpAny_pure ⟨_, rfl, h⟩
end
section
variable {c : Cx} {A : Around} {env : Env} {σ : List (Str × D)}
structure Pat (c : Cx) (p : Addr) (good : Nat → Prop) : Prop where
 at_ : ∃ (ci : Addr) (pat fl : Value) (cs : Array Value) (cn : Nat) (code : Array Nat), (∀ h, HasK c.K h → h.get? p = some ⟨.type "re.Pattern", none, .fields #[pat, fl, .int 0 0, .none, .none, .ref ci, .int 0 0], #[]⟩ ∧ h.get? ci = some ⟨.type "tuple", none, .seq cs cn, #[]⟩) ∧
  (cs.map Builtin.Re.reRawOf).map (·.toNat) = code ∧ (∀ c, good c → ∀ seen, ∃ seen', Sre.inSet code c code.size 5 true seen = .ok (false, seen')) ∧ (∀ m : Sre.M, m.code = code → m.hasFirstSet = true)
theorem Ev.search {o e : Expr} {apos pos : Pos} {p : Addr} {x : Str} {good : Nat → Prop} (P : Pat c p good) (ho : Ev c A env σ o (.val (.ref p))) (he : Ev c A env σ e (.str x)) (hgood : ∀ k ∈ x.cps.toList, good k) (hsz : x.cps.size ≤ 1000000)
  (hbase : attributeBase o "search" env (eval o env) = eval o env) (hs : starEach [e] env = [(false, eval e env)]) (hline : (apos.endLine == pos.line) = true) :
  Ev c A env σ (.Call (.Attribute o "search" apos) [e] [] pos) (.val .none) := .intro fun W s E V =>
 Call_method1 hbase hs hline (ho.use V fun v s₁ K₁ V₁ r₁ => by
  cases r₁
  obtain ⟨ci, pat, fl, cs, cn, code, hat, hcode, hin, hfs⟩ := P.at_
  obtain ⟨h1, _⟩ := hat _ V₁.base
  refine ⟨"re.Pattern", "re.Pattern.search", plainAttrs_re, slot_re_search, type_re_search, ⟨_, h1, rfl⟩, fun a q => by cases q; exact ⟨_, h1, rfl⟩, ?_⟩
  refine Calls.callWith_builtin rfl (Calls.evalArgs_plain (Calls.spliced_cons (he.use V₁ fun u s₂ K₂ V₂ r₂ => Calls.spliced_nil ?_)))
  cases r₂
  obtain ⟨h3, h4⟩ := hat _ V₂.base
  exact call_search h3 h4 hcode hin hfs (fun i h => by
   have e : x.cps.getD i 0 = x.cps[i] := by simp [Array.getD, h]
   rw [e]; exact hgood _ (by simp)) hsz ⟨(K₁.trans K₂).toKq, .val _⟩)
end
theorem pat_name {c : Cx} {p ci : Addr} {pat fl : Value} {cs : Array Value} {cn : Nat} (h : ∀ h, HasK c.K h → h.get? p = some ⟨.type "re.Pattern", none, .fields #[pat, fl, .int 0 0, .none, .none, .ref ci, .int 0 0], #[]⟩ ∧ h.get? ci = some ⟨.type "tuple", none, .seq cs cn, #[]⟩)
  (hc : (cs.map Builtin.Re.reRawOf).map (·.toNat) = nameCode) : Pat c p (fun k => 31 < k ∧ k ≠ 127) :=
 ⟨ci, pat, fl, cs, cn, nameCode, h, hc, fun k g seen => name_out k g.1 g.2 seen, fun m e => by unfold Sre.M.hasFirstSet; rw [e]; rfl⟩
theorem pat_value {c : Cx} {p ci : Addr} {pat fl : Value} {cs : Array Value} {cn : Nat} (h : ∀ h, HasK c.K h → h.get? p = some ⟨.type "re.Pattern", none, .fields #[pat, fl, .int 0 0, .none, .none, .ref ci, .int 0 0], #[]⟩ ∧ h.get? ci = some ⟨.type "tuple", none, .seq cs cn, #[]⟩)
  (hc : (cs.map Builtin.Re.reRawOf).map (·.toNat) = valueCode) : Pat c p (fun k => 31 < k ∧ k ≠ 127 ∨ k = 9) :=
 ⟨ci, pat, fl, cs, cn, valueCode, h, hc, fun k g seen => value_out k g seen, fun m e => by unfold Sre.M.hasFirstSet; rw [e]; rfl⟩
section
variable {c : Cx} {A : Around} {s₀ : Shared} {W₀ Md W : Addr → Prop} {env : Env} {σ : List (Str × D)} {μ : List (Addr × Own)} {s : Shared} {E : Value → Shared → Prop}
noncomputable def Mk (c : Cx) (A : Around) (k : Addr) (ds : List D) (d : D) : Prop :=
 ∀ (W : Addr → Prop) (s : Shared) (E : Value → Shared → Prop) (vs : List Value), HasK c.K s.heap → 0 < s.toks → (∀ a, W a → ∃ o, s.heap.get? a = some o) → RdL W s.heap vs ds →
  wpAny c.M A (call (.ref k) vs) (fun v s' => Kt s s' ∧ Rd W s'.heap v d) E s
theorem Ev.new1 {x : Str} {np pos : Pos} {e : Expr} {k N : Addr} {mN : Str → Option Value} {d r : D} (C : Kls c k N mN) (hf : Ev c A env σ (.Name x np) (.val (.ref k))) (he : Ev c A env σ e d) (hs : starEach [e] env = [(false, eval e env)]) (m : Mk c A k [d] r) :
  Ev c A env σ (.Call (.Name x np) [e] [] pos) r := fun W s E V =>
 cls_call1 C hf he hs V fun v s' K V' rv => wpAny_mono (m W s' E [v] V'.base V'.tok V'.wold (.cons rv .nil)) (fun v s'' q => ⟨K.trans q.1, q.2⟩) fun _ _ e => e
theorem st_pairSwapped (hh : A.handled = none) (ok : EnvOk env) (F : Fr c s₀ W₀ Md W env σ μ s) {x y : Str} {p q pt pos : Pos} {k : Nat} {value : Expr} {d e : D} {Q : Flow → Shared → Prop} (hv : Ev c A env σ value (.tup [d, e])) (hx : Nm env x) (hy : Nm env y)
  (h : ∀ s', Fr c s₀ W₀ Md W env ((x, d) :: (y, e) :: σ) μ s' → Q .next s')
  (hs : swapsWithSole [.Tuple [.Name x p, .Name y q] k pt] value pos.line env = pure false := by rfl) (hw : swappedStores [.Tuple [.Name x p, .Name y q] k pt] value env = pure (some [x, y]) := by rfl) :
  wpAny c.M A (exec (.Assign [.Tuple [.Name x p, .Name y q] k pt] value pos) env) Q E s := by
 refine Assign_Tuple_swapped (hv.use F.view fun v s₁ K₁ V₁ r₁ => ?_) hs hw
 cases r₁ with
 | tup ha ht hl =>
  rename_i a vs
  cases hl2 : vs.toList with
  | nil => rw [hl2] at hl; cases hl
  | cons u us =>
   rw [hl2] at hl
   cases hl with
   | cons r1 hl =>
    cases us with
    | nil => cases hl
    | cons u2 us =>
     cases hl with
     | cons r2 hl =>
      cases hl
      have hsz : vs.size = 2 := by rw [← Array.length_toList, hl2]; rfl
      have e2 : ([x, y] : List Str).length = vs.size := by rw [hsz]; rfl
      rw [e2]
      refine wpAny_unpackItems_tuple hh ht fun h' hx' => ?_
      have k1 : Kt s₁ { s₁ with heap := h' } := ⟨⟨⟨_, s₁.toks, rfl⟩, fun b o e => hx' b o (Nat.ne_of_lt (Heap.lt_size e)) e⟩, Nat.le_refl _⟩
      have F1 := F.keeps (K₁.trans k1)
      have hm : ∀ a, Mine' env [] a → W a := fun a h => (F.md_of (h.imp id (Or.imp id fun ⟨l, h⟩ => nomatch h))).1
      rw [hl2]
      show wpAny _ _ (do holding [u] (bindName env y u2); assignInOrder [fun v => bindName env x v] [u]) _ _ _
      refine wpAny_bind (wpAny_holding (wpAny_bindName (F1.set ok hy (r2.keeps k1.heap) fun s2 F2 U2 => ?_)))
      show wpAny _ _ (do holding [] (bindName env x u); pure ()) _ _ _
      refine wpAny_bind (wpAny_holding (wpAny_bindName (F2.set ok hx (U2.rd hm (r1.keeps k1.heap)) fun s3 F3 U3 => ?_)))
      exact wpAny_pure (h _ F3)
end
section
variable {c : Cx} {A : Around} {W : Addr → Prop} {s : Shared} {E : Value → Shared → Prop}
end
mutual
noncomputable def flat : D → Bool
 | .val _ => true
 | .int _ => true
 | .str _ => true
 | .tup l => flats l
 | .lst _ => false
 | .rng _ _ _ => false
 | .ins _ _ => false
 | .dct _ _ _ => false
 | .byt _ => true
noncomputable def flats : List D → Bool
 | [] => true
 | d :: r => flat d && flats r
end
noncomputable def flat1 : D → Bool
 | .val _ => true
 | .int _ => true
 | .str _ => true
 | .byt _ => true
 | _ => false
theorem Rd.any1 {W W' : Addr → Prop} {h : Heap} {v : Value} {d : D} (r : Rd W h v d) (f : flat1 d = true) : Rd W' h v d := by
 cases r <;> first | exact .val _ | exact .int _ _ | exact .str _ _ | exact .byt _ _ | cases f
theorem Rd.avoid2 {W X : Addr → Prop} {h : Heap} (pl : ∀ l, X l → ∃ o, h.get? l = some o ∧ o.cls ≠ .type "tuple") :
  (∀ v d, Rd W h v d → flat d = true → Rd (fun a => W a ∨ X a) h v d) ∧ (∀ vs ds, RdL W h vs ds → flats ds = true → RdL (fun a => W a ∨ X a) h vs ds) := by
 refine ⟨@Rd.rec W h (fun v d _ => flat d = true → Rd (fun a => W a ∨ X a) h v d) (fun vs ds _ => flats ds = true → RdL (fun a => W a ∨ X a) h vs ds) (fun _ _ _ => True) (fun v _ => .val v) (fun i t _ => .int i t) (fun x t _ => .str x t) ?tup ?lst ?rng ?ins ?dct (fun b t _ => .byt b t) (fun _ => .nil) ?cons trivial (fun _ _ _ _ _ => trivial),
  @RdL.rec W h (fun v d _ => flat d = true → Rd (fun a => W a ∨ X a) h v d) (fun vs ds _ => flats ds = true → RdL (fun a => W a ∨ X a) h vs ds) (fun _ _ _ => True) (fun v _ => .val v) (fun i t _ => .int i t) (fun x t _ => .str x t) ?tup ?lst ?rng ?ins ?dct (fun b t _ => .byt b t) (fun _ => .nil) ?cons trivial (fun _ _ _ _ _ => trivial)⟩
 case tup =>
  intro a vs l ha ht _ ih f
  refine .tup (fun q => q.elim ha fun q => ?_) ht (ih (by rw [flat] at f; exact f))
  obtain ⟨o, e, n⟩ := pl _ q
  obtain ⟨o', e', c, _⟩ := ht
  rw [e] at e'; cases e'; exact n c
 case lst => exact fun _ _ _ _ f => by rw [flat] at f; cases f
 case rng => exact fun _ _ f => by rw [flat] at f; cases f
 case ins => exact fun _ _ _ _ _ _ _ _ f => by rw [flat] at f; cases f
 case dct => exact fun _ _ _ _ _ f => by rw [flat] at f; cases f
 case cons => exact fun _ _ a b f => by rw [flats, Bool.and_eq_true] at f; exact .cons (a f.1) (b f.2)
theorem RdL.avoid {W X : Addr → Prop} {h : Heap} (pl : ∀ l, X l → ∃ o, h.get? l = some o ∧ o.cls ≠ .type "tuple") {vs : List Value} {ds : List D} (r : RdL W h vs ds) (f : flats ds = true) : RdL (fun a => W a ∨ X a) h vs ds := (Rd.avoid2 pl).2 _ _ r f
inductive Rel2 (R : D → D → Prop) : List (Str × D) → List (Str × D) → Prop
 | nil : Rel2 R [] []
 | cons {x : Str} {d e : D} {σ τ : List (Str × D)} : R d e → Rel2 R σ τ → Rel2 R ((x, d) :: σ) ((x, e) :: τ)
theorem Rel2.get {R : D → D → Prop} {σ τ : List (Str × D)} (s : Rel2 R σ τ) : ∀ {x : Str} {e : D}, τ.lookup x = some e → ∃ d, σ.lookup x = some d ∧ R d e := by
 induction s with
 | nil => intro x e q; cases q
 | @cons y _ _ _ _ r _ ih =>
  intro x e q
  rw [List.lookup_cons] at q ⊢
  cases z : x == y with
  | true => rw [z] at q; cases q; exact ⟨_, rfl, r⟩
  | false => rw [z] at q; exact ih q
theorem Rel2.mono {R S : D → D → Prop} (h : ∀ d e, R d e → S d e) {σ τ : List (Str × D)} (s : Rel2 R σ τ) : Rel2 S σ τ := by
 induction s with
 | nil => exact .nil
 | cons r _ ih => exact .cons (h _ _ r) ih
mutual
inductive Res (c : Cx) (μ : List (Addr × Own)) : D → D → Prop
 | same (d : D) : Res c μ d d
 | lst {a : Addr} {l l' : List D} : (a, .l l) ∈ μ → ResL c μ l l' → Res c μ (.val (.ref a)) (.lst l')
 | dct {a : Addr} {kvs kvs' : List (Str × D)} : (a, .d kvs) ∈ μ → kvs.map (·.1) = kvs'.map (·.1) → ResL c μ (kvs.map (·.2)) (kvs'.map (·.2)) → Res c μ (.val (.ref a)) (.dct c.prog c.w kvs')
 | fld {k : Addr} {x : Str} {d e : D} : Res c μ d e → Res c μ (.ins k [(x, d)]) (.ins k [(x, e)])
inductive ResL (c : Cx) (μ : List (Addr × Own)) : List D → List D → Prop
 | nil : ResL c μ [] []
 | cons {d e : D} {l m : List D} : Res c μ d e → ResL c μ l m → ResL c μ (d :: l) (e :: m)
end
theorem ResL.same {c : Cx} {μ : List (Addr × Own)} : ∀ l : List D, ResL c μ l l
 | [] => .nil
 | d :: r => .cons (.same d) (ResL.same r)
noncomputable def NotOwn (W : Addr → Prop) (μ : List (Addr × Own)) (b : Addr) : Prop := W b ∧ ∀ o, (b, o) ∉ μ
theorem Res.rd {c : Cx} {W : Addr → Prop} {h : Heap} {μ : List (Addr × Own)} (own : ∀ a o, (a, o) ∈ μ → OwnAt c W h a o) {d e : D} (S : Res c μ d e) : ∀ {v : Value}, Rd W h v d → Rd (NotOwn W μ) h v e := by
 refine @Res.rec c μ (fun d e _ => ∀ {v : Value}, Rd W h v d → Rd (NotOwn W μ) h v e) (fun l m _ => ∀ {vs : List Value}, RdL W h vs l → RdL (NotOwn W μ) h vs m) ?_ ?_ ?_ ?_ ?_ ?_ d e S
 ·exact fun d v r => r.less fun b h => h.1
 ·intro a l l' hm _ ih v r
  cases r
  obtain ⟨vs, pl, rl⟩ := own _ _ hm
  exact .lst (fun q => q.2 _ hm) (toL pl) (ih rl)
 ·intro a kvs kvs' hm hk _ ih v r
  cases r
  obtain ⟨us, dt, ks, rl⟩ := own _ _ hm
  exact .dct (fun q => q.2 _ hm) dt (ih rl) ⟨ks.1.trans hk, ks.2⟩
 ·intro k x d e _ ih v r
  cases r with
  | ins ha hb ht ho hn hx hf =>
   refine .ins (fun q => ha q.1) (fun q => hb q.1) ht ho hn (fun y q => hx y ?_) ?_
   ·rw [List.lookup_cons] at q ⊢
    split at q
    ·cases q
    ·rfl
   ·cases hf with
    | cons e1 r1 _ => exact .cons e1 (ih r1) .nil
 ·intro vs r; cases r; exact .nil
 ·intro d e l m _ _ i1 i2 vs r
  cases r with
  | cons r1 r2 => exact .cons (i1 r1) (i2 r2)
section
variable {c : Cx} {A : Around} {s₀ : Shared} {W₀ Md W : Addr → Prop} {env : Env} {σ : List (Str × D)} {μ : List (Addr × Own)} {s : Shared} {E : Value → Shared → Prop}
theorem View.peek (V : View c W env σ s) {W' : Addr → Prop} {σ' : List (Str × D)} (hW : ∀ a, W' a → W a) (hσ : Rel2 (fun d0 d => ∀ v, Rd W s.heap v d0 → Rd W' s.heap v d) σ σ') : View c W' env σ' s :=
 ⟨V.base, fun a h => V.wold a (hW a h), V.tok, fun x d hx => let ⟨d0, h0, k⟩ := hσ.get hx; let ⟨v, b, r⟩ := V.vars x d0 h0; ⟨v, b, k v r⟩⟩
theorem Fr.look (F : Fr c s₀ W₀ Md W env σ μ s) {σ' : List (Str × D)} (hσ : Rel2 (Res c μ) σ σ') : View c (NotOwn W μ) env σ' s :=
 F.view.peek (fun _ h => h.1) (hσ.mono fun d e (S : Res c μ d e) v (hv : Rd W s.heap v d) => S.rd (fun a o h => (F.own a o h).2.2.2) hv)
theorem Fr.lookEv (F : Fr c s₀ W₀ Md W env σ μ s) {σ' : List (Str × D)} (hσ : Rel2 (Res c μ) σ σ') {e : Expr} {d : D} (he : Ev c A env σ' e d) (hf : flat1 d = true) :
  wpAny c.M A (eval e env) (fun v s' => Kt s s' ∧ Rd W s'.heap v d) E s :=
 wpAny_mono (he _ s E (F.look hσ)) (fun v s' q => ⟨q.1, q.2.any1 hf⟩) fun _ _ e => e
theorem Fr.lookTv (F : Fr c s₀ W₀ Md W env σ μ s) {σ' : List (Str × D)} (hσ : Rel2 (Res c μ) σ σ') {e : Expr} {b : Bool} {E : Value → Shared → Prop} (he : Tv c A env σ' e b) :
  wpAny c.M A (isTrue e env (eval e env)) (fun v s' => Kt s s' ∧ v = b) E s := he _ s E (F.look hσ)
theorem Fr.lookRdL (F : Fr c s₀ W₀ Md W env σ μ s) {s' : Shared} (K : Kt s s') {vs : List Value} {ds : List D} (r : RdL (NotOwn W μ) s'.heap vs ds) (f : flats ds = true) : RdL W s'.heap vs ds :=
 (RdL.avoid (X := fun b => ∃ o, (b, o) ∈ μ) (fun l ⟨o, h⟩ => by
  obtain ⟨ob, e, _, n⟩ := (F.own l o h).2.2.2.data
  exact ⟨ob, K.heap _ _ e, n⟩) r f).less fun b h => by
   by_cases z : ∃ o, (b, o) ∈ μ
   ·exact .inr z
   ·exact .inl ⟨h, fun o q => z ⟨o, q⟩⟩
theorem Fr.lookRd (F : Fr c s₀ W₀ Md W env σ μ s) {s' : Shared} (K : Kt s s') {v : Value} {d : D} (r : Rd (NotOwn W μ) s'.heap v d) (f : flat d = true) : Rd W s'.heap v d := by
 have := F.lookRdL K (vs := [v]) (ds := [d]) (.cons r .nil) (by rw [flats, flats, f]; rfl)
 cases this with
 | cons a _ => exact a
theorem Fr.lookEvF (F : Fr c s₀ W₀ Md W env σ μ s) {σ' : List (Str × D)} (hσ : Rel2 (Res c μ) σ σ') {e : Expr} {d : D} (he : Ev c A env σ' e d) (hf : flat d = true) :
  wpAny c.M A (eval e env) (fun v s' => Kt s s' ∧ Rd W s'.heap v d) E s :=
 wpAny_mono (he _ s E (F.look hσ)) (fun v s' q => ⟨q.1, F.lookRd q.1 q.2 hf⟩) fun _ _ e => e
theorem Fr.freezeAll (F : Fr c s₀ W₀ Md W env σ μ s) (hf : ∀ a o, (a, o) ∈ μ → s₀.heap.get? a = none) {σ' : List (Str × D)} (hσ : Rel2 (Res c μ) σ σ') : Fr c s₀ W₀ Md (NotOwn W μ) env σ' [] s :=
 {F with
  view := F.look hσ
  wn := fun b h => F.wn b h.1
  w0 := fun b h => ⟨F.w0 b h, fun o q => by obtain ⟨ob, e⟩ := F.w0old b h; rw [hf b o q] at e; cases e⟩
  loc := ⟨⟨F.loc.1, fun o q => (F.own _ o q).2.2.1 rfl⟩, F.loc.2⟩
  cell := fun x b h1 h2 => let ⟨p1, p2, u, p3⟩ := F.cell x b h1 h2; ⟨⟨p1, fun o q => (F.own b o q).2.2.2.ne_cell p3 rfl⟩, p2, u, p3⟩
  own := fun b k hb => nomatch hb
  nd := .nil }
theorem st_ifW (F : Fr c s₀ W₀ Md W env σ μ s) {t : Expr} {body orelse : List Stmt} {pos : Pos} {b : Bool} {Q : Flow → Shared → Prop} (ht : ∀ E, wpAny c.M A (isTrue t env (eval t env)) (fun v s' => Kt s s' ∧ v = b) E s)
  (h1 : b = true → ∀ s', Fr c s₀ W₀ Md W env σ μ s' → wpAny c.M A (execs body env) Q E s') (h2 : b = false → ∀ s', Fr c s₀ W₀ Md W env σ μ s' → wpAny c.M A (execs orelse env) Q E s') : wpAny c.M A (exec (.If t body orelse pos) env) Q E s :=
 wpAny_If (wpAny_mono (ht E) (fun v s₁ q => by
  obtain ⟨K, rfl⟩ := q
  cases v with
  | true => exact h1 rfl _ (F.keeps K)
  | false => exact h2 rfl _ (F.keeps K)) fun _ _ e => e)
theorem st_expr (F : Fr c s₀ W₀ Md W env σ μ s) {e : Expr} {pos : Pos} {d : D} {Q : Flow → Shared → Prop} (he : Ev c A env σ e d) (h : ∀ s', Fr c s₀ W₀ Md W env σ μ s' → Q .next s') (hi : interactive env = false := by rfl) (hs : swapsWith e none pos.line env = pure false := by rfl) :
  wpAny c.M A (exec (.Expr e pos) env) Q E s :=
 wpAny_Expr_any (he.use F.view fun v s₁ K₁ V₁ r₁ => h _ (F.keeps K₁)) hi hs
end
section
variable {prog : Program} {w : World} {A : Around} {E : Value → Shared → Prop} {s : Shared} {env : Env}
theorem sub_slice {value : Expr} {lower upper : Option Expr} {p pos : Pos} {Q : Value → Shared → Prop}
  (h : wpAny (model prog w) A (eval value env) (fun o s₁ => wpAny (model prog w) A (evalPart lower env) (fun vl s₂ => wpAny (model prog w) A (evalPart upper env) (fun vu s₃ =>
   ∃ l items lo hi, o = .ref l ∧ s₃.heap.IsList l items ∧ items.size ≤ sizeLine ∧ IsPart vl lo ∧ IsPart vu hi ∧
    Q (.ref (s₃.heap.objs.size + 1)) { s₃ with heap := (s₃.heap.push { cls := .type "slice", data := .fields #[vl, vu, .none] }).push { cls := .type "list", data := .seq (slicePick items lo hi none) } }) E s₂) E s₁) E s) :
  wpAny (model prog w) A (eval (.Subscript value (.Slice lower upper none p) pos) env) Q E s := by
 refine Subscript_ (wpAny_mono h (fun o s₁ h₁ => wpAny_Slice (wpAny_mono h₁ (fun vl s₂ h₂ => wpAny_mono h₂ (fun vu s₃ h₃ => ?_) fun _ _ e => e) fun _ _ e => e)) fun _ _ e => e)
 obtain ⟨l, items, lo, hi, rfl, hl, hsz, pl, pu, hQ⟩ := h₃
 rw [evalPart_none]
 refine wpAny_pure (tail_any (hl.push _).typeIs list_getitem_lookup (ops := [.ref s₃.heap.objs.size, .ref l]) (wpAny_getItem_list_slice (hl.push _) (Heap.IsSliceOf.new ..) pl pu .none (by simp) ?_ hsz) (by rfl))
 rw [Heap.size_push]
 exact hQ
end
section
variable {c : Cx} {A : Around} {env : Env} {σ : List (Str × D)} {W : Addr → Prop} {s : Shared} {E : Value → Shared → Prop}
theorem Ev.sliceAllT {value : Expr} {p pos : Pos} {l : List D} (hv : Ev c A env σ value (.lst l)) (hn : l.length ≤ 1000000) :
  Ev c A env σ (.Subscript value (.Slice Option.none Option.none Option.none p) pos) (.lst l) := fun W s E V =>
 sub_slice (hv.use V fun v s₁ K₁ V₁ r₁ => wpAny_evalPart_none (wpAny_evalPart_none (by
  cases r₁ with
  | lst ha ht hr =>
   rename_i b vs
   have el : vs.size = l.length := by rw [← hr.length]; simp
   refine ⟨b, vs, Option.none, Option.none, rfl, ht.isList, by rw [el, sizeLine_eq]; omega, .none, .none, ?_⟩
   rw [pick_all]
   exact slice_end V K₁ hr)))
end
section
variable {c : Cx} {A : Around} {s : Shared} {W₀ Md : Addr → Prop} {E : Value → Shared → Prop}
end
section
variable {c : Cx} {A : Around} {s₀ : Shared} {W₀ Md W : Addr → Prop} {env : Env} {σ : List (Str × D)} {μ : List (Addr × Own)} {s : Shared} {E : Value → Shared → Prop}
theorem Fr.stand (F : Fr c s₀ W₀ Md W env σ μ s) {W' : Addr → Prop} {σ' : List (Str × D)} (hW : ∀ a, W' a → W a) (hM : ∀ a, Mine' env [] a → W' a) (hσ : Rel2 (fun d0 d => ∀ v, Rd W s.heap v d0 → Rd W' s.heap v d) σ σ') :
  Fr c s W' (Mine' env []) W' env σ' [] s :=
 {view := F.view.peek hW hσ
  base0 := F.view.base
  up := .refl s
  w0 := fun a h => h
  wn := fun a h => .inl h
  w0old := fun a h => F.view.wold a (hW a h)
  mdW := hM
  mdK := fun a h => F.kn (F.md_of (h.imp id (Or.imp id fun ⟨l, h⟩ => nomatch h))).2
  loc := ⟨hM _ (.inl rfl), .inl (.inl rfl)⟩
  ns := F.ns
  cell := fun x a h1 h2 => let ⟨q1, q2, q3⟩ := F.cell x a h1 h2; ⟨hM _ (.inr (.inl ⟨x, h1, h2⟩)), .inl (.inr (.inl ⟨x, h1, h2⟩)), q3⟩
  inj := F.inj
  own := fun a l h => nomatch h
  nd := .nil }
theorem Fr.rebaseX (F : Fr c s₀ W₀ Md W env σ μ s) {X : Addr → Prop} (hX : ∀ a, X a → W a ∧ c.K a = none) : Fr c s W (fun a => Mine' env μ a ∨ X a) W env σ μ s :=
 {F with
  base0 := F.view.base
  up := .refl s
  w0 := fun a h => h
  wn := fun a h => .inl h
  w0old := F.view.wold
  mdW := fun a h => h.elim (fun h => (F.md_of h).1) fun h => (hX a h).1
  mdK := fun a h => h.elim (fun h => F.kn (F.md_of h).2) fun h => (hX a h).2
  loc := ⟨F.loc.1, .inl (.inl (.inl rfl))⟩
  cell := fun x a h1 h2 => let ⟨q1, q2, q3⟩ := F.cell x a h1 h2; ⟨q1, .inl (.inl (.inr (.inl ⟨x, h1, h2⟩))), q3⟩
  own := fun a l h => let ⟨q1, q2, q3⟩ := F.own a l h; ⟨q1, .inl (.inl (.inr (.inr ⟨l, h⟩))), q3⟩ }
end
structure YT (c : Cx) (A : Around) (W : Addr → Prop) (s s' : Shared) (I : Addr) (fp wr : List Addr) (l : List D) (Pt : Nat → Array Value → Prop) (St : Nat → Heap → Prop) (Mid : Nat → Addr → Heap → Prop) : Prop where
 w : WalksT c.prog c.w A I fp wr l.length Pt St Mid
 st : St 0 s'.heap
 kt : Kt s s'
 me : I ∈ wr
 fresh : ∀ b ∈ wr, s.heap.get? b = none ∧ ∃ o, s'.heap.get? b = some o
 there : ∀ i h, (St i h ∨ ∃ T, Mid i T h) → ∀ b ∈ wr, (∃ o, h.get? b = some o) ∧ (∀ m, ¬ h.Ns b m) ∧ (∀ v, ¬ h.IsCell b v)
 fpo : ∀ b ∈ fp, b ∈ wr ∨ (¬ W b ∧ ∃ o, s.heap.get? b = some o) ∨ (s.heap.get? b = none ∧ ∃ o, s'.heap.get? b = some o)
 pt : ∀ i vals, i < l.length → Pt i vals → ∃ d e u v, l[i]? = some (.tup [d, e]) ∧ vals = #[u, v] ∧ Rd (fun b => W b ∨ b ∈ wr) s'.heap u d ∧ Rd (fun b => W b ∨ b ∈ wr) s'.heap v e
noncomputable def ItrE (c : Cx) (A : Around) (env : Env) (σ : List (Str × D)) (iter : Expr) (l : List D) : Prop :=
 ∀ (W : Addr → Prop) (s : Shared) (E : Value → Shared → Prop) (Q : Value → Shared → Prop), View c W env σ s →
  (∀ I fp wr Pt St Mid s', YT c A W s s' I fp wr l Pt St Mid → Q (.ref I) s') → wpAny c.M A (eval iter env) (fun x s₁ => wpAny c.M A (pyIter x) Q E s₁) E s
section
variable {c : Cx} {A : Around} {s₀ : Shared} {W₀ Md W : Addr → Prop} {env : Env} {σ : List (Str × D)} {μ : List (Addr × Own)} {s : Shared} {E : Value → Shared → Prop}
theorem Fr.scrapP (F : Fr c s₀ W₀ Md W env σ μ s) {Mo : Addr → Prop} {t : Shared} (U : Upd Mo s t) (hW : ∀ a, Mo a → W a) (h0 : ∀ a, Mo a → s₀.heap.get? a = none)
  (neL : ¬ Mo env.locals) (hc : ∀ a, Mo a → ∀ v, ¬ s.heap.IsCell a v) (hl : ∀ a o, Mo a → (a, o) ∉ μ) : Fr c s₀ W₀ Md (fun a => W a ∧ ¬ Mo a) env σ μ t := by
 obtain ⟨m, n⟩ := F.ns
 have less : ∀ a, W a ∧ ¬ Mo a → W a := fun a h => h.1
 have kk : ∀ b o, ¬ Mo b → s.heap.get? b = some o → t.heap.get? b = some o := U.keep
 exact { F with
  view := {
   base := fun a o e => kk a o (fun q => by rw [F.kn (.inr (h0 a q))] at e; cases e) (F.view.base a o e)
   wold := fun a h => let ⟨o, e⟩ := F.view.wold a h.1; ⟨o, kk a o h.2 e⟩
   tok := Nat.lt_of_lt_of_le F.view.tok U.tk
   vars := fun y e hy => by
    obtain ⟨u, b, ru⟩ := F.view.vars y e hy
    refine ⟨u, ?_, (U.rd hW ru).less less⟩
    unfold Bnd at b ⊢
    split at b
    ·obtain ⟨m₀, n₀, e₀⟩ := b; exact ⟨m₀, n₀.at fun o e => kk _ o neL e, e₀⟩
    ·obtain ⟨b, o, e1, e2, e3⟩ := b; exact ⟨b, o, e1, kk b o (fun q => hc b q _ (⟨o, e2, e3⟩ : s.heap.IsCell b (some u))) e2, e3⟩
    ·obtain ⟨b, o, e1, e2, e3⟩ := b; exact ⟨b, o, e1, kk b o (fun q => hc b q _ (⟨o, e2, e3⟩ : s.heap.IsCell b (some u))) e2, e3⟩
    ·exact b
    ·exact b }
  up := ⟨by obtain ⟨h1, t1, q1⟩ := F.up.eq; obtain ⟨h2, t2, q2⟩ := U.eq; exact ⟨h2, t2, by rw [q2, q1]⟩, Nat.le_trans F.up.tk U.tk, fun b o hb e => kk b o (fun q => by rw [h0 b q] at e; cases e) (F.up.keep b o hb e)⟩
  w0 := fun a h => ⟨F.w0 a h, fun q => by obtain ⟨o, e⟩ := F.w0old _ h; rw [h0 a q] at e; cases e⟩
  wn := fun a h => F.wn a h.1
  loc := ⟨⟨F.loc.1, neL⟩, F.loc.2⟩
  ns := ⟨m, n.at fun o e => kk _ o neL e⟩
  cell := fun y b h1 h2 => let ⟨p1, p2, u, p3⟩ := F.cell y b h1 h2; have ne : ¬ Mo b := fun q => hc b q _ p3; ⟨⟨p1, ne⟩, p2, u, IsCell.atK p3 fun o e => kk b o ne e⟩
  own := fun b k hb => let ⟨p1, p2, p3, p4⟩ := F.own b k hb; have ne : ¬ Mo b := fun q => hl b k q hb; ⟨⟨p1, ne⟩, p2, p3, p4.keep (fun o e => kk b o ne e) fun v d r => (U.rd hW r).less less⟩ }
end
section
variable {c : Cx} {A : Around} {env : Env} {σ : List (Str × D)}
theorem fields_no {h : Heap} {I : Addr} {o : Obj} {vs : Array Value} (e1 : h.get? I = some o) (e3 : o.data = .fields vs) :
  (∃ o, h.get? I = some o) ∧ (∀ m, ¬ h.Ns I m) ∧ (∀ v, ¬ h.IsCell I v) := ⟨⟨_, e1⟩, (iter_ne e1 e3).1, (iter_ne e1 e3).2⟩
end
section
variable {c : Cx} {A : Around} {env : Env} {σ : List (Str × D)}
end
section
variable {c : Cx} {A : Around} {env : Env} {σ : List (Str × D)}
end
section
variable {c : Cx} {A : Around} {env : Env} {σ : List (Str × D)} {W : Addr → Prop} {s : Shared}
end
section
variable {c : Cx} {A : Around} {s₀ : Shared} {W₀ Md W : Addr → Prop} {env : Env} {σ : List (Str × D)} {μ : List (Addr × Own)} {s : Shared} {E : Value → Shared → Prop}
end
section
variable {c : Cx} {A : Around} {s₀ : Shared} {W₀ Md W : Addr → Prop} {env : Env} {σ : List (Str × D)} {μ : List (Addr × Own)} {s : Shared} {E : Value → Shared → Prop}
end
section
variable {prog : Program} {w : World} {A : Around} {E : Value → Shared → Prop} {s : Shared}
end
section
variable {c : Cx} {A : Around} {s₀ : Shared} {W₀ Md W : Addr → Prop} {env : Env} {σ : List (Str × D)} {μ : List (Addr × Own)} {s : Shared} {E : Value → Shared → Prop}
end
section
variable {prog : Program} {w : World} {A : Around} {E : Value → Shared → Prop} {s : Shared}
end
end Mine
end
section
open PySem PySem.W PyProof.Rows PySem.Calls Builtin Builtin.ObjectAttr
namespace Mine
section
variable {prog : Program} {w : World} {A : Around} {E : Value → Shared → Prop} {h : Heap} {g : Array GenState} {d : Drawn} {t : Nat} {os : OsState}
variable {nm q : Str} {C N x : Addr} {bs : List Value} {sn : List Str} {sub : List Value} {ab : Bool} {col : Option Bool} {dd : Option Addr} {k0 k1 k2 k3 k5 : Option Value} {newId : String}
 {mN mA : Str → Option Value} {name : Str} {v : Value}
end
end Mine
end
section
open PySem PySem.W PyProof.Rows PySem.Calls
namespace Mine
section
variable {c : Cx} {A : Around} {env : Env} {σ : List (Str × D)} {W : Addr → Prop} {s : Shared} {E : Value → Shared → Prop}
end
section
variable {c : Cx} {A : Around} {env : Env} {σ : List (Str × D)} {W : Addr → Prop} {s : Shared} {E : Value → Shared → Prop}
end
theorem entry_itemiter_iter : entryFor table "dict_itemiterator.__iter__" = some Builtin.«dict_keyiterator.__iter__» :=
 entryFor_alias (id' := "dict_keyiterator.__iter__") (by kernel_rfl) rfl (by decide +kernel) (by kernel_rfl)
theorem walksT_items {prog : Program} {w : World} {A : Around} (hh : A.handled = none) (I d : Addr) (hne : d ≠ I) (kvs : List (Str × Value)) (ep : Nat) :
  WalksT prog w A I [I, d] [I] kvs.length
   (fun i vals => ∃ k v key, kvs[i]? = some (k, v) ∧ (strKind prog w).is k key = true ∧ vals = #[key, v])
   (fun i h => (∃ ok ov, IsItemIter h I d i kvs.length ep ok ov) ∧ h.DictAt (strKind prog w) d kvs ep)
   (fun i T h => (∃ ok ov, IsItemIterOut h I d (i + 1) kvs.length ep ok ov T) ∧ h.DictAt (strKind prog w) d kvs ep ∧ T ≠ I) where
 sub := fun b hb => by
  simp only [List.mem_cons, List.not_mem_nil, or_false] at hb ⊢
  exact .inl hb
 frame := fun i h h' hst hk => by
  obtain ⟨⟨ok, ov, he⟩, hd⟩ := hst
  exact ⟨⟨ok, ov, hk I (by simp) _ he⟩, hd.at fun o x => hk d (by simp) o x⟩
 item := fun i s Q E hi hst hQ => by
  obtain ⟨⟨ok, ov, he⟩, hd⟩ := hst
  obtain ⟨k, v, hx⟩ : ∃ k v, kvs[i]? = some (k, v) := ⟨kvs[i].1, kvs[i].2, by rw [List.getElem?_eq_getElem hi]⟩
  refine wpAny_pyNext_items_item he hd hx fun key h' hkey ho hT hsz hk => ?_
  have hI : I < s.heap.objs.size := Heap.lt_size he
  exact hQ s.heap.objs.size #[key, v] h' s.toks ⟨k, v, key, hx, hkey, rfl⟩ (Nat.le_refl _) ⟨_, hT, rfl, _, rfl⟩
   ⟨⟨key, v, ho⟩, hd.at fun o x => hk d o hne x, Nat.ne_of_gt hI⟩
   fun b o hb x => hk b o (fun e' => hb (by simp [e'])) x
 go := fun elts k pos i T s Q E hm hQ => by
  obtain ⟨⟨ok, ov, ho⟩, hd, hTe⟩ := hm
  refine wpAny_letOwnedTupleGo_items ho fun h' he' hs' => hQ h' ⟨⟨ok, ov, he'⟩, hd.at fun o y => (hs'.2 d hne).trans y⟩ fun b o hb y => ?_
  exact (hs'.2 b fun e' => hb (by simp [e'])).trans y
 apart := fun i T h hm hT => by
  obtain ⟨_, _, hTe⟩ := hm
  simp only [List.mem_cons, List.not_mem_nil, or_false] at hT
  exact hTe hT
 done := fun s Q E hst hQ => by
  obtain ⟨⟨ok, ov, he⟩, hd⟩ := hst
  exact wpAny_pyNext_items_end hh he hd (List.getElem?_eq_none (Nat.le_refl _)) fun h' hx => hQ h' s.toks fun b o hb y => hx b o (fun e' => hb (by simp [e'])) y
 self := fun i s Q E hst hQ => by
  obtain ⟨⟨ok, ov, he⟩, _⟩ := hst
  have hT : s.TypeIs (.ref I) "dict_itemiterator" := ⟨_, he, rfl⟩
  refine wpAny_pyIter_slot hT F.slot_dict_itemiterator_iter (wpAny_call_entry F.slot_dict_itemiterator_iter hT entry_itemiter_iter ?_ (F.args_dict_itemiterator_iter_1 _))
  show wpAny _ _ (ret (.ref I)) _ _ s
  exact wpAny_pure ⟨_, rfl, "dict_itemiterator", _, hT, F.slot_dict_itemiterator_next.lookup, hQ⟩
noncomputable def itemsD (kvs : List (Str × D)) : List D := kvs.map fun kv => .tup [.str kv.1, kv.2]
section
variable {c : Cx} {A : Around} {env : Env} {σ : List (Str × D)}
theorem ItrE.items (hh : A.handled = none) {o : Expr} {apos p : Pos} {kvs : List (Str × D)} (ho : Ev c A env σ o (.dct c.prog c.w kvs)) (hbase : attributeBase o "items" env (eval o env) = eval o env) (hline : (apos.endLine == p.line) = true) :
  ItrE c A env σ (.Call (.Attribute o "items" apos) [] [] p) (itemsD kvs) := fun W s E Q V h => by
 refine wpAny_Call_method (T := "dict") (id := "dict.items") hbase rfl hline F.plainAttrs_dict F.slot_dict_items F.type_dict_items (ho.use V fun v s₁ K₁ V₁ r₁ => ?_)
 cases r₁ with
 | dct ha hd hl he =>
  rename_i d us
  refine ⟨hd.typeIs, hd.mapOf.noDict, ?_⟩
  show wpAny _ _ (callWith p (.builtin "dict.items") [.ref d] [] []) _ _ _
  refine method_meetsIn F.slot_dict_items F.entry_dict_items rfl (PySem.evalArgs_none ⟨rfl, hd.typeIs, F.args_dict_items_1 _, _, meets_dict_items (strKind c.prog c.w) d he.2, ⟨us, hd⟩, ?_⟩)
  obtain ⟨o, es, ep, e1, e2, e3, e4, e5, e6⟩ := id hd
  have K2 : Kt s₁ { s₁ with heap := s₁.heap.push { cls := .type "dict_items", data := .fields #[.ref d] } } := ⟨.push _, Nat.le_refl _⟩
  have hv : ({ s₁ with heap := s₁.heap.push { cls := .type "dict_items", data := .fields #[.ref d] } } : Shared).heap.IsItemsView s₁.heap.objs.size d := ⟨_, Heap.get?_push_size _ rfl, rfl, rfl⟩
  show wpAny _ _ (pyIter (.ref s₁.heap.objs.size)) _ _ _
  generalize ({ s₁ with heap := s₁.heap.push { cls := .type "dict_items", data := .fields #[.ref d] } } : Shared) = s₂ at K2 hv ⊢
  generalize s₁.heap.objs.size = vw at hv ⊢
  have hm : s₂.heap.DictAt (strKind c.prog c.w) d us ep := ⟨o, es, K2.heap _ _ e1, e2, e3, e4, e5, e6⟩
  have KK := K₁.trans K2
  have hl2 := hl.keeps K2.heap
  have ul : us.length = kvs.length := by have := congrArg List.length he.1; simpa using this
  have ilen : (itemsD kvs).length = us.length := by unfold itemsD; rw [List.length_map, ul]
  have none_of : s.heap.get? s₂.heap.objs.size = none := by
   cases q : s.heap.get? s₂.heap.objs.size with
   | none => rfl
   | some o => exact absurd (Heap.lt_size (KK.heap _ _ q)) (Nat.lt_irrefl _)
  have dI : d ≠ s₂.heap.objs.size := fun q => by have := Heap.lt_size (K2.heap _ _ e1); rw [← q] at this; exact Nat.lt_irrefl _ this
  have Wk := walksT_items (prog := c.prog) (w := c.w) hh s₂.heap.objs.size d dI us ep
  rw [← ilen] at Wk
  refine wpAny_pyIter_items hv hm ?_
  have K3 : Kt s₂ { s₂ with heap := s₂.heap.push { cls := .type "dict_itemiterator", data := .fields #[.none, .bool false, .ref d, .int 0 0, .int us.length 0, .int ep 0, .none, .none] } } := ⟨.push _, Nat.le_refl _⟩
  refine h s₂.heap.objs.size [s₂.heap.objs.size, d] [s₂.heap.objs.size] _ _ _ _
   {w := Wk
    st := ⟨⟨.none, .none, by rw [ilen]; exact Heap.get?_push_size _ rfl⟩, hm.at fun o e => K3.heap _ _ e⟩
    kt := KK.trans K3
    me := List.mem_cons_self ..
    fresh := fun b hb => by
     simp only [List.mem_cons, List.not_mem_nil, or_false] at hb
     subst hb
     exact ⟨none_of, _, Heap.get?_push_size _ rfl⟩
    there := fun i g hg b hb => by
     simp only [List.mem_cons, List.not_mem_nil, or_false] at hb
     subst hb
     rcases hg with ⟨⟨ok, ov, g1⟩, _⟩ | ⟨T, ⟨ok, ov, g1⟩, _⟩
     ·exact fields_no g1 rfl
     ·exact fields_no g1 rfl
    fpo := fun b hb => by
     simp only [List.mem_cons, List.not_mem_nil, or_false] at hb
     rcases hb with rfl | rfl
     ·exact .inl (List.mem_cons_self ..)
     ·cases q : s.heap.get? b with
      | some o => exact .inr (.inl ⟨ha, o, rfl⟩)
      | none => exact .inr (.inr ⟨rfl, o, K3.heap _ _ (K2.heap _ _ e1)⟩)
    pt := fun i vals hi hp => ?_ }
  obtain ⟨k, v, key, hk, hkey, rfl⟩ := hp
  have hik : i < kvs.length := by rw [ilen, ul] at hi; exact hi
  have e2' : (us.map (·.1))[i]? = (kvs.map (·.1))[i]? := by rw [he.1]
  rw [List.getElem?_map, List.getElem?_map, hk, List.getElem?_eq_getElem hik] at e2'
  have hd2 : (kvs.map (·.2))[i]? = some kvs[i].2 := by rw [List.getElem?_map, List.getElem?_eq_getElem hik]; rfl
  obtain ⟨v', hv', rv⟩ := hl2.get hd2
  rw [List.getElem?_map, hk] at hv'
  simp only [Option.map_some, Option.some.injEq] at hv' e2'
  subst hv'
  obtain ⟨t, ht⟩ := Value.isStrOf_shape hkey
  subst ht
  refine ⟨.str k, kvs[i].2, _, v, ?_, rfl, .str _ _, ?_⟩
  ·unfold itemsD
   rw [List.getElem?_map, List.getElem?_eq_getElem hik, e2']; rfl
  ·exact (rv.grow fun b hb => hb.imp id fun q => by
    simp only [List.mem_cons, List.not_mem_nil, or_false] at q
    rw [q]; exact size_none).keeps K3.heap
end
end Mine
end
section
open PySem PySem.W PyProof.Rows PySem.Calls Builtin Builtin.Str
namespace Mine
theorem meets_colon (a b : PySem.Str) (u v t : Tok) (adr : Addr) (ha : a.length ≤ 1000000) (hb : b.length ≤ 1000000) :
  Meets («str.__mod__» ⟨[.str ⟨#[37, 115, 58, 32, 37, 115]⟩ t, .ref adr], []⟩) (fun _ R s => IsTup s.heap adr #[.str a u, .str b v] ∧ ∀ t' k, R (.ok (.ret (.str (a ++ PySem.Str.ofString ": " ++ b) t'))) { s with toks := k }) := by
 kpt_run
section
variable {c : Cx} {A : Around} {env : Env} {σ : List (Str × D)} {W : Addr → Prop} {s : Shared} {E : Value → Shared → Prop}
theorem Bop.mod2 {X X' a b : PySem.Str} {T : PySem.Str} (hX : X = X')
  (hm : ∀ (u v t : Tok) (adr : Addr), Meets («str.__mod__» ⟨[.str X' t, .ref adr], []⟩) (fun _ R s => IsTup s.heap adr #[.str a u, .str b v] ∧ ∀ t' k, R (.ok (.ret (.str T t'))) { s with toks := k })) :
  Bop c A .Mod (.str X) (.tup [.str a, .str b]) (.str T) := fun W s E u v _ _ ru rv => by
 subst hX
 cases ru
 cases rv with
 | tup ha ht hl =>
  rename_i t adr vs
  obtain ⟨vl⟩ := vs
  have hl : RdL W s.heap vl [.str a, .str b] := hl
  cases vl with
  | nil => cases hl
  | cons p ps =>
   cases hl with
   | cons r1 hl =>
    cases ps with
    | nil => cases hl
    | cons q qs =>
     cases hl with
     | cons r2 hl =>
      cases hl
      cases r1; cases r2
      have hT : s.TypeIs (.ref adr) "tuple" := by
       obtain ⟨o, ho, hc, _⟩ := ht
       exact ⟨o, ho, hc⟩
      exact KPt.bin_left (T := "str") (U := "tuple") (op := .Mod) (by decide) (typeIs_str s X t) hT F.fills_str_mod KPt.fills_tuple F.slot_str_mod
       (call_meets F.slot_str_mod (typeIs_str s X t) F.entry_str_mod (F.args_str_mod_2 _ _) (hm _ _ _ _) ⟨ht, fun t' k => ⟨(fun e => nomatch e), ⟨⟨_, k, rfl⟩, fun _ _ e => e⟩, .str _ _⟩⟩)
end
end Mine
end
section
open PySem PySem.W PyProof.Rows PySem.Calls
namespace Mine
section
variable {c : Cx} {A : Around} {env : Env} {σ : List (Str × D)} {W : Addr → Prop} {s : Shared} {E : Value → Shared → Prop}
theorem str_of_own {prog : Program} {w : World} {A : Around} {E : Value → Shared → Prop} {s : Shared} {x C f : Addr} {B : String} {Q : Value → Shared → Prop} (hu : A.in1.in1.units < cLine) (X : s.heap.OwnSpecial x C f B "__str__")
  (h : wpAny (model prog w) A.in1.in1 (call (.ref f) [.ref x]) (fun r s' => ∃ y u, r = .str y u ∧ Q r s') E s) : wpAny (model prog w) A (call (.type "str") [.ref x]) Q E s := by
 refine callType_codes (T := "str") (Bi := Builtin.«object.__init__») (Q₁ := fun r s₁ => ∃ y u, r = .str y u ∧ Q r s₁) PySem.F.called_str (PySem.F.typeCall_str_1 _) PySem.F.entry_object_init ?_ ?_
 ·refine codeAny_of_tree ?_
  show wpAny _ A.in1.in1 (do checkBuiltinCall "str.__new__" ⟨[.type "str", .ref x], []⟩; again (.builtin "str.__new__" ⟨[.type "str", .ref x], []⟩)) _ _ s
  refine wpAny_bind (wpAny_of_eq (PySem.F.newCall_str_1 _) (wpAny_pure ⟨plainId_quiet (by decide +kernel) _, codeAny_builtin PySem.F.entry_str_new ?_⟩))
  rw [Around.under_plainId (by decide +kernel) _]
  rw [str_new_tree]
  refine wpAny_bind (wpAny_pure ?_)
  refine wpAny_bind (wpAny_of_eq isSubtype_str_str ?_)
  refine wpAny_bind (wpAny_mono (Q := fun r s₁ => ∃ y u, r = .str y u ∧ Q r s₁) (E := E) ?_ (fun r s₁ hr => wpAny_pure hr) fun _ _ y => y)
  unfold PySem.Builtin.Str.strOf
  rw [show PySem.Builtin.Str.isExactStr (.ref x) = false from rfl]
  refine wpAny_bind (m := cRoomFor _ _) (wpAny_cRoomFor hu ?_)
  obtain ⟨hh, g, d, tk, os⟩ := s
  refine wpAny_bind (m := callSpecial? (.ref x) (Str.ofString "__str__")) (wpAny_callSpecial?_own X (wpAny_mono h (fun r s' hr => ?_) fun _ _ y => y))
  obtain ⟨y, u, rfl, hq⟩ := hr
  exact wpAny_pure ⟨y, u, rfl, hq⟩
 ·rintro obj s₁ ⟨y, u, rfl, hq⟩
  exact ⟨typeIs_str _ _ _, PySem.F.args_object_init_2 _ _, object_init_meets PySem.F.called_str.init.lookup PySem.F.called_str.made (by decide) prog w A.in1 _ s₁ ⟨typeIs_str _ _ _, rfl, hq⟩⟩
theorem obj_str : ∃ y, typeLookup (.type "object") "__str__" = pure y := ⟨some (.builtin "object.__str__"), by rw [typeLookup_type, builtinLookup_eq_fast]; kernel_rfl⟩
theorem Ev.strOwn {x : Str} {np p : Pos} {e : Expr} {k N fa : Addr} {mN : Str → Option Value} {fs : List (Str × D)} {fd : FuncData} {body : List Stmt} {X : Str} (C : Kls c k N mN) (hf : Ev c A env σ (.Name x np) (.val (.type "str"))) (he : Ev c A env σ e (.ins k fs)) (hs : starEach [e] env = [(false, eval e env)])
  (hm : mN "__str__" = some (.ref fa)) (fn : Fun c fa fd body) (hfc : ∀ h o, HasK c.K h → h.get? fa = some o → o.cls = .type "function") (hu : A.in1.in1.units < cLine) (hp : Pf c A.in1.in1 fa [.ins k fs] [] (.str X)) :
  Ev c A env σ (.Call (.Name x np) [e] [] p) (.str X) := fun W s E V =>
 Call_name1 hs (hf.use V fun f s₁ k₁ V₁ r₁ => by
  cases r₁
  refine PySem.callWith_type1 (he.use V₁ fun v s₂ k₂ V₂ r₂ => ?_)
  obtain ⟨t, m, rfl, I, hx, rf⟩ := r₂.inst
  obtain ⟨o, hfo, hd⟩ := fn.at_ _ V₂.base
  have hfc' := hfc _ _ V₂.base hfo
  have Xc := C.at_ _ V₂.base
  obtain ⟨nm, q, bs, sn, sub, col, dd, k0, k1, k2, k3, k5, hC⟩ := Xc.obj
  obtain ⟨y, hy⟩ := obj_str
  obtain ⟨ot, e1, e2, _⟩ := I
  refine str_of_own (B := "object") hu ⟨ot, o, nm, q, _, bs, _, _, sn, sub, _, col, dd, k0, k1, k2, k3, k5, _, mN, y, e1, e2, hC, Xc.ns, hm, hfo, hfc', F.mro_object, hy⟩ ?_
  refine wpAny_mono (hp W s₂ E [.ref t] [] V₂.base V₂.tok V₂.wold (.cons r₂ .nil) .nil) (fun r s₃ q => ?_) fun _ _ e => e
  obtain ⟨K, rr⟩ := q
  cases rr
  exact ⟨_, _, rfl, (k₁.trans k₂).trans K, .str _ _⟩)
end
section
variable {prog : Program} {w : World} {A : Around} {E : Value → Shared → Prop} {d : Addr}
end
section
variable {c : Cx} {A : Around} {env : Env} {σ : List (Str × D)} {W : Addr → Prop} {s : Shared} {E : Value → Shared → Prop}
theorem Tv.cast {e : Expr} {a b : Bool} (h : Tv c A env σ e a) (q : a = b) : Tv c A env σ e b := q ▸ h
theorem Ev.cast {e : Expr} {a b : D} (h : Ev c A env σ e a) (q : a = b) : Ev c A env σ e b := q ▸ h
theorem Ev.compM {elt iter : Expr} {x : Str} {px : Pos} {scope : Scope} {pos : Pos} {cl : List (Str × Addr)} {di : D} {α : Type} {xs : List α} {g f : α → D} {σc : List (Str × D)}
  (hh : A.handled = Option.none) (ok : EnvOk env) (hi : Ev c A env σ iter di) (it : Itr c A di (xs.map g)) (hinj : ∀ a b, g a = g b → a = b) (hn : xs.length ≤ 1000000)
  (hclos : closureFor scope env = pure cl) (hcell : ∀ y ∈ scope.names, y.2 ≠ .cell) (hkind : scope.kind = .function) (hnames : ∀ y ∈ scope.names, y.2 = .local → scope.names.lookup y.1 = some .local) (cap : Cap env scope cl σ σc)
  (hx : ∀ C, (compEnvC scope cl C env).kindOf x = some .local)
  (step : ∀ C a, a ∈ xs → Ev c A (compEnvC scope cl C env) ((x, g a) :: σc) elt (f a)) (hs : ∀ x, foldedSetIterable iter env x = pure x := by intro _; rfl) :
  Ev c A env σ (.ListComp elt [⟨.Name x px, iter, [], 0⟩] scope pos) (.lst (xs.map f)) := by
 classical
 have key : ((xs.map g).filter (fun _ => true)).map (fun d => if h : ∃ a ∈ xs, g a = d then f h.choose else .val .none) = xs.map f := by
  rw [List.filter_eq_self.mpr (by simp), List.map_map]
  refine List.map_congr_left fun a ha => ?_
  have h : ∃ b ∈ xs, g b = g a := ⟨a, ha, rfl⟩
  show (if h : ∃ b ∈ xs, g b = g a then f h.choose else .val .none) = f a
  rw [dif_pos h]
  exact congrArg f (hinj _ _ h.choose_spec.2)
 rw [← key]
 refine Ev.comp hh ok hi it (by rw [List.length_map]; exact hn) hclos hcell hkind hnames cap (fun C d hd => ?_) hs
 obtain ⟨a, ha, rfl⟩ := List.mem_map.mp hd
 refine ⟨_, .name (hx C), .nil, fun _ => ?_⟩
 have h : ∃ b ∈ xs, g b = g a := ⟨a, ha, rfl⟩
 rw [dif_pos h, hinj _ _ h.choose_spec.2]
 exact step C a ha
end
section
variable {c : Cx} {A : Around} {s₀ : Shared} {W₀ Md W : Addr → Prop} {env : Env} {σ : List (Str × D)} {μ : List (Addr × Own)} {s : Shared} {E : Value → Shared → Prop}
theorem new_own (F : Fr c s₀ W₀ Md W env σ μ s) {vs : List Value} {ds : List D} {Q : Value → Shared → Prop} (r : RdL W s.heap vs ds) (hn : ds.length ≤ 1000000)
  (h : ∀ a s', s₀.heap.get? a = none → Fr c s₀ W₀ Md (fun b => W b ∨ b = a) env σ ((a, .l ds) :: μ) s' → Q (.ref a) s') : wpAny c.M A (newList vs) Q E s := by
 refine wpAny_newObj_type ?_ (by show vs.toArray.size ≤ 2 ^ 24; rw [List.size_toArray, r.length]; omega)
 have ha : s.heap.get? s.heap.objs.size = none := size_none
 have K : Kt s { s with heap := s.heap.push { cls := .type "list", data := .seq vs.toArray } } := ⟨.push _, Nat.le_refl _⟩
 exact h _ _ (F.fresh ha) (F.adopt K ha ⟨0, Heap.get?_push_size _ rfl⟩ (by rw [List.toList_toArray]; exact (r.grow fun b q => q.imp id fun q => by rw [q]; exact ha).keeps K.heap))
theorem ev_ownlist (F : Fr c s₀ W₀ Md W env σ μ s) {es : List Expr} {p : Pos} {ds : List D} {Q : Value → Shared → Prop} (he : EvL c A env σ (backTo p (starEach es env)) ds) (hn : ds.length ≤ 1000000)
  (h : ∀ a s', s₀.heap.get? a = none → Fr c s₀ W₀ Md (fun b => W b ∨ b = a) env σ ((a, .l ds) :: μ) s' → Q (.ref a) s') : wpAny c.M A (eval (.List es p) env) Q E s :=
 List_ (he.use F.view fun vs s₁ K₁ V₁ r₁ => new_own (F.keeps K₁) r₁ hn h)
theorem st_assignN (ok : EnvOk env) {x : Str} {px pos : Pos} {e : Expr} {Q : Flow → Shared → Prop} (hk : Nm env x)
  (he : wpAny c.M A (eval e env) (fun v s₁ => ∃ W₁ μ₁ d, Fr c s₀ W₀ Md W₁ env σ μ₁ s₁ ∧ Rd W₁ s₁.heap v d ∧ ∀ s', Fr c s₀ W₀ Md W₁ env ((x, d) :: σ) μ₁ s' → Q .next s') E s)
  (hs : swapsWith e (some (.Name x px)) pos.line env = pure false := by rfl) : wpAny c.M A (exec (.Assign [.Name x px] e pos) env) Q E s :=
 wpAny_Assign_Name (wpAny_mono he (fun v s₁ q => by
  obtain ⟨W₁, μ₁, d, F₁, r, h⟩ := q
  exact F₁.set ok hk r fun s' F' _ => h s' F') fun _ _ e => e) hs
theorem st_appendN (F : Fr c s₀ W₀ Md W env σ μ s) {o e : Expr} {apos pos epos : Pos} {a : Addr} {l₀ : List D} {Q : Flow → Shared → Prop} (ho : ∀ E, wpAny c.M A (eval o env) (fun v s' => Kt s s' ∧ v = .ref a) E s) (hm : (a, .l l₀) ∈ μ)
  (he : ∀ s₁ E, Fr c s₀ W₀ Md W env σ μ s₁ → wpAny c.M A (eval e env) (fun y s₂ => ∃ W₁ μ₁ μ₂ l d, Fr c s₀ W₀ Md W₁ env σ (μ₁ ++ (a, .l l) :: μ₂) s₂ ∧ Rd W₁ s₂.heap y d ∧ l.length ≤ 1000000 ∧ ∀ s', Fr c s₀ W₀ Md W₁ env σ (μ₁ ++ (a, .l (l ++ [d])) :: μ₂) s' → Q .next s') E s₁)
  (hbase : attributeBase o "append" env (eval o env) = eval o env) (hs : starEach [e] env = [(false, eval e env)]) (hline : (apos.endLine == pos.line) = true) (hint : interactive env = false := by rfl) :
  wpAny c.M A (exec (.Expr (.Call (.Attribute o "append" apos) [e] [] pos) epos) env) Q E s := by
 refine wpAny_Expr (wpAny_Call_append hbase (by rw [hs]; rfl) hline (by rw [hs]; rfl) ?_) hint (by rfl)
 refine wpAny_mono (ho E) (fun v s₁ q => ?_) fun _ _ e => e
 obtain ⟨K₁, rfl⟩ := q
 have F₁ := F.keeps K₁
 obtain ⟨q1, q2, qL, us, ⟨n, q3⟩, q4⟩ := F₁.own a (.l l₀) hm
 refine ⟨a, us, rfl, ⟨_, n, q3, rfl, rfl, rfl⟩, wpAny_mono (he s₁ E F₁) (fun y s₂ q => ?_) fun _ _ e => e⟩
 obtain ⟨W₁, μ₁, μ₂, l, d, F₂, r₂, hn, h⟩ := q
 have hmem : (a, Own.l l) ∈ μ₁ ++ (a, .l l) :: μ₂ := List.mem_append_right _ (List.mem_cons_self ..)
 obtain ⟨p1, p2, pL, ws, ⟨k, p3⟩, p4⟩ := F₂.own a (.l l) hmem
 have el : ws.size = l.length := by rw [← p4.length]; simp
 refine wpAny_list_append_plain (items := ws) (hsz := by rw [el, sizeLine_eq]; omega) ⟨k, p3⟩ fun h' pl sb => ?_
 have hm : ∀ b, b = a → W₁ b := fun b e => by rw [e]; exact p1
 refine h _ (F₂.putU rfl (upd_of sb) ⟨_, pl, ?_⟩)
 rw [Array.toList_push]
 exact (upd_of sb).rdL hm (p4.app (.cons r₂ .nil))
theorem ev_pickT {α : Type} {f : α → D} {xs : List α} {value slice : Expr} {p : Pos} {k : Nat} {d : α} (hv : Ev c A env σ value (.tup (xs.map f))) (hi : Ev c A env σ slice (.int (k : Nat))) (h : k < xs.length) (hl : xs.length ≤ 1000000)
  (hs : ∀ (a : Addr) (u : Tok), subscripted slice false (.ref a) (.int (k : Nat) u) = operate [.ref a, .int (k : Nat) u] (getItem (.ref a) (.int (k : Nat) u)) := by intro _ _; rfl) : Ev c A env σ (.Subscript value slice p) (f (xs.getD k d)) :=
 Ev.subT (j := k) hv hi (by omega) (by omega) (by
  rw [List.length_map]
  unfold seqIndex?
  rw [if_neg (show ¬ ((k : Nat) : Int) < 0 by omega)]
  simp; omega) (by rw [List.getElem?_map, List.getElem?_eq_getElem h]; simp [List.getD_eq_getElem?_getD, List.getElem?_eq_getElem h]) hs
theorem cmp_eqI {n : Nat} (r : Room A (n + 1)) {i j : Int} (hi : i.natAbs < 100000000) (hj : j.natAbs < 100000000) : Cmp c A .Eq (.int i) (.int j) (decide (i = j)) := by
 classical
 have := Cmp.eq (c := c) (A := A) r (by have := r.units; show A.units + 64 < 9900; omega) (d := .int i) (e := .int j) (by rw [okD]) (by rw [okD])
 have e : decide (D.int i = D.int j) = decide (i = j) := by
  by_cases z : i = j
  ·subst z; simp
  ·rw [decide_eq_false z, decide_eq_false fun q => z (by injection q)]
 rw [e] at this; exact this
theorem st_ifEq {n : Nat} (r : Room A (n + 1)) (F : Fr c s₀ W₀ Md W env σ μ s) {l t : Expr} {p pos : Pos} {body orelse : List Stmt} {k j : Nat} {Q : Flow → Shared → Prop} (hl : Ev c A env σ l (.int (k : Nat))) (hk : k < 100000) (ht : Ev c A env σ t (.int (j : Nat))) (hj : j < 100000)
  (h1 : k = j → ∀ s', Fr c s₀ W₀ Md W env σ μ s' → wpAny c.M A (execs body env) Q E s') (h2 : k ≠ j → ∀ s', Fr c s₀ W₀ Md W env σ μ s' → wpAny c.M A (execs orelse env) Q E s') (hm : behindInMarks .Eq t = false := by rfl) :
  wpAny c.M A (exec (.If (.Compare l [.Eq] [t] p) body orelse pos) env) Q E s :=
 st_if F (b := decide ((k : Int) = (j : Int))) (Tv.cmp hl ht (cmp_eqI r (by omega) (by omega)) hm) (fun e => h1 (by have := of_decide_eq_true e; omega)) (fun e => h2 (by have := of_decide_eq_false e; omega))
end
section
variable {c : Cx} {A : Around} {env : Env} {σ : List (Str × D)} {W : Addr → Prop} {s : Shared} {E : Value → Shared → Prop}
theorem ev_negI {e : Expr} {p : Pos} {i : Int} (he : Ev c A env σ e (.int i)) : Ev c A env σ (.UnaryOp .USub e p) (.int (-i)) := fun W s E V =>
 wpAny_UnaryOp (he.use V fun v s₁ K₁ V₁ r₁ => by
  cases r₁
  exact neg_int ⟨K₁.trans ⟨.tok _, Nat.le_succ _⟩, .int _ _⟩)
theorem ev_lastL {value slice : Expr} {p : Pos} {l : List D} {d : D} (hv : Ev c A env σ value (.lst (l ++ [d]))) (hi : Ev c A env σ slice (.int (-1))) (hl : l.length ≤ 1000000)
  (hs : ∀ (a : Addr) (u : Tok), subscripted slice false (.ref a) (.int (-1) u) = operate [.ref a, .int (-1) u] (getItem (.ref a) (.int (-1) u)) := by intro _ _; rfl) : Ev c A env σ (.Subscript value slice p) d :=
 Ev.subL (j := l.length) hv hi (by omega) (by omega) (by
  unfold seqIndex?
  simp only [show (-1 : Int) < 0 by decide, if_true, List.length_append, List.length_cons, List.length_nil]
  rw [decide_eq_true (show (0 : Int) ≤ -1 + ((l.length + (0 + 1) : Nat) : Int) by omega), decide_eq_true (show -1 + ((l.length + (0 + 1) : Nat) : Int) < ((l.length + (0 + 1) : Nat) : Int) by omega), if_pos (by rfl)]
  congr 1; omega) (by simp) hs
end
section
variable {c : Cx} {A : Around} {env : Env} {σ : List (Str × D)}
end
section
variable {c : Cx} {A : Around} {env : Env} {σ : List (Str × D)} {W : Addr → Prop} {s : Shared}
end
theorem Cap.nil {env : Env} {scope : Scope} {cl : List (Str × Addr)} {σ : List (Str × D)} : Cap env scope cl σ [] := ⟨fun x d h => by cases h⟩
theorem Cap.cons {env : Env} {scope : Scope} {cl : List (Str × Addr)} {σ σc : List (Str × D)} {x : Str} {d : D} (h : Cap env scope cl σ σc) (h1 : σ.lookup x = some d) (h2 : env.kindOf x = some .cell) (h3 : scope.names.lookup x = some .free) (h4 : cl.lookup x = env.cells.lookup x) : Cap env scope cl σ ((x, d) :: σc) :=
 ⟨fun y e q => by
  rw [List.lookup_cons] at q
  cases z : y == x with
  | true => rw [z] at q; cases q; have := eq_of_beq z; subst this; exact ⟨h1, .inl h2, h3, h4⟩
  | false => rw [z] at q; exact h.h y e q⟩
section
variable {c : Cx} {A : Around} {s₀ : Shared} {W₀ Md W : Addr → Prop} {env : Env} {σ : List (Str × D)} {μ : List (Addr × Own)} {s : Shared} {E : Value → Shared → Prop}
theorem st_usedM {elt iter : Expr} {x y : Str} {px py spos : Pos} {scope : Scope} {pos : Pos} {cl : List (Str × Addr)} {di : D} {α : Type} {xs : List α} {g f : α → D} {σc : List (Str × D)} {Q : Flow → Shared → Prop}
  (hh : A.handled = Option.none) (ok : EnvOk env) (F : Fr c s₀ W₀ Md W env σ μ s) (hi : Ev c A env σ iter di) (it : Itr c A di (xs.map g)) (hinj : ∀ a b, g a = g b → a = b) (hn : xs.length ≤ 1000000)
  (hsw : swapsWith (.ListComp elt [⟨.Name x px, iter, [], 0⟩] scope pos) (some (.Name y py)) spos.line env = pure true)
  (hclos : closureFor scope env = pure cl) (hcell : ∀ y ∈ scope.names, y.2 ≠ .cell) (hkind : scope.kind = .function) (hnames : ∀ y ∈ scope.names, y.2 = .local → scope.names.lookup y.1 = some .local) (cap : Cap env scope cl σ σc)
  (hx : ∀ C, (compEnvC scope cl C env).kindOf x = some .local)
  (step : ∀ C a, a ∈ xs → Ev c A (compEnvC scope cl C env) ((x, g a) :: σc) elt (f a)) (hy : env.kindOf y = some .local)
  (h : ∀ s' W', Fr c s₀ W₀ Md W' env ((y, .lst (xs.map f)) :: σ) μ s' → Q .next s')
  (hs : ∀ x, foldedSetIterable iter env x = pure x := by intro _; rfl) : wpAny c.M A (exec (.Assign [.Name y py] (.ListComp elt [⟨.Name x px, iter, [], 0⟩] scope pos) spos) env) Q E s := by
 classical
 have key : ((xs.map g).filter (fun _ => true)).map (fun d => if h : ∃ a ∈ xs, g a = d then f h.choose else .val .none) = xs.map f := by
  rw [List.filter_eq_self.mpr (by simp), List.map_map]
  refine List.map_congr_left fun a ha => ?_
  have h : ∃ b ∈ xs, g b = g a := ⟨a, ha, rfl⟩
  show (if h : ∃ b ∈ xs, g b = g a then f h.choose else .val .none) = f a
  rw [dif_pos h]
  exact congrArg f (hinj _ _ h.choose_spec.2)
 refine st_used (p := fun _ => true) (f := fun d => if h : ∃ a ∈ xs, g a = d then f h.choose else .val .none) hh ok F hi it (by rw [List.length_map]; exact hn) hsw hclos hcell hkind hnames cap (fun C d hd => ?_) hy (fun s' W' G => ?_) hs
 ·obtain ⟨a, ha, rfl⟩ := List.mem_map.mp hd
  refine ⟨_, .name (hx C), .nil, fun _ => ?_⟩
  have h : ∃ b ∈ xs, g b = g a := ⟨a, ha, rfl⟩
  rw [dif_pos h, hinj _ _ h.choose_spec.2]
  exact step C a ha
 ·rw [key] at G
  exact h s' W' G
end
theorem step_exec {m : Sre.M} (ho : m.outcome = none) (ha : m.answer = none) (hpc : m.pc < m.code.size) : m.step = m.exec := by
 unfold Sre.M.step
 rw [ho, ha]
 simp only [Option.isSome_none, Bool.false_eq_true, if_false]
 rw [if_pos hpc]
theorem step_in {m : Sre.M} (ho : m.outcome = none) (ha : m.answer = none) (hpc : m.pc < m.code.size) (hop : Sre.ops[m.word 0]? = some .IN) (hpos : m.pos < m.lim) (hacc : ∀ seen, ∃ seen', Sre.accepts m.code m.pc (m.text.getD m.pos 0) seen = .ok (true, seen')) :
  ∃ seen', m.step = { m with seen := seen', pc := m.pc + Sre.itemWidth m.code m.pc, pos := m.pos + 1 } := by
 obtain ⟨seen', e⟩ := hacc (m.seen.add (m.word 0))
 refine ⟨seen', ?_⟩
 rw [step_exec ho ha hpc]
 unfold Sre.M.exec
 rw [hop]
 simp only []
 rw [if_neg (by omega)]
 rw [e]
theorem step_ok {m : Sre.M} (ho : m.outcome = none) (ha : m.answer = none) (hpc : m.pc < m.code.size) (hop : Sre.ops[m.word 0]? = some .SUCCESS) (hout : m.outermost = true) (hw : m.wholeText = false) (hm : m.mustAdvance = false) :
  ∃ seen', m.step = { m with seen := seen', handed := m.pos, answer := some true } := by
 refine ⟨m.seen.add (m.word 0), ?_⟩
 rw [step_exec ho ha hpc]
 unfold Sre.M.exec
 rw [hop]
 simp only []
 rw [if_neg (by rw [hw, hm]; simp)]
 rfl
theorem step_top {m : Sre.M} {f : Sre.Frame} (ho : m.outcome = none) (ha : m.answer = some true) (hf : m.frames = [f]) (hw : f.wait = .nextStart) : ∃ m', m.step = m' ∧ m'.outcome = none ∧ m'.answer = some true ∧ m'.frames = [] := by
 refine ⟨_, rfl, ?_⟩
 have e : m.step = Sre.M.resume { m with answer := none, frames := [], weight := m.weight - (1 + f.kept.marks.size), pc := f.pc, pos := f.pos, outermost := f.outermost } f true := by
  unfold Sre.M.step
  rw [ho, ha, hf]; rfl
 rw [e]
 unfold Sre.M.resume
 rw [hw]
 exact ⟨ho, rfl, rfl⟩
theorem step_end {m : Sre.M} (ho : m.outcome = none) (ha : m.answer = some true) (hf : m.frames = []) : (m.step).outcome = some .matched := by
 unfold Sre.M.step
 rw [ho, ha, hf]; rfl
theorem run_found {m : Sre.M} {f : Sre.Frame} (ho : m.outcome = none) (ha : m.answer = none) (hpc : m.pc < m.code.size) (hop : Sre.ops[m.word 0]? = some .IN) (hpos : m.pos < m.lim) (hacc : ∀ seen, ∃ seen', Sre.accepts m.code m.pc (m.text.getD m.pos 0) seen = .ok (true, seen'))
  (hpc2 : m.pc + Sre.itemWidth m.code m.pc < m.code.size) (hop2 : Sre.ops[m.code.getD (m.pc + Sre.itemWidth m.code m.pc) 0]? = some .SUCCESS) (hout : m.outermost = true) (hw : m.wholeText = false) (hm : m.mustAdvance = false) (hf : m.frames = [f]) (hwt : f.wait = .nextStart) :
  (m.runFor 4).outcome = some .matched := by
 obtain ⟨s1, e1⟩ := step_in ho ha hpc hop hpos hacc
 have r1 : m.runFor 4 = Sre.M.runFor 3 m.step := by
  show (if m.outcome.isSome then m else Sre.M.runFor 3 m.step) = _
  rw [ho]; rfl
 rw [r1, e1]
 generalize hm1 : ({ m with seen := s1, pc := m.pc + Sre.itemWidth m.code m.pc, pos := m.pos + 1 } : Sre.M) = m1
 have o1 : m1.outcome = none := by rw [← hm1]; exact ho
 obtain ⟨s2, e2⟩ := step_ok (m := m1) o1 (by rw [← hm1]; exact ha) (by rw [← hm1]; exact hpc2) (by
  rw [← hm1]
  show Sre.ops[m.code.getD (m.pc + Sre.itemWidth m.code m.pc + 0) 0]? = _
  rw [Nat.add_zero]; exact hop2) (by rw [← hm1]; exact hout) (by rw [← hm1]; exact hw) (by rw [← hm1]; exact hm)
 have r2 : Sre.M.runFor 3 m1 = Sre.M.runFor 2 m1.step := by
  show (if m1.outcome.isSome then m1 else Sre.M.runFor 2 m1.step) = _
  rw [o1]; rfl
 rw [r2, e2]
 have f1 : m1.frames = [f] := by rw [← hm1]; exact hf
 generalize hm2 : ({ m1 with seen := s2, handed := m1.pos, answer := some true } : Sre.M) = m2
 have o2 : m2.outcome = none := by rw [← hm2]; exact o1
 obtain ⟨m3, e3, o3, a3, f3⟩ := step_top (m := m2) (f := f) o2 (by rw [← hm2]) (by rw [← hm2]; exact f1) hwt
 have r3 : Sre.M.runFor 2 m2 = Sre.M.runFor 1 m2.step := by
  show (if m2.outcome.isSome then m2 else Sre.M.runFor 1 m2.step) = _
  rw [o2]; rfl
 rw [r3, e3]
 have r4 : Sre.M.runFor 1 m3 = m3.step := by
  show (if m3.outcome.isSome then m3 else Sre.M.runFor 0 m3.step) = _
  rw [o3]; rfl
 rw [r4]
 exact step_end o3 a3 f3
theorem admitted_some {m : Sre.M} {good : Nat → Prop} (hin : ∀ c, good c → ∀ seen, ∃ seen', Sre.inSet m.code c m.code.size 5 true seen = .ok (false, seen')) (hbad : ∀ c, ¬ good c → ∀ seen, ∃ seen', Sre.inSet m.code c m.code.size 5 true seen = .ok (true, seen')) :
  ∀ (fuel s : Nat) (seen : Sre.Seen), (∃ i, s ≤ i ∧ i < m.lim ∧ ¬ good (m.text.getD i 0)) → m.lim < s + fuel → ∃ i seen', Sre.M.admitted m fuel s seen = .ok (some i, seen') ∧ i < m.lim ∧ ¬ good (m.text.getD i 0)
 | 0, s, seen, ⟨i, h1, h2, h3⟩, hf => by omega
 | fuel + 1, s, seen, ⟨i, h1, h2, h3⟩, hf => by
  unfold Sre.M.admitted
  rw [if_neg (show ¬ s ≥ m.lim by omega)]
  by_cases hg : good (m.text.getD s 0)
  ·obtain ⟨seen', e⟩ := hin _ hg seen
   rw [e]
   have hi : s ≠ i := fun q => h3 (by rw [← q]; exact hg)
   exact admitted_some hin hbad fuel (s + 1) seen' ⟨i, by omega, h2, h3⟩ (by omega)
  ·obtain ⟨seen', e⟩ := hbad _ hg seen
   rw [e]
   exact ⟨s, seen', rfl, by omega, hg⟩
theorem name_in (c : Nat) (h : ¬ (31 < c ∧ c ≠ 127)) (i : Nat) (hi : i = 5 ∨ i = 13) (seen : Sre.Seen) : ∃ seen', Sre.inSet nameCode c nameCode.size i true seen = .ok (true, seen') := by
 have aux : ∀ i, (i = 5 ∨ i = 13) → (nameCode.getD i 0 = 22 ∧ nameCode.getD (i + 1) 0 = 0 ∧ nameCode.getD (i + 2) 0 = 31 ∧ nameCode.getD (i + 3) 0 = 16 ∧ nameCode.getD (i + 4) 0 = 127) := by
  rintro i (rfl | rfl) <;> decide
 rcases hi with rfl | rfl
 all_goals
  show ∃ seen', Sre.inSet nameCode c 20 _ true seen = _
  unfold Sre.inSet
  show ∃ seen', (if (0 ≤ c && c ≤ 31) = true then _ else _) = _
  by_cases h1 : c ≤ 31
  ·rw [if_pos (by simp [h1])]; exact ⟨_, rfl⟩
  ·rw [if_neg (by simp; omega)]
   unfold Sre.inSet
   show ∃ seen', (if (c == 127) = true then _ else _) = _
   rw [if_pos (by simp; omega)]
   exact ⟨_, rfl⟩
theorem value_in (c : Nat) (h : ¬ (31 < c ∧ c ≠ 127 ∨ c = 9)) (i : Nat) (hi : i = 5 ∨ i = 17) (seen : Sre.Seen) : ∃ seen', Sre.inSet valueCode c valueCode.size i true seen = .ok (true, seen') := by
 have z : c < 256 := by omega
 have a5 : ∀ c, c < 256 → ¬ (31 < c ∧ c ≠ 127 ∨ c = 9) → (valueCode.getD (5 + (1 + c / 32)) 0).testBit (c % 32) = true := by decide +kernel
 have a17 : ∀ c, c < 256 → ¬ (31 < c ∧ c ≠ 127 ∨ c = 9) → (valueCode.getD (17 + (1 + c / 32)) 0).testBit (c % 32) = true := by decide +kernel
 rcases hi with rfl | rfl
 ·show ∃ seen', Sre.inSet valueCode c 28 5 true seen = _
  unfold Sre.inSet
  show ∃ seen', (if (c < 256 && (valueCode.getD (5 + (1 + c / 32)) 0).testBit (c % 32)) = true then _ else _) = _
  rw [if_pos (by rw [a5 c z h]; simp [z])]
  exact ⟨_, rfl⟩
 ·show ∃ seen', Sre.inSet valueCode c 28 17 true seen = _
  unfold Sre.inSet
  show ∃ seen', (if (c < 256 && (valueCode.getD (17 + (1 + c / 32)) 0).testBit (c % 32)) = true then _ else _) = _
  rw [if_pos (by rw [a17 c z h]; simp [z])]
  exact ⟨_, rfl⟩
structure CodeOk (code : Array Nat) (good : Nat → Prop) (pc0 : Nat) : Prop where
 hin : ∀ c, good c → ∀ seen, ∃ seen', Sre.inSet code c code.size 5 true seen = .ok (false, seen')
 hbad : ∀ c, ¬ good c → ∀ seen, ∃ seen', Sre.inSet code c code.size 5 true seen = .ok (true, seen')
 hacc : ∀ c, ¬ good c → ∀ seen, ∃ seen', Sre.accepts code pc0 c seen = .ok (true, seen')
 head : Sre.header code = (1, pc0)
 first : ∀ m : Sre.M, m.code = code → m.hasFirstSet = true
 lt : pc0 < code.size
 op : Sre.ops[code.getD pc0 0]? = some .IN
 lt2 : pc0 + Sre.itemWidth code pc0 < code.size
 op2 : Sre.ops[code.getD (pc0 + Sre.itemWidth code pc0) 0]? = some .SUCCESS
theorem adm_some {m : Sre.M} {code text : Array Nat} {good : Nat → Prop} {pc0 : Nat} (C : CodeOk code good pc0) (hbad : ∃ i, i < text.size ∧ ¬ good (text.getD i 0)) {fuel : Nat} {seen : Sre.Seen} {r : Except String (Option Nat × Sre.Seen)}
  (e : Sre.M.admitted m fuel 0 seen = r) (h1 : m.code = code) (h2 : m.text = text) (h3 : m.lim = text.size) (hf : fuel = text.size + 1) : ∃ i seen', r = .ok (some i, seen') ∧ i < text.size ∧ ¬ good (text.getD i 0) := by
 subst h1 h2 hf
 obtain ⟨i, k1, k2⟩ := hbad
 obtain ⟨j, seen', e', k3, k4⟩ := admitted_some C.hin C.hbad (m.text.size + 1) 0 seen ⟨i, Nat.zero_le _, by rw [h3]; exact k1, k2⟩ (by rw [h3]; omega)
 exact ⟨j, seen', by rw [← e, e'], by rw [← h3]; exact k3, k4⟩
theorem search_some {code text : Array Nat} {good : Nat → Prop} {pc0 : Nat} (C : CodeOk code good pc0) (hbad : ∃ i, i < text.size ∧ ¬ good (text.getD i 0)) :
  ∃ m', Sre.forSearch code text 0 0 text.size false = m' ∧ (m'.runFor 4).outcome = some .matched := by
 refine ⟨_, rfl, ?_⟩
 obtain ⟨i, k1, k2⟩ := hbad
 unfold Sre.forSearch
 simp only []
 have hh := C.head
 rw [hh]
 simp only []
 rw [if_neg (by
  rw [Bool.or_eq_true, decide_eq_true_eq, decide_eq_true_eq]
  omega)]
 unfold Sre.M.attemptFrom
 rw [C.first _ rfl]
 simp only [Bool.not_true, Bool.false_eq_true, if_false]
 split
 ·rename_i s seen e
  obtain ⟨j, seen', e', k3, k4⟩ := adm_some C ⟨i, k1, k2⟩ e rfl rfl rfl (by show text.size + 1 - 0 = _; omega)
  cases e'
  unfold Sre.M.attemptAt Sre.M.attempt
  rw [if_neg (by show ¬ (0 + 1 + 0 > 16777216); decide)]
  refine run_found (f := _) rfl rfl ?_ ?_ ?_ ?_ ?_ ?_ rfl rfl rfl rfl rfl
  ·show (Sre.header code).2 < code.size
   rw [hh]; exact C.lt
  ·show Sre.ops[code.getD ((Sre.header code).2 + 0) 0]? = _
   rw [hh]; exact C.op
  ·exact k3
  ·show ∀ seen, ∃ seen', Sre.accepts code (Sre.header code).2 (text.getD s 0) seen = _
   rw [hh]; exact C.hacc _ k4
  ·show (Sre.header code).2 + Sre.itemWidth code (Sre.header code).2 < code.size
   rw [hh]; exact C.lt2
  ·show Sre.ops[code.getD ((Sre.header code).2 + Sre.itemWidth code (Sre.header code).2) 0]? = _
   rw [hh]; exact C.op2
 ·rename_i seen e
  obtain ⟨j, seen', e', k3, k4⟩ := adm_some C ⟨i, k1, k2⟩ e rfl rfl rfl (by show text.size + 1 - 0 = _; omega)
  cases e'
 ·rename_i why e
  obtain ⟨j, seen', e', k3, k4⟩ := adm_some C ⟨i, k1, k2⟩ e rfl rfl rfl (by show text.size + 1 - 0 = _; omega)
  cases e'
theorem nameOk : CodeOk nameCode (fun k => 31 < k ∧ k ≠ 127) 11 := ⟨fun c g seen => name_out c g.1 g.2 seen, fun c g seen => name_in c g 5 (.inl rfl) seen, fun c g seen => by
  obtain ⟨s', e⟩ := name_in c g 13 (.inr rfl) seen
  exact ⟨s', e⟩, by decide +kernel, fun m e => by unfold Sre.M.hasFirstSet; rw [e]; rfl, by decide, by rfl, by decide +kernel, by rfl⟩
theorem valueOk : CodeOk valueCode (fun k => 31 < k ∧ k ≠ 127 ∨ k = 9) 15 := ⟨fun c g seen => value_out c g seen, fun c g seen => value_in c g 5 (.inl rfl) seen, fun c g seen => by
  obtain ⟨s', e⟩ := value_in c g 17 (.inr rfl) seen
  exact ⟨s', e⟩, by decide +kernel, fun m e => by unfold Sre.M.hasFirstSet; rw [e]; rfl, by decide, by rfl, by decide +kernel, by rfl⟩
section
variable {prog : Program} {w : World} {A : Around} {E : Value → Shared → Prop} {s : Shared}
theorem runToEnd_some {m : Sre.M} {Q : Option Sre.M → Shared → Prop} (hm : (m.runFor 4).outcome = some .matched) (h : ∀ m', Q (some m') s) : wpAny (model prog w) A (Builtin.Re.reRunToEnd m) Q E s := by
 have hm' : (m.runFor Builtin.Re.reTurnSteps).outcome = some .matched := hm
 unfold Builtin.Re.reRunToEnd
 have e2 : (2 : Nat) ^ 64 = 18446744073709551615 + 1 := by decide
 rw [e2]
 refine wpAny_bind ?_
 unfold Builtin.Re.reDrive
 generalize m.runFor Builtin.Re.reTurnSteps = m' at hm'
 simp only [hm', Option.isSome_some, if_true]
 refine wpAny_pure ?_
 refine wpAny_bind ?_
 refine wpAny_forIn_list _ (fun _ _ s' => s' = s) _ ?_ ?_ _ _ rfl
 ·intro i rest _ s' hs'
  subst hs'
  by_cases hb : m'.seen.has i = true
  ·simp only [hb, if_true]; exact wpAny_bind (wpAny_rule (wpAny_pure rfl))
  ·simp only [Bool.not_eq_true] at hb; simp only [hb, Bool.false_eq_true, if_false]; exact wpAny_pure rfl
 ·intro _ s' hs'
  subst hs'
  rw [hm']
  exact wpAny_pure (h _)
theorem newMatch {pat str : Value} {pos lim : Nat} {m : Sre.M} {Q : Value → Shared → Prop}
  (h : ∀ h' a, (∀ b o, s.heap.get? b = some o → h'.get? b = some o) → (∃ o, h'.get? a = some o ∧ o.cls = .type "re.Match") → Q (.ref a) { s with heap := h' }) : wpAny (model prog w) A (Builtin.Re.reNewMatch pat str 0 pos lim m) Q E s := by
 unfold Builtin.Re.reNewMatch
 simp only [List.range_zero, List.flatMap_nil, List.any_nil, Bool.false_eq_true, if_false]
 unfold newTuple newFields
 refine wpAny_bind (wpAny_newObj_type ?_ (by show (2 : Nat) ≤ sizeLine; decide))
 refine wpAny_newObj_type (h _ _ (fun b o e => Heap.get?_push_of_some _ (Heap.get?_push_of_some _ e)) ⟨_, Heap.get?_push_size _ rfl, rfl⟩) ?_
 show (6 : Nat) ≤ _
 decide
end
section
variable {c : Cx} {A : Around} {s : Shared} {W₀ Md : Addr → Prop} {E : Value → Shared → Prop}
theorem enter_envX {fa : Addr} {fd : FuncData} {body : List Stmt} {binds : List (Str × Value)} {σ : List (Str × D)} {μ : List (Addr × Own)} {R : Result → Shared → Prop}
  (fn : Fun c fa fd body) (base : HasK c.K s.heap) (tok : 0 < s.toks) (w0 : ∀ a, W₀ a → ∃ o, s.heap.get? a = some o) (md : ∀ a, Md a → W₀ a ∧ c.K a = none)
  (hkind : ∀ L, ∀ x ∈ binds, (callEnvC fd L fa).kindOf x.1 = some .local ∨ ((callEnvC fd L fa).kindOf x.1 = some .cell ∧ ((callEnvC fd L fa).cells.lookup x.1).isSome = true))
  (hnd : (binds.map (·.1)).Nodup) (br : BR W₀ s.heap binds σ) (hμ : ∀ a l, (a, l) ∈ μ → Md a ∧ OwnAt c W₀ s.heap a l) (ndμ : (μ.map (·.1)).Nodup)
  (h : ∀ L W s', s.heap.get? (callEnvC fd L fa).locals = none → Kt s s' → EnvOk (callEnvC fd L fa) → Fr c s W₀ Md W (callEnvC fd L fa) σ μ s' → wpAny c.M (A.deeper (callEnvC fd L fa)) (execs body (callEnvC fd L fa)) (fun f s'' => R (.ok (.ret (match f with | .ret v => v | _ => .none))) s'') (fun e s'' => wpAny c.M (A.deeper (callEnvC fd L fa)) (leaving (callEnvC fd L fa) e) (fun _ s3 => R (.error e) s3) (fun e' s3 => R (.error e') s3) s'') s') :
  wpAny c.M A.in1 (newFunctionEnv fd.scope fd.globals fd.closure binds (fd.qualname ++ ".<locals>.") (some fa) fd.code none fd.builtins) (fun env s₂ => s₂.heap.NoLimit ∧ codeAny c.M A (.func body env) R s₂) E s := by
 rw [fn.clo]
 refine wpAny_mono (wpAny_toks_of (E := fun _ _ => False) (Nat.le_refl s.toks) (wpAny_newFunctionEnv_cells (Q := fun env s' => env = callEnvC fd s.heap.objs.size fa ∧ InCallC s env.locals (bindL env.kindOf binds fun _ => none) env.cells (bindC env.kindOf binds fun _ => none) s') fn.kind (hkind s.heap.objs.size) fun env he s' x => ⟨he, x⟩)) (fun env s' q => ?_) fun _ _ q => q.2.elim
 obtain ⟨tk, rfl, x⟩ := q
 have ok : EnvOk (callEnvC fd s.heap.objs.size fa) := ⟨fn.kind, fn.glob, fn.blt⟩
 have keep := x.toInCall.keep
 have K : Kt s s' := ⟨⟨x.toInCall.same, keep⟩, tk⟩
 have freshL : ∀ a, s.heap.objs.size ≤ a → s.heap.get? a = none := fun a ha => by
  cases e : s.heap.get? a with
  | none => rfl
  | some o' => exact absurd (Heap.lt_size e) (Nat.not_lt.mpr ha)
 have fL : s.heap.get? (callEnvC fd s.heap.objs.size fa).locals = none := freshL _ (Nat.le_refl _)
 have fC : ∀ y a, (callEnvC fd s.heap.objs.size fa).cells.lookup y = some a → s.heap.get? a = none := fun y a e => freshL a (Nat.le_of_lt (x.above _ _ (mem_of_lookup e)))
 refine ⟨(c.hl _ (base.keeps keep)), codeAny_func ?_⟩
 have hW : ∀ a, (W₀ a ∨ s.heap.get? a = none ∧ (a = (callEnvC fd s.heap.objs.size fa).locals ∨ ∃ y, (callEnvC fd s.heap.objs.size fa).cells.lookup y = some a)) → W₀ a ∨ s.heap.get? a = none := fun a h => h.imp id fun q => q.1
 refine h _ (fun a => W₀ a ∨ s.heap.get? a = none ∧ (a = (callEnvC fd s.heap.objs.size fa).locals ∨ ∃ y, (callEnvC fd s.heap.objs.size fa).cells.lookup y = some a)) s' fL K ok ?_
 exact {
  view := {
   base := base.keeps keep
   wold := fun a h => by
    rcases h with h | ⟨_, rfl | ⟨y, h⟩⟩
    ·obtain ⟨o, e⟩ := w0 a h; exact ⟨o, keep _ _ e⟩
    ·obtain ⟨o, _, _, e, _⟩ := x.toInCall.ns; exact ⟨o, e⟩
    ·obtain ⟨o, e, _⟩ := x.cell y a h; exact ⟨o, e⟩
   tok := Nat.lt_of_lt_of_le tok tk
   vars := fun y d hy => by
    obtain ⟨v, hv, r⟩ := br.get hy
    refine ⟨v, ?_, (r.grow hW).keeps keep⟩
    have hk := hkind s.heap.objs.size (y, v) (mem_of_lookup hv)
    unfold Bnd
    rcases hk with hk | ⟨hk, hc⟩
    ·simp only at hk; rw [hk]; exact ⟨_, x.toInCall.ns, bindL_get hnd hv hk⟩
    ·simp only at hk hc; rw [hk]
     obtain ⟨a, ha⟩ := Option.isSome_iff_exists.mp hc
     obtain ⟨o, e1, e2⟩ := x.cell y a ha
     exact ⟨a, o, ha, e1, by rw [e2, bindC_get hnd hv hk]⟩ }
  base0 := base
  up := .of K
  w0 := fun a h => .inl h
  wn := hW
  w0old := w0
  mdW := fun a h => (md a h).1
  mdK := fun a h => (md a h).2
  loc := ⟨.inr ⟨fL, .inl rfl⟩, .inr fL⟩
  ns := ⟨_, x.toInCall.ns⟩
  cell := fun y a h1 h2 => ⟨.inr ⟨fC y a h2, .inr ⟨y, h2⟩⟩, .inr (fC y a h2), _, x.cell y a h2⟩
  inj := fun y z a h1 h2 => name_of_addr x.apart (mem_of_lookup h1) (mem_of_lookup h2)
  own := fun a l ha => by
   obtain ⟨q1, q2⟩ := hμ a l ha
   refine ⟨.inl (md a q1).1, .inl q1, fun q => ?_, q2.keep (fun o e => keep _ _ e) fun v d r => (r.grow hW).keeps keep⟩
   obtain ⟨ob, e⟩ := q2.ex
   rw [q, fL] at e; cases e
  nd := ndμ }
theorem enterX {n : Nat} (room : Room A (n + 1)) {fa : Addr} {fd : FuncData} {body : List Stmt} {pos : List Value} {kw : List (Str × Value)} {binds : List (Str × Value)} {σ : List (Str × D)} {μ : List (Addr × Own)} {Q : Value → Shared → Prop}
  (fn : Fun c fa fd body) (base : HasK c.K s.heap) (tok : 0 < s.toks) (w0 : ∀ a, W₀ a → ∃ o, s.heap.get? a = some o) (md : ∀ a, Md a → W₀ a ∧ c.K a = none)
  (hbind : BindsTo s fd ⟨pos, kw⟩ binds) (hkind : ∀ L, ∀ x ∈ binds, (callEnvC fd L fa).kindOf x.1 = some .local ∨ ((callEnvC fd L fa).kindOf x.1 = some .cell ∧ ((callEnvC fd L fa).cells.lookup x.1).isSome = true))
  (hnd : (binds.map (·.1)).Nodup) (br : BR W₀ s.heap binds σ) (hμ : ∀ a l, (a, l) ∈ μ → Md a ∧ OwnAt c W₀ s.heap a l) (ndμ : (μ.map (·.1)).Nodup)
  (h : ∀ L W s', s.heap.get? (callEnvC fd L fa).locals = none → Kt s s' → EnvOk (callEnvC fd L fa) → Fr c s W₀ Md W (callEnvC fd L fa) σ μ s' → wpAny c.M (A.deeper (callEnvC fd L fa)) (execs body (callEnvC fd L fa)) (fun f s'' => Q (match f with | .ret v => v | _ => .none) s'')
   (fun e s'' => wpAny c.M (A.deeper (callEnvC fd L fa)) (leaving (callEnvC fd L fa) e) (fun _ s3 => E e s3) (fun e' s3 => E e' s3) s'') s') :
  wpAny c.M A (call (.ref fa) pos kw) Q E s := by
 obtain ⟨fo, ho, hd⟩ := fn.at_ _ base
 exact wpAny_call (codeAny_call_function (room.lim) ho hd fn.co fn.gen fn.body (fn.code _ base) (hbind _ _ _ _ (enter_envX fn base tok w0 md hkind hnd br hμ ndμ h)))
theorem enterGX {n : Nat} (room : Room A (n + 1)) {fa : Addr} {fd : FuncData} {body : List Stmt} {pos : List Value} {kw : List (Str × Value)} {names : List Str} {σ : List (Str × D)} {μ : List (Addr × Own)} {R : Result → Shared → Prop}
  (fn : Fun c fa fd body) (base : HasK c.K s.heap) (tok : 0 < s.toks) (w0 : ∀ a, W₀ a → ∃ o, s.heap.get? a = some o) (md : ∀ a, Md a → W₀ a ∧ c.K a = none)
  (hbind : ∀ (R' : List (Str × Value) → Shared → Prop) (E' : Value → Shared → Prop), (∀ binds s₁, Kt s s₁ → binds.map (·.1) = names → BR W₀ s₁.heap binds σ → R' binds s₁) → wpAny c.M A.in1 (bindArgs fd ⟨pos, kw⟩) R' E' s)
  (hkind : ∀ L, ∀ x ∈ names, (callEnvC fd L fa).kindOf x = some .local ∨ ((callEnvC fd L fa).kindOf x = some .cell ∧ ((callEnvC fd L fa).cells.lookup x).isSome = true))
  (hnd : names.Nodup) (hμ : ∀ a l, (a, l) ∈ μ → Md a ∧ OwnAt c W₀ s.heap a l) (ndμ : (μ.map (·.1)).Nodup)
  (h : ∀ s₁ L W s', Kt s s₁ → s₁.heap.get? (callEnvC fd L fa).locals = none → Kt s₁ s' → EnvOk (callEnvC fd L fa) → Fr c s₁ W₀ Md W (callEnvC fd L fa) σ μ s' → wpAny c.M (A.deeper (callEnvC fd L fa)) (execs body (callEnvC fd L fa)) (fun f s'' => R (.ok (.ret (match f with | .ret v => v | _ => .none))) s'')
   (fun e s'' => wpAny c.M (A.deeper (callEnvC fd L fa)) (leaving (callEnvC fd L fa) e) (fun _ s3 => R (.error e) s3) (fun e' s3 => R (.error e') s3) s'') s') :
  codeAny c.M A (.call (.ref fa) ⟨pos, kw⟩) R s := by
 obtain ⟨fo, ho, hd⟩ := fn.at_ _ base
 refine codeAny_call_function (room.lim) ho hd fn.co fn.gen fn.body (fn.code _ base) (hbind _ _ fun binds s₁ K1 e1 br => ?_)
 refine enter_envX fn (base.keeps K1.heap) (Nat.lt_of_lt_of_le tok K1.tk) (fun a q => let ⟨o, e⟩ := w0 a q; ⟨o, K1.heap _ _ e⟩) md (fun L x hx => hkind L x.1 (e1 ▸ List.mem_map.mpr ⟨x, hx, rfl⟩)) (e1 ▸ hnd) br (fun a l q => ⟨(hμ a l q).1, (hμ a l q).2.keep (fun o e => K1.heap _ o e) fun v d r => r.keeps K1.heap⟩) ndμ fun L W s' => h s₁ L W s' K1
end
structure Fly (B : Heap) (l : List Env) (X : String) (s₁ : Shared) (e : Value) (s : Shared) : Prop where
 at_ : ∃ a a0, e = .ref a ∧ Heap.FlyingW B l a (.type X) a0 s.heap
 eq : ∃ h t, s = { s₁ with heap := h, toks := t }
 tk : s₁.toks ≤ s.toks
 up : s₁.heap.UpToSlots s.heap
theorem Fly.from {B : Heap} {l : List Env} {X : String} {s₀ s₁ : Shared} {e : Value} {s : Shared} (k : Kt s₀ s₁) (x : Fly B l X s₁ e s) : Fly B l X s₀ e s := by
 obtain ⟨h1, t1, e1⟩ := k.eq
 obtain ⟨h2, t2, e2⟩ := x.eq
 exact ⟨x.at_, ⟨h2, t2, by rw [e2, e1]⟩, Nat.le_trans k.tk x.tk, (Heap.UpToSlots.of_keeps k.heap).trans x.up⟩
structure Stk (A : Around) (l : List Env) (B : Heap) (s : Shared) : Prop where
 frames : A.frames = some l
 stays : B.StaysIn s.heap
 funs : s.heap.FunFrames B l
theorem Stk.keeps {A : Around} {l : List Env} {B : Heap} {s s' : Shared} (k : Stk A l B s) (K : Kt s s') : Stk A l B s' :=
 ⟨k.frames, fun b o e => K.heap _ _ (k.stays b o e), k.funs.of_keeps fun b o e _ => ⟨o, K.heap _ _ e, rfl⟩⟩
section
variable {c : Cx} {A : Around} {s₀ : Shared} {W₀ Md W : Addr → Prop} {env : Env} {σ : List (Str × D)} {μ : List (Addr × Own)} {s : Shared} {E : Value → Shared → Prop} {B : Heap} {l : List Env} {X : String}
theorem Stk.deeper (k : Stk A l B s) (K : Kt s₀ s) (ok : EnvOk env) (hf : env.frame = some env.locals) (hn : ∃ m, s.heap.Ns env.locals m) (h0 : s₀.heap.get? env.locals = none) (hs : B.StaysIn s₀.heap) : Stk (A.deeper env) (env :: l) B s := by
 obtain ⟨m, hn⟩ := hn
 refine ⟨Around.frames_deeper k.frames, k.stays, Heap.FunFrames.cons (by rw [ok.kind]; decide) hf hn ?_ k.funs⟩
 cases e : B.get? env.locals with
 | none => rfl
 | some o => have := hs _ _ e; rw [h0] at this; cases this
theorem leave_made {e : Addr} {h' : Heap} {args : List Value} (k : Stk (A.deeper env) (env :: l) B s) (hf : env.frame = some env.locals) (hx : Heap.MadeExcOf s.heap h' e (.type X) args) {Q : Unit → Shared → Prop} (K : Kt s₀ s)
  (h : ∀ s3, Fly B l X s₀ (.ref e) s3 → Q () s3) : wpAny c.M (A.deeper env) (leaving env (.ref e)) Q E { s with heap := h' } := by
 refine wpAny_leaves_madeW k.frames hf k.stays k.funs hx fun h2 t x1 _ _ x2 => h _ ?_
 obtain ⟨h1, t1, e1⟩ := K.eq
 exact ⟨⟨e, _, rfl, x1⟩, ⟨h2, s.toks, by rw [e1]⟩, K.tk, ((Heap.UpToSlots.of_keeps K.heap).trans (Heap.UpToSlots.of_keeps hx.keeps)).trans x2⟩
theorem leave_fly {e : Value} (hfr : (A.deeper env).frames = some (env :: l)) (hf : env.frame = some env.locals) (x : Fly B (env :: l) X s₀ e s) {Q : Unit → Shared → Prop} (h : ∀ s3, Fly B l X s₀ e s3 → Q () s3) : wpAny c.M (A.deeper env) (leaving env e) Q E s := by
 obtain ⟨a, a0, rfl, hfl⟩ := x.at_
 refine wpAny_leaves_onW hfr hf hfl fun h2 x1 x2 => h _ ?_
 obtain ⟨h1, t1, e1⟩ := x.eq
 exact ⟨⟨a, a0, rfl, x1⟩, ⟨h2, s.toks, by rw [e1]⟩, x.tk, x.up.trans x2⟩
end
section
variable {prog : Program} {w : World} {A : Around} {E : Value → Shared → Prop} {s : Shared}
theorem call_found {p ci : Addr} {pat : Value} {fl : Value} {cs : Array Value} {cn : Nat} {x : Str} {t : Tok} {Q : Value → Shared → Prop} {good : Nat → Prop} {code : Array Nat} {pc0 : Nat}
  (hp : s.heap.get? p = some ⟨.type "re.Pattern", none, .fields #[pat, fl, .int 0 0, .none, .none, .ref ci, .int 0 0], #[]⟩) (hc : s.heap.get? ci = some ⟨.type "tuple", none, .seq cs cn, #[]⟩) (hcode : (cs.map Builtin.Re.reRawOf).map (·.toNat) = code)
  (C : CodeOk code good pc0) (hbad : ∃ i, i < x.cps.size ∧ ¬ good (x.cps.getD i 0)) (hsz : x.cps.size ≤ 1000000)
  (h : ∀ h' a, (∀ b o, s.heap.get? b = some o → h'.get? b = some o) → (∃ o, h'.get? a = some o ∧ o.cls = .type "re.Match") → Q (.ref a) { s with heap := h' }) :
  wpAny (model prog w) A (call (.builtin "re.Pattern.search") [.ref p, .str x t]) Q E s := by
 have hT : s.TypeIs (.ref p) "re.Pattern" := ⟨_, hp, rfl⟩
 refine wpAny_call_entry slot_re_search hT entry_re_search ?_ (args_re_search _ _)
 unfold Builtin.«re.Pattern.search» Builtin.Re.reTarget
 refine wpAny_bind ?_
 show wpAny _ A.in1 (Builtin.Re.reNamed "re.Pattern.search" "search" ["string", "pos", "endpos"] 1 [.str x t] [] >>= _) _ _ _
 rw [named_search]
 refine wpAny_bind (wpAny_pure ?_)
 simp only []
 refine wpAny_bind (wpAny_pure ?_)
 refine wpAny_bind (wpAny_pure ?_)
 refine wpAny_bind (wpAny_fieldsOf hp rfl ?_)
 rw [text_str]
 refine wpAny_bind (wpAny_pure ?_)
 show wpAny _ A.in1 (do
   Builtin.Re.reNoCollectionInside (.str x t) 0
   let is ← Builtin.Re.reRawItems (.ref ci)
   pure ({ pattern := .ref p, string := .str x t, code := is.map (fun x => x.toNat), text := x.cps, kind := 0, groups := 0, pos := min (Int.toNat 0) x.cps.size, lim := min (2 ^ 63 - 1 : Int).toNat x.cps.size } : Builtin.Re.ReTarget)) _ _ _
 refine wpAny_bind (m := Builtin.Re.reNoCollectionInside (.str x t) 0) (wpAny_pure ?_)
 refine wpAny_bind ?_
 unfold Builtin.Re.reRawItems
 refine wpAny_bind (wpAny_seqItems hc rfl (wpAny_pure ?_))
 refine wpAny_pure ?_
 have e1 : min (Int.toNat 0) x.cps.size = 0 := by simp
 have e2 : min (2 ^ 63 - 1 : Int).toNat x.cps.size = x.cps.size := by
  have : (2 ^ 63 - 1 : Int).toNat = 9223372036854775807 := by decide
  rw [this]; omega
 rw [e1, e2]
 simp only [Option.getD_some]
 rw [hcode]
 obtain ⟨m', em, a1⟩ := search_some C hbad
 rw [em]
 unfold Builtin.Re.reAnswer
 refine wpAny_bind (runToEnd_some a1 fun m2 => ?_)
 exact wpAny_bind (newMatch fun h' a k q => wpAny_pure ⟨_, rfl, h h' a k q⟩)
theorem noBool_match : typeLookup (.type "re.Match") "__bool__" = pure none := by rw [typeLookup_type, builtinLookup_eq_fast]; kernel_rfl
theorem noLen_match : typeLookup (.type "re.Match") "__len__" = pure none := by rw [typeLookup_type, builtinLookup_eq_fast]; kernel_rfl
theorem truthy_match {a : Addr} {Q : Bool → Shared → Prop} (hT : s.TypeIs (.ref a) "re.Match") (h : Q true s) : wpAny (model prog w) A (truthy (.ref a)) Q E s := by
 unfold truthy
 first
  | refine wpAny_bind (wpAny_callSpecial?_none (name := Str.ofString "__bool__") hT noBool_match ?_)
  | refine wpAny_bind (wpAny_pure (wpAny_bind (wpAny_callSpecial?_none (name := Str.ofString "__bool__") hT noBool_match ?_)))
 first
  | refine wpAny_bind (wpAny_specialOf (name := Str.ofString "__len__") hT noLen_match ?_)
  | refine wpAny_bind (wpAny_pure (wpAny_bind (wpAny_specialOf (name := Str.ofString "__len__") hT noLen_match ?_)))
 exact wpAny_pure h
end
structure PatX (c : Cx) (p : Addr) (good : Nat → Prop) : Prop where
 at_ : ∃ (ci : Addr) (pat fl : Value) (cs : Array Value) (cn : Nat) (code : Array Nat) (pc0 : Nat), (∀ h, HasK c.K h → h.get? p = some ⟨.type "re.Pattern", none, .fields #[pat, fl, .int 0 0, .none, .none, .ref ci, .int 0 0], #[]⟩ ∧ h.get? ci = some ⟨.type "tuple", none, .seq cs cn, #[]⟩) ∧
  (cs.map Builtin.Re.reRawOf).map (·.toNat) = code ∧ CodeOk code good pc0
theorem patX_name {c : Cx} {p ci : Addr} {pat fl : Value} {cs : Array Value} {cn : Nat} (h : ∀ h, HasK c.K h → h.get? p = some ⟨.type "re.Pattern", none, .fields #[pat, fl, .int 0 0, .none, .none, .ref ci, .int 0 0], #[]⟩ ∧ h.get? ci = some ⟨.type "tuple", none, .seq cs cn, #[]⟩)
  (hc : (cs.map Builtin.Re.reRawOf).map (·.toNat) = nameCode) : PatX c p (fun k => 31 < k ∧ k ≠ 127) := ⟨ci, pat, fl, cs, cn, nameCode, 11, h, hc, nameOk⟩
theorem patX_value {c : Cx} {p ci : Addr} {pat fl : Value} {cs : Array Value} {cn : Nat} (h : ∀ h, HasK c.K h → h.get? p = some ⟨.type "re.Pattern", none, .fields #[pat, fl, .int 0 0, .none, .none, .ref ci, .int 0 0], #[]⟩ ∧ h.get? ci = some ⟨.type "tuple", none, .seq cs cn, #[]⟩)
  (hc : (cs.map Builtin.Re.reRawOf).map (·.toNat) = valueCode) : PatX c p (fun k => 31 < k ∧ k ≠ 127 ∨ k = 9) := ⟨ci, pat, fl, cs, cn, valueCode, 15, h, hc, valueOk⟩
section
variable {c : Cx} {A : Around} {env : Env} {σ : List (Str × D)}
theorem Tv.found {o e : Expr} {apos pos : Pos} {p : Addr} {x : Str} {good : Nat → Prop} (P : PatX c p good) (ho : Ev c A env σ o (.val (.ref p))) (he : Ev c A env σ e (.str x)) (hbad : ∃ k ∈ x.cps.toList, ¬ good k) (hsz : x.cps.size ≤ 1000000)
  (hbase : attributeBase o "search" env (eval o env) = eval o env) (hs : starEach [e] env = [(false, eval e env)]) (hline : (apos.endLine == pos.line) = true) :
  Tv c A env σ (.Call (.Attribute o "search" apos) [e] [] pos) true := fun W s E V => by
 obtain ⟨k, hk, hg⟩ := hbad
 obtain ⟨i, hi, e1⟩ := List.getElem_of_mem hk
 have hbad' : ∃ i, i < x.cps.size ∧ ¬ good (x.cps.getD i 0) := by
  have hi' : i < x.cps.size := by rw [← Array.length_toList]; exact hi
  refine ⟨i, hi', ?_⟩
  have : x.cps.getD i 0 = k := by
   rw [← e1]; simp [Array.getD, hi']
  rw [this]; exact hg
 refine isTrue_plain (Call_method1 hbase hs hline (ho.use V fun v s₁ K₁ V₁ r₁ => by
  cases r₁
  obtain ⟨ci, pat, fl, cs, cn, code, pc0, hat, hcode, C⟩ := P.at_
  obtain ⟨h1, _⟩ := hat _ V₁.base
  refine ⟨"re.Pattern", "re.Pattern.search", plainAttrs_re, slot_re_search, type_re_search, ⟨_, h1, rfl⟩, fun a q => by cases q; exact ⟨_, h1, rfl⟩, ?_⟩
  refine Calls.callWith_builtin rfl (Calls.evalArgs_plain (Calls.spliced_cons (he.use V₁ fun u s₂ K₂ V₂ r₂ => Calls.spliced_nil ?_)))
  cases r₂
  obtain ⟨h3, h4⟩ := hat _ V₂.base
  refine call_found h3 h4 hcode C hbad' hsz fun h' a kp hT => ?_
  obtain ⟨oo, ho1, ho2⟩ := hT
  exact truthy_match ⟨oo, ho1, ho2⟩ ⟨(K₁.trans K₂).trans ⟨⟨⟨_, s₂.toks, rfl⟩, kp⟩, Nat.le_refl _⟩, rfl⟩)) rfl
theorem st_raise {s₀ : Shared} {W₀ Md W : Addr → Prop} {μ : List (Addr × Own)} {s : Shared} {E : Value → Shared → Prop} (hh : A.handled = Option.none) (ok : EnvOk env) (F : Fr c s₀ W₀ Md W env σ μ s) {X newId initId : String} (FC : ExcCallFacts X newId initId) (FR : ExcRaiseFacts X) {x : Str} {np cpos pos : Pos} {e : Expr} {d : D} {Q : Flow → Shared → Prop}
  (hx : Ev c A env σ (.Name x np) (.val (.type X))) (he : Ev c A env σ e d) (hs : backTo cpos (starEach [e] env) = [(false, eval e env)])
  (h : ∀ s' h' a u, Kt s s' → Heap.MadeExcOf s'.heap h' a (.type X) [u] → E (.ref a) { s' with heap := h' }) :
  wpAny c.M A (exec (.Raise (some (.Call (.Name x np) [e] [] cpos)) Option.none pos) env) Q E s := by
 refine wpAny_Raise_call FC FR hh (by rw [hs]; rfl) (hx.use F.view fun v s₁ K₁ V₁ r₁ => ?_)
 cases r₁
 refine ⟨rfl, ?_⟩
 rw [hs]
 refine Calls.evalArgs_plain (Calls.spliced_cons (he.use V₁ fun u s₂ K₂ V₂ r₂ => Calls.spliced_nil ⟨rfl, by show 1 ≤ sizeLine; decide, fun h' a m => ?_⟩))
 exact h s₂ h' a u (K₁.trans K₂) m.of
end
structure KtS (l : List Env) (s s' : Shared) : Prop where
 eq : ∃ h t, s' = { s with heap := h, toks := t }
 tk : s.toks ≤ s'.toks
 keep : ∀ b o, s.heap.get? b = some o → b ∉ l.filterMap (·.frame) → s'.heap.get? b = some o
 up : s.heap.UpToSlots s'.heap
theorem KtS.of {l : List Env} {s s' : Shared} (k : Kt s s') : KtS l s s' := ⟨k.eq, k.tk, fun b o e _ => k.heap _ _ e, .of_keeps k.heap⟩
structure Rim (c : Cx) (A : Around) (l : List Env) (s : Shared) : Prop where
 frames : A.frames = some l
 funs : s.heap.FunFrames (hideAll s.heap (l.filterMap (·.frame))) l
 kn : ∀ b ∈ l.filterMap (·.frame), c.K b = none
theorem Rim.stk {c : Cx} {A : Around} {l : List Env} {s : Shared} (r : Rim c A l s) : Stk A l (hideAll s.heap (l.filterMap (·.frame))) s := ⟨r.frames, fun b o e => of_hideAll _ e, r.funs⟩
theorem Rim.base {c : Cx} {A : Around} {l : List Env} {s : Shared} (r : Rim c A l s) (base : HasK c.K s.heap) : HasK c.K (hideAll s.heap (l.filterMap (·.frame))) := fun a o e => hideAll_get _ (base a o e) fun m => by rw [r.kn a m] at e; cases e
theorem Fly.ktS {c : Cx} {A : Around} {l l' : List Env} {X : String} {s s' : Shared} {e : Value} (r : Rim c A l s) (x : Fly (hideAll s.heap (l.filterMap (·.frame))) l' X s e s') : KtS l s s' :=
 ⟨x.eq, x.tk, fun b o q n => by
  obtain ⟨a, a0, _, hf⟩ := x.at_
  exact hf.1 b o (hideAll_get _ q n), x.up⟩
section
variable {c : Cx} {A : Around} {s₀ : Shared} {env : Env} {s : Shared} {E : Value → Shared → Prop} {B : Heap} {l : List Env} {X T' : String}
theorem catch_fly {e : Value} {x : Str} {np pos : Pos} {b₀ : Stmt} {suite : List Stmt} {rest : List ExceptHandler} {Q : Flow → Shared → Prop} (ok : EnvOk env) (hfr : (A.deeper env).frames = some (env :: l)) (hf : env.frame = some env.locals) (z : Fly B (env :: l) X s₀ e s) (hb : HasK c.K B) (tok : 0 < s.toks)
  (hk : env.kindOf x = some .globalImplicit) (hv : c.mg x = none ∧ c.mb x = some (.type T')) (hexc : isSubtype (.type T') (.type "BaseException") = pure true) (hnt : isSubtype (.type ((Manifest.find? T').elim "type" fun x => x.metatype)) (.type "tuple") = pure false) (hsub : isSubtype (.type X) (.type T') = pure true)
  (hnc : (x == ("__classdict__" : Str)) = false) (hd : (x == ("__debug__" : Str)) = false)
  (h : ∀ s4 E', Fly B (env :: l) X s₀ e s4 → wpAny c.M ((A.deeper env).mark (some e)) (execs (b₀ :: suite) env) Q E' s4) :
  wpAny c.M (A.deeper env) (noteFrame e env) (fun _ s₂ => wpAny c.M (A.deeper env) (setFlight e none) (fun _ s₃ => wpAny c.M (A.deeper env) (handleBy e env (.ExceptHandler (some (.Name x np)) none (b₀ :: suite) pos :: rest)) Q E s₃) E s₂) E s := by
 obtain ⟨a, a0, rfl, hfl⟩ := z.at_
 obtain ⟨h0, t0, e0⟩ := z.eq
 refine wpAny_looks_onW hfr hf hfl fun h₄ hheld₄ hsm₄ => ?_
 refine wpAny_landsW hheld₄ fun h₅ hheld hsm₅' => ?_
 have hsm₅ := hsm₄.trans hsm₅'
 obtain ⟨ob, hob, hobc⟩ := hheld.there
 have V : View c (fun _ => False) env [] { s with heap := h₅ } := ⟨fun b o q => hheld.1 b o (hb b o q), fun _ q => q.elim, tok, fun _ _ q => nomatch q⟩
 refine wpAny_handleBy_builtin (X := X) (T := T') (b := true) hexc hnt hsub ((Ev.glob ok hk (.inr hv) hnc hd).use V fun v s6 K6 V6 r6 => ?_)
 cases r6
 obtain ⟨h6, t6, e6⟩ := K6.eq
 refine ⟨rfl, ⟨ob, K6.heap _ _ hob, hobc⟩, ?_⟩
 have hfl6 : Heap.FlyingW B (env :: l) a (.type X) a0 s6.heap := by
  obtain ⟨f1, f2, f3, oe, vs, T, oT, ts, a1, a2, a3, a4, a5, a6, a7, a8, a9⟩ := hheld
  exact ⟨fun b o q => K6.heap _ _ (f1 b o q), f2, f3.of_keeps fun b o q _ => ⟨o, K6.heap _ _ q, rfl⟩, oe, vs, T, oT, ts, K6.heap _ _ a1, a2, a3, a4, a5, a6, K6.heap _ _ a7, a8, a9⟩
 refine lands_againW hfl6 fun h₇ hfl₇ hsm₇ => h _ _ ⟨⟨a, a0, rfl, hfl₇⟩, ⟨h₇, t6, by rw [e6, e0]⟩, Nat.le_trans z.tk K6.tk, z.up.trans (hsm₅.trans ((Heap.UpToSlots.of_keeps K6.heap).trans hsm₇))⟩
end
theorem ueNew : ExcNewFacts "UnicodeEncodeError" "UnicodeEncodeError.__new__" where
 ends := by decide +kernel
 owner := by decide +kernel
 entry := entryFor_alias (id' := "BaseException.__new__") (by rw [fastTable_eq_tree]; kernel_rfl) (by first | rfl | decide +kernel) (by decide +kernel) (by rw [fastTable_eq_tree]; kernel_rfl)
 sub := by rw [isSubtype_type]; kernel_rfl
 notAttr := by rw [isSubtype_type]; kernel_rfl
 notName := by rw [isSubtype_type]; kernel_rfl
 made := by kernel_rfl
theorem ue_notType : (Value.type "UnicodeEncodeError" == Value.type "type") = false := by decide +kernel
theorem ue_canMake : ((Manifest.find? "UnicodeEncodeError").bind fun x => List.findSome? (fun t => (Manifest.find? t).bind fun b =>
  if b.noNew = true then some true else if (b.attrs.any fun x => x.fst == "__new__") = true then some false else none) x.mro).getD false = false := by kernel_rfl
theorem ue_noVector (args : Args) : checkTypeCall "UnicodeEncodeError" args = pure () := by kernel_rfl
theorem ue_mro : mroOf (.type "UnicodeEncodeError") = pure [.type "UnicodeEncodeError", .type "UnicodeError", .type "ValueError", .type "Exception", .type "BaseException", .type "object"] := by rw [mroOf_type]; kernel_rfl
theorem ue_madeBy : Bind.madeBy (.type "UnicodeEncodeError") = pure (some "UnicodeEncodeError.__new__") := by kernel_rfl
theorem ue_quiet : "UnicodeEncodeError.__new__".startsWith "lifetime." = false := by decide +kernel
theorem ue_newOk (rest : List Value) : checkBuiltinCall "UnicodeEncodeError.__new__" ⟨.type "UnicodeEncodeError" :: rest, []⟩ = pure () := by kernel_rfl
theorem ue_init : Slot "UnicodeEncodeError" "__init__" "UnicodeEncodeError.__init__" := .of (owner := "UnicodeEncodeError") (n := "__init__") (by rw [typeLookup_type, builtinLookup_eq_fast]; kernel_rfl) (by decide +kernel) (by decide +kernel) (by decide +kernel)
  (by first | exact .inl (by decide +kernel) | exact .inr (by decide +kernel)) (by rw [isSubtype_type]; kernel_rfl)
theorem ue_initEntry : entryFor table "UnicodeEncodeError.__init__" = some Builtin.«UnicodeEncodeError.__init__» := entryFor_of_tree (by kernel_rfl)
theorem ue_args (a b c d e f : Value) : argsOk "UnicodeEncodeError.__init__" ⟨[a, b, c, d, e, f], []⟩ := by
 unfold argsOk; kernel_rfl
section
open Builtin.UnicodeEncodeError
variable {prog : Program} {w : World} {A : Around} {E : Value → Shared → Prop} {s : Shared}
theorem ue_members {a : Addr} {o : Obj} {vs : Array Value} {Q : Members → Shared → Prop} (ho : s.heap.get? a = some o) (hd : o.data = .fields vs) {m : Members} (hm : ∀ {B : Type} (k : Members → Sem B), True) (hv : (vs.extract 6).toList = [] ∧ m = {} ∨ ∃ x1 x2 x3 t3 x4 t4 x5, (vs.extract 6).toList = [x1, x2, .int x3 t3, .int x4 t4, x5] ∧ m = ⟨x1, x2, x3, x4, x5⟩) (h : Q m s) : wpAny (model prog w) A (members (.ref a)) Q E s := by
 unfold members
 refine wpAny_bind (wpAny_fieldsOf ho hd ?_)
 rcases hv with ⟨e, rfl⟩ | ⟨x1, x2, x3, t3, x4, t4, x5, e, rfl⟩
 ·rw [e]; exact wpAny_pure h
 ·rw [e]; exact wpAny_pure h
theorem ue_set {a : Addr} {o : Obj} {vs : Array Value} {Q : Unit → Shared → Prop} (ho : s.heap.get? a = some o) (hd : o.data = .fields vs) {m : Members} (hsz : (vs.extract 0 6).size ≤ 6) (h : Q () { s with heap := s.heap.update a (Obj.mapFields fun vs => vs.extract 0 6 ++ #[m.encoding, m.object, rawInt m.start, rawInt m.stop, m.reason]) }) : wpAny (model prog w) A (setMembers (.ref a) m) Q E s := by
 unfold setMembers
 refine wpAny_updateFields ho hd h ?_
 rw [Array.size_append]
 show _ + 5 ≤ _
 have : sizeLine = 2 ^ 24 := rfl
 omega
noncomputable def UeAt (h : Heap) (a : Addr) (vs : Array Value) : Prop := ∃ o, h.get? a = some o ∧ o.cls = .type "UnicodeEncodeError" ∧ o.data = .fields vs
theorem UeAt.map {h : Heap} {a : Addr} {vs : Array Value} (u : UeAt h a vs) (f : Array Value → Array Value) : UeAt (h.update a (Obj.mapFields f)) a (f vs) := by
 obtain ⟨o, ho, hc, hd⟩ := u
 have hd2 := Obj.data_mapFields hd f
 exact ⟨_, Heap.get?_update_self _ ho (Obj.isFreed_of_fields hd2), by rw [Obj.cls_mapFields, hc], hd2⟩
theorem ue_mem1 {a : Addr} {vs : Array Value} {Q : Members → Shared → Prop} (u : UeAt s.heap a vs) {m : Members} (hv : (vs.extract 6).toList = [] ∧ m = {} ∨ ∃ x1 x2 x3 t3 x4 t4 x5, (vs.extract 6).toList = [x1, x2, .int x3 t3, .int x4 t4, x5] ∧ m = ⟨x1, x2, x3, x4, x5⟩) (h : Q m s) : wpAny (model prog w) A (members (.ref a)) Q E s := by
 obtain ⟨o, ho, hc, hd⟩ := u
 exact ue_members ho hd (fun _ => trivial) hv h
theorem ue_set1 {a : Addr} {vs : Array Value} {Q : Unit → Shared → Prop} (u : UeAt s.heap a vs) (m : Members) (hsz : (vs.extract 0 6).size ≤ 6) (h : ∀ h', UeAt h' a (vs.extract 0 6 ++ #[m.encoding, m.object, rawInt m.start, rawInt m.stop, m.reason]) → Heap.SameBut a s.heap h' → Q () { s with heap := h' }) : wpAny (model prog w) A (setMembers (.ref a) m) Q E s := by
 have um := u.map fun vs => vs.extract 0 6 ++ #[m.encoding, m.object, rawInt m.start, rawInt m.stop, m.reason]
 obtain ⟨o, ho, hc, hd⟩ := u
 exact ue_set ho hd hsz (h _ um (Heap.SameBut.update ..))
theorem ex6 (T : Value) (x1 x2 x3 x4 x5 : Value) : ((#[T, .none, .none, .none, .bool false, .none, x1, x2, x3, x4, x5] : Array Value).extract 6).toList = [x1, x2, x3, x4, x5] := by kernel_rfl
theorem ex06 (T : Value) (x1 x2 x3 x4 x5 y1 y2 y3 y4 y5 : Value) : (#[T, .none, .none, .none, .bool false, .none, x1, x2, x3, x4, x5] : Array Value).extract 0 6 ++ #[y1, y2, y3, y4, y5] = #[T, .none, .none, .none, .bool false, .none, y1, y2, y3, y4, y5] := by kernel_rfl
theorem ez6 (T : Value) : ((#[T, .none, .none, .none, .bool false, .none] : Array Value).extract 6).toList = [] := by kernel_rfl
theorem ez06 (T : Value) (y1 y2 y3 y4 y5 : Value) : (#[T, .none, .none, .none, .bool false, .none] : Array Value).extract 0 6 ++ #[y1, y2, y3, y4, y5] = #[T, .none, .none, .none, .bool false, .none, y1, y2, y3, y4, y5] := by kernel_rfl
theorem es06 (T : Value) (x1 x2 x3 x4 x5 : Value) : ((#[T, .none, .none, .none, .bool false, .none, x1, x2, x3, x4, x5] : Array Value).extract 0 6).size ≤ 6 := by rw [Array.size_extract]; omega
theorem esz6 (T : Value) : ((#[T, .none, .none, .none, .bool false, .none] : Array Value).extract 0 6).size ≤ 6 := by rw [Array.size_extract]; omega
noncomputable def U6 (T : Value) : Array Value := #[T, .none, .none, .none, .bool false, .none]
noncomputable def U11 (T x1 x2 : Value) (x3 x4 : Int) (x5 : Value) : Array Value := #[T, .none, .none, .none, .bool false, .none, x1, x2, rawInt x3, rawInt x4, x5]
theorem mem_sb {a : Addr} {h0 h1 h2 : Heap} (k : ∀ b o, b ≠ a → h0.get? b = some o → h1.get? b = some o) (z : Heap.SameBut a h1 h2) : ∀ b o, b ≠ a → h0.get? b = some o → h2.get? b = some o := fun b o n e => z.extBut b o n (k b o n e)
theorem m6 {a : Addr} {T : Value} {Q : Members → Shared → Prop} (u : UeAt s.heap a (U6 T)) (h : Q {} s) : wpAny (model prog w) A (members (.ref a)) Q E s := ue_mem1 u (.inl ⟨ez6 T, rfl⟩) h
theorem m11 {a : Addr} {T x1 x2 x5 : Value} {x3 x4 : Int} {Q : Members → Shared → Prop} (u : UeAt s.heap a (U11 T x1 x2 x3 x4 x5)) (h : Q ⟨x1, x2, x3, x4, x5⟩ s) : wpAny (model prog w) A (members (.ref a)) Q E s := ue_mem1 u (.inr ⟨_, _, _, _, _, _, _, ex6 T x1 x2 (rawInt x3) (rawInt x4) x5, rfl⟩) h
theorem s6 {a : Addr} {T : Value} {Q : Unit → Shared → Prop} (u : UeAt s.heap a (U6 T)) (m : Members) (h : ∀ h', UeAt h' a (U11 T m.encoding m.object m.start m.stop m.reason) → Heap.SameBut a s.heap h' → Q () { s with heap := h' }) : wpAny (model prog w) A (setMembers (.ref a) m) Q E s :=
 ue_set1 u m (esz6 T) fun h' u' z => h h' (by
  have := ez06 T m.encoding m.object (rawInt m.start) (rawInt m.stop) m.reason
  unfold U6 at u'
  rw [this] at u'
  exact u') z
theorem s11 {a : Addr} {T x1 x2 x5 : Value} {x3 x4 : Int} {Q : Unit → Shared → Prop} (u : UeAt s.heap a (U11 T x1 x2 x3 x4 x5)) (m : Members) (h : ∀ h', UeAt h' a (U11 T m.encoding m.object m.start m.stop m.reason) → Heap.SameBut a s.heap h' → Q () { s with heap := h' }) : wpAny (model prog w) A (setMembers (.ref a) m) Q E s :=
 ue_set1 u m (es06 ..) fun h' u' z => h h' (by
  have := ex06 T x1 x2 (rawInt x3) (rawInt x4) x5 m.encoding m.object (rawInt m.start) (rawInt m.stop) m.reason
  unfold U11 at u'
  rw [this] at u'
  exact u') z
theorem ue_begin {a : Addr} {r : Value} {rest : List Value} {Q : Value × List Value → Shared → Prop} (u : UeAt s.heap a (U6 r)) (hl : rest.length = 5)
  (h : ∀ H T x1 x2 x3 x4 x5, UeAt H a (U11 (.ref T) x1 x2 x3 x4 x5) → (∀ b o, b ≠ a → s.heap.get? b = some o → H.get? b = some o) → Q (.ref a, rest) { s with heap := H }) :
  wpAny (model prog w) A (beginInit "UnicodeEncodeError.__init__" 5 ⟨.ref a :: rest, []⟩) Q E s := by
 unfold beginInit
 simp only [List.isEmpty_nil, Bool.not_true, Bool.false_eq_true, if_false]
 obtain ⟨o, ho, hc, hd⟩ := u
 refine wpAny_bind (wpAny_field ho hd (x := r) rfl ?_)
 unfold newTuple
 refine wpAny_bind (wpAny_newObj_type ?_ (by show rest.toArray.size ≤ sizeLine; rw [List.size_toArray, hl]; decide))
 have u1 : UeAt (s.heap.push { cls := .type "tuple", data := .seq rest.toArray }) a (U6 r) := ⟨o, Heap.get?_push_of_some _ ho, hc, hd⟩
 have k1 : ∀ b o, s.heap.get? b = some o → (s.heap.push { cls := .type "tuple", data := .seq rest.toArray }).get? b = some o := fun b o e => Heap.get?_push_of_some _ e
 generalize s.heap.push { cls := .type "tuple", data := .seq rest.toArray } = H1 at u1 k1 ⊢
 obtain ⟨o1, ho1, hc1, hd1⟩ := id u1
 refine wpAny_bind (wpAny_setField ho1 hd1 (by show 0 < 6; decide) ?_)
 have u2 := u1.map (·.setIfInBounds 0 (Value.ref s.heap.objs.size))
 have b2 : ∀ b o, b ≠ a → H1.get? b = some o → (H1.update a (Obj.mapFields (·.setIfInBounds 0 (Value.ref s.heap.objs.size)))).get? b = some o := fun b o n e => by rw [Heap.get?_update_other _ _ (Ne.symm n)]; exact e
 generalize H1.update a (Obj.mapFields (·.setIfInBounds 0 (Value.ref s.heap.objs.size))) = H2 at u2 b2 ⊢
 have e2 : (U6 r).setIfInBounds 0 (Value.ref s.heap.objs.size) = U6 (.ref s.heap.objs.size) := by unfold U6; rfl
 have u2 : UeAt H2 a ((U6 r).setIfInBounds 0 (Value.ref s.heap.objs.size)) := u2
 rw [e2] at u2
 have b2 : ∀ b o, b ≠ a → s.heap.get? b = some o → H2.get? b = some o := fun b o n e => b2 b o n (k1 b o e)
 generalize s.heap.objs.size = T at u2
 clear e2
 refine wpAny_bind (wpAny_letGo ?_)
 rw [if_pos (by decide)]
 refine wpAny_bind (m6 (s := { s with heap := H2 }) u2 ?_)
 refine wpAny_bind (s6 (s := { s with heap := H2 }) u2 _ fun H3 u3 z3 => ?_)
 refine wpAny_bind (wpAny_letGo ?_)
 refine wpAny_bind (m11 (s := { s with heap := H3 }) u3 ?_)
 refine wpAny_bind (s11 (s := { s with heap := H3 }) u3 _ fun H4 u4 z4 => ?_)
 refine wpAny_bind (wpAny_letGo ?_)
 refine wpAny_bind (m11 (s := { s with heap := H4 }) u4 ?_)
 refine wpAny_bind (s11 (s := { s with heap := H4 }) u4 _ fun H5 u5 z5 => ?_)
 refine wpAny_bind (wpAny_letGo ?_)
 rw [if_neg (by rw [hl]; decide)]
 exact wpAny_pure (h H5 T _ _ _ _ _ u5 (mem_sb (mem_sb (mem_sb b2 z3) z4) z5))
theorem ue_size {i : Int} {t : Tok} {Q : Int → Shared → Prop} (hi : 0 ≤ i ∧ i < 2 ^ 62) (h : Q i s) : wpAny (model prog w) A (sizeArgument "UnicodeEncodeError.__init__" (.int i t)) Q E s := by
 unfold sizeArgument
 refine wpAny_bind (m := asIndex _) (wpAny_pure ?_)
 have h1 : ¬ i < -(2 ^ 63 : Int) := by omega
 have h2 : ¬ i ≥ (2 ^ 63 : Int) := by omega
 rw [if_neg (by rw [Bool.or_eq_true, decide_eq_true_eq, decide_eq_true_eq]; exact fun q => q.elim h1 h2)]
 exact wpAny_pure h
theorem ue_range {a : Addr} {T : Value} {x1 x2 x5 : Value} {x3 x4 i j : Int} {ti tj : Tok} {Q : Unit → Shared → Prop} (u : UeAt s.heap a (U11 T x1 x2 x3 x4 x5)) (hi : 0 ≤ i ∧ i < 2 ^ 62) (hj : 0 ≤ j ∧ j < 2 ^ 62)
  (h : ∀ H, UeAt H a (U11 T x1 x2 i j x5) → (∀ b o, b ≠ a → s.heap.get? b = some o → H.get? b = some o) → Q () { s with heap := H }) : wpAny (model prog w) A (initRange "UnicodeEncodeError.__init__" (.ref a) (.int i ti) (.int j tj)) Q E s := by
 unfold initRange
 refine wpAny_bind (ue_size hi ?_)
 refine wpAny_bind (m11 u ?_)
 refine wpAny_bind (s11 u _ fun H6 u6 z6 => ?_)
 refine wpAny_bind (ue_size hj ?_)
 refine wpAny_bind (m11 (s := { s with heap := H6 }) u6 ?_)
 exact s11 (s := { s with heap := H6 }) u6 _ fun H7 u7 z7 => h H7 u7 (mem_sb (fun b o n e => z6.extBut b o n e) z7)
theorem ue_body {a : Addr} {r : Value} {x y z : Str} {t1 t2 t3 t4 t5 : Tok} {i j : Int} {Q : Fin → Shared → Prop} (u : UeAt s.heap a (U6 r)) (hi : 0 ≤ i ∧ i < 2 ^ 62) (hj : 0 ≤ j ∧ j < 2 ^ 62)
  (h : ∀ h' vs, UeAt h' a vs → (∃ t, vs[0]? = some (.ref t)) → vs[1]? = some .none → (∀ b o, b ≠ a → s.heap.get? b = some o → h'.get? b = some o) → Q (.done (.ret .none)) { s with heap := h' }) :
  wpAny (model prog w) A (Builtin.«UnicodeEncodeError.__init__» ⟨[.ref a, .str x t1, .str y t2, .int i t3, .int j t4, .str z t5], []⟩) Q E s := by
 unfold Builtin.«UnicodeEncodeError.__init__»
 refine wpAny_bind (ue_begin u rfl fun H1 T x1 x2 x3 x4 x5 u1 b1 => ?_)
 dsimp only
 refine wpAny_bind (m := strArgument _ _ _) (wpAny_pure ?_)
 refine wpAny_bind (m := strArgument _ _ _) (wpAny_pure ?_)
 refine wpAny_bind (ue_range (s := { s with heap := H1 }) u1 hi hj fun H2 u2 b2 => ?_)
 refine wpAny_bind (m := strArgument _ _ _) (wpAny_pure ?_)
 refine wpAny_bind (m11 (s := { s with heap := H2 }) u2 ?_)
 refine wpAny_bind (s11 (s := { s with heap := H2 }) u2 _ fun H8 u8 z8 => ?_)
 exact wpAny_pure (h H8 _ u8 ⟨T, rfl⟩ rfl (mem_sb (fun b o n e => b2 b o n (b1 b o n e)) z8))
end
structure UeNew (h h' : Heap) (e : Addr) : Prop where
 keeps : ∀ b o, h.get? b = some o → h'.get? b = some o
 new : h.get? e = none
 there : ∃ oe vs t, h'.get? e = some oe ∧ oe.cls = .type "UnicodeEncodeError" ∧ oe.data = .fields vs ∧ vs[0]? = some (.ref t) ∧ vs[1]? = some .none
section
variable {prog : Program} {w : World} {A : Around} {E : Value → Shared → Prop}
theorem ue_type_call {x y z : Str} {t1 t2 t3 t4 t5 : Tok} {i j : Int} {Q : Fin → Shared → Prop} {hp : Heap} {g : Array GenState} {d : Drawn} {tk : Nat} {os : OsState} (hi : 0 ≤ i ∧ i < 2 ^ 62) (hj : 0 ≤ j ∧ j < 2 ^ 62)
  (h : ∀ h' e, UeNew hp h' e → Q (.done (.ret (.ref e))) ⟨h', g, d, tk, os⟩) :
  wpAny (model prog w) A (Builtin.«type.__call__» ⟨.type "UnicodeEncodeError" :: [.str x t1, .str y t2, .int i t3, .int j t4, .str z t5], []⟩) Q E ⟨hp, g, d, tk, os⟩ := by
 have hnt := ue_notType
 have hcan := ue_canMake
 have hchk := ue_noVector ⟨[.str x t1, .str y t2, .int i t3, .int j t4, .str z t5], []⟩
 have hmro := ue_mro
 have hne : ([.type "UnicodeEncodeError", .type "UnicodeError", .type "ValueError", .type "Exception", .type "BaseException", .type "object"] : List Value).isEmpty = false := rfl
 generalize ([.type "UnicodeEncodeError", .type "UnicodeError", .type "ValueError", .type "Exception", .type "BaseException", .type "object"] : List Value) = m at hmro hne
 have hmade := ue_madeBy
 generalize hrest : ([.str x t1, .str y t2, .int i t3, .int j t4, .str z t5] : List Value) = rest at hchk ⊢
 wp_walk
 refine codeAny_call_builtin_code (Code.quiet_builtin _ ue_quiet) (wpAny_of_eq (ue_newOk rest) ?_)
 refine codeAny_exc_new ueNew ?_ (by rw [← hrest]; show 5 ≤ sizeLine; decide)
 show wpAny _ _ _ _ _ _
 have hget : ((hp.push { cls := .type "tuple", data := .seq rest.toArray }).push
   {cls := .type "UnicodeEncodeError", data := .fields #[.ref hp.objs.size, .none, .none, .none, .bool false, .none] }).get? (hp.objs.size + 1) = some
   {cls := .type "UnicodeEncodeError", data := .fields #[.ref hp.objs.size, .none, .none, .none, .bool false, .none] } := by heap_get
 refine wpAny_bind (wpAny_isInstance ⟨_, hget, rfl⟩ ueNew.sub ?_)
 wp_step
 subst hrest
 refine wpAny_bind (wpAny_holding (wpAny_callSpecial?_slot ⟨_, hget, rfl⟩ ue_init (wpAny_call_entry ue_init ⟨_, hget, rfl⟩ ue_initEntry ?_ (ue_args ..))))
 refine ue_body (r := .ref hp.objs.size) ⟨_, hget, rfl, rfl⟩ hi hj fun h' vs u e0 e1 kp => ⟨_, rfl, ?_⟩
 wp_walk
 obtain ⟨o, ho, hc, hd⟩ := u
 obtain ⟨t, e0⟩ := e0
 refine h _ _ ⟨fun b o hb => kp b o (Nat.ne_of_lt (Nat.lt_succ_of_lt (Heap.lt_size hb))) (Heap.get?_push_of_some _ (Heap.get?_push_of_some _ hb)), Heap.get?_none_of_le (Nat.le_succ _), o, vs, t, ho, hc, hd, e0, e1⟩
theorem ue_call {s : Shared} {x y z : Str} {t1 t2 t3 t4 t5 : Tok} {i j : Int} {Q : Value → Shared → Prop} (hi : 0 ≤ i ∧ i < 2 ^ 62) (hj : 0 ≤ j ∧ j < 2 ^ 62)
  (h : ∀ h' e, UeNew s.heap h' e → Q (.ref e) { s with heap := h' }) :
  wpAny (model prog w) A (call (.type "UnicodeEncodeError") [.str x t1, .str y t2, .int i t3, .int j t4, .str z t5]) Q E s := by
 obtain ⟨hp, g, d, tk, os⟩ := s
 refine wpAny_call (codeAny_of_tree ?_)
 show wpAny _ _ (again (.builtin "type.__call__" ⟨.type "UnicodeEncodeError" :: [.str x t1, .str y t2, .int i t3, .int j t4, .str z t5], []⟩)) _ _ _
 exact wpAny_pure ⟨Code.quiet_builtin _ (by decide +kernel), codeAny_builtin entry_typeCall (ue_type_call hi hj fun h' e hm => h h' e hm)⟩
end
end Mine
end
section
open PySem PySem.W PyProof.Rows PySem.Calls Builtin Builtin._codecs
namespace Mine
noncomputable def octs (x : Str) : Array UInt8 := (x.cps.toList.map fun k => k.toUInt8).toArray
theorem octs_size (x : Str) : (octs x).size = x.cps.size := by unfold octs; simp
theorem bad_of {k : Nat} : latin1Codec.bad k = decide (k ≥ 256) := rfl
theorem find_none {a : Array Nat} (h : ∀ k ∈ a.toList, k < 256) : a.findIdx? latin1Codec.bad = none := by
 rw [Array.findIdx?_eq_none_iff]
 intro k hk
 rw [bad_of]
 exact decide_eq_false (by have := h k (Array.mem_toList_iff.mpr hk); omega)
theorem fold_octs : ∀ (l : List Nat) (acc : Array UInt8), l.foldl (fun acc y => acc ++ (latin1Codec.bytesOf y).toArray) acc = acc ++ (l.map fun k => k.toUInt8).toArray
 | [], acc => by simp
 | k :: l, acc => by
  rw [List.foldl_cons, fold_octs l]
  show acc ++ [k.toUInt8].toArray ++ _ = _
  rw [Array.append_assoc]
  congr 1
  simp
theorem str_strict : ((none : Option Str).getD (Str.ofString "strict")).toString = "strict" := by decide +kernel
section
variable {prog : Program} {w : World} {A : Around} {E : Value → Shared → Prop} {s : Shared}
theorem enc_ok {x : Str} {t : Tok} {Q : Array UInt8 → Shared → Prop} (hx : ∀ k ∈ x.cps.toList, k < 256) (hsz : x.cps.size ≤ 1000000) (h : Q (octs x) s) : wpAny (model prog w) A (encodeNarrow "str.encode" latin1Codec none (.str x t) x) Q E s := by
 unfold encodeNarrow
 simp only []
 rw [Std.Legacy.Range.forIn_eq_forIn_range']
 have e0 : x.cps.extract 0 = x.cps := Array.extract_eq_self_of_le (Nat.le_refl _)
 have e1 : (x.cps.extract 0 x.cps.size).foldl (fun acc y => acc ++ (latin1Codec.bytesOf y).toArray) #[] = octs x := by
  rw [Array.extract_eq_self_of_le (Nat.le_refl _), ← Array.foldl_toList, fold_octs]; unfold octs; simp
 refine wpAny_bind ?_
 refine wpAny_forIn_list _ (fun rest b s' => s' = s ∧ ((b = (0, #[], {}) ∧ rest.length = x.length) ∨ (b.1 = x.cps.size ∧ b.2.1 = octs x))) _ ?_ ?_ _ _ ⟨rfl, .inl ⟨rfl, by simp⟩⟩
 ·rintro y rest b s' ⟨rfl, hb⟩
  rcases hb with ⟨rfl, hl⟩ | ⟨h1, h2⟩
  ·have hpos : 0 < x.cps.size := by
    rw [List.length_cons] at hl
    have : x.length = x.cps.size := rfl
    omega
   dsimp only
   rw [if_neg (by show ¬ (0 > sizeLine); exact Nat.not_lt_zero _)]
   rw [Array.getElem?_eq_getElem hpos]
   dsimp only
   have hb : latin1Codec.bad x.cps[0] = false := by rw [bad_of]; exact decide_eq_false (by have := hx x.cps[0] (Array.mem_toList_iff.mpr (Array.getElem_mem hpos)); omega)
   rw [hb, if_pos (by rfl), e0, find_none hx]
   exact wpAny_pure ⟨rfl, .inr ⟨Nat.zero_add _, e1⟩⟩
  ·have hz : ¬ b.2.1.size > sizeLine := by rw [h2, octs_size]; have : sizeLine = 2 ^ 24 := rfl; omega
   rw [if_neg hz, h1, Array.getElem?_eq_none (Nat.le_refl _)]
   exact wpAny_pure (wpAny_pure (by rw [h2]; exact h))
 ·rintro b s' ⟨rfl, hb⟩
  rcases hb with ⟨rfl, hl⟩ | ⟨h1, h2⟩
  ·have : octs x = #[] := by
    have e : x.cps.toList.length = 0 := by rw [Array.length_toList]; have : x.length = x.cps.size := rfl; rw [List.length_nil] at hl; omega
    unfold octs; rw [List.length_eq_zero_iff.mp e]; rfl
   exact wpAny_pure (by rw [this] at h; exact h)
  ·exact wpAny_pure (by rw [h2]; exact h)
end
section
variable {prog : Program} {w : World} {A : Around} {E : Value → Shared → Prop} {s : Shared}
theorem fault_eq {α : Type} (codec : String) (self : Value) (a b : Nat) (r : String) : (raiseEncodeFault {} codec self a b r : Sem α) = (do raiseNew (← (do call (.type "UnicodeEncodeError") [← mkStr codec, ← pure self, ← mkInt a, ← mkInt b, ← mkStr r]))) := rfl
theorem fault_goes {α : Type} {x : Str} {t : Tok} {a b : Nat} {Q : α → Shared → Prop} (hh : A.handled = none) (ha : a ≤ 1000000) (hb : b ≤ 1000000)
  (h : ∀ s1 h' e, Kt s s1 → UeNew s1.heap h' e → E (.ref e) { s1 with heap := h' }) : wpAny (model prog w) A (raiseEncodeFault {} latin1Codec.name (.str x t) a b latin1Codec.reason : Sem α) Q E s := by
 rw [fault_eq]
 refine wpAny_bind ?_
 refine wpAny_bind (wpAny_mkStr ?_ (by decide +kernel))
 refine wpAny_bind (wpAny_pure ?_)
 refine wpAny_bind (wpAny_mkInt ?_)
 refine wpAny_bind (wpAny_mkInt ?_)
 refine wpAny_bind (wpAny_mkStr ?_ (by decide +kernel))
 refine ue_call ⟨by omega, by omega⟩ ⟨by omega, by omega⟩ fun h' e u => ?_
 refine wpAny_raiseNew_none hh ?_
 exact h _ h' e ⟨⟨⟨_, _, rfl⟩, fun b o e => e⟩, by show s.toks ≤ s.toks + 1 + 1 + 1 + 1; omega⟩ u
theorem enc_bad {x : Str} {t : Tok} {Q : Array UInt8 → Shared → Prop} (hh : A.handled = none) (hx : ∃ k ∈ x.cps.toList, ¬ k < 256) (hsz : x.cps.size ≤ 1000000)
  (h : ∀ s1 h' e, Kt s s1 → UeNew s1.heap h' e → E (.ref e) { s1 with heap := h' }) : wpAny (model prog w) A (encodeNarrow "str.encode" latin1Codec none (.str x t) x) Q E s := by
 unfold encodeNarrow
 simp only []
 rw [Std.Legacy.Range.forIn_eq_forIn_range']
 have e0 : x.cps.extract 0 = x.cps := Array.extract_eq_self_of_le (Nat.le_refl _)
 obtain ⟨j, hj⟩ : ∃ j, x.cps.findIdx? latin1Codec.bad = some j := by
  cases e : x.cps.findIdx? latin1Codec.bad with
  | some j => exact ⟨j, rfl⟩
  | none =>
   obtain ⟨k, hk, hb⟩ := hx
   rw [Array.findIdx?_eq_none_iff] at e
   have := e k (Array.mem_toList_iff.mp hk)
   rw [bad_of] at this
   exact absurd (of_decide_eq_false this) (by omega)
 obtain ⟨hjl, hjb, hjf⟩ := Array.findIdx?_eq_some_iff_getElem.mp hj
 refine wpAny_bind ?_
 refine wpAny_forIn_list _ (fun rest b s' => s' = s ∧ b.2.2 = {} ∧ b.2.1.size ≤ 1000000 ∧ ((b.1 = 0 ∧ b.2.1 = #[] ∧ rest.length = x.length) ∨ (b.1 = j ∧ 0 < j ∧ rest.length + 1 = x.length))) _ ?_ ?_ _ _ ⟨rfl, rfl, by simp, .inl ⟨rfl, rfl, by simp⟩⟩
 ·rintro y rest b s' ⟨rfl, h1, h2, hb⟩
  have hz : ¬ b.2.1.size > sizeLine := by have : sizeLine = 2 ^ 24 := rfl; omega
  rw [if_neg hz]
  have hi : b.1 < x.cps.size := by
   have : x.length = x.cps.size := rfl
   rcases hb with ⟨q, _, q2⟩ | ⟨q, _, q2⟩ <;> rw [List.length_cons] at q2 <;> omega
  rw [Array.getElem?_eq_getElem hi]
  dsimp only
  by_cases hbad : latin1Codec.bad x.cps[b.1] = true
  ·rw [if_neg (by rw [hbad]; decide)]
   refine wpAny_bind (wpAny_rule ?_)
   rw [str_strict, h1]
   split
   ·rename_i bytes e
    exfalso
    split at e <;> first | (rename_i q; exact absurd q (by decide)) | cases e
   rw [if_pos (by decide)]
   refine wpAny_bind (fault_goes hh (by omega) ?_ h)
   cases e : (x.cps.extract b.1).findIdx? fun y => !latin1Codec.bad y with
   | none => show b.1 + (x.cps.size - b.1) ≤ _; omega
   | some k =>
    obtain ⟨q, _, _⟩ := Array.findIdx?_eq_some_iff_getElem.mp e
    rw [Array.size_extract] at q
    show b.1 + k ≤ _
    omega
  ·rcases hb with ⟨q, q1, q2⟩ | ⟨q, _, q2⟩
   ·rw [if_pos (by rw [Bool.not_eq_true] at hbad; rw [hbad]; rfl), q, e0, hj, q1]
    have hj0 : 0 < j := by
     rcases Nat.eq_zero_or_pos j with z | z
     ·exfalso
      subst z
      apply hbad
      have : x.cps[b.1] = x.cps[0] := by congr 1
      rw [this]; exact hjb
     ·exact z
    refine wpAny_pure ⟨rfl, h1, ?_, .inr ⟨Nat.zero_add _, hj0, by rw [← q2, List.length_cons]⟩⟩
    rw [← Array.foldl_toList, fold_octs]
    have : ((x.cps.extract 0 j).toList).length ≤ x.cps.size := by rw [Array.length_toList, Array.size_extract]; omega
    simp only [Option.getD_some, Array.size_append, List.size_toArray, List.length_map]
    show 0 + _ ≤ _
    omega
   ·exact (hbad (by
     have : x.cps[b.1] = x.cps[j] := by congr 1
     rw [this]; exact hjb)).elim
 ·rintro b s' ⟨rfl, _, _, hb⟩
  exfalso
  have : x.length = x.cps.size := rfl
  rcases hb with ⟨_, _, q⟩ | ⟨_, _, q⟩ <;> rw [List.length_nil] at q <;> omega
end
section
variable {prog : Program} {w : World} {A : Around} {E : Value → Shared → Prop} {s : Shared}
theorem enc_tree (x : Str) (t u : Tok) : Builtin.«str.encode» ⟨[.str x t, .str (Str.ofString "iso-8859-1") u], []⟩ = (do ret (← (do mkBytes (← encodeNarrow "str.encode" latin1Codec none (.str x t) x)))) := by kernel_rfl
theorem call_enc_ok {x : Str} {t u : Tok} {Q : Value → Shared → Prop} (hx : ∀ k ∈ x.cps.toList, k < 256) (hsz : x.cps.size ≤ 1000000) (h : Q (.bytes (octs x) s.toks) { s with toks := s.toks + 1 }) :
  wpAny (model prog w) A (call (.builtin "str.encode") [.str x t, .str (Str.ofString "iso-8859-1") u]) Q E s := by
 refine wpAny_call_entry F.slot_str_encode (typeIs_str _ _ _) F.entry_str_encode ?_ (F.args_str_encode_2 _ _)
 rw [enc_tree]
 refine wpAny_bind (wpAny_bind (enc_ok hx hsz ?_))
 unfold mkBytes
 rw [if_neg (by rw [octs_size]; have : sizeLine = 2 ^ 24 := rfl; omega)]
 refine wpAny_bind (wpAny_fresh ?_)
 exact wpAny_pure (wpAny_pure ⟨_, rfl, h⟩)
theorem call_enc_bad {x : Str} {t u : Tok} {Q : Value → Shared → Prop} (hh : A.handled = none) (hx : ∃ k ∈ x.cps.toList, ¬ k < 256) (hsz : x.cps.size ≤ 1000000) (h : ∀ s1 h' e, Kt s s1 → UeNew s1.heap h' e → E (.ref e) { s1 with heap := h' }) :
  wpAny (model prog w) A (call (.builtin "str.encode") [.str x t, .str (Str.ofString "iso-8859-1") u]) Q E s := by
 refine wpAny_call_entry F.slot_str_encode (typeIs_str _ _ _) F.entry_str_encode ?_ (F.args_str_encode_2 _ _)
 rw [enc_tree]
 exact wpAny_bind (wpAny_bind (enc_bad (by exact hh) hx hsz h))
end
section
variable {c : Cx} {A : Around} {env : Env} {σ : List (Str × D)}
theorem Ev.encode {o : Expr} {apos pos p1 : Pos} {k1 : Nat} {x : Str} (ho : Ev c A env σ o (.str x)) (hbase : attributeBase o "encode" env (eval o env) = eval o env) (hline : (apos.endLine == pos.line) = true) (hx : ∀ k ∈ x.cps.toList, k < 256) (hsz : x.cps.size ≤ 1000000) :
  Ev c A env σ (.Call (.Attribute o "encode" apos) [.Constant (.str (Str.ofString "iso-8859-1")) k1 p1] [] pos) (.byt (octs x)) := .intro fun W s E V =>
 Call_method1 hbase (by rfl) hline (ho.use V fun v s₁ K₁ V₁ r₁ => by
  cases r₁
  refine ⟨"str", "str.encode", F.plainAttrs_str, F.slot_str_encode, F.type_str_encode, typeIs_str _ _ _, (fun _ e => nomatch e), ?_⟩
  refine Calls.callWith_builtin rfl (Calls.evalArgs_plain (Calls.spliced_cons (Calls.Constant_str (Calls.spliced_nil ?_))))
  exact call_enc_ok hx hsz ⟨K₁.toKq.trans ⟨⟨_, _, rfl⟩, fun _ _ e => e⟩, .byt _ _⟩)
theorem encode_bad {W : Addr → Prop} {s : Shared} {E : Value → Shared → Prop} {Q : Value → Shared → Prop} (hh : A.handled = Option.none) {o : Expr} {apos pos p1 : Pos} {k1 : Nat} {x : Str} (ho : Ev c A env σ o (.str x)) (V : View c W env σ s) (hbase : attributeBase o "encode" env (eval o env) = eval o env) (hline : (apos.endLine == pos.line) = true) (hx : ∃ k ∈ x.cps.toList, ¬ k < 256) (hsz : x.cps.size ≤ 1000000)
  (h : ∀ s1 h' e, Kt s s1 → UeNew s1.heap h' e → E (.ref e) { s1 with heap := h' }) :
  wpAny c.M A (eval (.Call (.Attribute o "encode" apos) [.Constant (.str (Str.ofString "iso-8859-1")) k1 p1] [] pos) env) Q E s :=
 Call_method1 hbase (by rfl) hline (ho.use V fun v s₁ K₁ V₁ r₁ => by
  cases r₁
  refine ⟨"str", "str.encode", F.plainAttrs_str, F.slot_str_encode, F.type_str_encode, typeIs_str _ _ _, (fun _ e => nomatch e), ?_⟩
  refine Calls.callWith_builtin rfl (Calls.evalArgs_plain (Calls.spliced_cons (Calls.Constant_str (Calls.spliced_nil ?_))))
  exact call_enc_bad hh hx hsz fun s1 h' e k u => h s1 h' e (K₁.trans (Kt.trans (s' := { s₁ with toks := s₁.toks + 1 }) ⟨⟨⟨_, s₁.toks + 1, rfl⟩, fun _ _ e => e⟩, Nat.le_succ s₁.toks⟩ k)) u)
end
end Mine
end
section
open PySem PySem.W PyProof.Rows PySem.Calls
namespace Mine
section
variable {A : Around} {s₀ : Shared} {env : Env} {s : Shared} {E : Value → Shared → Prop} {B : Heap} {l : List Env} {M : Model}
theorem leave_new {e : Addr} {h' : Heap} (k : Stk (A.deeper env) (env :: l) B s) (hf : env.frame = some env.locals) (hx : UeNew s.heap h' e) {Q : Unit → Shared → Prop} (K : Kt s₀ s)
  (h : ∀ s3, Fly B l "UnicodeEncodeError" s₀ (.ref e) s3 → Q () s3) : wpAny M (A.deeper env) (leaving env (.ref e)) Q E { s with heap := h' } := by
 obtain ⟨oe, vs, t, he, hc, hd, e0, e1⟩ := hx.there
 have hen : B.get? e = none := by
  cases q : B.get? e with
  | none => rfl
  | some o => have := k.stays _ _ q; rw [hx.new] at this; cases this
 refine wpAny_leaving_firstW (s := { s with heap := h' }) k.frames (k.funs.of_keeps fun b o q _ => ⟨o, hx.keeps _ _ q, rfl⟩) hf he (fun b o q => hx.keeps _ _ (k.stays b o q)) hen hd e1 e0 fun h2 ⟨k1, k2, k3, k4⟩ => h _ ?_
 obtain ⟨h1, t1, q1⟩ := K.eq
 obtain ⟨_, _, k2⟩ := k2
 exact ⟨⟨e, _, rfl, k1, hen, k2, hc ▸ k3⟩, ⟨h2, s.toks, by rw [q1]⟩, K.tk, ((Heap.UpToSlots.of_keeps K.heap).trans (Heap.UpToSlots.of_keeps hx.keeps)).trans k4⟩
end
section
variable {c : Cx} {A : Around} {env : Env} {σ : List (Str × D)} {W : Addr → Prop} {s : Shared} {E : Value → Shared → Prop}
theorem bytes_of_own {prog : Program} {w : World} {A : Around} {E : Value → Shared → Prop} {s : Shared} {x C f : Addr} {B : String} {Q : Value → Shared → Prop} (X : s.heap.OwnSpecial x C f B "__bytes__")
  (h : wpAny (model prog w) A.in1.in1 (call (.ref f) [.ref x]) (fun r s' => ∃ y u, r = .bytes y u ∧ Q r s') E s) : wpAny (model prog w) A (call (.type "bytes") [.ref x]) Q E s := by
 refine callType_codes (Q₁ := fun r s₁ => ∃ y u, r = .bytes y u ∧ Q r s₁) F.bm_called (F.bm_typeCall _) F.entry_object_init ?_ ?_
 ·refine codeAny_of_tree ?_
  show wpAny _ A.in1.in1 (do checkBuiltinCall "bytes.__new__" ⟨[.type "bytes", .ref x], []⟩; again (.builtin "bytes.__new__" ⟨[.type "bytes", .ref x], []⟩)) _ _ s
  refine wpAny_bind (wpAny_of_eq (F.bm_newCall _) (wpAny_pure ⟨plainId_quiet F.bm_plain _, codeAny_builtin F.bm_entry ?_⟩))
  rw [Around.under_plainId F.bm_plain _]
  unfold Builtin.«bytes.__new__»
  refine wpAny_bind (wpAny_of_eq (a := true) rfl ?_)
  refine bm_if_false rfl ?_
  refine wpAny_bind (wpAny_of_eq F.bm_sub ?_)
  refine bm_if_false rfl ?_
  refine wpAny_bind (wpAny_of_eq (F.bm_bind _) ?_)
  refine wpAny_bind (wpAny_of_eq (a := ()) rfl ?_)
  refine wpAny_bind (wpAny_of_eq (a := ()) rfl ?_)
  refine bm_if_false rfl ?_
  obtain ⟨hh, g, d, tk, os⟩ := s
  refine wpAny_bind (wpAny_specialOf_own X ?_)
  refine wpAny_bind (m := callSpecial? (.ref x) (Str.ofString "__bytes__")) (wpAny_callSpecial?_own X (wpAny_mono h (fun r s' hr => ?_) fun _ _ y => y))
  obtain ⟨y, u, rfl, hq⟩ := hr
  dsimp only
  refine wpAny_bind (wpAny_isInstance (PySem.W.typeIs_bytes _ _ _) F.bm_sub ?_)
  refine bm_if_false rfl ?_
  first | exact wpAny_pure ⟨_, rfl, y, u, rfl, hq⟩ | exact wpAny_pure ⟨y, u, rfl, hq⟩ | exact wpAny_bind (wpAny_pure (wpAny_pure ⟨y, u, rfl, hq⟩)) | trace_state
 ·rintro obj s₁ ⟨y, u, rfl, hq⟩
  exact ⟨PySem.W.typeIs_bytes _ _ _, F.args_object_init_2 _ _, object_init_meets F.bm_called.init.lookup F.bm_called.made (by decide) prog w A.in1 _ s₁ ⟨PySem.W.typeIs_bytes _ _ _, rfl, hq⟩⟩
theorem obj_bytes : ∃ y, typeLookup (.type "object") "__bytes__" = pure y := ⟨none, by rw [typeLookup_type, builtinLookup_eq_fast]; kernel_rfl⟩
theorem call_bytesOwn {x : Str} {np p : Pos} {e : Expr} {k N fa : Addr} {mN : Str → Option Value} {fs : List (Str × D)} {fd : FuncData} {body : List Stmt} (C : Kls c k N mN) (hf : Ev c A env σ (.Name x np) (.val (.type "bytes"))) (he : Ev c A env σ e (.ins k fs)) (hs : starEach [e] env = [(false, eval e env)])
  (hm : mN "__bytes__" = some (.ref fa)) (fn : Fun c fa fd body) (hfc : ∀ h o, HasK c.K h → h.get? fa = some o → o.cls = .type "function") (V : View c W env σ s) {Q : Value → Shared → Prop}
  (h : ∀ t s', Kt s s' → View c W env σ s' → Rd W s'.heap (.ref t) (.ins k fs) → wpAny c.M A.in1.in1 (call (.ref fa) [.ref t]) (fun r s' => ∃ y u, r = .bytes y u ∧ Q r s') E s') :
  wpAny c.M A (eval (.Call (.Name x np) [e] [] p) env) Q E s :=
 Call_name1 hs (hf.use V fun f s₁ k₁ V₁ r₁ => by
  cases r₁
  refine PySem.callWith_type1 (he.use V₁ fun v s₂ k₂ V₂ r₂ => ?_)
  obtain ⟨t, m, rfl, I, hx, rf⟩ := r₂.inst
  obtain ⟨o, hfo, hd⟩ := fn.at_ _ V₂.base
  have hfc' := hfc _ _ V₂.base hfo
  have Xc := C.at_ _ V₂.base
  obtain ⟨nm, q, bs, sn, sub, col, dd, k0, k1, k2, k3, k5, hC⟩ := Xc.obj
  obtain ⟨y, hy⟩ := obj_bytes
  obtain ⟨ot, e1, e2, _⟩ := I
  exact bytes_of_own (B := "object") ⟨ot, o, nm, q, _, bs, _, _, sn, sub, _, col, dd, k0, k1, k2, k3, k5, _, mN, y, e1, e2, hC, Xc.ns, hm, hfo, hfc', F.mro_object, hy⟩ (h t s₂ (k₁.trans k₂) V₂ r₂))
end
section
variable {c : Cx} {A : Around} {s₀ : Shared} {W₀ Md W : Addr → Prop} {env : Env} {σ : List (Str × D)} {μ : List (Addr × Own)} {s : Shared} {E : Value → Shared → Prop}
theorem KtS.upd {env : Env} (hf : env.frame = some env.locals) {s s' : Shared} (K : KtS [env] s s') : Upd (fun b => b = env.locals) s s' :=
 ⟨K.eq, K.tk, fun b o n e => K.keep b o e (by
  rw [List.filterMap_cons, hf]
  intro m
  rcases List.mem_cons.mp m with q | q
  ·exact n q
  ·cases q)⟩
theorem Fr.slots (hf : env.frame = some env.locals) (F : Fr c s₀ W₀ Md W env σ μ s) {s' : Shared} (K : KtS [env] s s') : Fr c s₀ W₀ Md W env σ μ s' := by
 have U' := K.upd hf
 obtain ⟨m, n⟩ := F.ns
 have n' := K.up.ns n
 have hU : ∀ b o, b ≠ env.locals → s.heap.get? b = some o → s'.heap.get? b = some o := fun b o n e => U'.keep b o n e
 have hm : ∀ a, a = env.locals → W a := fun a e => e ▸ F.loc.1
 exact { F with
  view := F.view.upd U' (fun a e => e ▸ F.kn F.loc.2) (fun a e => by subst e; obtain ⟨o, _, _, e, _⟩ := n'; exact ⟨o, e⟩) fun y e hy => by
   obtain ⟨u, b, ru⟩ := F.view.vars y e hy
   exact ⟨u, b.atLocals n n' rfl fun b o n e => hU b o n e, U'.rd hm ru⟩
  up := ⟨by obtain ⟨h1, t1, q1⟩ := F.up.eq; obtain ⟨h2, t2, q2⟩ := U'.eq; exact ⟨h2, t2, by rw [q2, q1]⟩, Nat.le_trans F.up.tk U'.tk, fun b o hb e => hU b o (fun q => by
   subst q
   rcases F.loc.2 with q | q
   ·exact hb q
   ·rw [q] at e; cases e) (F.up.keep b o hb e)⟩
  ns := ⟨m, n'⟩
  cell := fun y b h1 h2 => let ⟨q1, q2, u, q3⟩ := F.cell y b h1 h2; ⟨q1, q2, u, IsCell.atK q3 fun o e => hU b o (cell_ne_ns q3 n) e⟩
  own := fun b l hb => let ⟨q1, q2, q3, q4⟩ := F.own b l hb; ⟨q1, q2, q3, q4.keep (fun o e => hU b o q3 e) fun v d r => U'.rd hm r⟩ }
theorem Fr.rim (ok : EnvOk env) (hf : env.frame = some env.locals) (hA : A.frames = some [env]) (F : Fr c s₀ W₀ Md W env σ μ s) : Rim c A [env] s := by
 obtain ⟨m, n⟩ := F.ns
 have e : [env].filterMap (·.frame) = [env.locals] := by rw [List.filterMap_cons, hf]; rfl
 refine ⟨hA, Heap.FunFrames.cons (by rw [ok.kind]; decide) hf n ?_ trivial, fun b hb => ?_⟩
 ·rw [e]; exact hideAll_none _ (List.mem_singleton.mpr rfl)
 ·rw [e] at hb
  rw [List.mem_singleton.mp hb]
  exact F.kn F.loc.2
theorem Cmp.neBool {a b : Bool} : Cmp c A .NotEq (.val (.bool a)) (.val (.bool b)) (a != b) := fun W s E u v _ ru rv => by
 cases ru; cases rv
 exact PyProof.Rows.ne_bool ⟨.refl _, rfl⟩
theorem Cmp.neNone : Cmp c A .NotEq (.val .none) (.val .none) false := fun W s E u v _ ru rv => by
 cases ru; cases rv
 exact PySem.EqNone.ne_none_none ⟨.refl _, rfl⟩
theorem Cmp.neByt {b : Array UInt8} : Cmp c A .NotEq (.byt b) (.byt b) false := fun W s E u v _ ru rv => by
 cases ru; cases rv
 exact ne_bytes ⟨.refl _, by rw [bne_self_eq_false]⟩
noncomputable def isOct : D → Bool
 | .byt _ => true
 | .val .none => true
 | _ => false
theorem Cmp.neOct {d : D} (h : isOct d = true) : Cmp c A .NotEq d d false := by
 cases d with
 | byt b => exact Cmp.neByt
 | val v => cases v <;> first | exact Cmp.neNone | cases h
 | _ => cases h
end
section
variable {c : Cx} {A : Around} {env : Env} {σ : List (Str × D)} {E : Value → Shared → Prop}
theorem Cmp.leN {i j : Nat} : Cmp c A .LtE (.int (i : Nat)) (.int (j : Nat)) (decide (i ≤ j)) := fun W s E u v _ ru rv => by
 cases ru; cases rv
 refine PyProof.Rows.le_int ⟨.refl _, ?_⟩
 have e : decide ((i : Int) ≤ (j : Int)) = decide (i ≤ j) := by by_cases h : i ≤ j <;> simp [h]
 rw [e]
theorem Cmp.neN {i j : Nat} : Cmp c A .NotEq (.int (i : Nat)) (.int (j : Nat)) (decide (i ≠ j)) := fun W s E u v _ ru rv => by
 cases ru; cases rv
 refine PyProof.Rows.ne_int ⟨.refl _, ?_⟩
 have e : ((i : Int) != (j : Int)) = decide (i ≠ j) := by
  by_cases h : i = j
  ·subst h; simp
  ·rw [decide_eq_true h]; exact bne_iff_ne.mpr (by omega)
 rw [e]
theorem Ev.chain2 {l m r : Expr} {p : Pos} {i j k : Nat} (hl : Ev c A env σ l (.int (i : Nat))) (hm : Ev c A env σ m (.int (j : Nat))) (hr : Ev c A env σ r (.int (k : Nat))) (hk : lastMarks [.LtE, .LtE] [m, r] = false := by rfl) : Ev c A env σ (.Compare l [.LtE, .LtE] [m, r] p) (.val (.bool (decide (i ≤ j) && decide (j ≤ k)))) := fun W s E V =>
 Compare_chain (hl.use V fun u s₁ K₁ V₁ r₁ => chain_link (hm.use V₁ fun v s₂ K₂ V₂ r₂ => wpAny_mono (Cmp.leN (c := c) W s₂ E u v V₂.base (r₁.keeps K₂.heap) r₂) (fun z s₃ q => by
  obtain ⟨K₃, rfl⟩ := q
  refine wpAny_truthy_bool ?_
  by_cases h : i ≤ j
  ·rw [decide_eq_true h, if_pos rfl]
   have V₃ := V₂.keeps K₃
   refine chain_last (hr.use V₃ fun x s₄ K₄ V₄ r₄ => wpAny_mono (Cmp.leN (c := c) W s₄ E v x V₄.base ((r₂.keeps K₃.heap).keeps K₄.heap) r₄) (fun z s₅ q => by
    obtain ⟨K₅, rfl⟩ := q
    exact ⟨(((K₁.trans K₂).trans K₃).trans K₄).trans K₅, .val _⟩) fun _ _ e => e)
  ·rw [decide_eq_false h, if_neg (by decide)]
   exact ⟨(K₁.trans K₂).trans K₃, .val _⟩) fun _ _ e => e)) hk
theorem Ev.orB {e f : Expr} {p : Pos} {a b : Bool} (he : Ev c A env σ e (.val (.bool a))) (hf : a = false → Ev c A env σ f (.val (.bool b))) : Ev c A env σ (.BoolOp .Or [e, f] p) (.val (.bool (a || b))) := fun W s E V =>
 BoolOp_or (he.use V fun u s₁ K₁ V₁ r₁ => by
  cases r₁
  refine wpAny_truthy_bool ?_
  cases a with
  | true => exact ⟨K₁, .val _⟩
  | false => exact BoolOp_one ((hf rfl).use V₁ fun v s₂ K₂ V₂ r₂ => ⟨K₁.trans K₂, r₂⟩))
theorem Ev.andB {e f : Expr} {p : Pos} {a b : Bool} (he : Ev c A env σ e (.val (.bool a))) (hf : a = true → Ev c A env σ f (.val (.bool b))) : Ev c A env σ (.BoolOp .And [e, f] p) (.val (.bool (a && b))) := fun W s E V =>
 BoolOp_and (he.use V fun u s₁ K₁ V₁ r₁ => by
  cases r₁
  refine wpAny_truthy_bool ?_
  cases a with
  | false => exact ⟨K₁, .val _⟩
  | true => exact BoolOp_one ((hf rfl).use V₁ fun v s₂ K₂ V₂ r₂ => ⟨K₁.trans K₂, r₂⟩))
end
noncomputable def skip2 {α : Type} : List α → List α
 | [] => []
 | [a] => [a]
 | a :: _ :: l => a :: skip2 l
theorem skip2_map {α β : Type} (f : α → β) : ∀ l : List α, skip2 (l.map f) = (skip2 l).map f
 | [] => rfl
 | [a] => rfl
 | a :: b :: l => congrArg (f a :: ·) (skip2_map f l)
theorem skip2_len {α : Type} : ∀ l : List α, (skip2 l).length = (l.length + 1) / 2
 | [] => by show 0 = (0 + 1) / 2; decide
 | [a] => by show 1 = (1 + 1) / 2; decide
 | a :: b :: l => by show (skip2 l).length + 1 = _; rw [skip2_len l]; simp only [List.length_cons]; omega
theorem skip2_range {α : Type} : ∀ m : List α, ((List.range ((m.length + 1) / 2)).map (2 * ·)).filterMap (m[·]?) = skip2 m
 | [] => by
  have : (([] : List α).length + 1) / 2 = 0 := by show (0 + 1) / 2 = 0; decide
  rw [this]; rfl
 | [a] => by
  have : ([a].length + 1) / 2 = 1 := by show (1 + 1) / 2 = 1; decide
  rw [this]; rfl
 | a :: b :: l => by
  have e : ((a :: b :: l).length + 1) / 2 = (l.length + 1) / 2 + 1 := by simp only [List.length_cons]; omega
  rw [e, List.range_succ_eq_map, List.map_cons, List.filterMap_cons]
  show a :: _ = a :: skip2 l
  rw [← skip2_range l, List.map_map, List.filterMap_map, List.filterMap_map]
  congr 1
theorem pick_step (items : Array Value) (a : Nat) (ha : a ≤ items.size) : slicePick items (some a) none (some 2) = (skip2 (items.toList.drop a)).toArray := by
 have e : sliceBounds (some (a : Int)) none (some 2) items.size = ((a : Int), (items.size : Int), 2) := by
  simp only [sliceBounds, Option.getD_some]
  have h1 : ¬ ((a : Int) < 0) := by omega
  simp only [h1, if_false, show (2 : Int) > 0 by decide, if_true]
  congr 1
  omega
 unfold slicePick
 rw [e]
 have er : sliceRange (a : Int) (items.size : Int) 2 = (List.range ((items.size - a + 1) / 2)).map (fun k => a + 2 * k) := by
  unfold sliceRange
  simp only [show (2 : Int) > 0 by decide, if_true]
  by_cases h : (a : Int) < items.size
  ·rw [if_pos h]
   have : ((items.size : Int) - a + 2 - 1) / 2 = (((items.size - a + 1) / 2 : Nat) : Int) := by omega
   rw [this, Int.toNat_natCast]
   refine List.map_congr_left fun k _ => ?_
   omega
  ·rw [if_neg h]
   have : (items.size - a + 1) / 2 = 0 := by omega
   rw [this]; rfl
 rw [er]
 congr 1
 have el : (items.toList.drop a).length = items.size - a := by simp
 rw [← skip2_range, el, List.filterMap_map, List.filterMap_map]
 congr 1
 funext k
 simp [Function.comp]
section
variable {c : Cx} {A : Around} {env : Env} {σ : List (Str × D)} {W : Addr → Prop} {s : Shared} {E : Value → Shared → Prop}
theorem slice_end2 {s₃ : Shared} {vl vu vk : Value} {l' : List D} {vs' : Array Value} (V : View c W env σ s) (K : Kt s s₃) (hr : RdL W s₃.heap vs'.toList l') :
  Kt s { s₃ with heap := (s₃.heap.push { cls := .type "slice", data := .fields #[vl, vu, vk] }).push { cls := .type "list", data := .seq vs' } } ∧
  Rd W ((s₃.heap.push { cls := .type "slice", data := .fields #[vl, vu, vk] }).push { cls := .type "list", data := .seq vs' }) (.ref (s₃.heap.objs.size + 1)) (.lst l') := by
 have k : ∀ b o, s₃.heap.get? b = some o → ((s₃.heap.push { cls := .type "slice", data := .fields #[vl, vu, vk] }).push { cls := .type "list", data := .seq vs' }).get? b = some o :=
  fun b o e => Heap.get?_push_of_some _ (Heap.get?_push_of_some _ e)
 refine ⟨K.trans ⟨.with k, Nat.le_refl _⟩, .lst ?_ ⟨_, 0, by rw [← Heap.size_push s₃.heap]; exact Heap.get?_push_size _ rfl, rfl, rfl, rfl⟩ (hr.keeps k)⟩
 intro h
 obtain ⟨o, e⟩ := V.wold _ h
 exact absurd (Heap.lt_size (K.heap _ _ e)) (Nat.not_lt.mpr (Nat.le_succ _))
theorem RdL.skip2N {W : Addr → Prop} {h : Heap} (n : Nat) : ∀ {ds : List D} {vs : List Value}, ds.length ≤ n → RdL W h vs ds → RdL W h (skip2 vs) (skip2 ds) := by
 induction n with
 | zero =>
  intro ds vs hl r
  cases r with
  | nil => exact .nil
  | cons _ _ => cases hl
 | succ n ih =>
  intro ds vs hl r
  cases r with
  | nil => exact .nil
  | cons a r =>
   cases r with
   | nil => exact .cons a .nil
   | cons _ r => exact .cons a (ih (Nat.le_of_succ_le (Nat.le_of_succ_le_succ hl)) r)
theorem RdL.skip2 {W : Addr → Prop} {h : Heap} {ds : List D} {vs : List Value} (r : RdL W h vs ds) : RdL W h (skip2 vs) (skip2 ds) := RdL.skip2N _ (Nat.le_refl _) r
theorem Ev.slice2 {value e f : Expr} {p pos : Pos} {l : List D} {a : Nat} (hv : Ev c A env σ value (.lst l)) (he : Ev c A env σ e (.int a)) (hf : Ev c A env σ f (.int 2)) (ha : a ≤ l.length) (hn : l.length ≤ 1000000) (ht : ∀ o r, letTemporaryGo value o r = pure () := by intro _ _; rfl) :
  Ev c A env σ (.Subscript value (.Slice (some e) Option.none (some f) p) pos) (.lst (skip2 (l.drop a))) := fun W s E V => by
 refine wpAny_Subscript_Slice_step (T := "list") list_getitem_lookup (hv.use V fun v s₁ K₁ V₁ r₁ => wpAny_Slice (wpAny_evalPart_some (he.use V₁ fun u s₂ K₂ V₂ r₂ => by
  cases r₂
  refine wpAny_evalPart_none (wpAny_evalPart_some (hf.use V₂ fun x s₃ K₃ V₃ r₃ => ?_))
  cases r₃
  cases (r₁.keeps K₂.heap).keeps K₃.heap with
  | lst ha' ht' hr =>
   rename_i b vs
   have el : vs.size = l.length := by rw [← hr.length]; simp
   refine ⟨(ht'.isList.push _).typeIs, wpAny_getItem_list_slice (ht'.isList.push _) (Heap.IsSliceOf.new ..) (.int _ _) .none (.int _ _) (by simp) ?_ (by rw [el, sizeLine_eq]; omega)⟩
   rw [Heap.size_push, pick_step vs a (by omega)]
   exact slice_end2 V ((K₁.trans K₂).trans K₃) (by rw [List.toList_toArray]; exact (hr.drop a).skip2)))) ht
end
section
variable {c : Cx} {A : Around} {env : Env} {σ : List (Str × D)} {W : Addr → Prop} {s : Shared} {E : Value → Shared → Prop}
theorem Ev.tupleOf {x : Str} {np p : Pos} {e : Expr} {l : List D} (hf : Ev c A env σ (.Name x np) (.val (.type "tuple"))) (hs : starEach [e] env = [(false, eval e env)]) (he : Ev c A env σ e (.lst l)) (hn : l.length ≤ 1000000) :
  Ev c A env σ (.Call (.Name x np) [e] [] p) (.tup l) :=
 .callT1 hf hs he fun W s E v wo _ r => by
  cases r with
  | lst ha ht hr =>
   rename_i a vs
   have el : vs.size = l.length := by rw [← hr.length]; simp
   refine call_tuple_list ht.isList (fun h' k => ?_) (by rw [el, sizeLine_eq]; omega)
   have k2 : ∀ b o, s.heap.get? b = some o → (h'.push { cls := .type "tuple", data := .seq vs }).get? b = some o := fun b o e => Heap.get?_push_of_some _ (k b o e)
   refine ⟨.with (t := s.toks) k2, .tup (fun h => ?_) ⟨_, Heap.get?_push_size _ rfl, rfl, 0, rfl⟩ (hr.keeps k2)⟩
   obtain ⟨o', q⟩ := wo _ h
   exact absurd (Heap.lt_size (k _ _ q)) (Nat.lt_irrefl _)
theorem Ev.replaceChr {o e : Expr} {x0 : Str} {np cp apos pos p2 : Pos} {k2 : Nat} {x z : Str} {k : Nat} (hk : k ≤ 1114111) (ho : Ev c A env σ o (.str x)) (hf : Ev c A env σ (.Name x0 np) (.val (.builtin "chr"))) (hs1 : starEach [e] env = [(false, eval e env)]) (he : Ev c A env σ e (.int (k : Nat)))
  (hs : backTo pos (starEach [.Call (.Name x0 np) [e] [] cp, .Constant (.str z) k2 p2] env) = [(false, eval (.Call (.Name x0 np) [e] [] cp) env), (false, eval (.Constant (.str z) k2 p2) env)]) (hs' : starEach [.Call (.Name x0 np) [e] [] cp, .Constant (.str z) k2 p2] env = [(false, eval (.Call (.Name x0 np) [e] [] cp) env), (false, eval (.Constant (.str z) k2 p2) env)])
  (hbase : attributeBase o "replace" env (eval o env) = eval o env) (hline : (apos.endLine == pos.line) = true)
  (hyz : ((⟨#[k]⟩ : Str) == z) = false) (hb : x.length + (x.length + 1) * z.length ≤ 16777216) :
  Ev c A env σ (.Call (.Attribute o "replace" apos) [.Call (.Name x0 np) [e] [] cp, .Constant (.str z) k2 p2] [] pos) (.str (Txt.replace x ⟨#[k]⟩ z)) := .intro fun W s E V =>
 Call_method2 hbase hs' hline (ho.use V fun v s₁ K₁ V₁ r₁ => by
  cases r₁
  rename_i t
  refine ⟨"str", "str.replace", F.plainAttrs_str, F.slot_str_replace, F.type_str_replace, typeIs_str _ _ _, (fun _ e => nomatch e), ?_⟩
  refine Calls.callWith_builtin rfl (Calls.evalArgs_plain (Calls.spliced_cons ?_))
  refine Call_name1 hs1 (hf.use V₁ fun f s₂ K₂ V₂ r₂ => ?_)
  cases r₂
  refine PySem.callWith_builtin1 (he.use V₂ fun u s₃ K₃ V₃ r₃ => ?_)
  cases r₃
  refine P.chr_of_int (by rw [decide_eq_false (by omega), decide_eq_false (by omega)]; rfl) ?_
  refine Calls.spliced_cons (Calls.Constant_str (Calls.spliced_nil ?_))
  have tk := V₃.tok
  rw [Int.toNat_natCast]
  refine SC.replace (by show s₃.toks ≠ 0; omega) (by show s₃.toks + 1 ≠ 0; omega) (by show s₃.toks ≠ s₃.toks + 1; omega) hyz hb fun t' kk => ⟨((K₁.trans K₂).trans K₃).toKq.trans ⟨⟨_, kk, rfl⟩, fun _ _ e => e⟩, .str _ _⟩)
end
noncomputable def natI (k : Nat) : D := .int (k : Int)
noncomputable def maxN (l : List Nat) : Nat := l.foldl max 0
theorem le_fold : ∀ (l : List Nat) (z : Nat), z ≤ l.foldl max z ∧ ∀ a ∈ l, a ≤ l.foldl max z
 | [], z => ⟨Nat.le_refl _, fun _ h => nomatch h⟩
 | a :: l, z => by
  obtain ⟨h1, h2⟩ := le_fold l (max z a)
  refine ⟨Nat.le_trans (Nat.le_max_left _ _) h1, fun b hb => ?_⟩
  rcases List.mem_cons.mp hb with rfl | hb
  ·exact Nat.le_trans (Nat.le_max_right _ _) h1
  ·exact h2 b hb
theorem fold_le : ∀ (l : List Nat) (z M : Nat), z ≤ M → (∀ a ∈ l, a ≤ M) → l.foldl max z ≤ M
 | [], z, M, h, _ => h
 | a :: l, z, M, h, k => fold_le l (max z a) M (Nat.max_le.mpr ⟨h, k a (List.mem_cons_self ..)⟩) fun b hb => k b (List.mem_cons_of_mem _ hb)
theorem maxN_eq {l : List Nat} {M : Nat} (hm : M ∈ l) (h : ∀ a ∈ l, a ≤ M) : maxN l = M := Nat.le_antisymm (fold_le l 0 M (Nat.zero_le _) h) ((le_fold l 0).2 M hm)
theorem maxN_lt {l : List Nat} {b : Nat} (hb : 0 < b) : maxN l < b ↔ ∀ a ∈ l, a < b :=
 ⟨fun h a ha => Nat.lt_of_le_of_lt ((le_fold l 0).2 a ha) h, fun h => by
  have := fold_le l 0 (b - 1) (Nat.zero_le _) fun a ha => by have := h a ha; omega
  unfold maxN; omega⟩
theorem ints_of {W : Addr → Prop} {h : Heap} {ks : List Nat} : ∀ {vs : List Value}, RdL W h vs (ks.map natI) → IntsAre vs (ks.map fun (k : Nat) => (k : Int)) := by
 induction ks with
 | nil => intro vs r; cases r; exact .nil
 | cons k ks ih =>
  intro vs r
  cases r with
  | cons a b => cases a; exact .cons _ _ (ih b)
section
variable {c : Cx} {A : Around} {env : Env} {σ : List (Str × D)} {W : Addr → Prop} {s : Shared} {E : Value → Shared → Prop}
theorem Ev.maxN {x : Str} {np p : Pos} {e : Expr} {ks : List Nat} (hh : A.handled = Option.none) (hf : Ev c A env σ (.Name x np) (.val (.builtin "max"))) (hs : starEach [e] env = [(false, eval e env)]) (he : Ev c A env σ e (.lst (ks.map natI))) (hne : 0 < ks.length) :
  Ev c A env σ (.Call (.Name x np) [e] [] p) (.int (maxN ks : Nat)) := .intro fun W s E V =>
 Call_name1 hs (hf.use V fun f s₁ k₁ V₁ r₁ => by
  cases r₁
  refine PySem.callWith_builtin1 (he.use V₁ fun v s₂ k₂ V₂ r₂ => ?_)
  cases r₂ with
  | lst ha ht hr =>
   rename_i a vs
   have hi := ints_of hr
   obtain ⟨xs, e⟩ := hi.allInts.items
   have hns : (ks.map fun (k : Nat) => (k : Int)) = xs.toList.map (·.1) := by
    rw [← hi.numsOf, ← nums_intItems, ← e]
   have hsz : 0 < xs.size := by
    have h3 : 0 < (ks.map fun (k : Nat) => (k : Int)).length := by rw [List.length_map]; exact hne
    rw [hns, List.length_map, Array.length_toList] at h3; exact h3
   have hl := ht.isList
   have e' : vs = intItems xs := by rw [← e]
   rw [e'] at hl
   refine max_intList hh hl hsz fun v h' tk hv hk => ?_
   obtain ⟨t, rfl⟩ := intItems_at hv
   obtain ⟨h1, h2⟩ := argBest_gt (numAt xs) (xs.size - 1)
   generalize argBest (fun i j => decide (numAt xs i > numAt xs j)) (xs.size - 1) = i0 at h1 h2 hv
   have hmem : numAt xs i0 ∈ ks.map fun (k : Nat) => (k : Int) := by
    rw [hns, numAt_eq]; exact getD_mem (by rw [List.length_map, Array.length_toList]; omega)
   obtain ⟨M, hM, eM⟩ := List.mem_map.mp hmem
   have hle : ∀ a ∈ ks, a ≤ M := fun a ha => by
    have ha' : ((a : Nat) : Int) ∈ ks.map fun (k : Nat) => (k : Int) := List.mem_map_of_mem (f := fun (k : Nat) => (k : Int)) ha
    rw [hns] at ha'
    obtain ⟨j, hj, ej⟩ := mem_getD ha'
    rw [List.length_map, Array.length_toList] at hj
    have := h2 j (by omega)
    rw [numAt_eq, ← eM, ej] at this
    exact Int.ofNat_le.mp this
   rw [← eM, ← maxN_eq hM hle]
   exact ⟨(k₁.trans k₂).toKq.trans ⟨⟨_, tk, rfl⟩, hk⟩, .int _ _⟩)
theorem Ev.bytesL {x : Str} {np p : Pos} {e : Expr} {ks : List Nat} (hh : A.handled = Option.none) (hf : Ev c A env σ (.Name x np) (.val (.type "bytes"))) (hs : starEach [e] env = [(false, eval e env)]) (he : Ev c A env σ e (.lst (ks.map natI))) (hn : ks.length ≤ 1000000) (hk : ∀ k ∈ ks, k < 256) :
  Ev c A env σ (.Call (.Name x np) [e] [] p) (.byt ((ks.map fun k => k.toUInt8).toArray)) := .intro fun W s E V =>
 Call_name1 hs (hf.use V fun f s₁ k₁ V₁ r₁ => by
  cases r₁
  refine PySem.callWith_type1 (he.use V₁ fun v s₂ k₂ V₂ r₂ => ?_)
  cases r₂ with
  | lst ha ht hr =>
   rename_i a vs
   have hi := ints_of hr
   have el : vs.toList.length = ks.length := by rw [hr.length, List.length_map]
   have hl := ht.isList
   have e0 : vs = vs.toList.toArray := by simp
   rw [e0] at hl
   refine call_bytes_ints hl hi (fun n hn => ?_) (by rw [el, sizeLine_eq]; omega) hh fun h' t k hk => ?_
   ·obtain ⟨k, hk', rfl⟩ := List.mem_map.mp hn
    have := hk k hk'
    omega
   ·have eb : byteArr (ks.map fun (k : Nat) => (k : Int)) = (ks.map fun k => k.toUInt8).toArray := by
     unfold byteArr; rw [List.map_map]; rfl
    rw [eb]
    exact ⟨(k₁.trans k₂).toKq.trans ⟨⟨_, k, rfl⟩, hk⟩, .byt _ _⟩)
theorem Ev.compP {elt iter : Expr} {x y : Str} {p1 p2 p3 : Pos} {kk : Nat} {scope : Scope} {pos : Pos} {cl : List (Str × Addr)} {di : D} {xs : List (Str × Str)} {f : Str × Str → D} {σc : List (Str × D)}
  (hh : A.handled = Option.none) (ok : EnvOk env) (hi : Ev c A env σ iter di) (it : Itr c A di (xs.map fun p => .tup [.str p.1, .str p.2])) (hn : xs.length ≤ 1000000)
  (hclos : closureFor scope env = pure cl) (hcell : ∀ y ∈ scope.names, y.2 ≠ .cell) (hkind : scope.kind = .function) (hnames : ∀ y ∈ scope.names, y.2 = .local → scope.names.lookup y.1 = some .local) (cap : Cap env scope cl σ σc)
  (hx : ∀ C, (compEnvC scope cl C env).kindOf x = some .local) (hy : ∀ C, (compEnvC scope cl C env).kindOf y = some .local)
  (step : ∀ C a, a ∈ xs → Ev c A (compEnvC scope cl C env) ((y, .str a.2) :: (x, .str a.1) :: σc) elt (f a)) (hs : ∀ x, foldedSetIterable iter env x = pure x := by intro _; rfl) :
  Ev c A env σ (.ListComp elt [⟨.Tuple [.Name x p1, .Name y p2] kk p3, iter, [], 0⟩] scope pos) (.lst (xs.map f)) := by
 have key : ((xs.map fun p => D.tup [.str p.1, .str p.2]).filter (fun _ => true)).map (fun d => match d with | .tup [.str a, .str b] => f (a, b) | _ => .val .none) = xs.map f := by
  rw [List.filter_eq_self.mpr (by simp), List.map_map]
  rfl
 rw [← key]
 refine Ev.comp hh ok hi it (by rw [List.length_map]; exact hn) hclos hcell hkind hnames cap (fun C d hd => ?_) hs
 obtain ⟨a, ha, rfl⟩ := List.mem_map.mp hd
 exact ⟨_, .pair (hx C) (hy C), .nil, fun _ => step C a ha⟩
end
section
variable {c : Cx} {A : Around} {s₀ : Shared} {W₀ Md W : Addr → Prop} {env : Env} {σ : List (Str × D)} {μ : List (Addr × Own)} {s : Shared} {E : Value → Shared → Prop}
theorem st_pairO (hh : A.handled = Option.none) (ok : EnvOk env) {x y : Str} {p q pt pos tp : Pos} {k k2 : Nat} {e1 e2 : Expr} {Q : Flow → Shared → Prop} (hx : Nm env x) (hy : Nm env y)
  (he : wpAny c.M A (spliced (backTo tp (starEach [e1, e2] env))) (fun vs s₁ => ∃ W₁ μ₁ d e u1 u2, vs = [u1, u2] ∧ Fr c s₀ W₀ Md W₁ env σ μ₁ s₁ ∧ Rd W₁ s₁.heap u1 d ∧ Rd W₁ s₁.heap u2 e ∧ ∀ s', Fr c s₀ W₀ Md W₁ env ((x, d) :: (y, e) :: σ) μ₁ s' → Q .next s') E s)
  (hs : swapsWithSole [.Tuple [.Name x p, .Name y q] k pt] (.Tuple [e1, e2] k2 tp) pos.line env = pure false := by rfl) (hw : swappedStores [.Tuple [.Name x p, .Name y q] k pt] (.Tuple [e1, e2] k2 tp) env = pure (some [x, y]) := by rfl) :
  wpAny c.M A (exec (.Assign [.Tuple [.Name x p, .Name y q] k pt] (.Tuple [e1, e2] k2 tp) pos) env) Q E s := by
 refine Assign_Tuple_swapped (Tuple_ (wpAny_mono he (fun vs s₁ z => ?_) fun _ _ e => e)) hs hw
 obtain ⟨W₁, μ₁, d, e, u1, u2, rfl, F₁, r1, r2, h⟩ := z
 unfold newTuple
 refine wpAny_newObj_type ?_ (by show ([u1, u2] : List Value).toArray.size ≤ sizeLine; show 2 ≤ sizeLine; decide)
 have ht : (s₁.heap.push { cls := .type "tuple", data := .seq [u1, u2].toArray }).IsTuple s₁.heap.objs.size [u1, u2].toArray := ⟨_, Heap.get?_push_size _ rfl, rfl, 0, rfl⟩
 have k1 : Kt s₁ { s₁ with heap := s₁.heap.push { cls := .type "tuple", data := .seq [u1, u2].toArray } } := ⟨.push _, Nat.le_refl _⟩
 generalize s₁.heap.push { cls := .type "tuple", data := .seq [u1, u2].toArray } = H1 at ht k1 ⊢
 have e2 : ([x, y] : List Str).length = ([u1, u2] : List Value).toArray.size := rfl
 rw [e2]
 refine wpAny_unpackItems_tuple hh ht fun h' hx' => ?_
 have k2 : Kt { s₁ with heap := H1 } { s₁ with heap := h' } := ⟨⟨⟨_, s₁.toks, rfl⟩, fun b o e => hx' b o (Nat.ne_of_lt (Heap.lt_size e)) e⟩, Nat.le_refl _⟩
 have k3 := k1.trans k2
 have F2 := F₁.keeps k3
 have hm : ∀ a, Mine' env [] a → W₁ a := fun a h => (F2.md_of (h.imp id (Or.imp id fun ⟨l, h⟩ => nomatch h))).1
 rw [List.toList_toArray]
 show wpAny _ _ (do holding [u1] (bindName env y u2); assignInOrder [fun v => bindName env x v] [u1]) _ _ _
 refine wpAny_bind (wpAny_holding (wpAny_bindName (F2.set ok hy (r2.keeps k3.heap) fun s2 F3 U2 => ?_)))
 show wpAny _ _ (do holding [] (bindName env x u1); pure ()) _ _ _
 refine wpAny_bind (wpAny_holding (wpAny_bindName (F3.set ok hx (U2.rd hm (r1.keeps k3.heap)) fun s3 F4 U3 => ?_)))
 exact wpAny_pure (h _ F4)
theorem st_listsO (hh : A.handled = Option.none) (ok : EnvOk env) (F : Fr c s₀ W₀ Md W env σ μ s) {x y : Str} {p q pt pos tp p1 p2 : Pos} {k k2 : Nat} {Q : Flow → Shared → Prop} (hx : Nm env x) (hy : Nm env y)
  (hb : backTo tp (starEach [.List [] p1, .List [] p2] env) = [(false, eval (.List [] p1) env), (false, eval (.List [] p2) env)])
  (h : ∀ a b s' W', Fr c s₀ W₀ Md W' env ((x, .val (.ref a)) :: (y, .val (.ref b)) :: σ) ((b, .l []) :: (a, .l []) :: μ) s' → Q .next s')
  (hs : swapsWithSole [.Tuple [.Name x p, .Name y q] k pt] (.Tuple [.List [] p1, .List [] p2] k2 tp) pos.line env = pure false := by rfl) (hw : swappedStores [.Tuple [.Name x p, .Name y q] k pt] (.Tuple [.List [] p1, .List [] p2] k2 tp) env = pure (some [x, y]) := by rfl) :
  wpAny c.M A (exec (.Assign [.Tuple [.Name x p, .Name y q] k pt] (.Tuple [.List [] p1, .List [] p2] k2 tp) pos) env) Q E s := by
 refine st_pairO (s₀ := s₀) (W₀ := W₀) (Md := Md) (σ := σ) hh ok hx hy ?_ hs hw
 rw [hb]
 refine Calls.spliced_cons (ev_ownlist (ds := []) F EvL.nil (by decide) fun a s1 _ F1 => ?_)
 refine Calls.spliced_cons (ev_ownlist (ds := []) F1 EvL.nil (by decide) fun b s2 _ F2 => ?_)
 exact Calls.spliced_nil ⟨_, _, .val (.ref a), .val (.ref b), _, _, rfl, F2, .val _, .val _, fun s' F' => h a b s' _ F'⟩
end
section
variable {c : Cx} {A : Around} {s₀ : Shared} {W₀ Md W : Addr → Prop} {env : Env} {σ : List (Str × D)} {μ : List (Addr × Own)} {s : Shared} {E : Value → Shared → Prop}
theorem Fr.perm (F : Fr c s₀ W₀ Md W env σ μ s) {μ' : List (Addr × Own)} (h : μ.Perm μ') : Fr c s₀ W₀ Md W env σ μ' s :=
 {F with
  own := fun a l m => F.own a l (h.mem_iff.mpr m)
  nd := (h.map (·.1)).nodup_iff.mp F.nd }
theorem Ev.isRef (F : Fr c s₀ W₀ Md W env σ μ s) {e : Expr} {a : Addr} (h : Ev c A env σ e (.val (.ref a))) : ∀ E, wpAny c.M A (eval e env) (fun v s' => Kt s s' ∧ v = .ref a) E s := fun E =>
 wpAny_mono (h W s E F.view) (fun v s' q => ⟨q.1, by obtain ⟨_, r⟩ := q; cases r; rfl⟩) fun _ _ e => e
theorem Fr.lookRef (F : Fr c s₀ W₀ Md W env σ μ s) {σ' : List (Str × D)} (hσ : Rel2 (Res c μ) σ σ') {e : Expr} {a : Addr} (he : Ev c A env σ' e (.val (.ref a))) : ∀ E, wpAny c.M A (eval e env) (fun v s' => Kt s s' ∧ v = .ref a) E s := fun E =>
 wpAny_mono (F.lookEv hσ he rfl) (fun v s' q => ⟨q.1, by obtain ⟨_, r⟩ := q; cases r; rfl⟩) fun _ _ e => e
theorem ev_sliceTo {α : Type} {f : α → D} {xs : List α} {value e : Expr} {p pos : Pos} {a : Nat} (hv : Ev c A env σ value (.lst (xs.map f))) (he : Ev c A env σ e (.int a)) (hn : xs.length ≤ 1000000) (ht : ∀ o r, letTemporaryGo value o r = pure () := by intro _ _; rfl) :
  Ev c A env σ (.Subscript value (.Slice Option.none (some e) Option.none p) pos) (.lst ((xs.take a).map f)) := by
 rw [List.map_take]; exact Ev.sliceTo hv he (by rw [List.length_map]; exact hn) ht
end
section
variable {c : Cx} {A : Around} {s₀ : Shared} {W₀ Md W : Addr → Prop} {env : Env} {σ : List (Str × D)} {μ : List (Addr × Own)} {s : Shared} {E : Value → Shared → Prop}
theorem st_for0 (F : Fr c s₀ W₀ Md W env σ μ s) {t iter : Expr} {body : List Stmt} {pos : Pos} {Q : Flow → Shared → Prop} (hi : ItrE c A env σ iter [])
  (hQ : ∀ s' W', Fr c s₀ W₀ Md W' env σ μ s' → Q .next s') (hs : ∀ x, foldedSetIterable iter env x = pure x := by intro _; rfl) : wpAny c.M A (exec (.For t iter body [] pos) env) Q E s := by
 refine wpAny_For (hi W s E _ F.view fun I fp wr Pt St Mid s₂ Y => ?_) hs
 have F₂ := F.growK (W' := fun b => W b ∨ b ∈ wr) Y.kt (fun b h => .inl h) (fun b h => h.imp id fun q => (Y.fresh b q).1) (fun b h => h.elim (fun h => let ⟨o, e⟩ := F.view.wold b h; ⟨o, Y.kt.heap _ _ e⟩) fun h => (Y.fresh b h).2)
 have new : ∀ {b : Addr}, b ∈ wr → ∀ {o : Obj}, s.heap.get? b = some o → False := fun h _ e => by rw [(Y.fresh _ h).1] at e; cases e
 refine codeAny_forLoop_any (fun _ s' => s' = s₂) ?_ 1 rfl
 rintro k s' rfl
 refine wpAny_mono (wpAny_toks_of (E := NB c A env fun r s' => match r with | .ok f => Q f s' | .error e => cameBackBy c.M A env E e s') (Nat.le_refl s'.toks) (Y.w.done s' (fun r s₁ => r = none ∧ (∃ h tk, s₁ = { s' with heap := h, toks := tk }) ∧ ∀ b o, b ∉ wr → s'.heap.get? b = some o → s₁.heap.get? b = some o) _ Y.st
  fun h' tk hk => ⟨rfl, ⟨_, _, rfl⟩, hk⟩)) (fun r t q => ?_) fun _ _ q => q.2
 obtain ⟨tk₁, rfl, eq₁, k₁⟩ := q
 refine wpAny_execs_nil (hQ t _ (F₂.scrapP (Mo := fun b => b ∈ wr) ⟨eq₁, tk₁, fun b o n e => k₁ b o n e⟩ (fun b h => .inr h) (fun b h => F.fresh (Y.fresh b h).1) (fun q => ?_) (fun a q => (Y.there 0 _ (.inl Y.st) a q).2.2) (fun a o q h => ?_)))
 ·obtain ⟨m, o, _, _, e, _⟩ := F.ns
  exact new q e
 ·obtain ⟨ob, e⟩ := (F.own a o h).2.2.2.ex
  exact new q e
end
end Mine
end
section
open PySem PySem.W PyProof.Rows
namespace Mine
theorem hf_get {w : World} {a : Nat} {o : Params → Obj} (h : a < 315) (g : (trF w.params).get a = some (o w.params)) (al : alive (o w.params) = some (o w.params)) : (HF w).get? a = some (o w.params) := by
 unfold HF
 rw [abs_get h g, al]
theorem hf3 (w : World) : (HF w).get? 3 = some (o3v4 w.params) := hf_get (by decide) (by kernel_rfl) (by rfl)
theorem hf0 (w : World) : (HF w).get? 0 = some (o0 w.params) := hf_get (by decide) (by kernel_rfl) (by rfl)
theorem ns3 (w : World) : (HF w).isNs 3 = true := by unfold Heap.isNs; rw [hf3]; kernel_rfl
theorem ns0 (w : World) : (HF w).isNs 0 = true := by unfold Heap.isNs; rw [hf0]; kernel_rfl
theorem hf2 (w : World) : (HF w).get? 2 = some (o2 w.params) := hf_get (by decide) (by kernel_rfl) (by rfl)
theorem ns2 (w : World) : (HF w).isNs 2 = true := by unfold Heap.isNs; rw [hf2]; kernel_rfl
noncomputable def CL (w : World) : Cx where
 prog := P0
 w := w
 K := fun a => (HF w).get? a
 mg := (HF w).nsMap 3
 mb := (HF w).nsMap 0
 hg := fun h k => Heap.Ns.keepsAt (Heap.Ns.of_isNs (ns3 w)) fun o e => k 3 o e
 hb := fun h k => Heap.Ns.keepsAt (Heap.Ns.of_isNs (ns0 w)) fun o e => k 0 o e
 hl := fun h k => ⟨(HF w).nsMap 2, Heap.Ns.keepsAt (Heap.Ns.of_isNs (ns2 w)) fun o e => k 2 o e, by unfold Heap.nsMap; rw [hf2]; kernel_rfl⟩
theorem atL (w : World) {h : Heap} (k : HasK (CL w).K h) {a : Addr} {o : Obj} (e : (HF w).get? a = some o) : h.get? a = some o := k a o e
theorem mg_in_table_b1 (w : World) : (CL w).mg "in_table_b1" = some (.ref 56) := by unfold CL Heap.nsMap; simp only []; rw [hf3]; kernel_rfl
theorem mg_map_table_b3 (w : World) : (CL w).mg "map_table_b3" = some (.ref 102) := by unfold CL Heap.nsMap; simp only []; rw [hf3]; kernel_rfl
theorem mg__formatparam (w : World) : (CL w).mg "_formatparam" = some (.ref 125) := by unfold CL Heap.nsMap; simp only []; rw [hf3]; kernel_rfl
theorem mg__law_prepare (w : World) : (CL w).mg "_law_prepare" = some (.ref 257) := by unfold CL Heap.nsMap; simp only []; rw [hf3]; kernel_rfl
theorem mg__law_west (w : World) : (CL w).mg "_law_west" = some (.ref 264) := by unfold CL Heap.nsMap; simp only []; rw [hf3]; kernel_rfl
theorem mg__law_sign (w : World) : (CL w).mg "_law_sign" = some (.ref 271) := by unfold CL Heap.nsMap; simp only []; rw [hf3]; kernel_rfl
theorem mg__law_pairs (w : World) : (CL w).mg "_law_pairs" = some (.ref 278) := by unfold CL Heap.nsMap; simp only []; rw [hf3]; kernel_rfl
theorem mg__law_told (w : World) : (CL w).mg "_law_told" = some (.ref 283) := by unfold CL Heap.nsMap; simp only []; rw [hf3]; kernel_rfl
theorem mg__law_allowed (w : World) : (CL w).mg "_law_allowed" = some (.ref 288) := by unfold CL Heap.nsMap; simp only []; rw [hf3]; kernel_rfl
theorem mg__law_add (w : World) : (CL w).mg "_law_add" = some (.ref 295) := by unfold CL Heap.nsMap; simp only []; rw [hf3]; kernel_rfl
theorem mg__law_octets (w : World) : (CL w).mg "_law_octets" = some (.ref 302) := by unfold CL Heap.nsMap; simp only []; rw [hf3]; kernel_rfl
theorem mg__law_due (w : World) : (CL w).mg "_law_due" = some (.ref 307) := by unfold CL Heap.nsMap; simp only []; rw [hf3]; kernel_rfl
theorem mg_Headers (w : World) : (CL w).mg "Headers" = some (.ref 248) := by unfold CL Heap.nsMap; simp only []; rw [hf3]; kernel_rfl
theorem mg_b1_set (w : World) : (CL w).mg "b1_set" = some (.ref 46) := by unfold CL Heap.nsMap; simp only []; rw [hf3]; kernel_rfl
theorem mg_b3_exceptions (w : World) : (CL w).mg "b3_exceptions" = some (.ref 57) := by unfold CL Heap.nsMap; simp only []; rw [hf3]; kernel_rfl
theorem mg__name_disallowed_re (w : World) : (CL w).mg "_name_disallowed_re" = some (.ref 112) := by unfold CL Heap.nsMap; simp only []; rw [hf3]; kernel_rfl
theorem mg__value_disallowed_re (w : World) : (CL w).mg "_value_disallowed_re" = some (.ref 117) := by unfold CL Heap.nsMap; simp only []; rw [hf3]; kernel_rfl
noncomputable def fd_in_table_b1 : FuncData := { name := z225, qualname := z225, params := sArgs (stAt 4), body := .stmts (sBody (stAt 4)), scope := sScope (stAt 4), globals := 3, closure := [], defaults := .none, kwdefaults := .none, doc := .none, pyModule := (.str z222 289), annotations := none, code := (.ref 55), closureTuple := .none, builtins := 0 }
theorem hf56 (w : World) : (HF w).get? 56 = some (o56 w.params) := hf_get (by decide) (by kernel_rfl) (by rfl)
theorem hf55 (w : World) : (HF w).get? 55 = some (o55 w.params) := hf_get (by decide) (by kernel_rfl) (by rfl)
theorem fn_in_table_b1 (w : World) : Fun (CL w) 56 fd_in_table_b1 (sBody (stAt 4)) :=
 ⟨fun h k => ⟨_, atL w k (hf56 w), rfl⟩, fun h k => ⟨_, _, _, _, rfl, atL w k (hf55 w), rfl, rfl⟩, by kernel_rfl, by kernel_rfl, by kernel_rfl, rfl, rfl, rfl, rfl⟩
noncomputable def fd_map_table_b3 : FuncData := { name := z411, qualname := z411, params := sArgs (stAt 6), body := .stmts (sBody (stAt 6)), scope := sScope (stAt 6), globals := 3, closure := [], defaults := .none, kwdefaults := .none, doc := .none, pyModule := (.str z222 289), annotations := none, code := (.ref 101), closureTuple := .none, builtins := 0 }
theorem hf102 (w : World) : (HF w).get? 102 = some (o102 w.params) := hf_get (by decide) (by kernel_rfl) (by rfl)
theorem hf101 (w : World) : (HF w).get? 101 = some (o101 w.params) := hf_get (by decide) (by kernel_rfl) (by rfl)
theorem fn_map_table_b3 (w : World) : Fun (CL w) 102 fd_map_table_b3 (sBody (stAt 6)) :=
 ⟨fun h k => ⟨_, atL w k (hf102 w), rfl⟩, fun h k => ⟨_, _, _, _, rfl, atL w k (hf101 w), rfl, rfl⟩, by kernel_rfl, by kernel_rfl, by kernel_rfl, rfl, rfl, rfl, rfl⟩
noncomputable def fd__formatparam : FuncData := { name := z415, qualname := z415, params := sArgs (stAt 11), body := .stmts (sBody (stAt 11)), scope := sScope (stAt 11), globals := 3, closure := [], defaults := (.ref 118), kwdefaults := .none, doc := .none, pyModule := (.str z433 2317), annotations := none, code := (.ref 124), closureTuple := .none, builtins := 0 }
theorem hf125 (w : World) : (HF w).get? 125 = some (o125 w.params) := hf_get (by decide) (by kernel_rfl) (by rfl)
theorem hf124 (w : World) : (HF w).get? 124 = some (o124 w.params) := hf_get (by decide) (by kernel_rfl) (by rfl)
theorem hf118 (w : World) : (HF w).get? 118 = some (o118 w.params) := hf_get (by decide) (by kernel_rfl) (by rfl)
theorem fn__formatparam (w : World) : Fun (CL w) 125 fd__formatparam (sBody (stAt 11)) :=
 ⟨fun h k => ⟨_, atL w k (hf125 w), rfl⟩, fun h k => ⟨_, _, _, _, rfl, atL w k (hf124 w), rfl, rfl⟩, by kernel_rfl, by kernel_rfl, by kernel_rfl, rfl, rfl, rfl, rfl⟩
noncomputable def fd__law_prepare : FuncData := { name := z417, qualname := z417, params := sArgs (stAt 14), body := .stmts (sBody (stAt 14)), scope := sScope (stAt 14), globals := 3, closure := [], defaults := .none, kwdefaults := .none, doc := .none, pyModule := (.str z410 2582), annotations := none, code := (.ref 256), closureTuple := .none, builtins := 0 }
theorem hf257 (w : World) : (HF w).get? 257 = some (o257 w.params) := hf_get (by decide) (by kernel_rfl) (by rfl)
theorem hf256 (w : World) : (HF w).get? 256 = some (o256 w.params) := hf_get (by decide) (by kernel_rfl) (by rfl)
theorem fn__law_prepare (w : World) : Fun (CL w) 257 fd__law_prepare (sBody (stAt 14)) :=
 ⟨fun h k => ⟨_, atL w k (hf257 w), rfl⟩, fun h k => ⟨_, _, _, _, rfl, atL w k (hf256 w), rfl, rfl⟩, by kernel_rfl, by kernel_rfl, by kernel_rfl, rfl, rfl, rfl, rfl⟩
noncomputable def fd__law_west : FuncData := { name := z418, qualname := z418, params := sArgs (stAt 15), body := .stmts (sBody (stAt 15)), scope := sScope (stAt 15), globals := 3, closure := [], defaults := .none, kwdefaults := .none, doc := .none, pyModule := (.str z410 2582), annotations := none, code := (.ref 263), closureTuple := .none, builtins := 0 }
theorem hf264 (w : World) : (HF w).get? 264 = some (o264 w.params) := hf_get (by decide) (by kernel_rfl) (by rfl)
theorem hf263 (w : World) : (HF w).get? 263 = some (o263 w.params) := hf_get (by decide) (by kernel_rfl) (by rfl)
theorem fn__law_west (w : World) : Fun (CL w) 264 fd__law_west (sBody (stAt 15)) :=
 ⟨fun h k => ⟨_, atL w k (hf264 w), rfl⟩, fun h k => ⟨_, _, _, _, rfl, atL w k (hf263 w), rfl, rfl⟩, by kernel_rfl, by kernel_rfl, by kernel_rfl, rfl, rfl, rfl, rfl⟩
noncomputable def fd__law_sign : FuncData := { name := z419, qualname := z419, params := sArgs (stAt 16), body := .stmts (sBody (stAt 16)), scope := sScope (stAt 16), globals := 3, closure := [], defaults := .none, kwdefaults := .none, doc := .none, pyModule := (.str z410 2582), annotations := none, code := (.ref 270), closureTuple := .none, builtins := 0 }
theorem hf271 (w : World) : (HF w).get? 271 = some (o271 w.params) := hf_get (by decide) (by kernel_rfl) (by rfl)
theorem hf270 (w : World) : (HF w).get? 270 = some (o270 w.params) := hf_get (by decide) (by kernel_rfl) (by rfl)
theorem fn__law_sign (w : World) : Fun (CL w) 271 fd__law_sign (sBody (stAt 16)) :=
 ⟨fun h k => ⟨_, atL w k (hf271 w), rfl⟩, fun h k => ⟨_, _, _, _, rfl, atL w k (hf270 w), rfl, rfl⟩, by kernel_rfl, by kernel_rfl, by kernel_rfl, rfl, rfl, rfl, rfl⟩
noncomputable def fd__law_pairs : FuncData := { name := z420, qualname := z420, params := sArgs (stAt 17), body := .stmts (sBody (stAt 17)), scope := sScope (stAt 17), globals := 3, closure := [], defaults := .none, kwdefaults := .none, doc := .none, pyModule := (.str z410 2582), annotations := none, code := (.ref 277), closureTuple := .none, builtins := 0 }
theorem hf278 (w : World) : (HF w).get? 278 = some (o278 w.params) := hf_get (by decide) (by kernel_rfl) (by rfl)
theorem hf277 (w : World) : (HF w).get? 277 = some (o277 w.params) := hf_get (by decide) (by kernel_rfl) (by rfl)
theorem fn__law_pairs (w : World) : Fun (CL w) 278 fd__law_pairs (sBody (stAt 17)) :=
 ⟨fun h k => ⟨_, atL w k (hf278 w), rfl⟩, fun h k => ⟨_, _, _, _, rfl, atL w k (hf277 w), rfl, rfl⟩, by kernel_rfl, by kernel_rfl, by kernel_rfl, rfl, rfl, rfl, rfl⟩
noncomputable def fd__law_told : FuncData := { name := z421, qualname := z421, params := sArgs (stAt 18), body := .stmts (sBody (stAt 18)), scope := sScope (stAt 18), globals := 3, closure := [], defaults := .none, kwdefaults := .none, doc := .none, pyModule := (.str z410 2582), annotations := none, code := (.ref 282), closureTuple := .none, builtins := 0 }
theorem hf283 (w : World) : (HF w).get? 283 = some (o283 w.params) := hf_get (by decide) (by kernel_rfl) (by rfl)
theorem hf282 (w : World) : (HF w).get? 282 = some (o282 w.params) := hf_get (by decide) (by kernel_rfl) (by rfl)
theorem fn__law_told (w : World) : Fun (CL w) 283 fd__law_told (sBody (stAt 18)) :=
 ⟨fun h k => ⟨_, atL w k (hf283 w), rfl⟩, fun h k => ⟨_, _, _, _, rfl, atL w k (hf282 w), rfl, rfl⟩, by kernel_rfl, by kernel_rfl, by kernel_rfl, rfl, rfl, rfl, rfl⟩
noncomputable def fd__law_allowed : FuncData := { name := z422, qualname := z422, params := sArgs (stAt 19), body := .stmts (sBody (stAt 19)), scope := sScope (stAt 19), globals := 3, closure := [], defaults := .none, kwdefaults := .none, doc := .none, pyModule := (.str z410 2582), annotations := none, code := (.ref 287), closureTuple := .none, builtins := 0 }
theorem hf288 (w : World) : (HF w).get? 288 = some (o288 w.params) := hf_get (by decide) (by kernel_rfl) (by rfl)
theorem hf287 (w : World) : (HF w).get? 287 = some (o287 w.params) := hf_get (by decide) (by kernel_rfl) (by rfl)
theorem fn__law_allowed (w : World) : Fun (CL w) 288 fd__law_allowed (sBody (stAt 19)) :=
 ⟨fun h k => ⟨_, atL w k (hf288 w), rfl⟩, fun h k => ⟨_, _, _, _, rfl, atL w k (hf287 w), rfl, rfl⟩, by kernel_rfl, by kernel_rfl, by kernel_rfl, rfl, rfl, rfl, rfl⟩
noncomputable def fd__law_add : FuncData := { name := z423, qualname := z423, params := sArgs (stAt 20), body := .stmts (sBody (stAt 20)), scope := sScope (stAt 20), globals := 3, closure := [], defaults := .none, kwdefaults := .none, doc := .none, pyModule := (.str z410 2582), annotations := none, code := (.ref 294), closureTuple := .none, builtins := 0 }
theorem hf295 (w : World) : (HF w).get? 295 = some (o295 w.params) := hf_get (by decide) (by kernel_rfl) (by rfl)
theorem hf294 (w : World) : (HF w).get? 294 = some (o294 w.params) := hf_get (by decide) (by kernel_rfl) (by rfl)
theorem fn__law_add (w : World) : Fun (CL w) 295 fd__law_add (sBody (stAt 20)) :=
 ⟨fun h k => ⟨_, atL w k (hf295 w), rfl⟩, fun h k => ⟨_, _, _, _, rfl, atL w k (hf294 w), rfl, rfl⟩, by kernel_rfl, by kernel_rfl, by kernel_rfl, rfl, rfl, rfl, rfl⟩
noncomputable def fd__law_octets : FuncData := { name := z424, qualname := z424, params := sArgs (stAt 21), body := .stmts (sBody (stAt 21)), scope := sScope (stAt 21), globals := 3, closure := [], defaults := .none, kwdefaults := .none, doc := .none, pyModule := (.str z410 2582), annotations := none, code := (.ref 301), closureTuple := .none, builtins := 0 }
theorem hf302 (w : World) : (HF w).get? 302 = some (o302 w.params) := hf_get (by decide) (by kernel_rfl) (by rfl)
theorem hf301 (w : World) : (HF w).get? 301 = some (o301 w.params) := hf_get (by decide) (by kernel_rfl) (by rfl)
theorem fn__law_octets (w : World) : Fun (CL w) 302 fd__law_octets (sBody (stAt 21)) :=
 ⟨fun h k => ⟨_, atL w k (hf302 w), rfl⟩, fun h k => ⟨_, _, _, _, rfl, atL w k (hf301 w), rfl, rfl⟩, by kernel_rfl, by kernel_rfl, by kernel_rfl, rfl, rfl, rfl, rfl⟩
noncomputable def fd__law_due : FuncData := { name := z425, qualname := z425, params := sArgs (stAt 22), body := .stmts (sBody (stAt 22)), scope := sScope (stAt 22), globals := 3, closure := [], defaults := .none, kwdefaults := .none, doc := .none, pyModule := (.str z410 2582), annotations := none, code := (.ref 306), closureTuple := .none, builtins := 0 }
theorem hf307 (w : World) : (HF w).get? 307 = some (o307 w.params) := hf_get (by decide) (by kernel_rfl) (by rfl)
theorem hf306 (w : World) : (HF w).get? 306 = some (o306 w.params) := hf_get (by decide) (by kernel_rfl) (by rfl)
theorem fn__law_due (w : World) : Fun (CL w) 307 fd__law_due (sBody (stAt 22)) :=
 ⟨fun h k => ⟨_, atL w k (hf307 w), rfl⟩, fun h k => ⟨_, _, _, _, rfl, atL w k (hf306 w), rfl, rfl⟩, by kernel_rfl, by kernel_rfl, by kernel_rfl, rfl, rfl, rfl, rfl⟩
noncomputable def fd_law : FuncData := { name := z426, qualname := z426, params := sArgs (stAt 23), body := .stmts (sBody (stAt 23)), scope := sScope (stAt 23), globals := 3, closure := [], defaults := .none, kwdefaults := .none, doc := .none, pyModule := (.str z410 2582), annotations := none, code := (.ref 313), closureTuple := .none, builtins := 0 }
theorem hf314 (w : World) : (HF w).get? 314 = some (o314 w.params) := hf_get (by decide) (by kernel_rfl) (by rfl)
theorem hf313 (w : World) : (HF w).get? 313 = some (o313 w.params) := hf_get (by decide) (by kernel_rfl) (by rfl)
theorem fn_law (w : World) : Fun (CL w) 314 fd_law (sBody (stAt 23)) :=
 ⟨fun h k => ⟨_, atL w k (hf314 w), rfl⟩, fun h k => ⟨_, _, _, _, rfl, atL w k (hf313 w), rfl, rfl⟩, by kernel_rfl, by kernel_rfl, by kernel_rfl, rfl, rfl, rfl, rfl⟩
noncomputable def fd_m___init__ : FuncData := { name := z214, qualname := z452, params := sArgs (stIn 12 0), body := .stmts (sBody (stIn 12 0)), scope := sScope (stIn 12 0), globals := 3, closure := [], defaults := (.ref 133), kwdefaults := .none, doc := .none, pyModule := (.str z433 2317), annotations := none, code := (.ref 139), closureTuple := .none, builtins := 0 }
theorem hf140 (w : World) : (HF w).get? 140 = some (o140 w.params) := hf_get (by decide) (by kernel_rfl) (by rfl)
theorem hf139 (w : World) : (HF w).get? 139 = some (o139 w.params) := hf_get (by decide) (by kernel_rfl) (by rfl)
theorem hf133 (w : World) : (HF w).get? 133 = some (o133 w.params) := hf_get (by decide) (by kernel_rfl) (by rfl)
theorem fn_m___init__ (w : World) : Fun (CL w) 140 fd_m___init__ (sBody (stIn 12 0)) :=
 ⟨fun h k => ⟨_, atL w k (hf140 w), rfl⟩, fun h k => ⟨_, _, _, _, rfl, atL w k (hf139 w), rfl, rfl⟩, by kernel_rfl, by kernel_rfl, by kernel_rfl, rfl, rfl, rfl, rfl⟩
theorem cf_m___init__ (w : World) : ∀ h o, HasK (CL w).K h → h.get? 140 = some o → o.cls = .type "function" := fun h o k e => by rw [atL w k (hf140 w)] at e; cases e; rfl
noncomputable def fd_m__convert_string_type : FuncData := { name := z435, qualname := z454, params := sArgs (stIn 12 1), body := .stmts (sBody (stIn 12 1)), scope := sScope (stIn 12 1), globals := 3, closure := [], defaults := .none, kwdefaults := .none, doc := .none, pyModule := (.str z433 2317), annotations := none, code := (.ref 146), closureTuple := .none, builtins := 0 }
theorem hf147 (w : World) : (HF w).get? 147 = some (o147 w.params) := hf_get (by decide) (by kernel_rfl) (by rfl)
theorem hf146 (w : World) : (HF w).get? 146 = some (o146 w.params) := hf_get (by decide) (by kernel_rfl) (by rfl)
theorem fn_m__convert_string_type (w : World) : Fun (CL w) 147 fd_m__convert_string_type (sBody (stIn 12 1)) :=
 ⟨fun h k => ⟨_, atL w k (hf147 w), rfl⟩, fun h k => ⟨_, _, _, _, rfl, atL w k (hf146 w), rfl, rfl⟩, by kernel_rfl, by kernel_rfl, by kernel_rfl, rfl, rfl, rfl, rfl⟩
theorem cf_m__convert_string_type (w : World) : ∀ h o, HasK (CL w).K h → h.get? 147 = some o → o.cls = .type "function" := fun h o k e => by rw [atL w k (hf147 w)] at e; cases e; rfl
noncomputable def fd_m___str__ : FuncData := { name := z446, qualname := z468, params := sArgs (stIn 12 13), body := .stmts (sBody (stIn 12 13)), scope := sScope (stIn 12 13), globals := 3, closure := [], defaults := .none, kwdefaults := .none, doc := .none, pyModule := (.str z433 2317), annotations := none, code := (.ref 223), closureTuple := .none, builtins := 0 }
theorem hf224 (w : World) : (HF w).get? 224 = some (o224 w.params) := hf_get (by decide) (by kernel_rfl) (by rfl)
theorem hf223 (w : World) : (HF w).get? 223 = some (o223 w.params) := hf_get (by decide) (by kernel_rfl) (by rfl)
theorem fn_m___str__ (w : World) : Fun (CL w) 224 fd_m___str__ (sBody (stIn 12 13)) :=
 ⟨fun h k => ⟨_, atL w k (hf224 w), rfl⟩, fun h k => ⟨_, _, _, _, rfl, atL w k (hf223 w), rfl, rfl⟩, by kernel_rfl, by kernel_rfl, by kernel_rfl, rfl, rfl, rfl, rfl⟩
theorem cf_m___str__ (w : World) : ∀ h o, HasK (CL w).K h → h.get? 224 = some o → o.cls = .type "function" := fun h o k e => by rw [atL w k (hf224 w)] at e; cases e; rfl
noncomputable def fd_m___bytes__ : FuncData := { name := z447, qualname := z469, params := sArgs (stIn 12 14), body := .stmts (sBody (stIn 12 14)), scope := sScope (stIn 12 14), globals := 3, closure := [], defaults := .none, kwdefaults := .none, doc := .none, pyModule := (.str z433 2317), annotations := none, code := (.ref 230), closureTuple := .none, builtins := 0 }
theorem hf231 (w : World) : (HF w).get? 231 = some (o231 w.params) := hf_get (by decide) (by kernel_rfl) (by rfl)
theorem hf230 (w : World) : (HF w).get? 230 = some (o230 w.params) := hf_get (by decide) (by kernel_rfl) (by rfl)
theorem fn_m___bytes__ (w : World) : Fun (CL w) 231 fd_m___bytes__ (sBody (stIn 12 14)) :=
 ⟨fun h k => ⟨_, atL w k (hf231 w), rfl⟩, fun h k => ⟨_, _, _, _, rfl, atL w k (hf230 w), rfl, rfl⟩, by kernel_rfl, by kernel_rfl, by kernel_rfl, rfl, rfl, rfl, rfl⟩
theorem cf_m___bytes__ (w : World) : ∀ h o, HasK (CL w).K h → h.get? 231 = some o → o.cls = .type "function" := fun h o k e => by rw [atL w k (hf231 w)] at e; cases e; rfl
noncomputable def fd_m_items : FuncData := { name := z445, qualname := z466, params := sArgs (stIn 12 11), body := .stmts (sBody (stIn 12 11)), scope := sScope (stIn 12 11), globals := 3, closure := [], defaults := .none, kwdefaults := .none, doc := .none, pyModule := (.str z433 2317), annotations := none, code := (.ref 211), closureTuple := .none, builtins := 0 }
theorem hf212 (w : World) : (HF w).get? 212 = some (o212 w.params) := hf_get (by decide) (by kernel_rfl) (by rfl)
theorem hf211 (w : World) : (HF w).get? 211 = some (o211 w.params) := hf_get (by decide) (by kernel_rfl) (by rfl)
theorem fn_m_items (w : World) : Fun (CL w) 212 fd_m_items (sBody (stIn 12 11)) :=
 ⟨fun h k => ⟨_, atL w k (hf212 w), rfl⟩, fun h k => ⟨_, _, _, _, rfl, atL w k (hf211 w), rfl, rfl⟩, by kernel_rfl, by kernel_rfl, by kernel_rfl, rfl, rfl, rfl, rfl⟩
theorem cf_m_items (w : World) : ∀ h o, HasK (CL w).K h → h.get? 212 = some o → o.cls = .type "function" := fun h o k e => by rw [atL w k (hf212 w)] at e; cases e; rfl
noncomputable def fd_m_add_header : FuncData := { name := z449, qualname := z475, params := sArgs (stIn 12 16), body := .stmts (sBody (stIn 12 16)), scope := sScope (stIn 12 16), globals := 3, closure := [], defaults := .none, kwdefaults := .none, doc := .none, pyModule := (.str z433 2317), annotations := none, code := (.ref 244), closureTuple := .none, builtins := 0 }
theorem hf245 (w : World) : (HF w).get? 245 = some (o245 w.params) := hf_get (by decide) (by kernel_rfl) (by rfl)
theorem hf244 (w : World) : (HF w).get? 244 = some (o244 w.params) := hf_get (by decide) (by kernel_rfl) (by rfl)
theorem fn_m_add_header (w : World) : Fun (CL w) 245 fd_m_add_header (sBody (stIn 12 16)) :=
 ⟨fun h k => ⟨_, atL w k (hf245 w), rfl⟩, fun h k => ⟨_, _, _, _, rfl, atL w k (hf244 w), rfl, rfl⟩, by kernel_rfl, by kernel_rfl, by kernel_rfl, rfl, rfl, rfl, rfl⟩
theorem cf_m_add_header (w : World) : ∀ h o, HasK (CL w).K h → h.get? 245 = some o → o.cls = .type "function" := fun h o k e => by rw [atL w k (hf245 w)] at e; cases e; rfl
theorem hf46 (w : World) : (HF w).get? 46 = some (o46 w.params) := hf_get (by decide) (by kernel_rfl) (by rfl)
theorem hf57 (w : World) : (HF w).get? 57 = some (o57 w.params) := hf_get (by decide) (by kernel_rfl) (by rfl)
theorem hf112 (w : World) : (HF w).get? 112 = some (o112 w.params) := hf_get (by decide) (by kernel_rfl) (by rfl)
theorem hf111 (w : World) : (HF w).get? 111 = some (o111 w.params) := hf_get (by decide) (by kernel_rfl) (by rfl)
theorem hf117 (w : World) : (HF w).get? 117 = some (o117 w.params) := hf_get (by decide) (by kernel_rfl) (by rfl)
theorem hf116 (w : World) : (HF w).get? 116 = some (o116 w.params) := hf_get (by decide) (by kernel_rfl) (by rfl)
theorem hf248 (w : World) : (HF w).get? 248 = some (o248 w.params) := hf_get (by decide) (by kernel_rfl) (by rfl)
theorem hf247 (w : World) : (HF w).get? 247 = some (o247 w.params) := hf_get (by decide) (by kernel_rfl) (by rfl)
theorem ns247 (w : World) : (HF w).isNs 247 = true := by unfold Heap.isNs; rw [hf247]; kernel_rfl
noncomputable def mH (w : World) : Str → Option Value := (HF w).nsMap 247
theorem mHat (w : World) (x : Str) (v : Option Value) (e : (match (o247 w.params).data with | .dict es _ => nsFind es x | _ => none) = v) : mH w x = v := by unfold mH Heap.nsMap; rw [hf247]; exact e
theorem kls (w : World) : Kls (CL w) 248 247 (mH w) :=
 ⟨fun h k => ⟨⟨_, _, _, _, _, _, _, _, _, _, _, _, atL w k (hf248 w)⟩, Heap.Ns.keepsAt (Heap.Ns.of_isNs (ns247 w)) fun o e => k 247 o e⟩, mHat w _ _ (by kernel_rfl), mHat w _ _ (by kernel_rfl), mHat w _ _ (by kernel_rfl)⟩
theorem mH___init__ (w : World) : mH w "__init__" = some (.ref 140) := mHat w _ _ (by kernel_rfl)
theorem mH__convert_string_type (w : World) : mH w "_convert_string_type" = some (.ref 147) := mHat w _ _ (by kernel_rfl)
theorem mH___str__ (w : World) : mH w "__str__" = some (.ref 224) := mHat w _ _ (by kernel_rfl)
theorem mH___bytes__ (w : World) : mH w "__bytes__" = some (.ref 231) := mHat w _ _ (by kernel_rfl)
theorem mH_items (w : World) : mH w "items" = some (.ref 212) := mHat w _ _ (by kernel_rfl)
theorem mH_add_header (w : World) : mH w "add_header" = some (.ref 245) := mHat w _ _ (by kernel_rfl)
theorem mH_h (w : World) : mH w "_headers" = none := mHat w _ _ (by kernel_rfl)
theorem mb_type (w : World) : (CL w).mg "type" = none ∧ (CL w).mb "type" = some (.type "type") := ⟨by unfold CL Heap.nsMap; simp only []; rw [hf3]; kernel_rfl, by unfold CL Heap.nsMap; simp only []; rw [hf0]; kernel_rfl⟩
theorem mb_list (w : World) : (CL w).mg "list" = none ∧ (CL w).mb "list" = some (.type "list") := ⟨by unfold CL Heap.nsMap; simp only []; rw [hf3]; kernel_rfl, by unfold CL Heap.nsMap; simp only []; rw [hf0]; kernel_rfl⟩
theorem mb_str (w : World) : (CL w).mg "str" = none ∧ (CL w).mb "str" = some (.type "str") := ⟨by unfold CL Heap.nsMap; simp only []; rw [hf3]; kernel_rfl, by unfold CL Heap.nsMap; simp only []; rw [hf0]; kernel_rfl⟩
theorem mb_ord (w : World) : (CL w).mg "ord" = none ∧ (CL w).mb "ord" = some (.builtin "ord") := ⟨by unfold CL Heap.nsMap; simp only []; rw [hf3]; kernel_rfl, by unfold CL Heap.nsMap; simp only []; rw [hf0]; kernel_rfl⟩
theorem mb_chr (w : World) : (CL w).mg "chr" = none ∧ (CL w).mb "chr" = some (.builtin "chr") := ⟨by unfold CL Heap.nsMap; simp only []; rw [hf3]; kernel_rfl, by unfold CL Heap.nsMap; simp only []; rw [hf0]; kernel_rfl⟩
theorem mb_len (w : World) : (CL w).mg "len" = none ∧ (CL w).mb "len" = some (.builtin "len") := ⟨by unfold CL Heap.nsMap; simp only []; rw [hf3]; kernel_rfl, by unfold CL Heap.nsMap; simp only []; rw [hf0]; kernel_rfl⟩
theorem mb_range (w : World) : (CL w).mg "range" = none ∧ (CL w).mb "range" = some (.type "range") := ⟨by unfold CL Heap.nsMap; simp only []; rw [hf3]; kernel_rfl, by unfold CL Heap.nsMap; simp only []; rw [hf0]; kernel_rfl⟩
theorem mb_zip (w : World) : (CL w).mg "zip" = none ∧ (CL w).mb "zip" = some (.type "zip") := ⟨by unfold CL Heap.nsMap; simp only []; rw [hf3]; kernel_rfl, by unfold CL Heap.nsMap; simp only []; rw [hf0]; kernel_rfl⟩
theorem mb_tuple (w : World) : (CL w).mg "tuple" = none ∧ (CL w).mb "tuple" = some (.type "tuple") := ⟨by unfold CL Heap.nsMap; simp only []; rw [hf3]; kernel_rfl, by unfold CL Heap.nsMap; simp only []; rw [hf0]; kernel_rfl⟩
theorem mb_max (w : World) : (CL w).mg "max" = none ∧ (CL w).mb "max" = some (.builtin "max") := ⟨by unfold CL Heap.nsMap; simp only []; rw [hf3]; kernel_rfl, by unfold CL Heap.nsMap; simp only []; rw [hf0]; kernel_rfl⟩
theorem mb_bytes (w : World) : (CL w).mg "bytes" = none ∧ (CL w).mb "bytes" = some (.type "bytes") := ⟨by unfold CL Heap.nsMap; simp only []; rw [hf3]; kernel_rfl, by unfold CL Heap.nsMap; simp only []; rw [hf0]; kernel_rfl⟩
theorem mb_ValueError (w : World) : (CL w).mg "ValueError" = none ∧ (CL w).mb "ValueError" = some (.type "ValueError") := ⟨by unfold CL Heap.nsMap; simp only []; rw [hf3]; kernel_rfl, by unfold CL Heap.nsMap; simp only []; rw [hf0]; kernel_rfl⟩
theorem mb_UnicodeEncodeError (w : World) : (CL w).mg "UnicodeEncodeError" = none ∧ (CL w).mb "UnicodeEncodeError" = some (.type "UnicodeEncodeError") := ⟨by unfold CL Heap.nsMap; simp only []; rw [hf3]; kernel_rfl, by unfold CL Heap.nsMap; simp only []; rw [hf0]; kernel_rfl⟩
end Mine
end
section
open PySem PySem.W PyProof.Rows PySem.Calls
namespace Mine
theorem EvL.c {c : Cx} {A : Around} {env : Env} {σ : List (Str × D)} {e : Expr} {d : D} {ts : List (Bool × Sem Value)} {ds : List D} (h : Ev c A env σ e d) (k : EvL c A env σ ts ds) : EvL c A env σ ((false, eval e env) :: ts) (d :: ds) := EvL.cons (t := eval e env) h k
noncomputable def setEs : Obj → List (Int × Value)
 | ⟨_, _, .set es _ _, _⟩ => es.toList
 | _ => []
theorem elems_of {prog : Program} {w : World} {l : List (Int × Value)} (h : l.all (fun e => match e.2 with | .int i _ => e.1 == hashInt i | _ => false) = true) : ElemsOf (intKind prog w) l := fun e he => by
 have q := List.all_eq_true.mp h e he
 obtain ⟨a, v⟩ := e
 cases v with
 | int i t => exact ⟨⟨i, intKind_is _ _ i t, eq_of_beq q⟩, rfl⟩
 | _ => cases q
theorem setB1 (w : World) : ∀ h, HasK (CL w).K h → h.SetOf (intKind (CL w).prog (CL w).w) 46 (fun k => (setEs (o46 w.params)).any fun e => Value.isInt k e.2) 27 := fun h k => by
 refine ⟨_, _, _, _, atL w k (hf46 w), ⟨rfl, rfl, rfl⟩, rfl, ?_, ?_, ?_, ?_, ?_⟩
 ·exact elems_of (by decide +kernel)
 ·intro k
  exact List.any_eq_true
 ·decide
 ·rfl
 ·rfl
theorem pf_in_table_b1 (w : World) {A : Around} {n : Nat} (room : Room A (n + 2)) (k : Nat) (S : Int → Bool) (N : Nat) (hS : ∀ h, HasK (CL w).K h → h.SetOf (intKind (CL w).prog (CL w).w) 46 S N) : Pf (CL w) A 56 [.str ⟨#[k]⟩] [] (.val (.bool (S k))) := by
 intro W s E vs kvs base tok wo rl br
 cases br
 cases rl with
 | cons r1 rl =>
  cases rl
  refine enter (W₀ := W) (Md := fun _ => False) (μ := []) (σ := [("code", .str ⟨#[k]⟩)]) room (fn_in_table_b1 w) base tok wo (fun a h => h.elim) (binds := [("code", _)]) (.of_eq rfl) (fun L x hx => ?_) (by simp) (.cons r1 .nil) (fun a l h => nomatch h) (by simp) fun L W' s' E' _ _ ok F => ?_
  ·simp only [List.mem_singleton] at hx; subst hx; exact .inl (by kernel_rfl)
  ·refine wpAny_execs_cons (st_return F (d := .val (.bool (S k))) ?_ fun v s'' F' r => ?_)
   ·exact Ev.cmp (Ev.ord (Ev.glob ok (by rfl) (.inr (mb_ord w))) (by rfl) (Ev.name ok (by rfl))) (Ev.glob ok (by rfl) (.inl (mg_b1_set w))) (Cmp.inSet hS)
   ·exact ⟨F'.up.kt, r.less F'.w0⟩
noncomputable def entsOf : Obj → List DictEntry
 | ⟨_, _, .dict es _, _⟩ => es.toList
 | _ => []
noncomputable def tokV : Value → Tok
 | .int _ t => t
 | .str _ t => t
 | _ => 0
noncomputable def toksB3 (w : World) : List (Tok × Tok) := (entsOf (o57 w.params)).map fun e => (tokV e.key, tokV e.val)
theorem mapB3 (w : World) : ∃ f : Int → Option Value, (∀ h, HasK (CL w).K h → h.MapOf (intKind (CL w).prog (CL w).w) 57 f) ∧ ∀ i, match LL.lookup i with
   | some x => ∃ t, f i = some (.str x t)
   | none => f i = none := by
 have hp : ∃ ts : List (Tok × Tok), ts.length = LL.length ∧ (entsOf (o57 w.params)) = (LL.zip ts).map fun p => (⟨(intKind (CL w).prog (CL w).w).hash p.1.1, .int p.1.1 p.2.1, .str p.1.2 p.2.2⟩ : DictEntry) :=
  ⟨toksB3 w, by kernel_rfl, by kernel_rfl⟩
 have hp' : ∃ ts : List (Tok × Tok), ts.length = LL.length ∧ (match o57 w.params with | ⟨_, _, .dict es _, _⟩ => es | _ => #[]).toList = (LL.zip ts).map fun p => (⟨(intKind (CL w).prog (CL w).w).hash p.1.1, .int p.1.1 p.2.1, .str p.1.2 p.2.2⟩ : DictEntry) := hp
 obtain ⟨f, hf, h2⟩ := mapOf_entries (h := HF w) (a := 57) (ep := (match o57 w.params with | ⟨_, _, .dict _ ep, _⟩ => ep | _ => 0)) (hf57 w) ⟨rfl, rfl, rfl⟩ rfl hp'
 refine ⟨f, fun h k => ?_, h2⟩
 obtain ⟨o, es, ep, e1, r⟩ := hf
 exact ⟨o, es, ep, k _ _ e1, r⟩
noncomputable def foldC (k : Nat) : Str := match LL.lookup (k : Int) with
 | some x => x
 | none => Txt.lower ⟨#[k]⟩
theorem pf_map (w : World) {A : Around} {n : Nat} (room : Room A (n + 2)) (k : Nat) (hk : Builtin.Str.tooLong (Txt.lower ⟨#[k]⟩).length = false) : Pf (CL w) A 102 [.str ⟨#[k]⟩] [] (.str (foldC k)) := by
 intro W s E vs kvs base tok wo rl br
 cases br
 cases rl with
 | cons r1 rl =>
 cases rl
 obtain ⟨f, hM, hf⟩ := mapB3 w
 refine enter (W₀ := W) (Md := fun _ => False) (μ := []) (σ := [("code", .str ⟨#[k]⟩)]) room (fn_map_table_b3 w) base tok wo (fun a h => h.elim) (binds := [("code", _)]) (.of_eq rfl) (fun L x hx => ?_) (by simp) (.cons r1 .nil) (fun a l h => nomatch h) (by simp) fun L W' s' E' _ _ ok F => ?_
 ·simp only [List.mem_singleton] at hx; subst hx; exact .inl (by kernel_rfl)
 ·have h1 := hf k
  cases e : LL.lookup (k : Int) with
  | some x =>
   rw [e] at h1
   obtain ⟨t, h1⟩ := h1
   have e2 : foldC k = x := by unfold foldC; rw [e]
   refine wpAny_execs_cons (st_assign ok F (d := .str x) (Ev.dictGet hM (by decide) (Ev.glob ok (by rfl) (.inl (mg_b3_exceptions w))) (Ev.ord (Ev.glob ok (by rfl) (.inr (mb_ord w))) (by rfl) (Ev.name ok (by rfl))) (fun W h => by rw [h1]; exact .str _ _) (by rfl) (by rfl) (by rfl)) (.inl (by kernel_rfl)) fun s1 F1 => ?_)
   refine wpAny_execs_cons (st_if F1 (b := true) (Tv.cmp (Ev.name ok (by rfl)) Ev.none Cmp.isNotNone) (fun _ s2 F2 => ?_) (fun h => by cases h))
   refine wpAny_execs_cons (st_return F2 (Ev.name ok (by rfl)) fun v s4 F4 r => ?_)
   rw [e2]
   exact ⟨F4.up.kt, r.less F4.w0⟩
  | none =>
   rw [e] at h1
   have e2 : foldC k = Txt.lower ⟨#[k]⟩ := by unfold foldC; rw [e]
   refine wpAny_execs_cons (st_assign ok F (d := .val .none) (Ev.dictGet hM (by decide) (Ev.glob ok (by rfl) (.inl (mg_b3_exceptions w))) (Ev.ord (Ev.glob ok (by rfl) (.inr (mb_ord w))) (by rfl) (Ev.name ok (by rfl))) (fun W h => by rw [h1]; exact .val _) (by rfl) (by rfl) (by rfl)) (.inl (by kernel_rfl)) fun s1 F1 => ?_)
   refine wpAny_execs_cons (st_if F1 (b := false) (Tv.cmp (Ev.name ok (by rfl)) Ev.none Cmp.isNotNone) (fun h => by cases h) (fun _ s2 F2 => wpAny_execs_nil ?_))
   refine wpAny_execs_cons (st_return F2 (Ev.lower (Ev.name ok (by rfl)) (by rfl) (by rfl) hk) fun v s4 F4 r => ?_)
   rw [e2]
   exact ⟨F4.up.kt, r.less F4.w0⟩
noncomputable def inB1 (w : World) (k : Int) : Bool := (setEs (o46 w.params)).any fun e => Value.isInt k e.2
theorem pf_b1 (w : World) {A : Around} {n : Nat} (room : Room A (n + 2)) (k : Nat) : Pf (CL w) A 56 [.str ⟨#[k]⟩] [] (.val (.bool (inB1 w k))) := pf_in_table_b1 w room k (inB1 w) 27 (setB1 w)
structure GoodB (b : Bool) (x : Str) : Prop where
 good : ∀ k ∈ x.cps.toList, (31 < k ∧ k ≠ 127) ∨ (b = false ∧ k = 9)
 size : x.cps.size ≤ 1000000
noncomputable abbrev aH : Addr := 248
theorem patN (w : World) : Pat (CL w) 112 (fun k => 31 < k ∧ k ≠ 127) := pat_name (fun h k => ⟨atL w k (hf112 w), atL w k (hf111 w)⟩) (by decide +kernel)
theorem patV (w : World) : Pat (CL w) 117 (fun k => 31 < k ∧ k ≠ 127 ∨ k = 9) := pat_value (fun h k => ⟨atL w k (hf117 w), atL w k (hf116 w)⟩) (by decide +kernel)
theorem pf_conv (w : World) {A : Around} {n : Nat} (room : Room A (n + 2)) (ds : D) (x : Str) (b : Bool) (hx : GoodB b x) : Pf (CL w) A 147 [ds, .str x] [("name", .val (.bool b))] (.str x) := by
 intro W s E vs kvs base tok wo rl br
 cases br with
 | cons rb br =>
 cases br
 cases rb
 cases rl with
 | cons r1 rl =>
 cases rl with
 | cons r2 rl =>
 cases rl
 refine enter (W₀ := W) (Md := fun _ => False) (μ := []) (σ := [("self", ds), ("value", .str x), ("name", .val (.bool b))]) room (fn_m__convert_string_type w) base tok wo (fun a h => h.elim) (binds := [("self", _), ("value", _), ("name", _)]) (.of_eq rfl) (fun L x hx => ?_) (show [("self" : Str), "value", "name"].Nodup by decide +kernel) (.cons r1 (.cons r2 (.cons (.val _) .nil))) (fun a l h => nomatch h) (by simp) fun L W' s' E' _ _ ok F => ?_
 ·simp only [List.mem_cons, List.not_mem_nil, or_false] at hx
  rcases hx with rfl | rfl | rfl <;> exact .inl (by kernel_rfl)
 ·refine wpAny_execs_cons (st_if F (b := true) ?_ (fun _ s1 F1 => ?_) (fun h => by cases h))
  ·exact Tv.cmp (Ev.typeOf (Ev.glob ok (by rfl) (.inr (mb_type w))) (by rfl) (Ev.name ok (by rfl)) rfl) (Ev.glob ok (by rfl) (.inr (mb_str w))) Cmp.isType
  ·refine wpAny_execs_cons (st_assign ok F1 (d := .val (.ref (if b then 112 else 117))) (Ev.ifExp (Tv.bool (Ev.name ok (by rfl))) (fun h => ?_) (fun h => ?_)) (.inl (by kernel_rfl)) fun s2 F2 => ?_)
   ·subst h; exact Ev.glob ok (by rfl) (.inl (mg__name_disallowed_re w))
   ·subst h; exact Ev.glob ok (by rfl) (.inl (mg__value_disallowed_re w))
   refine wpAny_execs_cons (st_if F2 (b := false) (Tv.none ?_) (fun h => by cases h) (fun _ s3 F3 => ?_))
   ·cases b with
    | true => exact Ev.search (patN w) (Ev.name ok (by rfl)) (Ev.name ok (by rfl)) (fun k h => (hx.good k h).elim id fun q => nomatch q.1) hx.size (by rfl) (by rfl) (by rfl)
    | false => exact Ev.search (patV w) (Ev.name ok (by rfl)) (Ev.name ok (by rfl)) (fun k h => (hx.good k h).imp id And.right) hx.size (by rfl) (by rfl) (by rfl)
   ·refine wpAny_execs_nil (wpAny_execs_cons (st_return F3 (d := .str x) (Ev.name ok (by rfl)) fun v s4 F4 r => ?_))
    exact ⟨F4.up.kt, r.less F4.w0⟩
theorem obj_conv : typeLookup (.type "object") "_convert_string_type" = pure none := by rw [typeLookup_type, builtinLookup_eq_fast]; kernel_rfl
section
variable {w : World} {A : Around} {env : Env} {σ : List (Str × D)} {W : Addr → Prop} {s : Shared} {E : Value → Shared → Prop}
theorem ev_conv {n : Nat} (room : Room A (n + 2)) {x : Str} {xp apos pos : Pos} {es : List Expr} {kws : List Keyword} {fs : List (Str × D)} {y : Str} {b : Bool} (ho : Ev (CL w) A env σ (.Name x xp) (.ins aH fs)) (hsh : fs.lookup ("_convert_string_type" : Str) = none)
  (hform : methodCallForm (es.length + kws.length) (backTo pos (starEach es env)) (backToKw pos (keywordEach kws env)) = true) (hline : (apos.endLine == pos.line) = true)
  (ha : EvA (CL w) A env σ (backTo pos (starEach es env)) (backToKw pos (keywordEach kws env)) [.str y] [("name", .val (.bool b))]) (hy : GoodB b y) :
  Ev (CL w) A env σ (.Call (.Attribute (.Name x xp) "_convert_string_type" apos) es kws pos) (.str y) :=
 Ev.meth (kls w) ho (mH__convert_string_type w) (fn_m__convert_string_type w) (cf_m__convert_string_type w) hsh obj_conv hform hline ha (pf_conv w room _ y b hy)
end
theorem obj_h : typeLookup (.type "object") "_headers" = pure none := by rw [typeLookup_type, builtinLookup_eq_fast]; kernel_rfl
theorem look1 {x y : Str} {d e : D} (h : ([(x, d)] : List (Str × D)).lookup y = some e) : y = x ∧ e = d := by
 rw [List.lookup_cons] at h
 cases z : y == x with
 | true => rw [z] at h; cases h; exact ⟨eq_of_beq z, rfl⟩
 | false => rw [z] at h; cases h
noncomputable def strP (p : Str × Str) : D := .tup [.str p.1, .str p.2]
noncomputable def fT (ps : List (Str × Str)) : List (Str × D) := [("_headers", .lst (ps.map strP))]
noncomputable def tabD (ps : List (Str × Str)) : D := .ins aH (fT ps)
noncomputable def tabL (l : Addr) : D := .ins aH [("_headers", .val (.ref l))]
section
variable {c : Cx} {A : Around} {s₀ : Shared} {W₀ Md W : Addr → Prop} {env : Env} {σ : List (Str × D)} {μ : List (Addr × Own)} {s : Shared} {E : Value → Shared → Prop}
theorem st_forS (hh : A.handled = none) (ok : EnvOk env) (F : Fr c s₀ W₀ Md W env σ μ s) {target iter : Expr} {body : List Stmt} {pos : Pos} {di : D} {l : List D} {Q : Flow → Shared → Prop} (hi : Ev c A env σ iter di) (it : Itr c A di l)
  (σs : Nat → List (Str × D)) (μs : Nat → List (Addr × Own)) (h0 : σ = σs 0) (h1 : μ = μs 0)
  (hbody : ∀ i d, l[i]? = some d → ∃ bs, TgtF env target d bs ∧ ∀ (s₁ s₂ : Shared) (W₁ W₂ Md₁ : Addr → Prop) (E : Value → Shared → Prop), Fr c s₁ W₁ Md₁ W₂ env (bs ++ σs i) (μs i) s₂ →
   wpAny c.M A (execs body env) (fun f s' => match f with
    | .next | .cont => ∃ W', Fr c s₁ W₁ Md₁ W' env (σs (i + 1)) (μs (i + 1)) s'
    | _ => False) E s₂)
  (hQ : ∀ s' W', Fr c s₀ W₀ Md W' env (σs l.length) (μs l.length) s' → Q .next s')
  (hs : ∀ x, foldedSetIterable iter env x = pure x := by intro _; rfl) : wpAny c.M A (exec (.For target iter body [] pos) env) Q E s := by
 refine st_forI hh ok F hi it (fun i σ₁ μ₁ => σ₁ = σs i ∧ μ₁ = μs i) ⟨h0, h1⟩ (fun _ _ _ _ => False) (fun i d σ₁ μ₁ hd hinv => ?_) (fun i σ₂ μ₂ d v s' W' _ hf => hf.elim) (fun σ₂ μ₂ s' W' hinv G => ?_) hs
 ·obtain ⟨rfl, rfl⟩ := hinv
  obtain ⟨bs, T, hb⟩ := hbody i d hd
  refine ⟨bs, T, fun s₁ s₂ W₁ W₂ Md₁ E G => wpAny_mono (hb s₁ s₂ W₁ W₂ Md₁ E G) (fun f s' q => ?_) fun _ _ e => e⟩
  cases f with
  | next => obtain ⟨W', q⟩ := q; exact ⟨_, _, W', ⟨rfl, rfl⟩, q⟩
  | cont => obtain ⟨W', q⟩ := q; exact ⟨_, _, W', ⟨rfl, rfl⟩, q⟩
  | brk => exact q
  | ret v => exact q.elim
 ·obtain ⟨rfl, rfl⟩ := hinv
  exact hQ s' W' G
end
noncomputable def initB : List Stmt := (sBody (stIn 12 0)).drop 1
noncomputable def hdrM (v : Value) : Str → Option Value := fun y => if y = ("_headers" : Str) then some v else none
structure NiceP (p : Str × Str) : Prop where
 key : GoodB true p.1
 val : GoodB false p.2
theorem Tv.at {c : Cx} {A : Around} {env : Env} {σ : List (Str × D)} {W : Addr → Prop} {s : Shared} {E' : Value → Shared → Prop} {e : Expr} {b : Bool} (h : Tv c A env σ e b) (V : View c W env σ s) : wpAny c.M A (isTrue e env (eval e env)) (fun v s' => Kt s s' ∧ v = b) E' s := h W s E' V
theorem init_rest (w : World) {A : Around} {n : Nat} (room : Room A (n + 3)) {s₀ s : Shared} {W₀ Md W : Addr → Prop} {L x dx l : Addr} {ps : List (Str × Str)} {Q : Flow → Shared → Prop} {E : Value → Shared → Prop} (ok : EnvOk (callEnvC fd_m___init__ L 140))
  (F : Fr (CL w) s₀ W₀ Md W (callEnvC fd_m___init__ L 140) [("headers", .val (.ref l)), ("self", .val (.ref x))] [] s) (Mx : Md x) (Mdx : Md dx) (I : InsAt s.heap x dx 248 (fun _ => none)) (neL : (callEnvC fd_m___init__ L 140).locals ≠ x ∧ (callEnvC fd_m___init__ L 140).locals ≠ dx)
  (r : Rd W s.heap (.ref l) (.lst (ps.map strP))) (hps : ∀ p ∈ ps, NiceP p) (hl : ps.length ≤ 500000)
  (h : ∀ s', Upd (fun b => b = x ∨ b = dx ∨ b = (callEnvC fd_m___init__ L 140).locals) s s' → InsAt s'.heap x dx 248 (hdrM (.ref l)) → Q .next s') :
  wpAny (CL w).M A (execs initB (callEnvC fd_m___init__ L 140)) Q E s := by
 have nocell : ∀ y b, (callEnvC fd_m___init__ L 140).cells.lookup y = some b → b ≠ x ∧ b ≠ dx := fun y b e => by
  have : (callEnvC fd_m___init__ L 140).cells = [] := by rfl
  rw [this] at e; cases e
 have noM : ∀ a, Mine' (callEnvC fd_m___init__ L 140) [] a → a = (callEnvC fd_m___init__ L 140).locals := fun a h => by
  rcases h with h | ⟨y, _, h⟩ | ⟨_, h⟩
  ·exact h
  ·have : (callEnvC fd_m___init__ L 140).cells = [] := by rfl
   rw [this] at h; cases h
  ·cases h
 have G := F.rebase
 refine wpAny_execs_cons (st_ifW G (b := false) (fun E => ?_) (fun h => by cases h) (fun _ s1 G1 => wpAny_execs_nil ?_))
 ·refine Tv.at (W := W) (σ := [("headers", .lst (ps.map strP)), ("self", .val (.ref x))]) (Tv.cmp (Ev.typeOf (Ev.glob ok (by rfl) (.inr (mb_type w))) (by rfl) (Ev.name ok (by rfl)) rfl) (Ev.glob ok (by rfl) (.inr (mb_list w))) Cmp.isNotType) ?_
  exact F.view.peek (fun _ h => h) (.cons (fun v hv => by cases hv; exact r) (.cons (fun v hv => hv) .nil))
 ·have I1 : InsAt s1.heap x dx 248 (fun _ => none) := I.at fun b o hb e => G1.up.keep b o (fun m => by
   have := noM b m
   rcases hb with rfl | rfl
   ·exact neL.1 this.symm
   ·exact neL.2 this.symm) e
  have r1 : Rd W s1.heap (.ref l) (.lst (ps.map strP)) := G1.up.rd (fun a m => (G.md_of (by
   have := noM a m; rw [this]; exact .inl rfl)).1) r
  have hX : ∀ a, (a = x ∨ a = dx) → W a ∧ (CL w).K a = none := fun a h => by
   rcases h with rfl | rfl
   ·exact ⟨F.w0 _ (F.mdW _ Mx), F.mdK _ Mx⟩
   ·exact ⟨F.w0 _ (F.mdW _ Mdx), F.mdK _ Mdx⟩
  have H1 := G1.rebaseX hX
  refine wpAny_execs_cons (st_setattr H1 (kls w) (Ev.name ok (by rfl)) (Ev.name ok (by rfl)) I1 (.inr (.inl rfl)) (.inr (.inr rfl)) neL (fun o => ⟨by simp, by simp⟩) nocell (mH_h w) obj_h (ns := []) (fun y hy => (hy rfl).elim) (by decide) (fun v s2 rv I2 H2 => ?_))
  cases rv
  have hMW : ∀ a, (Mine' (callEnvC fd_m___init__ L 140) [] a ∨ a = x ∨ a = dx) → W a := fun a h => H1.mdW a h
  have r2 : Rd W s2.heap (.ref l) (.lst (ps.map strP)) := H2.up.rd hMW r1
  have kx : ∀ a, a = (callEnvC fd_m___init__ L 140).locals → a ≠ x ∧ a ≠ dx := fun a h => by rw [h]; exact neL
  have J := H2.stand (W' := fun a => W a ∧ a ≠ x ∧ a ≠ dx) (σ' := [("headers", .lst (ps.map strP)), ("self", tabD ps)]) (fun a h => h.1) (fun a m => ⟨hMW a (.inl m), kx a (noM a m)⟩)
   (.cons (fun v hv => by cases hv; exact r2.less fun a h => h.1) (.cons (fun v hv => by
    cases hv
    obtain ⟨o, e, hc, hnc, hd⟩ := I2.inst
    obtain ⟨n1, n2⟩ := I2.ns1
    exact .ins (fun q => q.2.1 rfl) (fun q => q.2.2 rfl) e ⟨hc, hnc, I2.dict o e, n2⟩ n1 (fun y hy => by
     have : y ≠ ("_headers" : Str) := fun q => by subst q; cases hy
     exact if_neg this) (.cons (if_pos rfl) (r2.less fun a h => h.1) .nil)) .nil))
  refine wpAny_execs_cons (st_if J (b := true) ?_ (fun _ s3 J3 => ?_) (fun h => by cases h))
  ·exact Tv.bool Ev.bool
  refine wpAny_execs_cons (st_forS (l := ps.map strP) room.hh ok J3 (Ev.name ok (by rfl)) (Itr.lst room.hh) (fun _ => _) (fun i => []) rfl rfl (fun i d hd => ?_) (fun s4 W4 J4 => ?_))
  ·obtain ⟨p, hpi, rfl⟩ : ∃ p, ps[i]? = some p ∧ d = strP p := by
    rw [List.getElem?_map] at hd
    cases e : ps[i]? with
    | none => rw [e] at hd; cases hd
    | some p => rw [e] at hd; exact ⟨p, rfl, (Option.some.inj hd).symm⟩
   have np := hps p (List.mem_of_getElem? hpi)
   refine ⟨_, .pair (.inl (by kernel_rfl)) (.inl (by kernel_rfl)), fun sa sb Wa Wb Ma E' Fa => ?_⟩
   refine wpAny_execs_cons (st_expr Fa (ev_conv room (fs := fT ps) (Ev.name ok (by rfl)) (by rfl) (by rfl) (by rfl) (EvA.kw1 (EvL.c (Ev.name ok (by rfl)) EvL.nil) (Et.kw Ev.bool)) np.key) fun s5 F5 => ?_)
   refine wpAny_execs_cons (st_expr F5 (ev_conv room (fs := fT ps) (Ev.name ok (by rfl)) (by rfl) (by rfl) (by rfl) (EvA.kw1 (EvL.c (Ev.name ok (by rfl)) EvL.nil) (Et.kw Ev.bool)) np.val) fun s6 F6 => ?_)
   refine wpAny_execs_nil ⟨Wb, F6.sub fun y d h => ?_⟩
   rw [List.lookup_cons] at h
   cases z : y == ("headers" : Str) with
   | true => rw [z] at h; have := eq_of_beq z; subst this; exact h
   | false =>
    rw [z] at h
    obtain ⟨rfl, rfl⟩ := look1 h
    rfl
  ·refine wpAny_execs_nil (wpAny_execs_nil (h _ ?_ ?_))
   ·exact ((G1.up.mono fun a m => .inr (.inr (noM a m))).trans (H2.up.mono fun a m => m.elim (fun m => .inr (.inr (noM a m))) fun m => m.elim .inl fun m => .inr (.inl m))).trans (J4.up.mono fun a m => .inr (.inr (noM a m)))
   ·exact I2.at fun b o hb e => J4.up.keep b o (fun m => by
     have := noM b m
     rcases hb with rfl | rfl
     ·exact neL.1 this.symm
     ·exact neL.2 this.symm) e
theorem init_nocell (L : Addr) (a : Addr) (h : Mine' (callEnvC fd_m___init__ L 140) [] a) : a = (callEnvC fd_m___init__ L 140).locals := by
 rcases h with h | ⟨y, _, h⟩ | ⟨_, h⟩
 ·exact h
 ·have : (callEnvC fd_m___init__ L 140).cells = [] := by rfl
  rw [this] at h; cases h
 ·cases h
theorem mk_core (w : World) {A : Around} {n : Nat} (room : Room A (n + 5)) {ps : List (Str × Str)} (hps : ∀ p ∈ ps, NiceP p) (hl : ps.length ≤ 500000) {W : Addr → Prop} {s : Shared} {E : Value → Shared → Prop} {l : Addr} (base : HasK (CL w).K s.heap) (tok : 0 < s.toks) (wo : ∀ a, W a → ∃ o, s.heap.get? a = some o)
  (r : Rd W s.heap (.ref l) (.lst (ps.map strP))) :
  wpAny (CL w).M A (call (.ref 248) [.ref l]) (fun v s' => Kt s s' ∧ ∃ x dx, v = .ref x ∧ s.heap.get? x = none ∧ s.heap.get? dx = none ∧ InsAt s'.heap x dx 248 (hdrM (.ref l))) E s := by
 refine make_call (kls w) (mH___init__ w) (fn_m___init__ w) (cf_m___init__ w) base fun x dx s1 K1 hx hdx I => ?_
 have kn : ∀ a, s.heap.get? a = none → (CL w).K a = none := fun a e => by
  cases e' : (CL w).K a with
  | none => rfl
  | some o => rw [base a o e'] at e; cases e
 refine enter (W₀ := fun a => W a ∨ a = x ∨ a = dx) (Md := fun a => a = x ∨ a = dx) (μ := []) (σ := [("self", .val (.ref x)), ("headers", .val (.ref l))]) (room.under 248 [.ref l]) (fn_m___init__ w) (base.keeps K1.heap) (Nat.lt_of_lt_of_le tok K1.tk) (fun a h => ?_) (fun a h => ⟨.inr h, ?_⟩) (binds := [("self", .ref x), ("headers", .ref l)]) (.of_defaults (T := 133) rfl (atL w (base.keeps K1.heap) (hf133 w)) rfl rfl rfl) (fun L x hx => ?_) (show [("self" : Str), "headers"].Nodup by decide +kernel) (.cons (.val _) (.cons (.val _) .nil)) (fun a l h => nomatch h) (by simp) fun L W' s2 E' fL K2 ok F => ?_
 ·rcases h with h | rfl | rfl
  ·obtain ⟨o, e⟩ := wo a h; exact ⟨o, K1.heap _ _ e⟩
  ·obtain ⟨o, e, _⟩ := I.inst; exact ⟨o, e⟩
  ·obtain ⟨⟨o, _, _, e, _⟩, _⟩ := I.ns1; exact ⟨o, e⟩
 ·rcases h with rfl | rfl
  ·exact kn _ hx
  ·exact kn _ hdx
 ·simp only [List.mem_cons, List.not_mem_nil, or_false] at hx
  rcases hx with rfl | rfl <;> exact .inl (by kernel_rfl)
 ·have room' := (room.under 248 [.ref l]).deeper (callEnvC fd_m___init__ L 140)
  have neL : (callEnvC fd_m___init__ L 140).locals ≠ x ∧ (callEnvC fd_m___init__ L 140).locals ≠ dx := by
   refine ⟨fun q => ?_, fun q => ?_⟩
   ·obtain ⟨o, e, _⟩ := I.inst; rw [q, e] at fL; cases fL
   ·obtain ⟨⟨o, _, _, e, _⟩, _⟩ := I.ns1; rw [q, e] at fL; cases fL
  have I2 : InsAt s2.heap x dx 248 (fun _ => none) := I.at fun b o _ e => K2.heap b o e
  have r2 : Rd W' s2.heap (.ref l) (.lst (ps.map strP)) := (((r.grow (W' := fun a => W a ∨ a = x ∨ a = dx) fun a h => by
   rcases h with h | rfl | rfl
   ·exact .inl h
   ·exact .inr hx
   ·exact .inr hdx).keeps K1.heap).grow (W' := W') F.wn).keeps K2.heap
  have G := F.rebase
  refine wpAny_execs_cons (st_assign ok G (d := .val (.ref l)) (Ev.ifExp (b := true) (Tv.cmp (Ev.name ok (by rfl)) Ev.none Cmp.isNotNone) (fun _ => Ev.name ok (by rfl)) (fun h => by cases h)) (.inl (by kernel_rfl)) fun s3 G3 => ?_)
  have F3 := (F.compose G3).sub (σ' := [("headers", .val (.ref l)), ("self", .val (.ref x))]) (fun y d h => by
   rw [List.lookup_cons] at h ⊢
   cases z : y == ("headers" : Str) with
   | true => rw [z] at h; exact h
   | false => rw [z] at h; obtain ⟨rfl, rfl⟩ := look1 h; rfl)
  refine init_rest w room' ok F3 (.inl rfl) (.inr rfl) (I2.at fun b o hb e => G3.up.keep b o (fun m => by
   have := init_nocell L b m
   rcases hb with rfl | rfl
   ·exact neL.1 this.symm
   ·exact neL.2 this.symm) e) neL (G3.up.rd (fun a m => G.mdW a m) r2) hps hl fun s4 U I4 => ⟨rfl, ⟨⟨?_, ?_⟩, ?_⟩, x, dx, rfl, hx, hdx, I4⟩
  ·obtain ⟨h1, t1, q1⟩ := K1.eq; obtain ⟨h2, t2, q2⟩ := K2.eq; obtain ⟨h3, t3, q3⟩ := G3.up.eq; obtain ⟨h4, t4, q4⟩ := U.eq
   exact ⟨h4, t4, by rw [q4, q3, q2, q1]⟩
  ·intro b o e
   have e1 := K1.heap b o e
   have nl : b ≠ (callEnvC fd_m___init__ L 140).locals := fun q => by rw [← q, e1] at fL; cases fL
   refine U.keep b o ?_ (G3.up.keep b o (fun m => nl (init_nocell L b m)) (K2.heap b o e1))
   rintro (q | q | q)
   ·rw [q, hx] at e; cases e
   ·rw [q, hdx] at e; cases e
   ·exact nl q
  ·exact Nat.le_trans K1.tk (Nat.le_trans K2.tk (Nat.le_trans G3.up.tk U.tk))
theorem mk_core0 (w : World) {A : Around} {n : Nat} (room : Room A (n + 5)) {W : Addr → Prop} {s : Shared} {E : Value → Shared → Prop} (base : HasK (CL w).K s.heap) (tok : 0 < s.toks) (wo : ∀ a, W a → ∃ o, s.heap.get? a = some o) :
  wpAny (CL w).M A (call (.ref 248) []) (fun v s' => Kt s s' ∧ ∃ x dx l, v = .ref x ∧ s.heap.get? x = none ∧ s.heap.get? dx = none ∧ s.heap.get? l = none ∧ l ≠ x ∧ l ≠ dx ∧ InsAt s'.heap x dx 248 (hdrM (.ref l)) ∧ s'.heap.PlainList l #[]) E s := by
 refine make_call (kls w) (mH___init__ w) (fn_m___init__ w) (cf_m___init__ w) base fun x dx s1 K1 hx hdx I => ?_
 have kn : ∀ a, s.heap.get? a = none → (CL w).K a = none := fun a e => by
  cases e' : (CL w).K a with
  | none => rfl
  | some o => rw [base a o e'] at e; cases e
 refine enter (W₀ := fun a => W a ∨ a = x ∨ a = dx) (Md := fun a => a = x ∨ a = dx) (μ := []) (σ := [("self", .val (.ref x)), ("headers", .val .none)]) (room.under 248 []) (fn_m___init__ w) (base.keeps K1.heap) (Nat.lt_of_lt_of_le tok K1.tk) (fun a h => ?_) (fun a h => ⟨.inr h, ?_⟩) (binds := [("self", .ref x), ("headers", .none)]) (.of_defaults (T := 133) rfl (atL w (base.keeps K1.heap) (hf133 w)) rfl rfl rfl) (fun L x hx => ?_) (show [("self" : Str), "headers"].Nodup by decide +kernel) (.cons (.val _) (.cons (.val _) .nil)) (fun a l h => nomatch h) (by simp) fun L W' s2 E' fL K2 ok F => ?_
 ·rcases h with h | rfl | rfl
  ·obtain ⟨o, e⟩ := wo a h; exact ⟨o, K1.heap _ _ e⟩
  ·obtain ⟨o, e, _⟩ := I.inst; exact ⟨o, e⟩
  ·obtain ⟨⟨o, _, _, e, _⟩, _⟩ := I.ns1; exact ⟨o, e⟩
 ·rcases h with rfl | rfl
  ·exact kn _ hx
  ·exact kn _ hdx
 ·simp only [List.mem_cons, List.not_mem_nil, or_false] at hx
  rcases hx with rfl | rfl <;> exact .inl (by kernel_rfl)
 ·have room' := (room.under 248 []).deeper (callEnvC fd_m___init__ L 140)
  have neL : (callEnvC fd_m___init__ L 140).locals ≠ x ∧ (callEnvC fd_m___init__ L 140).locals ≠ dx := by
   refine ⟨fun q => ?_, fun q => ?_⟩
   ·obtain ⟨o, e, _⟩ := I.inst; rw [q, e] at fL; cases fL
   ·obtain ⟨⟨o, _, _, e, _⟩, _⟩ := I.ns1; rw [q, e] at fL; cases fL
  have I2 : InsAt s2.heap x dx 248 (fun _ => none) := I.at fun b o _ e => K2.heap b o e
  have G := F.rebase
  refine wpAny_execs_cons (wpAny_Assign_Name (wpAny_IfExp (wpAny_mono (Tv.at (b := false) (W := W') (Tv.cmp (Ev.name ok (by rfl)) Ev.none Cmp.isNotNone) G.view) (fun v s3 q => ?_) fun _ _ e => e)) rfl)
  obtain ⟨K3, rfl⟩ := q
  refine List_ (Calls.spliced_nil (wpAny_newObj_type ?_))
  have K4 : Kt s3 { s3 with heap := s3.heap.push { cls := .type "list", data := .seq ([] : List Value).toArray } } := ⟨.push _, Nat.le_refl _⟩
  have pl4 : ({ s3 with heap := s3.heap.push { cls := .type "list", data := .seq ([] : List Value).toArray } } : Shared).heap.PlainList s3.heap.objs.size #[] := ⟨0, Heap.get?_push_size _ rfl⟩
  have lf : s3.heap.get? s3.heap.objs.size = none := size_none
  generalize ({ s3 with heap := s3.heap.push { cls := .type "list", data := .seq ([] : List Value).toArray } } : Shared) = s4 at K4 pl4 ⊢
  generalize s3.heap.objs.size = l at pl4 lf ⊢
  have KK := K3.trans K4
  have lf2 : s2.heap.get? l = none := by
   cases e : s2.heap.get? l with
   | none => rfl
   | some o => rw [K3.heap _ _ e] at lf; cases lf
  have lf1 : s1.heap.get? l = none := by
   cases e : s1.heap.get? l with
   | none => rfl
   | some o => rw [K2.heap _ _ e] at lf2; cases lf2
  have lf0 : s.heap.get? l = none := by
   cases e : s.heap.get? l with
   | none => rfl
   | some o => rw [K1.heap _ _ e] at lf1; cases lf1
  have lx : l ≠ x := fun q => by obtain ⟨o, e, _⟩ := I.inst; rw [← q, lf1] at e; cases e
  have ldx : l ≠ dx := fun q => by obtain ⟨⟨o, _, _, e, _⟩, _⟩ := I.ns1; rw [← q, lf1] at e; cases e
  have nlL : l ≠ (callEnvC fd_m___init__ L 140).locals := fun q => by
   obtain ⟨m, o, _, _, e, _⟩ := F.ns
   rw [← q, lf2] at e; cases e
  have nWl : ¬ W' l := fun h => by obtain ⟨o, e⟩ := F.view.wold l h; rw [lf2] at e; cases e
  refine (G.keeps KK).set ok (.inl (by kernel_rfl)) (.val _) fun s5 G5 U5 => ?_
  have pl5 : s5.heap.PlainList l #[] := pl4.at fun o e => U5.keep l o (fun m => nlL (init_nocell L l m)) e
  have r5 : Rd W' s5.heap (.ref l) (.lst (([] : List (Str × Str)).map strP)) := .lst nWl (toL pl5) .nil
  have F3 := (F.compose G5).sub (σ' := [("headers", .val (.ref l)), ("self", .val (.ref x))]) (fun y d h => by
   rw [List.lookup_cons] at h ⊢
   cases z : y == ("headers" : Str) with
   | true => rw [z] at h; exact h
   | false => rw [z] at h; obtain ⟨rfl, rfl⟩ := look1 h; rfl)
  refine init_rest w room' ok F3 (.inl rfl) (.inr rfl) (I2.at fun b o hb e => G5.up.keep b o (fun m => by
   have := init_nocell L b m
   rcases hb with rfl | rfl
   ·exact neL.1 this.symm
   ·exact neL.2 this.symm) e) neL r5 (fun p hp => nomatch hp) (Nat.zero_le _) fun s6 U I4 => ⟨rfl, ⟨⟨?_, ?_⟩, ?_⟩, x, dx, l, rfl, hx, hdx, lf0, lx, ldx, I4, ?_⟩
  ·obtain ⟨h1, t1, q1⟩ := K1.eq; obtain ⟨h2, t2, q2⟩ := K2.eq; obtain ⟨h3, t3, q3⟩ := G5.up.eq; obtain ⟨h4, t4, q4⟩ := U.eq
   exact ⟨h4, t4, by rw [q4, q3, q2, q1]⟩
  ·intro b o e
   have e1 := K1.heap b o e
   have nl : b ≠ (callEnvC fd_m___init__ L 140).locals := fun q => by rw [← q, e1] at fL; cases fL
   refine U.keep b o ?_ (G5.up.keep b o (fun m => nl (init_nocell L b m)) (K2.heap b o e1))
   rintro (q | q | q)
   ·rw [q, hx] at e; cases e
   ·rw [q, hdx] at e; cases e
   ·exact nl q
  ·exact Nat.le_trans K1.tk (Nat.le_trans K2.tk (Nat.le_trans G5.up.tk U.tk))
  ·exact pl5.at fun o e => U.keep l o (fun q => by rcases q with q | q | q; exact lx q; exact ldx q; exact nlL q) e
section
variable {w : World} {A : Around} {s₀ : Shared} {W₀ Md W : Addr → Prop} {env : Env} {σ : List (Str × D)} {μ : List (Addr × Own)} {s : Shared} {E : Value → Shared → Prop}
theorem rd_tab {W : Addr → Prop} {h : Heap} {x dx : Addr} {v : Value} {d : D} (I : InsAt h x dx 248 (hdrM v)) (hx : ¬ W x) (hdx : ¬ W dx) (r : Rd W h v d) : Rd W h (.ref x) (.ins 248 [("_headers", d)]) := by
 obtain ⟨o, e, hc, hnc, hd⟩ := I.inst
 obtain ⟨n1, n2⟩ := I.ns1
 exact .ins hx hdx e ⟨hc, hnc, I.dict o e, n2⟩ n1 (fun y hy => by
  have : y ≠ ("_headers" : Str) := fun q => by subst q; cases hy
  exact if_neg this) (.cons (if_pos rfl) r .nil)
theorem mk_read {n : Nat} (room : Room A (n + 5)) {ps : List (Str × Str)} (hps : ∀ p ∈ ps, NiceP p) (hl : ps.length ≤ 500000) : Mk (CL w) A 248 [.lst (ps.map strP)] (tabD ps) := by
 intro W s E vs base tok wo rl
 cases rl with
 | cons r1 rl =>
 cases rl
 have r1' := r1
 cases r1 with
 | lst ha ht hr =>
  refine wpAny_mono (mk_core w room hps hl base tok wo r1') (fun v s' q => ?_) fun _ _ e => e
  obtain ⟨K, x, dx, rfl, hx, hdx, I⟩ := q
  have nW : ∀ a, s.heap.get? a = none → ¬ W a := fun a e h => by obtain ⟨o, q⟩ := wo a h; rw [e] at q; cases q
  exact ⟨K, rd_tab I (nW x hx) (nW dx hdx) (r1'.keeps K.heap)⟩
end
noncomputable def lineS (p : Str × Str) : Str := p.1 ++ Str.ofString ": " ++ p.2
noncomputable def linesOf (ps : List (Str × Str)) : List Str := ps.map lineS ++ [Str.ofString "", Str.ofString ""]
noncomputable def tabS (ps : List (Str × Str)) : Str := Txt.join (Str.ofString "\r\n") (linesOf ps)
structure TabOk (ps : List (Str × Str)) : Prop where
 each : ∀ p ∈ ps, p.1.length ≤ 1000000 ∧ p.2.length ≤ 1000000
 join : JoinOk (Str.ofString "\r\n") (linesOf ps) = true
 size : ps.length ≤ 500000
theorem strP_inj (a b : Str × Str) (h : strP a = strP b) : a = b := by
 unfold strP at h
 injection h with h
 injection h with h1 h
 injection h with h2 h
 injection h1 with h1
 injection h2 with h2
 exact Prod.ext h1 h2
theorem pf_str (w : World) {A : Around} {n : Nat} (room : Room A (n + 2)) (ps : List (Str × Str)) (ok : TabOk ps) : Pf (CL w) A 224 [tabD ps] [] (.str (tabS ps)) := by
 intro W s E vs kvs base tok wo rl br
 cases br
 cases rl with
 | cons r1 rl =>
 cases rl
 refine enter (W₀ := W) (Md := fun _ => False) (μ := []) (σ := [("self", tabD ps)]) room (fn_m___str__ w) base tok wo (fun a h => h.elim) (binds := [("self", _)]) (.of_eq rfl) (fun L x hx => ?_) (show [("self" : Str)].Nodup by decide +kernel) (.cons r1 .nil) (fun a l h => nomatch h) (by simp) fun L W' s' E' _ _ ok' F => ?_
 ·simp only [List.mem_cons, List.not_mem_nil, or_false] at hx
  subst hx; exact .inl (by kernel_rfl)
 ·have room' := room.deeper (callEnvC fd_m___str__ L 224)
  refine wpAny_execs_cons (st_return F (d := .str (tabS ps)) (Ev.join (xs := linesOf ps) Ev.str ?_ (by rfl) (by rfl) (by rfl) ok.join) fun v s4 F4 r => ?_)
  ·refine Ev.cast (Ev.bin (Ev.compM (xs := ps) (g := strP) (f := fun p => .str (lineS p)) (σc := []) room'.hh ok' (Ev.attr (kls w) (Ev.name ok' (by rfl)) (by rfl) (by rfl) (mH_h w) obj_h) (Itr.lst room'.hh) strP_inj (by have := ok.size; omega) (by rfl) (by decide +kernel) (by rfl) (by decide +kernel) ⟨fun y d h => by cases h⟩ (fun C => by kernel_rfl) (fun C p hp => ?_)) (Ev.list (EvL.c Ev.str (EvL.c Ev.str EvL.nil)) (by show 2 ≤ 1000000; decide)) (Bop.addL ?_)) ?_
   ·exact Ev.bin Ev.str (Ev.name (compEnvC_ok ok' (by rfl)) (by rfl)) (Bop.mod2 (by decide +kernel) fun u v t adr => meets_colon _ _ u v t adr (ok.each p hp).1 (ok.each p hp).2)
   ·rw [List.length_map]; have := ok.size; show _ + 2 ≤ _; omega
   ·unfold linesOf; rw [List.map_append, List.map_map]; rfl
  ·exact ⟨F4.up.kt, r.less F4.w0⟩
theorem lookup_app {β : Type} {x : Str} : ∀ {a b : List (Str × β)}, (∀ p ∈ a, p.1 ≠ x) → (a ++ b).lookup x = b.lookup x
 | [], _, _ => rfl
 | (y, v) :: a, b, h => by
  rw [List.cons_append, List.lookup_cons, beq_false_of_ne (fun q => h (y, v) (List.mem_cons_self ..) q.symm)]
  exact lookup_app fun p hp => h p (List.mem_cons_of_mem _ hp)
theorem Fr.cut {c : Cx} {s₀ : Shared} {W₀ Md W : Addr → Prop} {env : Env} {σ : List (Str × D)} {μ : List (Addr × Own)} {s : Shared} (bs : List (Str × D)) (F : Fr c s₀ W₀ Md W env (bs ++ σ) μ s) (h : ∀ p ∈ bs, σ.lookup p.1 = none) : Fr c s₀ W₀ Md W env σ μ s :=
 F.sub fun x d e => by
  rw [lookup_app fun p hp q => by have := h p hp; rw [q, e] at this; cases this]
  exact e
theorem take_one {α : Type} {l : List α} {i : Nat} {p : α} (h : l[i]? = some p) : l.take (i + 1) = l.take i ++ [p] := by
 rw [List.take_add_one, h]; rfl
noncomputable def cpOf : D → Nat
 | .str y => y.cps.getD 0 0
 | _ => 0
noncomputable def prepS (w : World) (x : Str) : Str := Txt.join "" ((x.cps.toList.filter fun (k : Nat) => !(inB1 w k)).map foldC)
structure PrepOk (w : World) (x : Str) : Prop where
 fit : ∀ k ∈ x.cps.toList, Builtin.Str.tooLong (Txt.lower ⟨#[k]⟩).length = false
 join : JoinOk "" ((x.cps.toList.filter fun (k : Nat) => !(inB1 w k)).map foldC) = true
 size : x.cps.size ≤ 1000000
theorem prep_list (w : World) (x : Str) : (((x.cps.toList.map fun k => D.str ⟨#[k]⟩).filter fun d => !(inB1 w (cpOf d))).map fun d => D.str (foldC (cpOf d))) = ((x.cps.toList.filter fun (k : Nat) => !(inB1 w k)).map foldC).map .str := by
 rw [List.filter_map, List.map_map, List.map_map]; rfl
theorem pf_prepare (w : World) {A : Around} {n : Nat} (room : Room A (n + 4)) (x : Str) (pk : PrepOk w x) : Pf (CL w) A 257 [.str x] [] (.str (prepS w x)) := by
 intro W s E vs kvs base tok wo rl br
 cases br
 cases rl with
 | cons r1 rl =>
 cases rl
 refine enter (W₀ := W) (Md := fun _ => False) (μ := []) (σ := [("text", .str x)]) room (fn__law_prepare w) base tok wo (fun a h => h.elim) (binds := [("text", _)]) (.of_eq rfl) (fun L y hx => ?_) (by simp) (.cons r1 .nil) (fun a l h => nomatch h) (by simp) fun L W' s' E' _ _ ok F => ?_
 ·simp only [List.mem_singleton] at hx; subst hx; exact .inl (by kernel_rfl)
 ·have room' := room.deeper (callEnvC fd__law_prepare L 257)
  refine wpAny_execs_cons (st_return F (d := .str (prepS w x)) (Ev.join (xs := (x.cps.toList.filter fun (k : Nat) => !(inB1 w k)).map foldC) Ev.str ?_ (by rfl) (by rfl) (by rfl) pk.join) fun v s4 F4 r => ⟨F4.up.kt, r.less F4.w0⟩)
  rw [← prep_list]
  refine Ev.comp (σc := []) room'.hh ok (Ev.name ok (by rfl)) (Itr.str room'.hh) ?_ (by rfl) (by decide +kernel) (by rfl) (by decide +kernel) ⟨fun y d h => by cases h⟩ fun C d hd => ?_
  ·rw [List.length_map, Array.length_toList]; exact pk.size
  ·obtain ⟨k, hk, rfl⟩ := List.mem_map.mp hd
   refine ⟨_, .name (by kernel_rfl), .one ?_, fun _ => ?_⟩
   ·exact Tv.not (Tv.bool (Ev.call (Ev.glob (compEnvC_ok ok (by rfl)) (by rfl) (.inl (mg_in_table_b1 w))) (fn_in_table_b1 w) (EvA.plain (EvL.c (Ev.name (compEnvC_ok ok (by rfl)) (by rfl)) EvL.nil)) (pf_b1 w room' k)))
   ·exact Ev.call (Ev.glob (compEnvC_ok ok (by rfl)) (by rfl) (.inl (mg_map_table_b3 w))) (fn_map_table_b3 w) (EvA.plain (EvL.c (Ev.name (compEnvC_ok ok (by rfl)) (by rfl)) EvL.nil)) (pf_map w room' k (pk.fit k hk))
theorem patXN (w : World) : PatX (CL w) 112 (fun k => 31 < k ∧ k ≠ 127) := patX_name (fun h k => ⟨atL w k (hf112 w), atL w k (hf111 w)⟩) (by decide +kernel)
theorem patXV (w : World) : PatX (CL w) 117 (fun k => 31 < k ∧ k ≠ 127 ∨ k = 9) := patX_value (fun h k => ⟨atL w k (hf117 w), atL w k (hf116 w)⟩) (by decide +kernel)
structure BadB (b : Bool) (x : Str) : Prop where
 bad : ∃ k ∈ x.cps.toList, ¬ ((31 < k ∧ k ≠ 127) ∨ (b = false ∧ k = 9))
 size : x.cps.size ≤ 1000000
noncomputable abbrev convE (L : Addr) : Env := callEnvC fd_m__convert_string_type L 147
theorem conv_raise (w : World) {A : Around} {n : Nat} (room : Room A (n + 2)) (ds : D) (x : Str) (b : Bool) (hx : BadB b x) {W : Addr → Prop} {s : Shared} {vs : List Value} {kvs : List (Str × Value)} (base : HasK (CL w).K s.heap) (tok : 0 < s.toks) (wo : ∀ a, W a → ∃ o, s.heap.get? a = some o)
  (rl : RdL W s.heap vs [ds, .str x]) (br : BR W s.heap kvs [("name", .val (.bool b))]) {l : List Env} {B : Heap} (st : Stk A l B s) {Q : Value → Shared → Prop} {E : Value → Shared → Prop} (h : ∀ e s', Fly B l "ValueError" s e s' → E e s') :
  wpAny (CL w).M A (call (.ref 147) vs kvs) Q E s := by
 cases br with
 | cons rb br =>
 cases br
 cases rb
 cases rl with
 | cons r1 rl =>
 cases rl with
 | cons r2 rl =>
 cases rl
 refine enterX (W₀ := W) (Md := fun _ => False) (μ := []) (σ := [("self", ds), ("value", .str x), ("name", .val (.bool b))]) room (fn_m__convert_string_type w) base tok wo (fun a h => h.elim) (binds := [("self", _), ("value", _), ("name", _)]) (.of_eq rfl) (fun L x hx => ?_) (show [("self" : Str), "value", "name"].Nodup by decide +kernel) (.cons r1 (.cons r2 (.cons (.val _) .nil))) (fun a l h => nomatch h) (by simp) fun L W' s' fL K ok F => ?_
 ·simp only [List.mem_cons, List.not_mem_nil, or_false] at hx
  rcases hx with rfl | rfl | rfl <;> exact .inl (by kernel_rfl)
 ·refine wpAny_execs_cons (st_if F (b := true) ?_ (fun _ s1 F1 => ?_) (fun h => by cases h))
  ·exact Tv.cmp (Ev.typeOf (Ev.glob ok (by rfl) (.inr (mb_type w))) (by rfl) (Ev.name ok (by rfl)) rfl) (Ev.glob ok (by rfl) (.inr (mb_str w))) Cmp.isType
  ·refine wpAny_execs_cons (st_assign ok F1 (d := .val (.ref (if b then 112 else 117))) (Ev.ifExp (Tv.bool (Ev.name ok (by rfl))) (fun h => ?_) (fun h => ?_)) (.inl (by kernel_rfl)) fun s2 F2 => ?_)
   ·subst h; exact Ev.glob ok (by rfl) (.inl (mg__name_disallowed_re w))
   ·subst h; exact Ev.glob ok (by rfl) (.inl (mg__value_disallowed_re w))
   obtain ⟨k, hk, hb⟩ := hx.bad
   refine wpAny_execs_cons (st_if F2 (b := true) ?_ (fun _ s3 F3 => ?_) (fun h => by cases h))
   ·cases b with
    | true => exact Tv.found (patXN w) (Ev.name ok (by rfl)) (Ev.name ok (by rfl)) ⟨k, hk, fun q => hb (.inl q)⟩ hx.size (by rfl) (by rfl) (by rfl)
    | false => exact Tv.found (patXV w) (Ev.name ok (by rfl)) (Ev.name ok (by rfl)) ⟨k, hk, fun q => hb (q.imp id fun q => ⟨rfl, q⟩)⟩ hx.size (by rfl) (by rfl) (by rfl)
   ·refine wpAny_execs_cons (st_raise (room.deeper (convE L)).hh ok F3 PySem.F.excCall_ValueError PySem.F.excRaise_ValueError (Ev.glob ok (by rfl) (.inr (mb_ValueError w))) Ev.str (by rfl) fun s4 h' a u K4 m => ?_)
    have F4 := F3.keeps K4
    have st4 : Stk (A.deeper (convE L)) (convE L :: l) B s4 := (st.keeps F4.up.kt).deeper (env := convE L) F4.up.kt ok rfl F4.ns fL st.stays
    exact leave_made (env := convE L) st4 rfl m F4.up.kt fun s5 x5 => h _ _ x5
section
variable {w : World} {A : Around} {env : Env} {σ : List (Str × D)} {W : Addr → Prop} {s₀ s : Shared} {E : Value → Shared → Prop}
theorem ev_convX {n : Nat} (room : Room A (n + 2)) {x : Str} {xp apos pos : Pos} {es : List Expr} {kws : List Keyword} {fs : List (Str × D)} {y : Str} {b : Bool} {Q : Value → Shared → Prop} (V : View (CL w) W env σ s) (ho : Ev (CL w) A env σ (.Name x xp) (.ins aH fs)) (hsh : fs.lookup ("_convert_string_type" : Str) = none)
  (hform : methodCallForm (es.length + kws.length) (backTo pos (starEach es env)) (backToKw pos (keywordEach kws env)) = true) (hline : (apos.endLine == pos.line) = true)
  (ha : EvA (CL w) A env σ (backTo pos (starEach es env)) (backToKw pos (keywordEach kws env)) [.str y] [("name", .val (.bool b))]) (hy : BadB b y) {l : List Env} {B : Heap} (st : Stk A l B s) (K : Kt s₀ s) (h : ∀ e s', Fly B l "ValueError" s₀ e s' → E e s') :
  wpAny (CL w).M A (eval (.Call (.Attribute (.Name x xp) "_convert_string_type" apos) es kws pos) env) Q E s :=
 meth_call (kls w) ho (mH__convert_string_type w) (fn_m__convert_string_type w) (cf_m__convert_string_type w) hsh obj_conv hform hline ha V fun ov vs kvs s1 K1 V1 ro r bb =>
  conv_raise w room _ y b hy V1.base V1.tok V1.wold (.cons ro r) bb (st.keeps K1) fun e s2 x2 => h e s2 ((x2.from K1).from K)
end
theorem bind_at (a b v : Value) : bindArgs fd_m_add_header ⟨[a, b, v], []⟩ = (alloc { cls := .type "dict", data := .dict #[] } >>= fun d => pure ([("self", a), ("_name", b), ("_value", v), ("_params", .ref d)] : List (Str × Value))) := by kernel_rfl
theorem bind_hdr {c : Cx} {A : Around} {E' : Value → Shared → Prop} {s : Shared} {a b v : Value} {W : Addr → Prop} {da db dv : D} {R : List (Str × Value) → Shared → Prop} (base : HasK c.K s.heap) (wo : ∀ a, W a → ∃ o, s.heap.get? a = some o)
  (ra : Rd W s.heap a da) (rb : Rd W s.heap b db) (rv : Rd W s.heap v dv)
  (h : ∀ binds s₁, Kt s s₁ → binds.map (·.1) = [("self" : Str), "_name", "_value", "_params"] → BR W s₁.heap binds [("self", da), ("_name", db), ("_value", dv), ("_params", .dct c.prog c.w [])] → R binds s₁) :
  wpAny c.M A (bindArgs fd_m_add_header ⟨[a, b, v], []⟩) R E' s := by
 rw [bind_at]
 refine wpAny_bind (wpAny_alloc (wpAny_pure ?_))
 have K1 : Kt s { s with heap := s.heap.push { cls := .type "dict", data := .dict #[] } } := ⟨.push _, Nat.le_refl _⟩
 have d0 : s.heap.get? s.heap.objs.size = none := size_none
 have hne : (s.heap.objs.size == sysModules) = false := by
  obtain ⟨mc, ⟨o, _, _, e, _⟩, _⟩ := c.hl _ base
  have := Heap.lt_size e
  have e2 : cStatics = 2 := rfl
  have e3 : sysModules = 1 := rfl
  rw [e2] at this
  rw [e3]
  exact beq_false_of_ne fun q => absurd this (by rw [q]; decide)
 have D1 : (s.heap.push { cls := .type "dict", data := .dict #[] }).get? s.heap.objs.size = some (dictOf [] 0) := Heap.get?_push_size _ rfl
 have dd : (s.heap.push { cls := .type "dict", data := .dict #[] }).DictOf (strKind c.prog c.w) s.heap.objs.size [] := Heap.dictOf_iff.mpr ⟨_, D1, kp_isDict (ex := []) 0 0 .nil⟩
 exact h _ _ K1 rfl (.cons (ra.keeps K1.heap) (.cons (rb.keeps K1.heap) (.cons (rv.keeps K1.heap) (.cons (.dct (fun q => by obtain ⟨o, e⟩ := wo _ q; rw [d0] at e; cases e) dd .nil ⟨rfl, hne⟩) .nil))))
noncomputable abbrev ahE (L : Addr) : Env := callEnvC fd_m_add_header L 245
theorem add_raise (w : World) {A : Around} {n : Nat} (room : Room A (n + 4)) {a : Addr} {W : Addr → Prop} {s : Shared} {name value : Str} (hb : BadB false value ∨ (GoodB false value ∧ BadB true name))
  (base : HasK (CL w).K s.heap) (tok : 0 < s.toks) (wo : ∀ a, W a → ∃ o, s.heap.get? a = some o) {l : List Env} {B : Heap} (st : Stk A l B s)
  {ov nm val : Value} (ro : Rd W s.heap ov (tabL a)) (rn : Rd W s.heap nm (.str name)) (rv : Rd W s.heap val (.str value)) (pl : ∃ us, s.heap.PlainList a us) {R : Result → Shared → Prop}
  (h : ∀ e s', Fly B l "ValueError" s e s' → R (.error e) s') :
  codeAny (CL w).M A (.call (.ref 245) ⟨[ov, nm, val], []⟩) R s := by
 refine enterGX (W₀ := W) (Md := fun _ => False) (μ := []) (names := ["self", "_name", "_value", "_params"]) (σ := [("self", tabL a), ("_name", .str name), ("_value", .str value), ("_params", .dct (CL w).prog (CL w).w [])]) room (fn_m_add_header w) base tok wo (fun a h => h.elim)
  (fun R' E' hR => bind_hdr (c := CL w) base wo ro rn rv hR)
  (fun L x hx => ?_) (by decide +kernel) (fun a l h => nomatch h) (by simp) fun s₁ L W' s' K1 fL K2 ok F => ?_
 ·simp only [List.mem_cons, List.not_mem_nil, or_false] at hx
  rcases hx with rfl | rfl | rfl | rfl <;> exact .inl (by kernel_rfl)
 ·have room' := room.deeper (ahE L)
  have st1 := st.keeps K1
  have stk : ∀ {W3 : Addr → Prop} {σ3 : List (Str × D)} {μ3 : List (Addr × Own)} {s3 : Shared}, Fr (CL w) s₁ W (fun _ => False) W3 (ahE L) σ3 μ3 s3 → Stk (A.deeper (ahE L)) (ahE L :: l) B s3 := fun F3 => (st1.keeps F3.up.kt).deeper (env := ahE L) F3.up.kt ok rfl F3.ns fL st1.stays
  have out : ∀ e s4, Fly B (ahE L :: l) "ValueError" s₁ e s4 → wpAny (CL w).M (A.deeper (ahE L)) (leaving (ahE L) e) (fun _ s3 => R (.error e) s3) (fun e' s3 => R (.error e') s3) s4 := fun e s4 x4 =>
   leave_fly (env := ahE L) (Around.frames_deeper st.frames) rfl x4 fun s5 x5 => h _ _ (x5.from K1)
  refine wpAny_execs_cons (st_newlist ok F (.inl (by kernel_rfl)) fun p s2 hp F2 => ?_)
  refine wpAny_execs_cons (st_if F2 (b := true) ?_ (fun _ s3 F3 => ?_) (fun h => by cases h))
  ·exact Tv.cmp (Ev.name ok (by rfl)) Ev.none Cmp.isNotNone
  rcases hb with hv | ⟨hg, hn⟩
  ·refine wpAny_execs_cons (wpAny_Assign_Name (ev_convX room' (fs := [("_headers", .val (.ref a))]) F3.view (Ev.name ok (by rfl)) (by rfl) (by rfl) (by rfl) (EvA.kw1 (EvL.c (Ev.name ok (by rfl)) EvL.nil) (Et.kw Ev.bool)) hv (stk F3) F3.up.kt out) (by rfl))
  ·refine wpAny_execs_cons (st_assign ok F3 (d := .str value) (ev_conv room' (fs := [("_headers", .val (.ref a))]) (Ev.name ok (by rfl)) (by rfl) (by rfl) (by rfl) (EvA.kw1 (EvL.c (Ev.name ok (by rfl)) EvL.nil) (Et.kw Ev.bool)) hg) (.inl (by kernel_rfl)) fun s4 F4 => ?_)
   refine wpAny_execs_cons (st_append (μ₁ := []) (μ₂ := []) (d := .str value) F4 (Ev.name ok (by rfl)) (Ev.name ok (by rfl)) rfl (by decide) (by rfl) (by rfl) (by rfl) fun s5 F5 => wpAny_execs_nil ?_)
   refine wpAny_execs_cons (st_for0 F5 (ItrE.items room'.hh (kvs := []) (Ev.name ok (by rfl)) (by rfl) (by rfl)) fun s6 W6 F6 => ?_)
   refine wpAny_execs_cons (wpAny_Expr (wpAny_Call_append (by rfl) (by rfl) (by rfl) (by rfl) ?_) (by rfl) (by rfl))
   refine (Ev.attr (kls w) (Ev.name ok (by rfl)) (by rfl) (by rfl) (mH_h w) obj_h : Ev (CL w) _ _ _ _ (.val (.ref a))).use F6.view fun v s7 K7 V7 r7 => ?_
   cases r7
   have F7 := F6.keeps K7
   obtain ⟨us, n, q2⟩ := pl
   have q3 := F7.up.kt.heap _ _ (K1.heap _ _ q2)
   refine ⟨a, us, rfl, ⟨_, n, q3, rfl, rfl, rfl⟩, Tuple_ (Calls.spliced_cons ?_)⟩
   exact ev_convX room' (fs := [("_headers", .val (.ref a))]) F7.view (Ev.name ok (by rfl)) (by rfl) (by rfl) (by rfl) (EvA.kw1 (EvL.c (Ev.name ok (by rfl)) EvL.nil) (Et.kw Ev.bool)) hn (stk F7) F7.up.kt out
theorem obj_add : typeLookup (.type "object") "add_header" = pure none := by rw [typeLookup_type, builtinLookup_eq_fast]; kernel_rfl
theorem sub_VB : isSubtype (.type "ValueError") (.type "BaseException") = pure true := by rw [isSubtype_type]; kernel_rfl
theorem sub_VV : isSubtype (.type "ValueError") (.type "ValueError") = pure true := by rw [isSubtype_type]; kernel_rfl
theorem sub_Vt : isSubtype (.type ((Manifest.find? "ValueError").elim "type" fun x => x.metatype)) (.type "tuple") = pure false := by rw [isSubtype_type]; kernel_rfl
noncomputable abbrev laE (L : Addr) : Env := callEnvC fd__law_add L 295
theorem law_add_bad (w : World) {A : Around} {n : Nat} (room : Room A (n + 6)) {a : Addr} {W : Addr → Prop} {s : Shared} {name value : Str} (hb : BadB false value ∨ (GoodB false value ∧ BadB true name))
  (base : HasK (CL w).K s.heap) (tok : 0 < s.toks) (wo : ∀ a, W a → ∃ o, s.heap.get? a = some o) {l : List Env} (rim : Rim (CL w) A l s)
  {ov nm val : Value} (ro : Rd W s.heap ov (tabL a)) (rn : Rd W s.heap nm (.str name)) (rv : Rd W s.heap val (.str value)) (pl : ∃ us, s.heap.PlainList a us) {Q : Value → Shared → Prop} {E : Value → Shared → Prop}
  (h : ∀ s', KtS l s s' → Q (.bool false) s') : wpAny (CL w).M A (call (.ref 295) [ov, nm, val] []) Q E s := by
 refine enter (W₀ := W) (Md := fun _ => False) (μ := []) (σ := [("table", tabL a), ("name", .str name), ("value", .str value)]) room (fn__law_add w) base tok wo (fun a h => h.elim) (binds := [("table", _), ("name", _), ("value", _)]) (.of_eq rfl) (fun L x hx => ?_) (show [("table" : Str), "name", "value"].Nodup by decide +kernel) (.cons ro (.cons rn (.cons rv .nil))) (fun a l h => nomatch h) (by simp) fun L W' s' E' fL K ok F => ?_
 ·simp only [List.mem_cons, List.not_mem_nil, or_false] at hx
  rcases hx with rfl | rfl | rfl <;> exact .inl (by kernel_rfl)
 ·have room' := room.deeper (laE L)
  have st' : Stk (A.deeper (laE L)) (laE L :: l) (hideAll s.heap (l.filterMap (·.frame))) s' := (rim.stk.keeps K).deeper (env := laE L) K ok rfl F.ns fL rim.stk.stays
  refine wpAny_execs_cons (wpAny_Try_except (wpAny_execs_cons (wpAny_Expr_any (meth_call (kls w) (ds := [.str name, .str value]) (ks := []) (fs := [("_headers", .val (.ref a))]) (Ev.name ok (by rfl)) (mH_add_header w) (fn_m_add_header w) (cf_m_add_header w) (by rfl) obj_add (by rfl) (by rfl) (EvA.plain (EvL.c (Ev.name ok (by rfl)) (EvL.c (Ev.name ok (by rfl)) EvL.nil))) F.view fun ov vs2 kvs2 s7 K7 V7 ro rl2 rb2 => ?_))))
  cases rl2 with
  | cons p1 rl2 =>
  cases rl2 with
  | cons p2 rl2 =>
  cases rl2
  cases rb2
  obtain ⟨us, n', q2⟩ := pl
  refine wpAny_call (add_raise w room' hb V7.base V7.tok V7.wold (st'.keeps K7) ro p1 p2 ⟨us, n', K7.heap _ _ (K.heap _ _ q2)⟩ fun e s8 x8 => ?_)
  have x9 := (x8.from K7).from K
  refine catch_fly (env := laE L) ok (Around.frames_deeper rim.frames) rfl x9 (rim.base base) (Nat.lt_of_lt_of_le tok x9.tk) (by rfl) (mb_ValueError w) sub_VB sub_Vt sub_VV (by decide +kernel) (by decide +kernel) fun s10 E10 x10 => ?_
  refine wpAny_execs_cons (wpAny_Return_some (wpAny_Constant_bool ?_))
  exact h s10 (x10.ktS rim)
theorem joinOne {value : Str} (h2 : GoodB false value) : JoinOk (Str.ofString "; ") [value] = true := by
 have := h2.size
 have e : value.length = value.cps.size := rfl
 show (!Builtin.Str.tooLong (([value] : List Str).toArray.foldl (· + ·.length + (Str.ofString "; ").length) 0)) = true
 rw [StrLaws.joinFits (B := 1000000) (fun y hy => by rw [List.mem_singleton] at hy; subst hy; omega) (by show 1 * 1000000 + 1 * 2 ≤ 16777216; decide)]; rfl
theorem join_one (v : Str) : Txt.join (Str.ofString "; ") [v] = v := by cases v; rfl
theorem add_call0 (w : World) {A : Around} {n : Nat} (room : Room A (n + 4)) {a : Addr} {W : Addr → Prop} {s : Shared} {name value : Str} (h1 : GoodB true name) (h2 : GoodB false value) {pre : List (Str × Str)} (hpre : pre.length ≤ 500000)
  (base : HasK (CL w).K s.heap) (tok : 0 < s.toks) (wo : ∀ a, W a → ∃ o, s.heap.get? a = some o) (Wl : W a) (Kl : (CL w).K a = none) (pl : OwnAt (CL w) W s.heap a (.l (pre.map strP)))
  {ov nm val : Value} (ro : Rd W s.heap ov (tabL a)) (rn : Rd W s.heap nm (.str name)) (rv : Rd W s.heap val (.str value)) {R : Result → Shared → Prop}
  (h : ∀ s', Upd (fun b => b = a) s s' → OwnAt (CL w) W s'.heap a (.l ((pre ++ [(name, value)]).map strP)) → R (.ok (.ret .none)) s') :
  codeAny (CL w).M A (.call (.ref 245) ⟨[ov, nm, val], []⟩) R s := by
 refine enterG (W₀ := W) (Md := fun b => b = a) (μ := [(a, .l (pre.map strP))]) (names := ["self", "_name", "_value", "_params"]) (σ := [("self", tabL a), ("_name", .str name), ("_value", .str value), ("_params", .dct (CL w).prog (CL w).w [])]) room (fn_m_add_header w) base tok wo (fun b h => by subst h; exact ⟨Wl, Kl⟩)
  (fun R' E' hR => bind_hdr (c := CL w) base wo ro rn rv hR) (fun L x hx => ?_) (by decide +kernel) (fun b o hb => ?_) (by simp) fun s₁ L W' s' E' K1 _ _ ok F => ?_
 ·simp only [List.mem_cons, List.not_mem_nil, or_false] at hx
  rcases hx with rfl | rfl | rfl | rfl <;> exact .inl (by kernel_rfl)
 ·simp only [List.mem_cons, List.not_mem_nil, or_false] at hb
  cases hb
  exact ⟨rfl, pl⟩
 ·have room' := room.deeper (ahE L)
  refine wpAny_execs_cons (st_newlist ok F (.inl (by kernel_rfl)) fun p s2 hp F2 => ?_)
  refine wpAny_execs_cons (st_if F2 (b := true) (Tv.cmp (Ev.name ok (by rfl)) Ev.none Cmp.isNotNone) (fun _ s3 F3 => ?_) (fun h => by cases h))
  refine wpAny_execs_cons (st_assign ok F3 (d := .str value) (ev_conv room' (fs := [("_headers", .val (.ref a))]) (Ev.name ok (by rfl)) (by rfl) (by rfl) (by rfl) (EvA.kw1 (EvL.c (Ev.name ok (by rfl)) EvL.nil) (Et.kw Ev.bool)) h2) (.inl (by kernel_rfl)) fun s4 F4 => ?_)
  refine wpAny_execs_cons (st_append (μ₁ := []) (μ₂ := [(a, .l (pre.map strP))]) (d := .str value) F4 (Ev.name ok (by rfl)) (Ev.name ok (by rfl)) rfl (by decide) (by rfl) (by rfl) (by rfl) fun s5 F5 => wpAny_execs_nil ?_)
  refine wpAny_execs_cons (st_for0 F5 (ItrE.items room'.hh (kvs := []) (Ev.name ok (by rfl)) (by rfl) (by rfl)) fun s6 W6 F6 => ?_)
  have ma : (a, Own.l (pre.map strP)) ∈ [(p, Own.l [.str value]), (a, Own.l (pre.map strP))] := List.mem_cons_of_mem _ (List.mem_cons_self ..)
  refine wpAny_execs_cons (st_appendN (a := a) (l₀ := pre.map strP) F6 (Ev.isRef F6 (Ev.attr (kls w) (Ev.name ok (by rfl)) (by rfl) (by rfl) (mH_h w) obj_h)) ma (fun s7 E7 F7 => ?_) (by rfl) (by rfl) (by rfl))
  refine wpAny_mono (F7.lookEvF (d := strP (name, value)) (σ' := [("_value", .str value), ("parts", .lst [.str value]), ("self", tabL a), ("_name", .str name), ("_value", .str value), ("_params", .dct (CL w).prog (CL w).w [])]) ?_ (Ev.tuple (EvL.c ?_ (EvL.c ?_ EvL.nil)) (by show 2 ≤ 1000000; decide)) rfl) (fun y s8 q => ?_) fun _ _ e => e
  ·exact .cons (.same _) (.cons (.lst (List.mem_cons_self ..) (ResL.same _)) (.cons (.same _) (.cons (.same _) (.cons (.same _) (.cons (.same _) .nil)))))
  ·exact ev_conv room' (fs := [("_headers", .val (.ref a))]) (Ev.name ok (by rfl)) (by rfl) (by rfl) (by rfl) (EvA.kw1 (EvL.c (Ev.name ok (by rfl)) EvL.nil) (Et.kw Ev.bool)) h1
  ·exact Ev.cast (Ev.join (xs := [value]) Ev.str (Ev.name ok (by rfl)) (by rfl) (by rfl) (by rfl) (joinOne h2)) (congrArg D.str (join_one value))
  ·refine ⟨W6, [(p, .l [.str value])], [], pre.map strP, strP (name, value), F7.keeps q.1, q.2, by rw [List.length_map]; omega, fun s9 F9 => wpAny_execs_nil (h s9 ((Upd.of K1).trans F9.up) ?_)⟩
   obtain ⟨_, _, _, us, p1, p2⟩ := F9.own a _ (List.mem_cons_of_mem _ (List.mem_cons_self ..))
   refine ⟨us, p1, ?_⟩
   rw [List.map_append]
   exact p2.less F9.w0
theorem law_add_ok (w : World) {A : Around} {n : Nat} (room : Room A (n + 6)) {a : Addr} {W : Addr → Prop} {s : Shared} {name value : Str} (h1 : GoodB true name) (h2 : GoodB false value) {pre : List (Str × Str)} (hpre : pre.length ≤ 500000)
  (base : HasK (CL w).K s.heap) (tok : 0 < s.toks) (wo : ∀ a, W a → ∃ o, s.heap.get? a = some o) (Wl : W a) (Kl : (CL w).K a = none) (pl : OwnAt (CL w) W s.heap a (.l (pre.map strP)))
  {ov nm val : Value} (ro : Rd W s.heap ov (tabL a)) (rn : Rd W s.heap nm (.str name)) (rv : Rd W s.heap val (.str value)) {Q : Value → Shared → Prop} {E : Value → Shared → Prop}
  (h : ∀ s', Upd (fun b => b = a) s s' → OwnAt (CL w) W s'.heap a (.l ((pre ++ [(name, value)]).map strP)) → Q (.bool true) s') : wpAny (CL w).M A (call (.ref 295) [ov, nm, val] []) Q E s := by
 refine enter (W₀ := W) (Md := fun b => b = a) (μ := [(a, .l (pre.map strP))]) (σ := [("table", tabL a), ("name", .str name), ("value", .str value)]) room (fn__law_add w) base tok wo (fun b h => by subst h; exact ⟨Wl, Kl⟩) (binds := [("table", _), ("name", _), ("value", _)]) (.of_eq rfl) (fun L x hx => ?_) (show [("table" : Str), "name", "value"].Nodup by decide +kernel) (.cons ro (.cons rn (.cons rv .nil))) (fun b o hb => ?_) (by simp) fun L W' s' E' fL K ok F => ?_
 ·simp only [List.mem_cons, List.not_mem_nil, or_false] at hx
  rcases hx with rfl | rfl | rfl <;> exact .inl (by kernel_rfl)
 ·simp only [List.mem_cons, List.not_mem_nil, or_false] at hb
  cases hb
  exact ⟨rfl, pl⟩
 ·have room' := room.deeper (laE L)
  have hml : (a, Own.l (pre.map strP)) ∈ [(a, Own.l (pre.map strP))] := List.mem_cons_self ..
  refine wpAny_execs_cons (wpAny_Try_except (wpAny_execs_cons (wpAny_Expr_any (meth_call (kls w) (ds := [.str name, .str value]) (ks := []) (fs := [("_headers", .val (.ref a))]) (Ev.name ok (by rfl)) (mH_add_header w) (fn_m_add_header w) (cf_m_add_header w) (by rfl) obj_add (by rfl) (by rfl) (EvA.plain (EvL.c (Ev.name ok (by rfl)) (EvL.c (Ev.name ok (by rfl)) EvL.nil))) F.view fun ov vs2 kvs2 s7 K7 V7 ro rl2 rb2 => ?_))))
  have F7 := F.keeps K7
  obtain ⟨q1, q2, q3, q4⟩ := F7.own a _ hml
  cases rl2 with
  | cons p1 rl2 =>
  cases rl2 with
  | cons p2 rl2 =>
  cases rl2
  cases rb2
  refine wpAny_call (add_call0 w room' h1 h2 hpre V7.base V7.tok V7.wold q1 (F7.kn q2) q4 ro p1 p2 fun s8 U8 O8 => ?_)
  have F8 := F7.putU (μ₁ := []) (μ₂ := []) rfl U8 O8
  refine wpAny_execs_nil (wpAny_execs_nil (wpAny_execs_cons (st_return F8 (d := .val (.bool true)) Ev.bool fun v s10 F10 r => ?_)))
  cases r
  obtain ⟨_, _, _, us, pl1, pl2⟩ := F10.own a _ (List.mem_cons_self ..)
  exact h s10 F10.up ⟨us, pl1, pl2.less F10.w0⟩
theorem pf_bytes (w : World) {A : Around} {n : Nat} (room : Room A (n + 6)) (ps : List (Str × Str)) (ok : TabOk ps) (hx : ∀ k ∈ (tabS ps).cps.toList, k < 256) (hsz : (tabS ps).cps.size ≤ 1000000) : Pf (CL w) A 231 [tabD ps] [] (.byt (octs (tabS ps))) := by
 intro W s E vs kvs base tok wo rl br
 cases br
 cases rl with
 | cons r1 rl =>
 cases rl
 refine enter (W₀ := W) (Md := fun _ => False) (μ := []) (σ := [("self", tabD ps)]) room (fn_m___bytes__ w) base tok wo (fun a h => h.elim) (binds := [("self", _)]) (.of_eq rfl) (fun L x hx => ?_) (show [("self" : Str)].Nodup by decide +kernel) (.cons r1 .nil) (fun a l h => nomatch h) (by simp) fun L W' s' E' _ _ ok' F => ?_
 ·simp only [List.mem_cons, List.not_mem_nil, or_false] at hx
  subst hx; exact .inl (by kernel_rfl)
 ·have room' := room.deeper (callEnvC fd_m___bytes__ L 231)
  refine wpAny_execs_cons (st_return F (d := .byt (octs (tabS ps))) (Ev.encode ?_ (by rfl) (by rfl) hx hsz) fun v s4 F4 r => ⟨F4.up.kt, r.less F4.w0⟩)
  refine Ev.strOwn (kls w) (Ev.glob ok' (by rfl) (.inr (mb_str w))) (Ev.name ok' (by rfl)) (by rfl) (mH___str__ w) (fn_m___str__ w) (cf_m___str__ w) ?_ (pf_str w room'.in1.in1 _ ok)
  have := room'.in1.in1.units
  show (A.deeper (callEnvC fd_m___bytes__ L 231)).in1.in1.units < 9900
  omega
noncomputable abbrev byE (L : Addr) : Env := callEnvC fd_m___bytes__ L 231
theorem bytes_raise (w : World) {A : Around} {n : Nat} (room : Room A (n + 6)) (ps : List (Str × Str)) (ok : TabOk ps) (hx : ∃ k ∈ (tabS ps).cps.toList, ¬ k < 256) (hsz : (tabS ps).cps.size ≤ 1000000) {W : Addr → Prop} {s : Shared} {ov : Value}
  (base : HasK (CL w).K s.heap) (tok : 0 < s.toks) (wo : ∀ a, W a → ∃ o, s.heap.get? a = some o) (ro : Rd W s.heap ov (tabD ps)) {l : List Env} {B : Heap} (st : Stk A l B s) {Q : Value → Shared → Prop} {E : Value → Shared → Prop} (h : ∀ e s', Fly B l "UnicodeEncodeError" s e s' → E e s') :
  wpAny (CL w).M A (call (.ref 231) [ov] []) Q E s := by
 refine enterX (W₀ := W) (Md := fun _ => False) (μ := []) (σ := [("self", tabD ps)]) room (fn_m___bytes__ w) base tok wo (fun a h => h.elim) (binds := [("self", _)]) (.of_eq rfl) (fun L x hx => ?_) (show [("self" : Str)].Nodup by decide +kernel) (.cons ro .nil) (fun a l h => nomatch h) (by simp) fun L W' s' fL K ok' F => ?_
 ·simp only [List.mem_cons, List.not_mem_nil, or_false] at hx
  subst hx; exact .inl (by kernel_rfl)
 ·have room' := room.deeper (byE L)
  refine wpAny_execs_cons (wpAny_Return_some (encode_bad room'.hh ?_ F.view (by rfl) (by rfl) hx hsz fun s1 h' e K1 u => ?_))
  ·refine Ev.strOwn (kls w) (Ev.glob ok' (by rfl) (.inr (mb_str w))) (Ev.name ok' (by rfl)) (by rfl) (mH___str__ w) (fn_m___str__ w) (cf_m___str__ w) ?_ (pf_str w room'.in1.in1 _ ok)
   have := room'.in1.in1.units
   show (A.deeper (byE L)).in1.in1.units < 9900
   omega
  ·have F1 := F.keeps K1
   exact leave_new (env := byE L) ((st.keeps F1.up.kt).deeper (env := byE L) F1.up.kt ok' rfl F1.ns fL st.stays) rfl u F1.up.kt fun s3 x3 => h _ _ x3
theorem sub_UB : isSubtype (.type "UnicodeEncodeError") (.type "BaseException") = pure true := by rw [isSubtype_type]; kernel_rfl
theorem sub_UU : isSubtype (.type "UnicodeEncodeError") (.type "UnicodeEncodeError") = pure true := by rw [isSubtype_type]; kernel_rfl
theorem sub_Ut : isSubtype (.type ((Manifest.find? "UnicodeEncodeError").elim "type" fun x => x.metatype)) (.type "tuple") = pure false := by rw [isSubtype_type]; kernel_rfl
noncomputable def octD (x : Str) : D := if x.cps.toList.all (fun k => decide (k < 256)) = true then .byt (octs x) else .val .none
theorem octD_ok {x : Str} (h : ∀ k ∈ x.cps.toList, k < 256) : octD x = .byt (octs x) := if_pos (List.all_eq_true.mpr fun k hk => decide_eq_true (h k hk))
theorem octD_bad {x : Str} (h : ∃ k ∈ x.cps.toList, ¬ k < 256) : octD x = .val .none := if_neg fun q => by
 obtain ⟨k, hk, hb⟩ := h
 exact hb (of_decide_eq_true (List.all_eq_true.mp q k hk))
theorem oct_cases (x : Str) : (∀ k ∈ x.cps.toList, k < 256) ∨ ∃ k ∈ x.cps.toList, ¬ k < 256 := by
 by_cases h : ∀ k ∈ x.cps.toList, k < 256
 ·exact .inl h
 ·refine .inr ?_
  apply Classical.byContradiction
  intro q
  exact h fun k hk => Classical.byContradiction fun z => q ⟨k, hk, z⟩
noncomputable abbrev loE (L : Addr) : Env := callEnvC fd__law_octets L 302
theorem law_octets (w : World) {A : Around} {n : Nat} (room : Room A (n + 9)) (ps : List (Str × Str)) (ok : TabOk ps) (hsz : (tabS ps).cps.size ≤ 1000000) {W : Addr → Prop} {s : Shared} {ov : Value}
  (base : HasK (CL w).K s.heap) (tok : 0 < s.toks) (wo : ∀ a, W a → ∃ o, s.heap.get? a = some o) (ro : Rd W s.heap ov (tabD ps)) {l : List Env} (rim : Rim (CL w) A l s) {E : Value → Shared → Prop} {Q : Value → Shared → Prop}
  (h : ∀ v s', KtS l s s' → Rd W s'.heap v (octD (tabS ps)) → Q v s') : wpAny (CL w).M A (call (.ref 302) [ov] []) Q E s := by
 refine enter (W₀ := W) (Md := fun _ => False) (μ := []) (σ := [("table", tabD ps)]) room (fn__law_octets w) base tok wo (fun a h => h.elim) (binds := [("table", _)]) (.of_eq rfl) (fun L x hx => ?_) (show [("table" : Str)].Nodup by decide +kernel) (.cons ro .nil) (fun a l h => nomatch h) (by simp) fun L W' s' E' fL K ok' F => ?_
 ·simp only [List.mem_cons, List.not_mem_nil, or_false] at hx
  subst hx; exact .inl (by kernel_rfl)
 ·have room' := room.deeper (loE L)
  rcases oct_cases (tabS ps) with hx | hx
  ·refine wpAny_execs_cons (wpAny_Try_except (wpAny_execs_cons (wpAny_Return_some (call_bytesOwn (kls w) (Ev.glob ok' (by rfl) (.inr (mb_bytes w))) (Ev.name ok' (by rfl)) (by rfl) (mH___bytes__ w) (fn_m___bytes__ w) (cf_m___bytes__ w) F.view fun t s1 K1 V1 r1 => ?_))))
   refine wpAny_mono (pf_bytes w room'.in1.in1 ps ok hx hsz _ s1 _ [.ref t] [] V1.base V1.tok V1.wold (.cons r1 .nil) .nil) (fun v s2 q => ?_) fun _ _ e => e
   obtain ⟨K2, r2⟩ := q
   rw [octD_ok hx] at h
   cases r2
   exact ⟨_, _, rfl, h _ _ (.of ((K.trans K1).trans K2)) (.byt _ _)⟩
  ·have st' : Stk (A.deeper (loE L)) (loE L :: l) (hideAll s.heap (l.filterMap (·.frame))) s' := (rim.stk.keeps K).deeper (env := loE L) K ok' rfl F.ns fL rim.stk.stays
   refine wpAny_execs_cons (wpAny_Try_except (wpAny_execs_cons (wpAny_Return_some (call_bytesOwn (kls w) (Ev.glob ok' (by rfl) (.inr (mb_bytes w))) (Ev.name ok' (by rfl)) (by rfl) (mH___bytes__ w) (fn_m___bytes__ w) (cf_m___bytes__ w) F.view fun t s1 K1 V1 r1 => ?_))))
   refine bytes_raise w (room'.in1.in1) ps ok hx hsz V1.base V1.tok V1.wold r1 (l := loE L :: l) (B := hideAll s.heap (l.filterMap (·.frame))) ⟨(st'.keeps K1).frames, (st'.keeps K1).stays, (st'.keeps K1).funs⟩ fun e s8 x8 => ?_
   have x9 := (x8.from K1).from K
   refine catch_fly (env := loE L) ok' (Around.frames_deeper rim.frames) rfl x9 (rim.base base) (Nat.lt_of_lt_of_le tok x9.tk) (by rfl) (mb_UnicodeEncodeError w) sub_UB sub_Ut sub_UU (by decide +kernel) (by decide +kernel) fun s10 E10 x10 => ?_
   refine wpAny_execs_cons (wpAny_Return_some (wpAny_Constant_none ?_))
   rw [octD_bad hx] at h
   exact h _ s10 (x10.ktS rim) (.val _)
noncomputable def ch (k : Nat) : Str := ⟨#[k]⟩
section
variable {c : Cx} {A : Around} {env : Env} {σ : List (Str × D)}
theorem ev_litN {kk : Nat} {p : Pos} (k : Nat) : Ev c A env σ (.Constant (.int ((k : Nat) : Int)) kk p) (.int ((k : Nat) : Int)) := Ev.int
theorem ev_addN {e f : Expr} {p : Pos} {a b : Nat} (he : Ev c A env σ e (.int (a : Nat))) (hf : Ev c A env σ f (.int (b : Nat))) : Ev c A env σ (.BinOp e .Add f p) (.int ((a + b : Nat) : Int)) := Ev.bin he hf (by rw [Int.natCast_add]; exact Bop.addI)
theorem fmodN (a m : Nat) : (a : Int).fmod (m : Int) = ((a % m : Nat) : Int) := by
 rw [Int.fmod_eq_emod_of_nonneg _ (Int.natCast_nonneg m)]; rfl
theorem fdivN (a m : Nat) : (a : Int).fdiv (m : Int) = ((a / m : Nat) : Int) := by
 rw [Int.fdiv_eq_ediv_of_nonneg _ (Int.natCast_nonneg m)]; rfl
theorem ev_modN {e f : Expr} {p : Pos} {a m : Nat} (he : Ev c A env σ e (.int (a : Nat))) (hf : Ev c A env σ f (.int (m : Nat))) (h : 0 < m) : Ev c A env σ (.BinOp e .Mod f p) (.int ((a % m : Nat) : Int)) := by
 rw [← fmodN]; exact Ev.bin he hf (Bop.modI (by omega))
theorem ev_divN {e f : Expr} {p : Pos} {a m : Nat} (he : Ev c A env σ e (.int (a : Nat))) (hf : Ev c A env σ f (.int (m : Nat))) (h : 0 < m) (hp : Builtin.divisionGoesByPylong (a : Int) (m : Int) = false) : Ev c A env σ (.BinOp e .FloorDiv f p) (.int ((a / m : Nat) : Int)) := by
 rw [← fdivN]; exact Ev.bin he hf (Bop.divI (by omega) hp)
theorem ev_chrN {x : Str} {np p : Pos} {e : Expr} {k : Nat} (hf : Ev c A env σ (.Name x np) (.val (.builtin "chr"))) (hs : starEach [e] env = [(false, eval e env)]) (he : Ev c A env σ e (.int (k : Nat))) (h1 : k ≤ 1114111) : Ev c A env σ (.Call (.Name x np) [e] [] p) (.str (ch k)) := by
 have := Ev.chr (p := p) hf hs he (Int.natCast_nonneg k) (by omega)
 rwa [Int.toNat_natCast] at this
end
noncomputable def styles : List Nat := [0, 1, 2, 4, 7, 8, 9, 10, 11, 12]
noncomputable def unseens : List Nat := [173, 847, 6150, 6155, 6156, 6157, 8203, 8204, 8205, 8288, 65279]
theorem pyl26 (a : Int) : Builtin.divisionGoesByPylong a ((26 : Nat) : Int) = false := by unfold Builtin.divisionGoesByPylong; exact Bool.and_eq_false_iff.mpr (.inl (by decide))
section
variable {c : Cx} {A : Around} {env : Env} {σ : List (Str × D)}
theorem ev_mul52 {e f : Expr} {p : Pos} {b : Nat} (he : Ev c A env σ e (.int ((52 : Nat) : Int))) (hf : Ev c A env σ f (.int (b : Nat))) : Ev c A env σ (.BinOp e .Mult f p) (.int ((52 * b : Nat) : Int)) :=
 Ev.bin he hf (fun W s E u v _ _ ru rv => by
  cases ru; cases rv
  rw [Int.natCast_mul]
  exact PyProof.Rows.mul_int ⟨.tok _, .int _ _⟩ (PySem.IntMulOk.of_left (by decide)))
theorem cmp_ltN {i j : Nat} : Cmp c A .Lt (.int (i : Nat)) (.int (j : Nat)) (decide (i < j)) := by
 have := Cmp.lt (c := c) (A := A) (i := (i : Int)) (j := (j : Int))
 have e : decide ((i : Int) < (j : Int)) = decide (i < j) := by by_cases h : i < j <;> simp [h]
 rwa [e] at this
theorem ev_ifN {t e f : Expr} {pos : Pos} {b : Bool} {x y : Nat} (ht : Tv c A env σ t b) (he : b = true → Ev c A env σ e (.int (x : Nat))) (hf : b = false → Ev c A env σ f (.int (y : Nat))) : Ev c A env σ (.IfExp t e f pos) (.int ((if b = true then x else y : Nat) : Int)) := by
 refine Ev.ifExp ht (fun h => ?_) (fun h => ?_)
 ·rw [if_pos h]; exact he h
 ·rw [if_neg (by rw [h]; decide)]; exact hf h
end
theorem getD_le {l : List Nat} {k b : Nat} (h : ∀ x ∈ l, x ≤ b) : l.getD k 0 ≤ b := by
 rw [List.getD_eq_getElem?_getD]
 cases e : l[k]? with
 | none => exact Nat.zero_le _
 | some x => exact h x (List.mem_of_getElem? e)
theorem pyl2 (a : Int) : Builtin.divisionGoesByPylong a ((2 : Nat) : Int) = false := by unfold Builtin.divisionGoesByPylong; exact Bool.and_eq_false_iff.mpr (.inl (by decide))
theorem pyl16 (a : Int) : Builtin.divisionGoesByPylong a ((16 : Nat) : Int) = false := by unfold Builtin.divisionGoesByPylong; exact Bool.and_eq_false_iff.mpr (.inl (by decide))
noncomputable def great (k : Nat) : Bool := (decide (65 ≤ k) && decide (k ≤ 90)) || ((decide (192 ≤ k) && decide (k ≤ 222)) && decide (k ≠ 215))
noncomputable def westS (k : Nat) : Str := if k = 223 then "ss" else if k = 181 then ch 956 else if k = 173 then "" else ch (if great k = true then k + 32 else k)
noncomputable abbrev weE (L : Addr) : Env := callEnvC fd__law_west L 264
theorem pf_west (w : World) {A : Around} {n : Nat} (room : Room A (n + 3)) (k : Nat) (hk : k ≤ 1000) : Pf (CL w) A 264 [.int (k : Nat)] [] (.str (westS k)) := by
 intro W s E vs kvs base tok wo rl br
 cases br
 cases rl with
 | cons r1 rl =>
 cases rl
 refine enter (W₀ := W) (Md := fun _ => False) (μ := []) (σ := [("code", .int (k : Nat))]) room (fn__law_west w) base tok wo (fun a h => h.elim) (binds := [("code", _)]) (.of_eq rfl) (fun L x hx => ?_) (by simp) (.cons r1 .nil) (fun a l h => nomatch h) (by simp) fun L W' s' E' _ _ ok F => ?_
 ·simp only [List.mem_singleton] at hx; subst hx; exact .inl (by kernel_rfl)
 ·have room' := room.deeper (weE L)
  have fin : ∀ {d : D} {s4 : Shared} {σ : List (Str × D)} {v : Value}, Fr (CL w) s W (fun _ => False) W' (weE L) σ [] s4 → Rd W' s4.heap v d → d = .str (westS k) → Kt s s4 ∧ Rd W s4.heap v (.str (westS k)) := fun F4 rr e => ⟨F4.up.kt, by rw [← e]; exact rr.less F4.w0⟩
  refine wpAny_execs_cons (st_ifEq room' F (k := k) (j := 223) (Ev.name ok (by rfl)) (by omega) (ev_litN 223) (by decide) (fun e s3 F3 => ?_) (fun e0 s3 F3 => wpAny_execs_nil ?_))
  ·exact wpAny_execs_cons (st_return F3 (d := .str "ss") Ev.str fun v s4 F4 rr => fin F4 rr (by unfold westS; rw [if_pos e]))
  refine wpAny_execs_cons (st_ifEq room' F3 (k := k) (j := 181) (Ev.name ok (by rfl)) (by omega) (ev_litN 181) (by decide) (fun e s4 F4 => ?_) (fun e1 s4 F4 => wpAny_execs_nil ?_))
  ·exact wpAny_execs_cons (st_return F4 (d := .str (ch 956)) (ev_chrN (Ev.glob ok (by rfl) (.inr (mb_chr w))) (by rfl) (ev_litN 956) (by decide)) fun v s5 F5 rr => fin F5 rr (by unfold westS; rw [if_neg e0, if_pos e]))
  refine wpAny_execs_cons (st_ifEq room' F4 (k := k) (j := 173) (Ev.name ok (by rfl)) (by omega) (ev_litN 173) (by decide) (fun e s5 F5 => ?_) (fun e2 s5 F5 => wpAny_execs_nil ?_))
  ·exact wpAny_execs_cons (st_return F5 (d := .str "") Ev.str fun v s6 F6 rr => fin F6 rr (by unfold westS; rw [if_neg e0, if_neg e1, if_pos e]))
  refine wpAny_execs_cons (st_assign ok F5 (d := .val (.bool (great k))) ?_ (.inl (by kernel_rfl)) fun s6 F6 => ?_)
  ·exact Ev.orB (Ev.chain2 (i := 65) (j := k) (k := 90) (ev_litN 65) (Ev.name ok (by rfl)) (ev_litN 90)) fun _ => Ev.andB (Ev.chain2 (i := 192) (j := k) (k := 222) (ev_litN 192) (Ev.name ok (by rfl)) (ev_litN 222)) fun _ => Ev.cmp (Ev.name ok (by rfl)) (ev_litN 215) Cmp.neN
  refine wpAny_execs_cons (st_return F6 (d := .str (ch (if great k = true then k + 32 else k))) (ev_chrN (Ev.glob ok (by rfl) (.inr (mb_chr w))) (by rfl) (ev_ifN (Tv.bool (Ev.name ok (by rfl))) (fun _ => ev_addN (Ev.name ok (by rfl)) (ev_litN 32)) (fun _ => Ev.name ok (by rfl))) (by split <;> omega)) fun v s7 F7 rr => fin F7 rr ?_)
  unfold westS; rw [if_neg e0, if_neg e1, if_neg e2]
noncomputable def lig7 : List Str := ["ff", "fi", "fl", "ffi", "ffl", "st", "st"]
noncomputable def lone : List Nat := [383, 8490, 8491]
noncomputable def lowl : List Str := ["s", "k", ch 229]
noncomputable def codeE (p : Nat) : Nat := if p < 95 then 32 + p else 33 + p
noncomputable def codeC (k r : Nat) : Nat := if k = 6 then 9 else if r % 33 < 32 then r % 33 else 127
noncomputable def oddOf (k r : Nat) : Str × Str :=
 if k = 0 then (ch (119808 + 52 * styles.getD (r / 26 % 10) 0 + r % 26), ch (97 + r % 26))
 else if k = 1 then (ch (if r % 27 < 11 then unseens.getD (r % 27) 0 else 65013 + r % 27), "")
 else if k = 2 then (ch 181, ch 956)
 else if k = 3 then (ch (1040 + r % 32), ch (1072 + r % 32))
 else if k = 4 then (ch (64256 + r % 7), lig7.getD (r % 7) "")
 else if k = 5 then (ch (lone.getD (r % 3) 0), lowl.getD (r % 3) "")
 else (ch (codeC k r), ch (codeC k r))
noncomputable def qB (n : Int) : Nat := (n.fmod 2).toNat
noncomputable def pB (n : Int) : Nat := ((n.fdiv 2).fmod 223).toNat
noncomputable def kB (n : Int) : Nat := ((n.fdiv 2).fmod 8).toNat
noncomputable def rB (n : Int) : Nat := ((n.fdiv 16).fmod 4096).toNat
noncomputable def signB (n : Int) : Str × Str := if qB n = 0 then (ch (codeE (pB n)), westS (codeE (pB n))) else oddOf (kB n) (rB n)
theorem toNat_mod (a : Int) (m : Int) (h : 0 < m) : a.fmod m = ((a.fmod m).toNat : Int) ∧ (a.fmod m).toNat < m.toNat := by
 have h1 := Int.fmod_nonneg_of_pos a h
 have h2 := Int.fmod_lt_of_pos a h
 omega
theorem qB_eq (n : Int) : n.fmod 2 = (qB n : Int) := (toNat_mod n 2 (by decide)).1
theorem pB_eq (n : Int) : (n.fdiv 2).fmod 223 = (pB n : Int) := (toNat_mod _ 223 (by decide)).1
theorem kB_eq (n : Int) : (n.fdiv 2).fmod 8 = (kB n : Int) := (toNat_mod _ 8 (by decide)).1
theorem rB_eq (n : Int) : (n.fdiv 16).fmod 4096 = (rB n : Int) := (toNat_mod _ 4096 (by decide)).1
theorem qB_lt (n : Int) : qB n < 2 := (toNat_mod n 2 (by decide)).2
theorem pB_lt (n : Int) : pB n < 223 := (toNat_mod _ 223 (by decide)).2
theorem kB_lt (n : Int) : kB n < 8 := (toNat_mod _ 8 (by decide)).2
theorem rB_lt (n : Int) : rB n < 4096 := (toNat_mod _ 4096 (by decide)).2
noncomputable abbrev sgE (L : Addr) : Env := callEnvC fd__law_sign L 271
theorem pf_sign (w : World) {A : Around} {n : Nat} (room : Room A (n + 5)) (num : Int) : Pf (CL w) A 271 [.int num] [] (strP (signB num)) := by
 intro W s E vs kvs base tok wo rl br
 cases br
 cases rl with
 | cons r1 rl =>
 cases rl
 refine enter (W₀ := W) (Md := fun _ => False) (μ := []) (σ := [("number", .int num)]) room (fn__law_sign w) base tok wo (fun a h => h.elim) (binds := [("number", _)]) (.of_eq rfl) (fun L x hx => ?_) (by simp) (.cons r1 .nil) (fun a l h => nomatch h) (by simp) fun L W' s' E' _ _ ok F => ?_
 ·simp only [List.mem_singleton] at hx; subst hx; exact .inl (by kernel_rfl)
 ·have room' := room.deeper (sgE L)
  have hq := qB_lt num
  have hp := pB_lt num
  have hk := kB_lt num
  have hr := rB_lt num
  have chr : ∀ {σ : List (Str × D)} {np p : Pos} {e : Expr} {m : Nat}, Ev (CL w) (A.deeper (sgE L)) (sgE L) σ e (.int (m : Nat)) → m ≤ 1114111 → starEach [e] (sgE L) = [(false, eval e (sgE L))] → Ev (CL w) (A.deeper (sgE L)) (sgE L) σ (.Call (.Name "chr" np) [e] [] p) (.str (ch m)) := fun he hm hs => ev_chrN (Ev.glob ok (by rfl) (.inr (mb_chr w))) hs he hm
  have fin : ∀ {d : D} {s4 : Shared} {σ : List (Str × D)} {v : Value}, Fr (CL w) s W (fun _ => False) W' (sgE L) σ [] s4 → Rd W' s4.heap v d → d = strP (signB num) → Kt s s4 ∧ Rd W s4.heap v (strP (signB num)) := fun F4 rr e => ⟨F4.up.kt, by rw [← e]; exact rr.less F4.w0⟩
  refine wpAny_execs_cons (st_ifEq room' F (k := qB num) (j := 0) (Ev.cast (Ev.bin (Ev.name ok (by rfl)) Ev.int (Bop.modI (by decide))) (congrArg D.int (qB_eq num))) (by omega) (ev_litN 0) (by decide) (fun e s3 F3 => ?_) (fun eq s1 F1 => wpAny_execs_nil ?_))
  ·refine wpAny_execs_cons (st_assign ok F3 (d := .int (pB num : Nat)) (Ev.cast (Ev.bin (Ev.bin (Ev.name ok (by rfl)) Ev.int (Bop.divI (by decide) (pyl2 _))) Ev.int (Bop.modI (by decide))) (congrArg D.int (pB_eq num))) (.inl (by kernel_rfl)) fun s4 F4 => ?_)
   refine wpAny_execs_cons (st_assign ok F4 (d := .int (codeE (pB num) : Nat)) ?_ (.inl (by kernel_rfl)) fun s5 F5 => ?_)
   ·refine Ev.cast (ev_ifN (Tv.cmp (Ev.name ok (by rfl)) (ev_litN 95) cmp_ltN) (fun _ => ev_addN (ev_litN 32) (Ev.name ok (by rfl))) (fun _ => ev_addN (ev_litN 33) (Ev.name ok (by rfl)))) ?_
    unfold codeE; simp only [decide_eq_true_eq]
   have hc : codeE (pB num) ≤ 255 := by unfold codeE; split <;> omega
   refine wpAny_execs_cons (st_return F5 (d := .tup [.str (ch (codeE (pB num))), .str (westS (codeE (pB num)))]) ?_ fun v s6 F6 rr => fin F6 rr ?_)
   ·exact Ev.tuple (EvL.c (chr (Ev.name ok (by rfl)) (by omega) (by rfl)) (EvL.c (Ev.call (Ev.glob ok (by rfl) (.inl (mg__law_west w))) (fn__law_west w) (EvA.plain (EvL.c (Ev.name ok (by rfl)) EvL.nil)) (pf_west w room' _ (by omega))) EvL.nil)) (by show 2 ≤ 1000000; decide)
   ·unfold signB strP; rw [if_pos e]
  have hs : signB num = oddOf (kB num) (rB num) := by unfold signB; rw [if_neg eq]
  rw [hs] at fin ⊢
  refine wpAny_execs_cons (st_pairSwapped room'.hh ok F1 (d := .int (kB num : Nat)) (e := .int (rB num : Nat)) ?_ (.inl (by kernel_rfl)) (.inl (by kernel_rfl)) fun s2 F2 => ?_)
  ·refine Ev.tuple (EvL.c ?_ (EvL.c ?_ EvL.nil)) (by show 2 ≤ 1000000; decide)
   ·exact Ev.cast (Ev.bin (Ev.bin (Ev.name ok (by rfl)) Ev.int (Bop.divI (by decide) (pyl2 _))) Ev.int (Bop.modI (by decide))) (congrArg D.int (kB_eq num))
   ·exact Ev.cast (Ev.bin (Ev.bin (Ev.name ok (by rfl)) Ev.int (Bop.divI (by decide) (pyl16 _))) Ev.int (Bop.modI (by decide))) (congrArg D.int (rB_eq num))
  clear hs eq hq hp
  generalize kB num = k at hk F2 fin ⊢
  generalize rB num = r at hr F2 fin ⊢
  refine wpAny_execs_cons (st_ifEq room' F2 (k := k) (j := 0) (Ev.name ok (by rfl)) (by omega) (ev_litN 0) (by decide) (fun e s5 F5 => ?_) (fun e0 s5 F5 => wpAny_execs_nil ?_))
  ·have hst : styles.getD (r / 26 % 10) 0 ≤ 12 := getD_le (by decide)
   refine wpAny_execs_cons ?_
   refine st_assign ok F5 (d := .int (styles.getD (r / 26 % 10) 0 : Nat)) ?_ ?_ ?_ ?_
   case refine_2 => exact .inl (by kernel_rfl)
   case refine_4 => rfl
   rotate_left
   intro s6 F6
   rotate_left
   ·refine ev_pickT (xs := styles) (f := fun (x : Nat) => D.int (x : Int)) (k := r / 26 % 10) (d := 0) ?_ ?_ (Nat.mod_lt _ (by decide)) (by decide)
    ·refine Ev.tuple ?_ ?_
     rotate_left
     ·rw [List.length_map]; decide
     show EvL _ _ _ _ _ [.int 0, .int 1, .int 2, .int 4, .int 7, .int 8, .int 9, .int 10, .int 11, .int 12]
     iterate 10 (refine EvL.c ?_ ?_; · exact Ev.int)
     exact EvL.nil
    ·exact ev_modN (ev_divN (a := r) (Ev.name ok (by rfl)) (ev_litN 26) (by decide) (pyl26 _)) (ev_litN 10) (by decide)
   ·refine wpAny_execs_cons (st_return F6 (d := .tup [.str (ch (119808 + 52 * styles.getD (r / 26 % 10) 0 + r % 26)), .str (ch (97 + r % 26))]) ?_ fun v s4 F4 rr => fin F4 rr ?_)
    ·exact Ev.tuple (EvL.c (chr (ev_addN (ev_addN (ev_litN 119808) (ev_mul52 (ev_litN 52) (Ev.name ok (by rfl)))) (ev_modN (a := r) (Ev.name ok (by rfl)) (ev_litN 26) (by decide))) (by omega) (by rfl)) (EvL.c (chr (ev_addN (ev_litN 97) (ev_modN (a := r) (Ev.name ok (by rfl)) (ev_litN 26) (by decide))) (by omega) (by rfl)) EvL.nil)) (by show 2 ≤ 1000000; decide)
    ·unfold oddOf strP; rw [if_pos e]
  refine wpAny_execs_cons (st_ifEq room' F5 (k := k) (j := 1) (Ev.name ok (by rfl)) (by omega) (ev_litN 1) (by decide) (fun e s6 F6 => ?_) (fun e1 s6 F6 => wpAny_execs_nil ?_))
  ·refine wpAny_execs_cons ?_
   refine st_assign ok F6 (d := .int ((r % 27 : Nat) : Int)) ?_ ?_ ?_ ?_
   case refine_2 => exact .inl (by kernel_rfl)
   case refine_4 => rfl
   rotate_left
   intro s7 F7
   rotate_left
   ·exact ev_modN (a := r) (Ev.name ok (by rfl)) (ev_litN 27) (by decide)
   refine wpAny_execs_cons ?_
   refine st_assign ok F7 (d := .tup (unseens.map fun (x : Nat) => D.int (x : Int))) ?_ ?_ ?_ ?_
   case refine_2 => exact .inl (by kernel_rfl)
   case refine_4 => rfl
   rotate_left
   intro s8 F8
   rotate_left
   ·refine Ev.tuple ?_ ?_
    rotate_left
    ·rw [List.length_map]; decide
    show EvL _ _ _ _ _ [.int 173, .int 847, .int 6150, .int 6155, .int 6156, .int 6157, .int 8203, .int 8204, .int 8205, .int 8288, .int 65279]
    iterate 11 (refine EvL.c ?_ ?_; · exact Ev.int)
    exact EvL.nil
   ·have hun : unseens.getD (r % 27) 0 ≤ 65279 := getD_le (by decide)
    have h27 : r % 27 < 27 := Nat.mod_lt _ (by decide)
    refine wpAny_execs_cons (st_return F8 (d := .tup [.str (ch (if decide (r % 27 < 11) = true then unseens.getD (r % 27) 0 else 65013 + r % 27)), .str ""]) ?_ fun v s4 F4 rr => fin F4 rr ?_)
    ·refine Ev.tuple ?_ (by show 2 ≤ 1000000; decide)
     refine EvL.c (chr (ev_ifN (Tv.cmp (Ev.name ok (by rfl)) (ev_litN 11) cmp_ltN) (fun h => ?_) (fun h => ev_addN (ev_litN 65013) (Ev.name ok (by rfl)))) (by split <;> omega) (by rfl)) (EvL.c Ev.str EvL.nil)
     exact ev_pickT (xs := unseens) (f := fun (x : Nat) => D.int (x : Int)) (k := r % 27) (d := 0) (Ev.name ok (by rfl)) (Ev.name ok (by rfl)) (of_decide_eq_true h) (by decide)
    ·unfold oddOf strP; rw [if_neg e0, if_pos e]; simp only [decide_eq_true_eq]
  refine wpAny_execs_cons (st_ifEq room' F6 (k := k) (j := 2) (Ev.name ok (by rfl)) (by omega) (ev_litN 2) (by decide) (fun e s7 F7 => ?_) (fun e2 s7 F7 => wpAny_execs_nil ?_))
  ·refine wpAny_execs_cons (st_return F7 (d := .tup [.str (ch 181), .str (ch 956)]) (Ev.tuple (EvL.c (chr (ev_litN 181) (by decide) (by rfl)) (EvL.c (chr (ev_litN 956) (by decide) (by rfl)) EvL.nil)) (by show 2 ≤ 1000000; decide)) fun v s4 F4 rr => fin F4 rr ?_)
   unfold oddOf strP; rw [if_neg e0, if_neg e1, if_pos e]
  refine wpAny_execs_cons (st_ifEq room' F7 (k := k) (j := 3) (Ev.name ok (by rfl)) (by omega) (ev_litN 3) (by decide) (fun e s8 F8 => ?_) (fun e3 s8 F8 => wpAny_execs_nil ?_))
  ·refine wpAny_execs_cons (st_return F8 (d := .tup [.str (ch (1040 + r % 32)), .str (ch (1072 + r % 32))]) ?_ fun v s4 F4 rr => fin F4 rr ?_)
   ·exact Ev.tuple (EvL.c (chr (ev_addN (ev_litN 1040) (ev_modN (a := r) (Ev.name ok (by rfl)) (ev_litN 32) (by decide))) (by omega) (by rfl)) (EvL.c (chr (ev_addN (ev_litN 1072) (ev_modN (a := r) (Ev.name ok (by rfl)) (ev_litN 32) (by decide))) (by omega) (by rfl)) EvL.nil)) (by show 2 ≤ 1000000; decide)
   ·unfold oddOf strP; rw [if_neg e0, if_neg e1, if_neg e2, if_pos e]
  refine wpAny_execs_cons (st_ifEq room' F8 (k := k) (j := 4) (Ev.name ok (by rfl)) (by omega) (ev_litN 4) (by decide) (fun e s9 F9 => ?_) (fun e4 s9 F9 => wpAny_execs_nil ?_))
  ·refine wpAny_execs_cons (st_return F9 (d := .tup [.str (ch (64256 + r % 7)), .str (lig7.getD (r % 7) "")]) ?_ fun v s4 F4 rr => fin F4 rr ?_)
   ·refine Ev.tuple (EvL.c (chr (ev_addN (ev_litN 64256) (ev_modN (a := r) (Ev.name ok (by rfl)) (ev_litN 7) (by decide))) (by omega) (by rfl)) (EvL.c ?_ EvL.nil)) (by show 2 ≤ 1000000; decide)
    refine ev_pickT (xs := lig7) (f := D.str) (k := r % 7) (d := "") ?_ (ev_modN (a := r) (Ev.name ok (by rfl)) (ev_litN 7) (by decide)) (Nat.mod_lt _ (by decide)) (by decide)
    refine Ev.tuple ?_ ?_
    rotate_left
    ·rw [List.length_map]; decide
    show EvL _ _ _ _ _ [.str "ff", .str "fi", .str "fl", .str "ffi", .str "ffl", .str "st", .str "st"]
    iterate 7 (refine EvL.c ?_ ?_; · exact Ev.str)
    exact EvL.nil
   ·unfold oddOf strP; rw [if_neg e0, if_neg e1, if_neg e2, if_neg e3, if_pos e]
  refine wpAny_execs_cons (st_ifEq room' F9 (k := k) (j := 5) (Ev.name ok (by rfl)) (by omega) (ev_litN 5) (by decide) (fun e s10 F10 => ?_) (fun e5 s10 F10 => wpAny_execs_nil ?_))
  ·have hl : lone.getD (r % 3) 0 ≤ 8491 := getD_le (by decide)
   refine wpAny_execs_cons (st_return F10 (d := .tup [.str (ch (lone.getD (r % 3) 0)), .str (lowl.getD (r % 3) "")]) ?_ fun v s4 F4 rr => fin F4 rr ?_)
   ·refine Ev.tuple (EvL.c (chr (m := lone.getD (r % 3) 0) ?_ (by omega) (by rfl)) (EvL.c ?_ EvL.nil)) (by show 2 ≤ 1000000; decide)
    ·refine ev_pickT (xs := lone) (f := fun (x : Nat) => D.int (x : Int)) (k := r % 3) (d := 0) ?_ (ev_modN (a := r) (Ev.name ok (by rfl)) (ev_litN 3) (by decide)) (Nat.mod_lt _ (by decide)) (by decide)
     refine Ev.tuple ?_ ?_
     rotate_left
     ·rw [List.length_map]; decide
     show EvL _ _ _ _ _ [.int 383, .int 8490, .int 8491]
     iterate 3 (refine EvL.c ?_ ?_; · exact Ev.int)
     exact EvL.nil
    ·refine ev_pickT (xs := lowl) (f := D.str) (k := r % 3) (d := "") ?_ (ev_modN (a := r) (Ev.name ok (by rfl)) (ev_litN 3) (by decide)) (Nat.mod_lt _ (by decide)) (by show 3 ≤ 1000000; decide)
     refine Ev.tuple ?_ (by show 3 ≤ 1000000; decide)
     show EvL _ _ _ _ _ [.str "s", .str "k", .str (ch 229)]
     exact EvL.c Ev.str (EvL.c Ev.str (EvL.c (chr (ev_litN 229) (by decide) (by rfl)) EvL.nil))
   ·unfold oddOf strP; rw [if_neg e0, if_neg e1, if_neg e2, if_neg e3, if_neg e4, if_pos e]
  refine wpAny_execs_cons ?_
  refine st_assign ok F10 (d := .int (codeC k r : Nat)) ?_ ?_ ?_ ?_
  case refine_2 => exact .inl (by kernel_rfl)
  case refine_4 => rfl
  rotate_left
  intro s11 F11
  rotate_left
  ·refine Ev.cast (ev_ifN (Tv.cmp (Ev.name ok (by rfl)) (ev_litN 6) (cmp_eqI room' (by omega) (by omega))) (fun _ => ev_litN 9) (fun _ => ev_ifN (Tv.cmp (ev_modN (a := r) (Ev.name ok (by rfl)) (ev_litN 33) (by decide)) (ev_litN 32) cmp_ltN) (fun _ => ev_modN (a := r) (Ev.name ok (by rfl)) (ev_litN 33) (by decide)) (fun _ => ev_litN 127))) ?_
   unfold codeC
   have : (k : Int) = ((6 : Nat) : Int) ↔ k = 6 := by omega
   simp only [decide_eq_true_eq, this]
  have hc : codeC k r ≤ 127 := by
   unfold codeC
   split
   ·decide
   ·split <;> omega
  refine wpAny_execs_cons (st_return F11 (d := .tup [.str (ch (codeC k r)), .str (ch (codeC k r))]) (Ev.tuple (EvL.c (chr (Ev.name ok (by rfl)) (by omega) (by rfl)) (EvL.c (chr (Ev.name ok (by rfl)) (by omega) (by rfl)) EvL.nil)) (by show 2 ≤ 1000000; decide)) fun v s12 F12 rr => fin F12 rr ?_)
  unfold oddOf strP; rw [if_neg e0, if_neg e1, if_neg e2, if_neg e3, if_neg e4, if_neg e5]
noncomputable abbrev SP := Str × Str
noncomputable abbrev Tx := Addr × List SP
noncomputable def refsT (ts : List Tx) : List D := ts.map fun x => .val (.ref x.1)
noncomputable def ownT (x : Tx) : Addr × Own := (x.1, .l (x.2.map strP))
noncomputable def muT (R : Addr) (ts : List Tx) : List (Addr × Own) := (R, .l (refsT ts)) :: ts.map ownT
noncomputable def lstT (l : List SP) : D := .lst (l.map strP)
noncomputable def stepT (acc : List (List SP) × List SP) (n : Int) : List (List SP) × List SP := if n < 0 then (acc.1 ++ [acc.2], []) else (acc.1, acc.2 ++ [signB n])
noncomputable def foldT (script : List Int) : List (List SP) × List SP := script.foldl stepT ([], [])
noncomputable def readT (script : List Int) : List (List SP) := (foldT (script.take 16)).1 ++ [(foldT (script.take 16)).2]
noncomputable def evenT (l : List (List SP)) : List (List SP) := if l.length % 2 = 1 then l ++ [[]] else l
noncomputable def pairsT (l : List (List SP)) : List (List SP × List SP) := (skip2 l).zip (skip2 (l.drop 1))
noncomputable def pairD (p : List SP × List SP) : D := .tup [lstT p.1, lstT p.2]
noncomputable def pairsB (script : List Int) : List (List SP × List SP) := pairsT (evenT (readT script))
theorem mem_T (R : Addr) (ts : List Tx) : (R, Own.l (refsT ts)) ∈ muT R ts := List.mem_cons_self ..
theorem refsT_app (a : List Tx) (x : Tx) : refsT (a ++ [x]) = refsT a ++ [.val (.ref x.1)] := by unfold refsT; rw [List.map_append]; rfl
theorem muT_new (R : Addr) (ts : List Tx) (x : Tx) : (ownT x :: (R, Own.l (refsT ts ++ [.val (.ref x.1)])) :: ts.map ownT).Perm (muT R (ts ++ [x])) := by
 unfold muT
 rw [refsT_app, List.map_append]
 refine List.Perm.trans (List.Perm.swap _ _ _) (List.Perm.cons _ ?_)
 exact (List.perm_append_comm (l₁ := [ownT x]) (l₂ := ts.map ownT))
theorem muT_last (R : Addr) (init : List Tx) (x : Tx) : (muT R (init ++ [x])).Perm (ownT x :: (R, Own.l (refsT init ++ [.val (.ref x.1)])) :: init.map ownT) := (muT_new R init x).symm
theorem res_refs {c : Cx} {R : Addr} {ts : List Tx} {μ : List (Addr × Own)} (hμ : ∀ p, p ∈ muT R ts → p ∈ μ) : Res c μ (.val (.ref R)) (.lst (refsT ts)) := .lst (hμ _ (mem_T R _)) (ResL.same _)
theorem res_txs {c : Cx} {R : Addr} {ts : List Tx} : Res c (muT R ts) (.val (.ref R)) (.lst ((ts.map (·.2)).map lstT)) := by
 refine .lst (mem_T R ts) ?_
 have : ∀ l : List Tx, (∀ x ∈ l, x ∈ ts) → ResL c (muT R ts) (refsT l) ((l.map (·.2)).map lstT) := fun l => by
  induction l with
  | nil => intro _; exact .nil
  | cons x l ih => exact fun h => .cons (.lst (List.mem_cons_of_mem _ (List.mem_map_of_mem (f := ownT) (h x (List.mem_cons_self ..)))) (ResL.same _)) (ih fun y hy => h y (List.mem_cons_of_mem _ hy))
 exact this ts fun x h => h
theorem stepT_len (acc : List (List SP) × List SP) (n : Int) : (stepT acc n).1.length ≤ acc.1.length + 1 ∧ (stepT acc n).2.length ≤ acc.2.length + 1 := by
 unfold stepT
 split <;> simp
theorem foldT_len : ∀ (l : List Int) (acc : List (List SP) × List SP), (l.foldl stepT acc).1.length ≤ acc.1.length + l.length ∧ (l.foldl stepT acc).2.length ≤ acc.2.length + l.length
 | [], acc => by simp
 | n :: l, acc => by
  rw [List.foldl_cons]
  have h1 := foldT_len l (stepT acc n)
  have h2 := stepT_len acc n
  rw [List.length_cons]; omega
noncomputable abbrev paE (L : Addr) : Env := callEnvC fd__law_pairs L 278
noncomputable def paS (R : Addr) (script : List Int) : List (Str × D) := [("texts", .val (.ref R)), ("script", .lst (script.map .int))]
section
variable {w : World} {A : Around} {n : Nat} {L R : Addr} {script : List Int} {num : Int} {s₁ s₂ : Shared} {W₁ W₂ Md₁ : Addr → Prop} {E : Value → Shared → Prop} {Q : Flow → Shared → Prop} {ts init : List Tx} {last : Tx} {σ : List (Str × D)}
theorem pairs_new {p1 p2 p3 p4 p5 : Pos} (ok : EnvOk (paE L)) (hl : ts.length ≤ 1000) (hσ : σ.lookup ("texts" : Str) = some (.val (.ref R))) (F : Fr (CL w) s₁ W₁ Md₁ W₂ (paE L) σ (muT R ts) s₂)
  (h : ∀ s' W' (x : Addr), Fr (CL w) s₁ W₁ Md₁ W' (paE L) σ (muT R (ts ++ [(x, [])])) s' → Q .next s') (hline : (p2.endLine == p4.line) = true) : wpAny (CL w).M A (exec (.Expr (.Call (.Attribute (.Name "texts" p1) "append" p2) [.List [] p3] [] p4) p5) (paE L)) Q E s₂ := by
 have hrl : (refsT ts).length ≤ 1000000 := by unfold refsT; rw [List.length_map]; omega
 refine st_appendN (a := R) (l₀ := refsT ts) F (Ev.isRef F (Ev.name ok hσ)) (mem_T R _) (fun s6 E6 F6 => ?_) rfl (by rfl) hline
 refine ev_ownlist (ds := []) F6 EvL.nil (by decide) fun t s7 _ F7 => ?_
 exact ⟨_, [(t, .l [])], ts.map ownT, refsT ts, .val (.ref t), F7, .val _, hrl, fun s8 F8 => h s8 _ t (F8.perm (muT_new R ts (t, [])))⟩
end
theorem pairsOf_map {α : Type} (f : α → D) (a b : List α) : pairsOf (a.map f) (b.map f) = (a.zip b).map fun p => .tup [f p.1, f p.2] := by
 unfold pairsOf
 rw [List.zip_map, List.map_map]; rfl
theorem pf_pairs (w : World) {A : Around} {n : Nat} (room : Room A (n + 6)) (script : List Int) (hsc : script.length ≤ 1000) : Pf (CL w) A 278 [.lst (script.map .int)] [] (.lst ((pairsB script).map pairD)) := by
 intro W s E vs kvs base tok wo rl br
 cases br
 cases rl with
 | cons r1 rl =>
 cases rl
 refine enter (W₀ := W) (Md := fun _ => False) (μ := []) (σ := [("script", .lst (script.map .int))]) room (fn__law_pairs w) base tok wo (fun a h => h.elim) (binds := [("script", _)]) (.of_eq rfl) (fun L x hx => ?_) (by simp) (.cons r1 .nil) (fun a l h => nomatch h) (by simp) fun L W' s' E' _ _ ok F => ?_
 ·simp only [List.mem_singleton] at hx; subst hx; exact .inl (by kernel_rfl)
 ·have room' := room.deeper (paE L)
  refine wpAny_execs_cons (st_assignN ok (.inl (by kernel_rfl)) (List_ (Calls.spliced_cons (ev_ownlist (ds := []) F EvL.nil (by decide) fun a s1 _ F1 => Calls.spliced_nil (new_own F1 (ds := [.val (.ref a)]) (.cons (.val _) .nil) (by show 1 ≤ 1000000; decide) fun R s2 _ F2 => ⟨_, _, .val (.ref R), F2, .val _, fun s3 F3 => ?_⟩)))))
  have hlen : ((script.take 16).map D.int).length ≤ 16 := by rw [List.length_map, List.length_take]; omega
  refine wpAny_execs_cons (st_forI (l := (script.take 16).map D.int) room'.hh ok F3 (ev_sliceTo (Ev.name ok (by rfl)) (ev_litN 16) (by omega)) (Itr.lst room'.hh)
   (fun i σ μ => ∃ (init : List Tx) (last : Tx), σ = paS R script ∧ μ = muT R (init ++ [last]) ∧ (init.map (·.2), last.2) = foldT ((script.take 16).take i)) ⟨[], (a, []), rfl, rfl, rfl⟩ (fun _ _ _ _ => False)
   (fun i d σ₁ μ₁ hd hinv => ?_) (fun i σ₂ μ₂ d v s' W' _ hf => hf.elim) (fun σ₂ μ₂ s4 W4 hinv F4 => ?_))
  ·obtain ⟨init, last, rfl, rfl, hab⟩ := hinv
   rw [List.getElem?_map] at hd
   obtain ⟨num, hnum, rfl⟩ := Option.map_eq_some_iff.mp hd
   have hi : i < (script.take 16).length := (List.getElem?_eq_some_iff.mp hnum).1
   have hi20 : i < 16 := by rw [List.length_take] at hi; omega
   have f1 : (foldT ((script.take 16).take i)).1.length ≤ _ := (foldT_len ((script.take 16).take i) ([], [])).1
   have f2 : (foldT ((script.take 16).take i)).2.length ≤ _ := (foldT_len ((script.take 16).take i) ([], [])).2
   have e1 : init.length = (foldT ((script.take 16).take i)).1.length := by rw [← hab, List.length_map]
   have e2 : last.2.length = (foldT ((script.take 16).take i)).2.length := by rw [← hab]
   simp only [List.length_nil, List.length_take] at f1 f2
   have hl : (init ++ [last]).length ≤ 1000 := by
    rw [List.length_append, e1, List.length_singleton]; omega
   have hth : last.2.length ≤ 1000 := by
    omega
   have nxt : foldT ((script.take 16).take (i + 1)) = stepT (init.map (·.2), last.2) num := by
    unfold foldT
    rw [take_one hnum, List.foldl_append]
    show stepT (foldT _) num = _
    rw [← hab]
   refine ⟨_, .name (.inl (by kernel_rfl)), fun sa sb Wa Wb Ma E' Fa => ?_⟩
   by_cases hneg : num < 0
   ·refine wpAny_execs_cons (st_if Fa (b := true) ?_ (fun _ s5 F5 => ?_) (fun h => by cases h))
    ·exact Tv.cast (Tv.cmp (Ev.name ok (by rfl)) Ev.int Cmp.lt) (decide_eq_true hneg)
    ·refine wpAny_execs_cons (pairs_new ok hl (by rfl) F5 (fun s6 W6 x F6 => wpAny_execs_nil (wpAny_execs_nil ⟨_, _, W6, ⟨init ++ [last], (x, []), rfl, rfl, ?_⟩, Fr.cut [("number", .int num)] F6 (fun q hq => ?_)⟩)) (by rfl))
     ·rw [nxt]; unfold stepT; rw [if_pos hneg, List.map_append]; rfl
     ·simp only [List.mem_cons, List.not_mem_nil, or_false] at hq
      subst hq; rfl
   ·refine wpAny_execs_cons (st_if Fa (b := false) ?_ (fun h => by cases h) (fun _ s5 F5 => ?_))
    ·exact Tv.cast (Tv.cmp (Ev.name ok (by rfl)) Ev.int Cmp.lt) (decide_eq_false hneg)
    ·have hri : (refsT init).length ≤ 1000000 := by unfold refsT; rw [List.length_map]; rw [List.length_append] at hl; omega
     have hm : (last.1, Own.l (last.2.map strP)) ∈ muT R (init ++ [last]) := List.mem_cons_of_mem _ (List.mem_map_of_mem (f := ownT) (List.mem_append_right _ (List.mem_cons_self ..)))
     refine wpAny_execs_cons (st_appendN (a := last.1) (l₀ := last.2.map strP) F5 (F5.lookRef (σ' := [("number", .int num), ("texts", .lst (refsT (init ++ [last]))), ("script", .lst (script.map .int))]) (.cons (.same _) (.cons (res_refs fun p hp => hp) (.cons (.same _) .nil))) ?_) hm (fun s6 E6 F6 => ?_) rfl (by rfl) (by rfl))
     ·rw [refsT_app]
      exact ev_lastL (Ev.name ok (by rfl)) (ev_negI Ev.int) hri
     ·refine Ev.use (Ev.call (Ev.glob ok (by rfl) (.inl (mg__law_sign w))) (fn__law_sign w) (EvA.plain (EvL.c (Ev.name ok (by rfl)) EvL.nil)) (pf_sign w room' num)) F6.view fun v s7 K7 V7 r7 => ?_
      have F7 := (F6.keeps K7).perm (muT_last R init last)
      refine ⟨_, [], (R, .l (refsT init ++ [.val (.ref last.1)])) :: init.map ownT, last.2.map strP, strP (signB num), F7, r7, by rw [List.length_map]; omega, fun s8 F8 => wpAny_execs_nil (wpAny_execs_nil ⟨_, _, _, ⟨init, (last.1, last.2 ++ [signB num]), rfl, rfl, ?_⟩, Fr.cut [("number", .int num)] (F8.perm ?_) (fun q hq => ?_)⟩)⟩
      ·rw [nxt]; unfold stepT; rw [if_neg hneg]
      ·refine List.Perm.trans ?_ (muT_new R init (last.1, last.2 ++ [signB num]))
       show ((last.1, Own.l (last.2.map strP ++ [strP (signB num)])) :: _).Perm ((last.1, Own.l ((last.2 ++ [signB num]).map strP)) :: _)
       rw [List.map_append]
       exact List.Perm.refl _
      ·simp only [List.mem_cons, List.not_mem_nil, or_false] at hq
       subst hq; rfl
  ·obtain ⟨init, last, rfl, rfl, hab⟩ := hinv
   rw [List.length_map, List.take_length] at hab
   have ea : readT script = (init ++ [last]).map (·.2) := by
    unfold readT
    rw [← hab, List.map_append]; rfl
   have f1 : (foldT (script.take 16)).1.length ≤ _ := (foldT_len (script.take 16) ([], [])).1
   have e1 : init.length = (foldT (script.take 16)).1.length := by rw [← hab, List.length_map]
   simp only [List.length_nil, List.length_take] at f1
   have hl : (init ++ [last]).length ≤ 1000 := by
    rw [List.length_append, e1, List.length_singleton]; omega
   generalize init ++ [last] = ts at ea hl F4
   have fin : ∀ (ts : List Tx) (s5 : Shared) (W5 : Addr → Prop) (E5 : Value → Shared → Prop), ts.length ≤ 2000 → ts.map (·.2) = evenT (readT script) → Fr (CL w) s W (fun _ => False) W5 (paE L) (paS R script) (muT R ts) s5 →
     wpAny (CL w).M (A.deeper (paE L)) (execs ((sBody (stAt 17)).drop 3) (paE L)) (fun f s'' => Kt s s'' ∧ Rd W s''.heap (match f with | .ret v => v | _ => .none) (.lst ((pairsB script).map pairD))) E5 s5 := fun ts s5 W5 E5 hl ha F5 => by
    have F6 := F5.freezeAll (fun a o h => ((F5.own a o h).2.1).elim False.elim id) (σ' := [("texts", .lst ((ts.map (·.2)).map lstT)), ("script", .lst (script.map .int))]) (.cons res_txs (.cons (.same _) .nil))
    have hev : ts.length % 2 = 0 := by
     have := congrArg List.length ha
     rw [List.length_map] at this
     rw [this]
     unfold evenT
     split
     ·rename_i q; rw [List.length_append]; show (_ + 1) % 2 = 0; omega
     ·omega
    have d0 : ((ts.map (·.2)).map lstT).length = ts.length := by rw [List.length_map, List.length_map]
    refine wpAny_execs_cons (st_return F6 (d := .lst ((pairsB script).map pairD)) (Ev.cast (Ev.listZip room'.hh (Ev.glob ok (by rfl) (.inr (mb_list w))) (Ev.glob ok (by rfl) (.inr (mb_zip w))) (by rfl) (by rfl) (Ev.slice2 (a := 0) (Ev.name ok (by rfl)) Ev.int Ev.int (Nat.zero_le _) (by rw [d0]; omega)) (Ev.slice2 (a := 1) (Ev.name ok (by rfl)) Ev.int Ev.int ?_ (by rw [d0]; omega)) ?_ ?_) ?_) fun v s7 F7 r => ⟨F7.up.kt, r.less F7.w0⟩)
    ·rw [d0]
     have := congrArg List.length ha
     rw [List.length_map] at this
     have h2 : 1 ≤ (readT script).length := by unfold readT; rw [List.length_append]; show 1 ≤ _ + 1; omega
     have h3 : (readT script).length ≤ (evenT (readT script)).length := by unfold evenT; split <;> simp
     omega
    ·rw [List.drop_zero, skip2_len, skip2_len, List.length_drop, d0]; omega
    ·rw [List.drop_zero, skip2_len, d0]; omega
    ·rw [List.drop_zero, ← List.map_drop, skip2_map lstT, skip2_map lstT, pairsOf_map, ha]; rfl
   have hlz : (refsT ts).length = ts.length := by unfold refsT; rw [List.length_map]
   have hrt : (readT script).length = ts.length := by rw [ea, List.length_map]
   have test : ∀ (b : Bool), decide (((ts.length % 2 : Nat) : Int) = ((1 : Nat) : Int)) = b → ∀ E, wpAny (CL w).M (A.deeper (paE L)) (isTrue (match (sBody (stAt 17))[2]?.getD (.Pass ⟨0, 0, 0, 0⟩) with | .If t _ _ _ => t | _ => .Constant .none 0 ⟨0, 0, 0, 0⟩) (paE L) (eval (match (sBody (stAt 17))[2]?.getD (.Pass ⟨0, 0, 0, 0⟩) with | .If t _ _ _ => t | _ => .Constant .none 0 ⟨0, 0, 0, 0⟩) (paE L))) (fun v s' => Kt s4 s' ∧ v = b) E s4 := fun b hb E => by
    refine F4.lookTv (σ' := [("texts", .lst (refsT ts)), ("script", .lst (script.map .int))]) (.cons (res_refs fun p hp => hp) (.cons (.same _) .nil)) (Tv.cast (Tv.cmp (ev_modN (a := ts.length) (m := 2) (Ev.cast (Ev.lenL (Ev.glob ok (by rfl) (.inr (mb_len w))) (by rfl) (Ev.name ok (by rfl)) (by rw [hlz]; omega)) (by rw [hlz])) (ev_litN 2) (by decide)) (ev_litN 1) (cmp_eqI room' (by omega) (by omega))) hb)
   by_cases hodd : ts.length % 2 = 1
   ·refine wpAny_execs_cons (st_ifW F4 (b := true) (test true (by rw [hodd]; rfl)) (fun _ s6 F6 => ?_) (fun h => by cases h))
    refine wpAny_execs_cons (pairs_new ok hl (by rfl) F6 (fun s7 W7 x F7 => wpAny_execs_nil (fin _ s7 W7 _ (by rw [List.length_append]; show _ + 1 ≤ 2000; omega) ?_ F7)) (by rfl))
    rw [List.map_append, ← ea]; unfold evenT; rw [if_pos (by rw [hrt]; exact hodd)]; rfl
   ·refine wpAny_execs_cons (st_ifW F4 (b := false) (test false (decide_eq_false (by omega))) (fun h => by cases h) (fun _ s6 F6 => wpAny_execs_nil (fin ts s6 _ _ (by omega) ?_ F6)))
    rw [← ea]; unfold evenT; rw [if_neg (by rw [hrt]; exact hodd)]
noncomputable def joinE (l : List Str) : Str := Txt.join "" l
noncomputable def pickS (k : Nat) (q : SP) : Str := [q.1, q.2].getD k ""
noncomputable def toldS (p : List SP × List SP) (k : Nat) : Str × Str := (joinE (p.1.map (pickS k)), joinE (p.2.map (pickS k)))
structure ToldOk (p : List SP × List SP) (k : Nat) : Prop where
 l1 : p.1.length ≤ 1000
 l2 : p.2.length ≤ 1000
 j1 : JoinOk "" (p.1.map (pickS k)) = true
 j2 : JoinOk "" (p.2.map (pickS k)) = true
theorem map_inj_of {α β : Type} {f : α → β} (hf : ∀ a b, f a = f b → a = b) : ∀ {l m : List α}, l.map f = m.map f → l = m
 | [], [], _ => rfl
 | [], _ :: _, h => nomatch h
 | _ :: _, [], h => nomatch h
 | a :: l, b :: m, h => by
  rw [List.map_cons, List.map_cons] at h
  injection h with h1 h2
  rw [hf a b h1, map_inj_of hf h2]
theorem lstT_inj (a b : List SP) (h : lstT a = lstT b) : a = b := by
 unfold lstT at h
 injection h with h
 exact map_inj_of strP_inj h
noncomputable abbrev toE (L : Addr) : Env := callEnvC fd__law_told L 283
theorem pf_told (w : World) {A : Around} {n : Nat} (room : Room A (n + 4)) (p : List SP × List SP) (k : Nat) (hk : k < 2) (tk : ToldOk p k) : Pf (CL w) A 283 [pairD p, .int (k : Nat)] [] (strP (toldS p k)) := by
 intro W s E vs kvs base tok wo rl br
 cases br
 cases rl with
 | cons r1 rl =>
 cases rl with
 | cons r2 rl =>
 cases rl
 refine enter (W₀ := W) (Md := fun _ => False) (μ := []) (σ := [("pair", pairD p), ("which", .int (k : Nat))]) room (fn__law_told w) base tok wo (fun a h => h.elim) (binds := [("pair", _), ("which", _)]) (.of_eq rfl) (fun L y hx => ?_) (show [("pair" : Str), "which"].Nodup by decide +kernel) (.cons r1 (.cons r2 .nil)) (fun a l h => nomatch h) (by simp) fun L W' s' E' _ _ ok F => ?_
 ·simp only [List.mem_cons, List.not_mem_nil, or_false] at hx
  rcases hx with rfl | rfl
  ·exact .inl (by kernel_rfl)
  ·exact .inr ⟨by kernel_rfl, by rfl⟩
 ·have room' := room.deeper (toE L)
  refine wpAny_execs_cons (st_return F (d := strP (toldS p k)) (Ev.cast (Ev.tupleOf (l := [p.1, p.2].map fun l => .str (joinE (l.map (pickS k)))) (Ev.glob ok (by rfl) (.inr (mb_tuple w))) (by rfl) ?_ (by show 2 ≤ 1000000; decide)) rfl) fun v s4 F4 r => ⟨F4.up.kt, r.less F4.w0⟩)
  refine Ev.compM (xs := [p.1, p.2]) (g := lstT) (f := fun l => .str (joinE (l.map (pickS k)))) (σc := [("which", .int (k : Nat))]) room'.hh ok (Ev.name ok (by rfl)) (Itr.tup room'.hh) lstT_inj (by show 2 ≤ 1000000; decide) (by rfl) (by decide +kernel) (by rfl) (by decide +kernel) (.cons .nil (by rfl) (by kernel_rfl) (by rfl) (by rfl)) (fun C => by kernel_rfl) (fun C l hl => ?_)
  have hl1 : l.length ≤ 1000 ∧ JoinOk "" (l.map (pickS k)) = true := by
   simp only [List.mem_cons, List.not_mem_nil, or_false] at hl
   rcases hl with rfl | rfl
   ·exact ⟨tk.l1, tk.j1⟩
   ·exact ⟨tk.l2, tk.j2⟩
  refine Ev.join (xs := l.map (pickS k)) Ev.str ?_ (by rfl) (by rfl) (by rfl) hl1.2
  rw [List.map_map]
  refine Ev.compM (xs := l) (g := strP) (f := D.str ∘ pickS k) (σc := [("which", .int (k : Nat))]) room'.hh (compEnvC_ok ok (by rfl)) (Ev.name (compEnvC_ok ok (by rfl)) (by rfl)) (Itr.lst room'.hh) strP_inj (by omega) (by rfl) (by decide +kernel) (by rfl) (by decide +kernel) (.cons .nil (by rfl) (by kernel_rfl) (by rfl) (by rfl)) (fun C => by kernel_rfl) (fun C2 q hq => ?_)
  exact ev_pickT (xs := [q.1, q.2]) (f := D.str) (k := k) (d := "") (Ev.name (compEnvC_ok (compEnvC_ok ok (by rfl)) (by rfl)) (by rfl)) (Ev.name (compEnvC_ok (compEnvC_ok ok (by rfl)) (by rfl)) (by rfl)) hk (by show 2 ≤ 1000000; decide)
theorem pf_items (w : World) {A : Around} {n : Nat} (room : Room A (n + 4)) (ps : List (Str × Str)) (hl : ps.length ≤ 1000000) :
  Pf (CL w) A 212 [tabD ps] [] (.lst (ps.map strP)) := by
 intro W s E vs kvs base tok wo rl br
 cases br
 cases rl with
 | cons r1 rl =>
 cases rl
 refine enter (W₀ := W) (Md := fun _ => False) (μ := []) (σ := [("self", tabD ps)]) room (fn_m_items w) base tok wo (fun a h => h.elim) (binds := [("self", _)]) (.of_eq rfl) (fun L x hx => ?_) (show [("self" : Str)].Nodup by decide +kernel) (.cons r1 .nil) (fun a l h => nomatch h) (by simp) fun L W' s' E' _ _ ok F => ?_
 ·simp only [List.mem_cons, List.not_mem_nil, or_false] at hx
  subst hx; exact .inl (by kernel_rfl)
 ·refine wpAny_execs_cons (st_return F (Ev.sliceAllT (Ev.attr (kls w) (Ev.name ok (by rfl)) (by rfl) (by rfl) (mH_h w) obj_h) (by simpa using hl)) fun v s4 F4 r => ?_)
  exact ⟨F4.up.kt, r.less F4.w0⟩
noncomputable def steerC (k : Nat) : Bool := decide (k < 32) || decide (k = 127)
noncomputable def strike (x : Str) : Str := Txt.replace x (ch 9) ""
noncomputable def allowS (name value : Str) : Bool := ((name ++ strike value).cps.toList.filter steerC).isEmpty
structure AllowOk (name value : Str) : Prop where
 n : name.length ≤ 100000
 v : value.length ≤ 100000
 r : (strike value).length ≤ 100000
 cs : ∀ k ∈ (name ++ strike value).cps.toList, k ≤ 1114111
noncomputable abbrev alE (L : Addr) : Env := callEnvC fd__law_allowed L 288
theorem pf_allowed (w : World) {A : Around} {n : Nat} (room : Room A (n + 4)) (name value : Str) (ak : AllowOk name value) : Pf (CL w) A 288 [.str name, .str value] [] (.val (.bool (allowS name value))) := by
 intro W s E vs kvs base tok wo rl br
 cases br
 cases rl with
 | cons r1 rl =>
 cases rl with
 | cons r2 rl =>
 cases rl
 refine enter (W₀ := W) (Md := fun _ => False) (μ := []) (σ := [("name", .str name), ("value", .str value)]) room (fn__law_allowed w) base tok wo (fun a h => h.elim) (binds := [("name", _), ("value", _)]) (.of_eq rfl) (fun L y hx => ?_) (show [("name" : Str), "value"].Nodup by decide +kernel) (.cons r1 (.cons r2 .nil)) (fun a l h => nomatch h) (by simp) fun L W' s' E' _ _ ok F => ?_
 ·simp only [List.mem_cons, List.not_mem_nil, or_false] at hx
  rcases hx with rfl | rfl <;> exact .inl (by kernel_rfl)
 ·have room' := room.deeper (alE L)
  have hv := ak.v
  have hn := ak.n
  have hr := ak.r
  refine wpAny_execs_cons (st_used (l := (name ++ strike value).cps.toList.map fun k => .str ⟨#[k]⟩) (p := fun d => steerC (cpOf d)) (f := id) (σc := []) room'.hh ok F (di := .str (name ++ strike value)) ?_ (Itr.str room'.hh) ?_ (by rfl) (by rfl) (by decide +kernel) (by rfl) (by decide +kernel) .nil (fun C d hd => ?_) (by kernel_rfl) fun s1 W1 F1 => ?_)
  ·refine Ev.bin (Ev.name ok (by rfl)) (Ev.replaceChr (k := 9) (by decide) (Ev.name ok (by rfl)) (Ev.glob ok (by rfl) (.inr (mb_chr w))) (by rfl) (ev_litN 9) (by rfl) (by rfl) (by rfl) (by rfl) (by decide +kernel) ?_) (Bop.addS ?_)
   ·show value.length + (value.length + 1) * 0 ≤ _
    omega
   ·show name.length + (strike value).length ≤ _
    omega
  ·rw [List.length_map, Array.length_toList]
   have : (name ++ strike value).length = name.length + (strike value).length := by rw [PySem.Str.length_append]
   show (name ++ strike value).length ≤ _
   omega
  ·obtain ⟨k, hk, rfl⟩ := List.mem_map.mp hd
   have hk' := ak.cs k hk
   refine ⟨_, .name (by kernel_rfl), .one ?_, fun _ => Ev.name (compEnvC_ok ok (by rfl)) (by rfl)⟩
   have e : steerC (cpOf (.str ⟨#[k]⟩)) = (decide (k < 32) || decide ((k : Int) = ((127 : Nat) : Int))) := by
    show (decide (k < 32) || decide (k = 127)) = _
    have : ((k : Int) = ((127 : Nat) : Int)) ↔ k = 127 := by omega
    simp only [this]
   rw [e]
   exact Tv.or2 (Tv.cmp (Ev.ord (Ev.glob (compEnvC_ok ok (by rfl)) (by rfl) (.inr (mb_ord w))) (by rfl) (Ev.name (compEnvC_ok ok (by rfl)) (by rfl))) (ev_litN 32) cmp_ltN) fun _ => Tv.cmp (Ev.ord (Ev.glob (compEnvC_ok ok (by rfl)) (by rfl) (.inr (mb_ord w))) (by rfl) (Ev.name (compEnvC_ok ok (by rfl)) (by rfl))) (ev_litN 127) (cmp_eqI room' (by omega) (by omega))
  ·refine wpAny_execs_cons (st_return F1 (d := .val (.bool (allowS name value))) ?_ fun v s4 F4 r => ⟨F4.up.kt, r.less F4.w0⟩)
   have hu := room'.units
   classical
   have hk : okD 8 (.lst ((((name ++ strike value).cps.toList.map fun k => D.str ⟨#[k]⟩).filter fun d => steerC (cpOf d)).map id)) = true := by
    rw [okD]
    refine (okDs_all _ _).mpr fun d hd => ?_
    rw [List.map_id] at hd
    obtain ⟨k, hk, rfl⟩ := List.mem_map.mp (List.mem_filter.mp hd).1
    have := ak.cs k hk
    rw [okD]
    unfold PyData.strOk
    simp; omega
   refine Ev.cast (Ev.cmp (Ev.name ok (by rfl)) (Ev.list EvL.nil) (Cmp.eq room' (by show (A.deeper (alE L)).units + 64 < 9900; omega) hk (by rw [okD, okDs]))) ?_
   congr 2
   rw [List.map_id, List.filter_map]
   have e2 : ((fun d => steerC (cpOf d)) ∘ fun k => D.str ⟨#[k]⟩) = steerC := by funext k; rfl
   rw [e2]
   unfold allowS
   generalize (name ++ strike value).cps.toList.filter steerC = l
   cases l with
   | nil => exact decide_eq_true rfl
   | cons a l => exact decide_eq_false fun h => by injection h with h; cases h
noncomputable def lineX (p : SP) : Str := p.1 ++ Str.ofString ": " ++ p.2 ++ Str.ofString "\r\n"
noncomputable def dueT (ps : List SP) : Str := joinE (ps.map lineX) ++ Str.ofString "\r\n"
structure DueOk (ps : List SP) : Prop where
 each : ∀ p ∈ ps, p.1.length ≤ 100000 ∧ p.2.length ≤ 100000
 join : JoinOk "" (ps.map lineX) = true
 size : (joinE (ps.map lineX)).length ≤ 900000
 n : ps.length ≤ 1000000
noncomputable abbrev duE (L : Addr) : Env := callEnvC fd__law_due L 307
theorem pf_due (w : World) {A : Around} {n : Nat} (room : Room A (n + 4)) (ps : List SP) (dk : DueOk ps) : Pf (CL w) A 307 [.lst (ps.map strP)] [] (octD (dueT ps)) := by
 intro W s E vs kvs base tok wo rl br
 cases br
 cases rl with
 | cons r1 rl =>
 cases rl
 refine enter (W₀ := W) (Md := fun _ => False) (μ := []) (σ := [("pairs", .lst (ps.map strP))]) room (fn__law_due w) base tok wo (fun a h => h.elim) (binds := [("pairs", _)]) (.of_eq rfl) (fun L y hx => ?_) (by simp) (.cons r1 .nil) (fun a l h => nomatch h) (by simp) fun L W' s' E' _ _ ok F => ?_
 ·simp only [List.mem_singleton] at hx; subst hx; exact .inl (by kernel_rfl)
 ·have room' := room.deeper (duE L)
  have hsz := dk.size
  have e2 : (Str.ofString "\r\n").length = 2 := by decide +kernel
  refine wpAny_execs_cons (st_assign ok F (d := .str (dueT ps)) ?_ (.inl (by kernel_rfl)) fun s1 F1 => ?_)
  ·refine Ev.bin (Ev.join (xs := ps.map lineX) Ev.str ?_ (by rfl) (by rfl) (by rfl) dk.join) Ev.str (Bop.addS (by show (joinE (ps.map lineX)).length + (Str.ofString "\r\n").length ≤ _; omega))
   rw [List.map_map]
   refine Ev.compP (xs := ps) (f := D.str ∘ lineX) (σc := []) room'.hh ok (Ev.name ok (by rfl)) (Itr.lst room'.hh) dk.n (by rfl) (by decide +kernel) (by rfl) (by decide +kernel) .nil (fun C => by kernel_rfl) (fun C => by kernel_rfl) (fun C p hp => ?_)
   obtain ⟨h1, h2⟩ := dk.each p hp
   have e3 : (Str.ofString ": ").length = 2 := by decide +kernel
   have a1 : (p.1 ++ Str.ofString ": ").length = p.1.length + 2 := by rw [PySem.Str.length_append, e3]
   have a2 : (p.1 ++ Str.ofString ": " ++ p.2).length = p.1.length + 2 + p.2.length := by rw [PySem.Str.length_append, a1]
   exact Ev.bin (Ev.bin (Ev.bin (Ev.name (compEnvC_ok ok (by rfl)) (by rfl)) Ev.str (Bop.addS (by omega))) (Ev.name (compEnvC_ok ok (by rfl)) (by rfl)) (Bop.addS (by omega))) Ev.str (Bop.addS (by omega))
  have hlen : (dueT ps).cps.toList.length = (joinE (ps.map lineX)).length + 2 := by
   rw [Array.length_toList]
   show (joinE (ps.map lineX) ++ Str.ofString "\r\n").length = _
   rw [PySem.Str.length_append, e2]
  refine wpAny_execs_cons (st_usedM (xs := (dueT ps).cps.toList) (g := fun k => .str ⟨#[k]⟩) (f := natI) (σc := []) room'.hh ok F1 (Ev.name ok (by rfl)) (Itr.str room'.hh) (fun a b h => by injection h with h; injection h with h; simpa using h) (by omega) (by rfl) (by rfl) (by decide +kernel) (by rfl) (by decide +kernel) .nil (fun C => by kernel_rfl) (fun C k hk => ?_) (by kernel_rfl) fun s2 W2 F2 => ?_)
  ·exact Ev.ord (Ev.glob (compEnvC_ok ok (by rfl)) (by rfl) (.inr (mb_ord w))) (by rfl) (Ev.name (compEnvC_ok ok (by rfl)) (by rfl))
  ·refine wpAny_execs_cons (st_return F2 (d := octD (dueT ps)) (Ev.ifExp (b := decide (maxN (dueT ps).cps.toList < 256)) (Tv.cmp (Ev.maxN room'.hh (Ev.glob ok (by rfl) (.inr (mb_max w))) (by rfl) (Ev.name ok (by rfl)) (by omega)) (ev_litN 256) cmp_ltN) (fun h => ?_) (fun h => ?_)) fun v s4 F4 r => ⟨F4.up.kt, r.less F4.w0⟩)
   ·have hb := (maxN_lt (by decide)).mp (of_decide_eq_true h)
    rw [octD_ok hb]
    exact Ev.bytesL room'.hh (Ev.glob ok (by rfl) (.inr (mb_bytes w))) (by rfl) (Ev.name ok (by rfl)) (by omega) hb
   ·rcases oct_cases (dueT ps) with hx | hx
    ·exact absurd ((maxN_lt (by decide)).mpr hx) (of_decide_eq_false h)
    ·rw [octD_bad hx]; exact Ev.none
section
variable {w : World} {A : Around} {s₀ : Shared} {W₀ Md W : Addr → Prop} {env : Env} {σ : List (Str × D)} {μ : List (Addr × Own)} {s : Shared} {E : Value → Shared → Prop}
theorem ev_newtab {n : Nat} (room : Room A (n + 5)) (F : Fr (CL w) s₀ W₀ Md W env σ μ s) {x : Str} {np pos : Pos} {Q : Value → Shared → Prop} (hf : Ev (CL w) A env σ (.Name x np) (.val (.ref 248)))
  (h : ∀ l v s', s.heap.get? l = none → Kt s s' → Fr (CL w) s₀ W₀ Md (fun a => W a ∨ a = l) env σ ((l, .l []) :: μ) s' → Rd (fun a => W a ∨ a = l) s'.heap v (tabL l) → Q v s') :
  wpAny (CL w).M A (eval (.Call (.Name x np) [] [] pos) env) Q E s := by
 refine cls_call0 (kls w) hf F.view fun s1 K1 V1 => wpAny_mono (mk_core0 w room V1.base V1.tok V1.wold) (fun v s2 q => ?_) fun _ _ e => e
 obtain ⟨K2, x, dx, l, rfl, hx, hdx, hl, lx, ldx, I, pl⟩ := q
 have F1 := F.keeps K1
 have hl0 : s.heap.get? l = none := by
  cases e : s.heap.get? l with
  | none => rfl
  | some o => rw [K1.heap _ _ e] at hl; cases hl
 exact h l _ s2 hl0 (K1.trans K2) (F1.adopt K2 hl pl .nil) (rd_tab I (fun h => h.elim (V1.new hx) (Ne.symm lx)) (fun h => h.elim (V1.new hdx) (Ne.symm ldx)) (.val _))
theorem st_tabsO {n : Nat} (room : Room A (n + 5)) (ok : EnvOk env) (F : Fr (CL w) s₀ W₀ Md W env σ μ s) {x y z1 z2 : Str} {p q pt pos tp n1 n2 c1 c2 : Pos} {k k2 : Nat} {Q : Flow → Shared → Prop} (hx : Nm env x) (hy : Nm env y)
  (hf1 : Ev (CL w) A env σ (.Name z1 n1) (.val (.ref 248))) (hf2 : Ev (CL w) A env σ (.Name z2 n2) (.val (.ref 248)))
  (hb : backTo tp (starEach [.Call (.Name z1 n1) [] [] c1, .Call (.Name z2 n2) [] [] c2] env) = [(false, eval (.Call (.Name z1 n1) [] [] c1) env), (false, eval (.Call (.Name z2 n2) [] [] c2) env)])
  (h : ∀ a b s' W', Fr (CL w) s₀ W₀ Md W' env ((x, tabL a) :: (y, tabL b) :: σ) ((b, .l []) :: (a, .l []) :: μ) s' → Q .next s')
  (hs : swapsWithSole [.Tuple [.Name x p, .Name y q] k pt] (.Tuple [.Call (.Name z1 n1) [] [] c1, .Call (.Name z2 n2) [] [] c2] k2 tp) pos.line env = pure false := by rfl) (hw : swappedStores [.Tuple [.Name x p, .Name y q] k pt] (.Tuple [.Call (.Name z1 n1) [] [] c1, .Call (.Name z2 n2) [] [] c2] k2 tp) env = pure (some [x, y]) := by rfl) :
  wpAny (CL w).M A (exec (.Assign [.Tuple [.Name x p, .Name y q] k pt] (.Tuple [.Call (.Name z1 n1) [] [] c1, .Call (.Name z2 n2) [] [] c2] k2 tp) pos) env) Q E s := by
 refine st_pairO (s₀ := s₀) (W₀ := W₀) (Md := Md) (σ := σ) room.hh ok hx hy ?_ hs hw
 rw [hb]
 refine Calls.spliced_cons (ev_newtab room F hf1 fun a u1 s1 _ K1 F1 r1 => ?_)
 refine Calls.spliced_cons (ev_newtab room F1 hf2 fun b u2 s2 hb2 K2 F2 r2 => ?_)
 exact Calls.spliced_nil ⟨_, _, tabL a, tabL b, _, _, rfl, F2, (r1.grow fun c h => h.imp id fun q => by rw [q]; exact hb2).keeps K2.heap, r2, fun s' F' => h a b s' _ F'⟩
end
noncomputable def rawP (p : List SP × List SP) : SP := toldS p 0
noncomputable def foldP (p : List SP × List SP) : SP := toldS p 1
noncomputable def allP (p : List SP × List SP) : Bool := allowS (rawP p).1 (rawP p).2
noncomputable def BadP (q : SP) : Prop := BadB false q.2 ∨ (GoodB false q.2 ∧ BadB true q.1)
noncomputable def GoodP (q : SP) : Prop := GoodB true q.1 ∧ GoodB false q.2
section
variable {w : World} {A : Around} {env : Env} {s₁ s₂ : Shared} {W₀ W Md : Addr → Prop} {σ : List (Str × D)} {E : Value → Shared → Prop} {μ μ₁ μ₂ : List (Addr × Own)}
theorem law_addF {n : Nat} (room : Room A (n + 6)) (ok : EnvOk env) (hfr : env.frame = some env.locals) (hA : A.frames = some [env]) {q : SP} {b : Bool} (hg : b = true → GoodP q) (hb : b = false → BadP q) {a : Addr} {pre : List SP} (hpre : pre.length ≤ 500000)
  (F : Fr (CL w) s₁ W₀ Md W env σ μ s₂) (hμ : μ = μ₁ ++ (a, .l (pre.map strP)) :: μ₂) {np p : Pos} {e1 e2 e3 : Expr} {Q : Value → Shared → Prop} (hf : env.kindOf "_law_add" = some .globalImplicit)
  (h1 : Ev (CL w) A env σ e1 (tabL a)) (h2 : Ev (CL w) A env σ e2 (.str q.1)) (h3 : Ev (CL w) A env σ e3 (.str q.2)) (hs : backTo p (starEach [e1, e2, e3] env) = [(false, eval e1 env), (false, eval e2 env), (false, eval e3 env)])
  (h : ∀ s', Fr (CL w) s₁ W₀ Md W env σ (μ₁ ++ (a, .l ((if b = true then pre ++ [q] else pre).map strP)) :: μ₂) s' → Q (.bool b) s') :
  wpAny (CL w).M A (eval (.Call (.Name "_law_add" np) [e1, e2, e3] [] p) env) Q E s₂ := by
 refine fun_call (Ev.glob ok hf (.inl (mg__law_add w))) (fn__law_add w) (ds := [tabL a, .str q.1, .str q.2]) (ks := []) (by rw [hs]; exact EvA.plain (EvL.c h1 (EvL.c h2 (EvL.c h3 EvL.nil)))) F.view fun vs kvs s3 K3 V3 rl br => ?_
 cases br
 cases rl with
 | cons r1 rl =>
 cases rl with
 | cons r2 rl =>
 cases rl with
 | cons r3 rl =>
 cases rl
 have F3 := F.keeps K3
 have hm : (a, Own.l (pre.map strP)) ∈ μ := by rw [hμ]; exact List.mem_append_right _ (List.mem_cons_self ..)
 obtain ⟨q1, q2, q3, q4⟩ := F3.own a _ hm
 cases b with
 | false =>
  obtain ⟨us, pl, _⟩ := q4
  refine law_add_bad w room (hb rfl) V3.base V3.tok V3.wold (F3.rim ok hfr hA) r1 r2 r3 ⟨us, pl⟩ fun s4 k4 => ?_
  have F4 := F3.slots hfr k4
  rw [hμ] at F4
  exact h s4 F4
 | true =>
  obtain ⟨g1, g2⟩ := hg rfl
  refine law_add_ok w room g1 g2 hpre V3.base V3.tok V3.wold q1 (F3.kn q2) q4 r1 r2 r3 fun s4 U4 O4 => ?_
  rw [hμ] at F3
  exact h s4 (F3.putU (μ₁ := μ₁) (μ₂ := μ₂) rfl U4 O4)
theorem law_octF {n : Nat} (room : Room A (n + 9)) (ok : EnvOk env) (hfr : env.frame = some env.locals) (hA : A.frames = some [env]) {ps : List SP} (tk : TabOk ps) (hsz : (tabS ps).cps.size ≤ 1000000)
  (F : Fr (CL w) s₁ W₀ Md W env σ μ s₂) {np p : Pos} {e1 : Expr} {Q : Value → Shared → Prop} (hf : env.kindOf "_law_octets" = some .globalImplicit) (h1 : Ev (CL w) A env σ e1 (tabD ps)) (hs : backTo p (starEach [e1] env) = [(false, eval e1 env)])
  (h : ∀ v s', Fr (CL w) s₁ W₀ Md W env σ μ s' → Rd W s'.heap v (octD (tabS ps)) → Q v s') :
  wpAny (CL w).M A (eval (.Call (.Name "_law_octets" np) [e1] [] p) env) Q E s₂ := by
 refine fun_call (Ev.glob ok hf (.inl (mg__law_octets w))) (fn__law_octets w) (ds := [tabD ps]) (ks := []) (by rw [hs]; exact EvA.plain (EvL.c h1 EvL.nil)) F.view fun vs kvs s3 K3 V3 rl br => ?_
 cases br
 cases rl with
 | cons r1 rl =>
 cases rl
 have F3 := F.keeps K3
 refine law_octets w room ps tk hsz V3.base V3.tok V3.wold r1 (F3.rim ok hfr hA) fun v s4 k4 r4 => h v s4 (F3.slots hfr k4) r4
theorem isOct_octD (x : Str) : isOct (octD x) = true := by
 unfold octD; split <;> rfl
theorem law_octT {n : Nat} (room : Room A (n + 9)) (ok : EnvOk env) (hfr : env.frame = some env.locals) (hA : A.frames = some [env]) {ps qs : List SP} (tk : TabOk ps) (hsz : (tabS ps).cps.size ≤ 1000000) (dk : DueOk qs) (he : dueT qs = tabS ps)
  (F : Fr (CL w) s₁ W₀ Md W env σ μ s₂) {np p np2 p2 p3 : Pos} {e1 e2 : Expr} {Q : Bool → Shared → Prop} (hf : env.kindOf "_law_octets" = some .globalImplicit) (hf2 : env.kindOf "_law_due" = some .globalImplicit) (h1 : Ev (CL w) A env σ e1 (tabD ps)) (h2 : Ev (CL w) A env σ e2 (.lst (qs.map strP)))
  (hs : backTo p (starEach [e1] env) = [(false, eval e1 env)]) (hs2 : backTo p2 (starEach [e2] env) = [(false, eval e2 env)])
  (h : ∀ s', Fr (CL w) s₁ W₀ Md W env σ μ s' → Q false s') (hm : behindInMarks .NotEq (.Call (.Name "_law_due" np2) [e2] [] p2) = false := by rfl) :
  wpAny (CL w).M A (isTrue (.Compare (.Call (.Name "_law_octets" np) [e1] [] p) [.NotEq] [.Call (.Name "_law_due" np2) [e2] [] p2] p3) env (eval (.Compare (.Call (.Name "_law_octets" np) [e1] [] p) [.NotEq] [.Call (.Name "_law_due" np2) [e2] [] p2] p3) env)) Q E s₂ := by
 refine wpAny_isTrue_Compare1 (law_octF room ok hfr hA tk hsz F hf h1 hs fun v s3 F3 r3 => ?_) hm
 refine Ev.use (d := octD (dueT qs)) (Ev.call (Ev.glob ok hf2 (.inl (mg__law_due w))) (fn__law_due w) (by rw [hs2]; exact EvA.plain (EvL.c h2 EvL.nil)) (pf_due w (n := n + 5) room qs dk)) F3.view fun u s4 K4 V4 r4 => ?_
 rw [he] at r4
 refine wpAny_mono (Cmp.neOct (isOct_octD _) W s4 _ v u V4.base (r3.keeps K4.heap) r4) (fun z s5 q => ?_) fun _ _ e => e
 obtain ⟨K5, rfl⟩ := q
 exact wpAny_truthy_bool (h s5 ((F3.keeps K4).keeps K5))
end
section
variable {c : Cx} {A : Around} {env : Env} {σ : List (Str × D)}
open Classical in
theorem tv_ne {n : Nat} (r : Room A (n + 1)) {l r' : Expr} {p : Pos} {d e : D} (hl : Ev c A env σ l d) (hr : Ev c A env σ r' e) (h : d = e) (k : okD 8 d = true) (hm : behindInMarks .NotEq r' = false := by rfl) : Tv c A env σ (.Compare l [.NotEq] [r'] p) false := by
 subst h
 have := Cmp.ne (c := c) r (by have := r.units; show A.units + 64 < 9900; omega) k k
 rw [decide_eq_true rfl] at this
 exact Tv.cmp hl hr this hm
open Classical in
theorem ev_eq {n : Nat} (r : Room A (n + 1)) {l r' : Expr} {p : Pos} {d e : D} (hl : Ev c A env σ l d) (hr : Ev c A env σ r' e) (h : d = e) (k : okD 8 d = true) (hm : behindInMarks .Eq r' = false := by rfl) : Ev c A env σ (.Compare l [.Eq] [r'] p) (.val (.bool true)) := by
 subst h
 have := Cmp.eq (c := c) r (by have := r.units; show A.units + 64 < 9900; omega) k k
 rw [decide_eq_true rfl] at this
 exact Ev.cmp hl hr this hm
theorem ev_fst {value slice : Expr} {p : Pos} {q : SP} (hv : Ev c A env σ value (strP q)) (hi : Ev c A env σ slice (.int ((0 : Nat) : Int)))
  (hs : ∀ (a : Addr) (u : Tok), subscripted slice false (.ref a) (.int ((0 : Nat) : Int) u) = operate [.ref a, .int ((0 : Nat) : Int) u] (getItem (.ref a) (.int ((0 : Nat) : Int) u)) := by intro _ _; rfl) : Ev c A env σ (.Subscript value slice p) (.str q.1) :=
 ev_pickT (xs := [q.1, q.2]) (f := D.str) (k := 0) (d := "") hv hi (by show 0 < 2; decide) (by show 2 ≤ 1000000; decide) hs
theorem ev_snd {value slice : Expr} {p : Pos} {q : SP} (hv : Ev c A env σ value (strP q)) (hi : Ev c A env σ slice (.int ((1 : Nat) : Int)))
  (hs : ∀ (a : Addr) (u : Tok), subscripted slice false (.ref a) (.int ((1 : Nat) : Int) u) = operate [.ref a, .int ((1 : Nat) : Int) u] (getItem (.ref a) (.int ((1 : Nat) : Int) u)) := by intro _ _; rfl) : Ev c A env σ (.Subscript value slice p) (.str q.2) :=
 ev_pickT (xs := [q.1, q.2]) (f := D.str) (k := 1) (d := "") hv hi (by show 1 < 2; decide) (by show 2 ≤ 1000000; decide) hs
end
theorem one_le {α : Type} {x : α} : [x].length ≤ 500000 := by show 1 ≤ 500000; decide
structure PairOk (w : World) (p : List SP × List SP) : Prop where
 t0 : ToldOk p 0
 t1 : ToldOk p 1
 pr1 : PrepOk w (rawP p).1
 pr2 : PrepOk w (rawP p).2
 made : (prepS w (rawP p).1, prepS w (rawP p).2) = foldP p
 al : AllowOk (rawP p).1 (rawP p).2
 good : allP p = true → GoodP (rawP p) ∧ GoodP (foldP p)
 bad : allP p = false → BadP (rawP p) ∧ BadP (foldP p)
structure ListOk (qs : List SP) : Prop where
 tab : TabOk qs
 size : (tabS qs).cps.size ≤ 1000000
 due : DueOk qs
 eq : dueT qs = tabS qs
 ok : okD 8 (.lst (qs.map strP)) = true
structure LawOk (w : World) (P : List (List SP × List SP)) : Prop where
 len : P.length ≤ 1000
 pair : ∀ p ∈ P, PairOk w p
 one : ∀ p ∈ P, allP p = true → ListOk [rawP p] ∧ ListOk [foldP p]
 raws : ListOk ((P.filter allP).map rawP)
 folds : ListOk ((P.filter allP).map foldP)
 prep : PrepOk w (tabS ((P.filter allP).map rawP))
 prepEq : prepS w (tabS ((P.filter allP).map rawP)) = tabS ((P.filter allP).map foldP)
 okS : PyData.strOk (tabS ((P.filter allP).map foldP)) = true
noncomputable abbrev lwE (L : Addr) : Env := callEnvC fd_law L 314
noncomputable def lwF : Stmt := ((sBody (stAt 23))[2]?).getD (.Pass ⟨0, 0, 0, 0⟩)
noncomputable def lwB : List Stmt := match lwF with
 | .For _ _ b _ _ => b
 | _ => []
noncomputable def ifB : Stmt → List Stmt
 | .If _ b _ _ => b
 | _ => []
noncomputable def lwS (a b r f : Addr) (script : List Int) : List (Str × D) := [("raws", .val (.ref r)), ("folds", .val (.ref f)), ("plain", tabL a), ("ready", tabL b), ("script", .lst (script.map .int))]
noncomputable def lwM (a b r f : Addr) (L : List (List SP × List SP)) : List (Addr × Own) := [(f, .l ((L.map foldP).map strP)), (r, .l ((L.map rawP).map strP)), (b, .l ((L.map foldP).map strP)), (a, .l ((L.map rawP).map strP))]
section
variable {w : World} {A : Around} {n : Nat} {L a b r f : Addr} {script : List Int} {s₁ s₂ : Shared} {W₀ W Md : Addr → Prop} {E : Value → Shared → Prop} {Q : Flow → Shared → Prop} {T : List (List SP × List SP)} {p : List SP × List SP}
theorem ev_pairOf {q : SP} {A : Around} {env : Env} {σ : List (Str × D)} {e1 e2 : Expr} {tp : Pos} {k : Nat} (h1 : Ev (CL w) A env σ e1 (.str q.1)) (h2 : Ev (CL w) A env σ e2 (.str q.2)) (hb : backTo tp (starEach [e1, e2] env) = [(false, eval e1 env), (false, eval e2 env)]) : Ev (CL w) A env σ (.Tuple [e1, e2] k tp) (strP q) :=
 Ev.tuple (by rw [hb]; exact EvL.c h1 (EvL.c h2 EvL.nil)) (by show 2 ≤ 1000000; decide)
theorem turn_good (room : Room A (n + 9)) (ok : EnvOk (lwE L)) (hA : A.frames = some [lwE L]) (hT : T.length ≤ 1000) (po : PairOk w p) (o1 : ListOk [rawP p]) (o2 : ListOk [foldP p]) (g1 : GoodP (rawP p)) (g2 : GoodP (foldP p))
  (F : Fr (CL w) s₁ W₀ Md W (lwE L) (("allowed", .val (.bool true)) :: ("made", strP (foldP p)) :: ("raw", strP (rawP p)) :: ("fold", strP (foldP p)) :: ("pair", pairD p) :: lwS a b r f script)
   [(f, .l ((T.map foldP).map strP)), (r, .l ((T.map rawP).map strP)), (b, .l (((T ++ [p]).map foldP).map strP)), (a, .l (((T ++ [p]).map rawP).map strP))] s₂)
  (h : ∀ s', Fr (CL w) s₁ W₀ Md W (lwE L) (lwS a b r f script) (lwM a b r f (T ++ [p])) s' → Q .next s') : wpAny (CL w).M A (execs (ifB ((lwB[4]?).getD (.Pass ⟨0, 0, 0, 0⟩))) (lwE L)) Q E s₂ := by
 refine wpAny_execs_cons (st_append (μ₁ := [(f, .l ((T.map foldP).map strP))]) (μ₂ := [(b, .l (((T ++ [p]).map foldP).map strP)), (a, .l (((T ++ [p]).map rawP).map strP))]) (l := (T.map rawP).map strP) (d := strP (rawP p)) F (Ev.name ok (by rfl)) (Ev.name ok (by rfl)) rfl (by rw [List.length_map, List.length_map]; omega) (by rfl) (by rfl) (by rfl) fun s3 F3 => ?_)
 refine wpAny_execs_cons (st_append (μ₁ := []) (μ₂ := [(r, .l ((T.map rawP).map strP ++ [strP (rawP p)])), (b, .l (((T ++ [p]).map foldP).map strP)), (a, .l (((T ++ [p]).map rawP).map strP))]) (l := (T.map foldP).map strP) (d := strP (foldP p)) F3 (Ev.name ok (by rfl)) (Ev.name ok (by rfl)) rfl (by rw [List.length_map, List.length_map]; omega) (by rfl) (by rfl) (by rfl) fun s4 F4 => ?_)
 have nice : ∀ {q : SP}, GoodP q → ∀ q' ∈ [q], NiceP q' := fun g q' hq => by
  rw [List.mem_singleton] at hq; subst hq; exact ⟨g.1, g.2⟩
 refine wpAny_execs_cons (wpAny_If (law_octT room ok rfl hA (ps := [rawP p]) (qs := [rawP p]) o1.tab o1.size o1.due o1.eq F4 (by kernel_rfl) (by kernel_rfl) (Ev.new1 (kls w) (Ev.glob ok (by rfl) (.inl (mg_Headers w))) (Ev.list (ds := [strP (rawP p)]) (EvL.c (Ev.name ok (by rfl)) EvL.nil) (by show 1 ≤ 1000000; decide)) (by rfl) (mk_read (n := n + 4) room (ps := [rawP p]) (nice g1) one_le)) (Ev.list (ds := [strP (rawP p)]) (EvL.c (Ev.name ok (by rfl)) EvL.nil) (by show 1 ≤ 1000000; decide)) (by rfl) (by rfl) fun s5 F5 => wpAny_execs_nil ?_))
 refine wpAny_execs_cons (wpAny_If (law_octT room ok rfl hA (ps := [foldP p]) (qs := [foldP p]) o2.tab o2.size o2.due o2.eq F5 (by kernel_rfl) (by kernel_rfl) (Ev.new1 (kls w) (Ev.glob ok (by rfl) (.inl (mg_Headers w))) (Ev.list (ds := [strP (foldP p)]) (EvL.c (Ev.name ok (by rfl)) EvL.nil) (by show 1 ≤ 1000000; decide)) (by rfl) (mk_read (n := n + 4) room (ps := [foldP p]) (nice g2) one_le)) (Ev.list (ds := [strP (foldP p)]) (EvL.c (Ev.name ok (by rfl)) EvL.nil) (by show 1 ≤ 1000000; decide)) (by rfl) (by rfl) fun s6 F6 => wpAny_execs_nil (wpAny_execs_nil ?_)))
 refine h s6 (Fr.cut [("allowed", .val (.bool true)), ("made", strP (foldP p)), ("raw", strP (rawP p)), ("fold", strP (foldP p)), ("pair", pairD p)] ?_ (fun q hq => ?_))
 ·have e : ([] : List (Addr × Own)) ++ (f, .l ((T.map foldP).map strP ++ [strP (foldP p)])) :: [(r, .l ((T.map rawP).map strP ++ [strP (rawP p)])), (b, .l (((T ++ [p]).map foldP).map strP)), (a, .l (((T ++ [p]).map rawP).map strP))] = lwM a b r f (T ++ [p]) := by
   unfold lwM
   simp only [List.map_append, List.map_cons, List.map_nil, List.nil_append]
  rw [e] at F6
  exact F6
 ·simp only [List.mem_cons, List.not_mem_nil, or_false] at hq
  rcases hq with rfl | rfl | rfl | rfl | rfl <;> rfl
end
theorem obj_items : typeLookup (.type "object") "items" = pure none := by rw [typeLookup_type, builtinLookup_eq_fast]; kernel_rfl
section
variable {w : World} {A : Around} {env : Env} {s₁ s₂ : Shared} {W₀ W Md : Addr → Prop} {σ : List (Str × D)} {E : Value → Shared → Prop} {μ μ₁ μ₂ : List (Addr × Own)}
theorem law_addT {n : Nat} (room : Room A (n + 6)) (ok : EnvOk env) (hfr : env.frame = some env.locals) (hA : A.frames = some [env]) {q : SP} {b : Bool} (hg : b = true → GoodP q) (hb : b = false → BadP q) {a : Addr} {pre : List SP} (hpre : pre.length ≤ 500000)
  (F : Fr (CL w) s₁ W₀ Md W env σ μ s₂) (hμ : μ = μ₁ ++ (a, .l (pre.map strP)) :: μ₂) {np p p2 p3 : Pos} {x : Str} {e1 e2 e3 : Expr} {Q : Bool → Shared → Prop} (hf : env.kindOf "_law_add" = some .globalImplicit)
  (h1 : Ev (CL w) A env σ e1 (tabL a)) (h2 : Ev (CL w) A env σ e2 (.str q.1)) (h3 : Ev (CL w) A env σ e3 (.str q.2)) (h4 : Ev (CL w) A env σ (.Name x p2) (.val (.bool b))) (hs : backTo p (starEach [e1, e2, e3] env) = [(false, eval e1 env), (false, eval e2 env), (false, eval e3 env)])
  (h : ∀ s', Fr (CL w) s₁ W₀ Md W env σ (μ₁ ++ (a, .l ((if b = true then pre ++ [q] else pre).map strP)) :: μ₂) s' → Q false s') (hm : behindInMarks .NotEq (.Name x p2) = false := by rfl) :
  wpAny (CL w).M A (isTrue (.Compare (.Call (.Name "_law_add" np) [e1, e2, e3] [] p) [.NotEq] [.Name x p2] p3) env (eval (.Compare (.Call (.Name "_law_add" np) [e1, e2, e3] [] p) [.NotEq] [.Name x p2] p3) env)) Q E s₂ := by
 refine wpAny_isTrue_Compare1 (law_addF room ok hfr hA hg hb hpre F hμ hf h1 h2 h3 hs fun s3 F3 => ?_) hm
 refine h4.use F3.view fun u s4 K4 V4 r4 => ?_
 refine wpAny_mono (Cmp.neBool (a := b) (b := b) W s4 _ (.bool b) u V4.base (.val _) r4) (fun z s5 q => ?_) fun _ _ e => e
 obtain ⟨K5, rfl⟩ := q
 rw [bne_self_eq_false]
 exact wpAny_truthy_bool (h s5 ((F3.keeps K4).keeps K5))
end
section
variable {w : World} {A : Around} {n : Nat} {L a b r f : Addr} {script : List Int} {s₁ s₂ : Shared} {W₀ W Md : Addr → Prop} {E : Value → Shared → Prop} {Q : Flow → Shared → Prop} {T : List (List SP × List SP)} {p : List SP × List SP}
theorem law_turn (room : Room A (n + 9)) (ok : EnvOk (lwE L)) (hA : A.frames = some [lwE L]) (hT : T.length ≤ 1000) (po : PairOk w p) (one : allP p = true → ListOk [rawP p] ∧ ListOk [foldP p])
  (F : Fr (CL w) s₁ W₀ Md W (lwE L) (("pair", pairD p) :: lwS a b r f script) (lwM a b r f T) s₂)
  (h : ∀ s', Fr (CL w) s₁ W₀ Md W (lwE L) (lwS a b r f script) (lwM a b r f (if allP p = true then T ++ [p] else T)) s' → Q .next s') : wpAny (CL w).M A (execs lwB (lwE L)) Q E s₂ := by
 have hl1 : (T.map rawP).length ≤ 500000 := by rw [List.length_map]; omega
 have hl2 : (T.map foldP).length ≤ 500000 := by rw [List.length_map]; omega
 refine wpAny_execs_cons (st_pairSwapped room.hh ok F (d := strP (rawP p)) (e := strP (foldP p)) ?_ (.inl (by kernel_rfl)) (.inl (by kernel_rfl)) fun s3 F3 => ?_)
 ·refine Ev.tuple (EvL.c ?_ (EvL.c ?_ EvL.nil)) (by show 2 ≤ 1000000; decide)
  ·exact Ev.call (Ev.glob ok (by rfl) (.inl (mg__law_told w))) (fn__law_told w) (EvA.plain (EvL.c (Ev.name ok (by rfl)) (EvL.c (ev_litN 0) EvL.nil))) (pf_told w (n := n + 5) room p 0 (by decide) po.t0)
  ·exact Ev.call (Ev.glob ok (by rfl) (.inl (mg__law_told w))) (fn__law_told w) (EvA.plain (EvL.c (Ev.name ok (by rfl)) (EvL.c (ev_litN 1) EvL.nil))) (pf_told w (n := n + 5) room p 1 (by decide) po.t1)
 refine wpAny_execs_cons (st_assign ok F3 (d := strP (foldP p)) ?_ (.inl (by kernel_rfl)) (fun s4 F4 => ?_) (by rfl))
 ·refine Ev.cast (ev_pairOf (q := (prepS w (rawP p).1, prepS w (rawP p).2)) ?_ ?_ (by rfl)) (congrArg strP po.made)
  ·exact Ev.call (Ev.glob ok (by rfl) (.inl (mg__law_prepare w))) (fn__law_prepare w) (EvA.plain (EvL.c (ev_fst (Ev.name ok (by rfl)) (ev_litN 0)) EvL.nil)) (pf_prepare w (n := n + 5) room _ po.pr1)
  ·exact Ev.call (Ev.glob ok (by rfl) (.inl (mg__law_prepare w))) (fn__law_prepare w) (EvA.plain (EvL.c (ev_snd (Ev.name ok (by rfl)) (ev_litN 1)) EvL.nil)) (pf_prepare w (n := n + 5) room _ po.pr2)
 refine wpAny_execs_cons (st_assign ok F4 (d := .val (.bool (allP p))) ?_ (.inl (by kernel_rfl)) (fun s5 F5 => ?_) (by rfl))
 ·exact Ev.call (Ev.glob ok (by rfl) (.inl (mg__law_allowed w))) (fn__law_allowed w) (EvA.plain (EvL.c (ev_fst (Ev.name ok (by rfl)) (ev_litN 0)) (EvL.c (ev_snd (Ev.name ok (by rfl)) (ev_litN 1)) EvL.nil))) (pf_allowed w (n := n + 5) room _ _ po.al)
 refine wpAny_execs_cons (wpAny_If (isTrue_or (law_addT (n := n + 3) room ok rfl hA (q := rawP p) (b := allP p) (fun e => (po.good e).1) (fun e => (po.bad e).1) (pre := T.map rawP) hl1 (μ₁ := [(f, .l ((T.map foldP).map strP)), (r, .l ((T.map rawP).map strP)), (b, .l ((T.map foldP).map strP))]) (μ₂ := []) F5 rfl (by kernel_rfl) (Ev.name ok (by rfl)) (ev_fst (Ev.name ok (by rfl)) (ev_litN 0)) (ev_snd (Ev.name ok (by rfl)) (ev_litN 1)) (Ev.name ok (by rfl)) (by rfl) fun s6 F6 => ?_)))
 refine isTrue_or (law_addT (n := n + 3) room ok rfl hA (q := foldP p) (b := allP p) (fun e => (po.good e).2) (fun e => (po.bad e).2) (pre := T.map foldP) hl2 (μ₁ := [(f, .l ((T.map foldP).map strP)), (r, .l ((T.map rawP).map strP))]) (μ₂ := [(a, .l ((if allP p = true then T.map rawP ++ [rawP p] else T.map rawP).map strP))]) F6 rfl (by kernel_rfl) (Ev.name ok (by rfl)) (ev_fst (Ev.name ok (by rfl)) (ev_litN 0)) (ev_snd (Ev.name ok (by rfl)) (ev_litN 1)) (Ev.name ok (by rfl)) (by rfl) fun s7 F7 => isTrue_or_nil (wpAny_execs_nil ?_))
 cases e : allP p with
 | true =>
  rw [e] at F7
  refine wpAny_execs_cons (st_if F7 (b := true) (Tv.bool (Ev.name ok (by rfl))) (fun _ s8 F8 => ?_) (fun h => by cases h))
  obtain ⟨g1, g2⟩ := po.good e
  obtain ⟨o1, o2⟩ := one e
  refine turn_good (s₁ := s₁) (W₀ := W₀) (Md := Md) (W := W) (script := script) (a := a) (b := b) (r := r) (f := f) room ok hA hT po o1 o2 g1 g2 (T := T) ?_ fun s9 F9 => wpAny_execs_nil (h s9 ?_)
  ·have e1 : (T ++ [p]).map foldP = T.map foldP ++ [foldP p] := by rw [List.map_append]; rfl
   have e2 : (T ++ [p]).map rawP = T.map rawP ++ [rawP p] := by rw [List.map_append]; rfl
   rw [e1, e2]
   exact F8
  ·rw [e, if_pos rfl]; exact F9
 | false =>
  rw [e] at F7
  refine wpAny_execs_cons (st_if F7 (b := false) (Tv.bool (Ev.name ok (by rfl))) (fun h => by cases h) (fun _ s8 F8 => wpAny_execs_nil (wpAny_execs_nil (h s8 (Fr.cut [("allowed", .val (.bool false)), ("made", strP (foldP p)), ("raw", strP (rawP p)), ("fold", strP (foldP p)), ("pair", pairD p)] ?_ (fun q hq => ?_))))))
  ·rw [e]; exact F8
  ·simp only [List.mem_cons, List.not_mem_nil, or_false] at hq
   rcases hq with rfl | rfl | rfl | rfl | rfl <;> rfl
theorem law_tail (room : Room A (n + 9)) (ok : EnvOk (lwE L)) (hA : A.frames = some [lwE L]) (o1 : ListOk (T.map rawP)) (o2 : ListOk (T.map foldP)) (pk : PrepOk w (tabS (T.map rawP))) (he : prepS w (tabS (T.map rawP)) = tabS (T.map foldP)) (hk : PyData.strOk (tabS (T.map foldP)) = true)
  (F : Fr (CL w) s₁ W₀ (fun _ => False) W (lwE L) (lwS a b r f script) (lwM a b r f T) s₂)
  (h : ∀ v s' W', Fr (CL w) s₁ W₀ (fun _ => False) W' (lwE L) [("raws", .lst ((T.map rawP).map strP)), ("folds", .lst ((T.map foldP).map strP)), ("plain", tabD (T.map rawP)), ("ready", tabD (T.map foldP)), ("script", .lst (script.map .int))] [] s' → Rd W' s'.heap v (.val (.bool true)) → Q (.ret v) s') : wpAny (CL w).M A (execs ((sBody (stAt 23)).drop 3) (lwE L)) Q E s₂ := by
 have F0 := F.freezeAll (fun a o h => ((F.own a o h).2.1).elim False.elim id) (σ' := [("raws", .lst ((T.map rawP).map strP)), ("folds", .lst ((T.map foldP).map strP)), ("plain", tabD (T.map rawP)), ("ready", tabD (T.map foldP)), ("script", .lst (script.map .int))])
  (.cons (.lst (by unfold lwM; simp only [List.mem_cons, true_or, or_true]) (ResL.same _)) (.cons (.lst (by unfold lwM; simp only [List.mem_cons, true_or, or_true]) (ResL.same _)) (.cons (.fld (.lst (by unfold lwM; simp only [List.mem_cons, true_or, or_true]) (ResL.same _))) (.cons (.fld (.lst (by unfold lwM; simp only [List.mem_cons, true_or, or_true]) (ResL.same _))) (.cons (.same _) .nil)))))
 have z1 := o1.tab.size
 have z2 := o2.tab.size
 refine wpAny_execs_cons (st_if F0 (b := false) (Tv.or2 (a := false) (b := false) (tv_ne room (Ev.meth (kls w) (Ev.name ok (by rfl)) (mH_items w) (fn_m_items w) (cf_m_items w) (by rfl) obj_items (by rfl) (by rfl) EvA.none (pf_items w (n := n + 5) room _ (by omega))) (Ev.name ok (by rfl)) rfl o1.ok) fun _ => tv_ne room (Ev.meth (kls w) (Ev.name ok (by rfl)) (mH_items w) (fn_m_items w) (cf_m_items w) (by rfl) obj_items (by rfl) (by rfl) EvA.none (pf_items w (n := n + 5) room _ (by omega))) (Ev.name ok (by rfl)) rfl o2.ok) (fun h => by cases h) (fun _ s3 F3 => wpAny_execs_nil ?_))
 refine wpAny_execs_cons (wpAny_If (isTrue_or (law_octT (n := n) room ok rfl hA o1.tab o1.size o1.due o1.eq F3 (by kernel_rfl) (by kernel_rfl) (Ev.name ok (by rfl)) (Ev.name ok (by rfl)) (by rfl) (by rfl) fun s4 F4 => ?_)))
 refine isTrue_or (law_octT (n := n) room ok rfl hA o2.tab o2.size o2.due o2.eq F4 (by kernel_rfl) (by kernel_rfl) (Ev.name ok (by rfl)) (Ev.name ok (by rfl)) (by rfl) (by rfl) fun s5 F5 => isTrue_or_nil (wpAny_execs_nil ?_))
 have hu : A.in1.in1.units < 9900 := by have := room.in1.in1.units; omega
 refine wpAny_execs_cons (st_return F5 (d := .val (.bool true)) ?_ fun v s6 F6 r => h v s6 _ F6 r)
 refine ev_eq room (d := .str (prepS w (tabS (T.map rawP)))) (e := .str (tabS (T.map foldP))) ?_ ?_ (congrArg D.str he) (by rw [he, okD]; exact hk)
 ·refine Ev.call (Ev.glob ok (by rfl) (.inl (mg__law_prepare w))) (fn__law_prepare w) (EvA.plain (EvL.c ?_ EvL.nil)) (pf_prepare w (n := n + 5) room _ pk)
  exact Ev.strOwn (kls w) (Ev.glob ok (by rfl) (.inr (mb_str w))) (Ev.name ok (by rfl)) (by rfl) (mH___str__ w) (fn_m___str__ w) (cf_m___str__ w) hu (pf_str w room.in1.in1 _ o1.tab)
 ·exact Ev.strOwn (kls w) (Ev.glob ok (by rfl) (.inr (mb_str w))) (Ev.name ok (by rfl)) (by rfl) (mH___str__ w) (fn_m___str__ w) (cf_m___str__ w) hu (pf_str w room.in1.in1 _ o2.tab)
end
theorem pf_law (w : World) {A : Around} {n : Nat} (hA0 : A.frames = some []) (room : Room A (n + 10)) (script : List Int) (hsc : script.length ≤ 1000) (lo : LawOk w (pairsB script)) : Pf (CL w) A 314 [.lst (script.map .int)] [] (.val (.bool true)) := by
 intro W s E vs kvs base tok wo rl br
 cases br
 cases rl with
 | cons r1 rl =>
 cases rl
 refine enter (W₀ := W) (Md := fun _ => False) (μ := []) (σ := [("script", .lst (script.map .int))]) room (fn_law w) base tok wo (fun a h => h.elim) (binds := [("script", _)]) (.of_eq rfl) (fun L x hx => ?_) (by simp) (.cons r1 .nil) (fun a l h => nomatch h) (by simp) fun L W' s' E' _ _ ok F => ?_
 ·simp only [List.mem_singleton] at hx; subst hx; exact .inl (by kernel_rfl)
 ·have room' := room.deeper (lwE L)
  have hA : (A.deeper (lwE L)).frames = some [lwE L] := Around.frames_deeper hA0
  have hlen := lo.len
  refine wpAny_execs_cons (st_tabsO (n := n + 4) room' ok F (.inl (by kernel_rfl)) (.inl (by kernel_rfl)) (Ev.glob ok (by rfl) (.inl (mg_Headers w))) (Ev.glob ok (by rfl) (.inl (mg_Headers w))) (by rfl) fun a b s1 W1 F1 => ?_)
  refine wpAny_execs_cons (st_listsO room'.hh ok F1 (.inl (by kernel_rfl)) (.inl (by kernel_rfl)) (by rfl) fun r f s2 W2 F2 => ?_)
  refine wpAny_execs_cons (st_forI (l := (pairsB script).map pairD) room'.hh ok F2 (Ev.call (Ev.glob ok (by rfl) (.inl (mg__law_pairs w))) (fn__law_pairs w) (EvA.plain (EvL.c (Ev.name ok (by rfl)) EvL.nil)) (pf_pairs w (n := n + 3) room' script hsc)) (Itr.lst room'.hh)
   (fun i σ μ => σ = lwS a b r f script ∧ μ = lwM a b r f (((pairsB script).take i).filter allP)) ⟨rfl, rfl⟩ (fun _ _ _ _ => False)
   (fun i d σ₁ μ₁ hd hinv => ?_) (fun i σ₂ μ₂ d v s' W' _ hf => hf.elim) (fun σ₂ μ₂ s4 W4 hinv F4 => ?_))
  ·obtain ⟨rfl, rfl⟩ := hinv
   rw [List.getElem?_map] at hd
   obtain ⟨p, hp, rfl⟩ := Option.map_eq_some_iff.mp hd
   have pm := List.mem_of_getElem? hp
   refine ⟨_, .name (.inl (by kernel_rfl)), fun sa sb Wa Wb Ma E' Fa => ?_⟩
   have hT : (((pairsB script).take i).filter allP).length ≤ 1000 := Nat.le_trans (List.length_filter_le _ _) (Nat.le_trans (by rw [List.length_take]; exact Nat.min_le_right _ _) hlen)
   have ne : ((pairsB script).take (i + 1)).filter allP = if allP p = true then ((pairsB script).take i).filter allP ++ [p] else ((pairsB script).take i).filter allP := by
    rw [take_one hp, List.filter_append]
    cases e : allP p <;> simp [List.filter_cons, e]
   refine law_turn (n := n) room' ok hA hT (lo.pair p pm) (lo.one p pm) Fa fun s5 F5 => ?_
   refine ⟨_, _, _, ⟨rfl, ?_⟩, F5⟩
   rw [ne]
  ·obtain ⟨rfl, rfl⟩ := hinv
   rw [List.length_map, List.take_length] at F4
   exact law_tail (n := n) room' ok hA lo.raws lo.folds lo.prep lo.prepEq lo.okS F4 fun v s5 W5 F5 r => ⟨F5.up.kt, r.less F5.w0⟩
noncomputable def cl (x : Str) : List Nat := x.cps.toList
theorem cl_inj {x y : Str} (h : cl x = cl y) : x = y := Str.ext' (Array.toList_inj.mp h)
theorem cl_app (a b : Str) : cl (a ++ b) = cl a ++ cl b := by unfold cl; rw [Str.cps_append, Array.toList_append]
theorem cl_len (x : Str) : (cl x).length = x.length := by unfold cl; rw [Array.length_toList]; rfl
theorem cl_emp : cl "" = [] := by decide +kernel
noncomputable def glue (s : List Nat) : List (List Nat) → List Nat
 | [] => []
 | [x] => x
 | x :: y :: r => x ++ s ++ glue s (y :: r)
theorem cl_join (s : Str) : ∀ xs : List Str, cl (Txt.join s xs) = glue (cl s) (xs.map cl) := fun xs => by
 have e : Txt.join s xs = Str.join s xs := StrLaws.glued_eq_join s xs
 rw [e]
 induction xs with
 | nil => rfl
 | cons x r ih =>
  cases r with
  | nil => rfl
  | cons y r =>
   show cl (x ++ s ++ Str.join s (y :: r)) = cl x ++ cl s ++ glue (cl s) ((y :: r).map cl)
   rw [cl_app, cl_app, ← ih (StrLaws.glued_eq_join s (y :: r))]
theorem glue_nil : ∀ xs : List (List Nat), glue [] xs = xs.flatMap id
 | [] => rfl
 | [x] => by simp [glue]
 | x :: y :: r => by
  have := glue_nil (y :: r)
  rw [List.flatMap_cons, ← this]
  simp [glue]
theorem cl_join0 (xs : List Str) : cl (Txt.join "" xs) = xs.flatMap cl := by
 rw [cl_join, cl_emp, glue_nil, List.flatMap_map]; rfl
theorem flat_glue (f : Nat → List Nat) (s : List Nat) : ∀ xs : List (List Nat), (glue s xs).flatMap f = glue (s.flatMap f) (xs.map fun x => x.flatMap f)
 | [] => rfl
 | [x] => rfl
 | x :: y :: r => by
  have := flat_glue f s (y :: r)
  show (x ++ s ++ glue s (y :: r)).flatMap f = x.flatMap f ++ s.flatMap f ++ glue (s.flatMap f) ((y :: r).map fun x => x.flatMap f)
  rw [← this, List.flatMap_append, List.flatMap_append]
noncomputable def swap (c : Nat) (z : List Nat) (k : Nat) : List Nat := if k = c then z else [k]
theorem swap_free (c : Nat) (z : List Nat) : ∀ l : List Nat, c ∉ l → l.flatMap (swap c z) = l
 | [], _ => rfl
 | k :: r, h => by
  rw [List.flatMap_cons, swap_free c z r fun m => h (List.mem_cons_of_mem _ m)]
  unfold swap
  rw [if_neg fun e : k = c => h (by rw [e]; exact List.mem_cons_self ..)]; rfl
theorem glue_swap (c : Nat) (z : List Nat) : ∀ xs : List (List Nat), (∀ p ∈ xs, c ∉ p) → (glue [c] xs).flatMap (swap c z) = glue z xs := fun xs h => by
 rw [flat_glue]
 have e1 : [c].flatMap (swap c z) = z := by simp [swap]
 rw [e1]
 have : xs.map (fun x => x.flatMap (swap c z)) = xs := by
  have := List.map_congr_left (f := fun x => x.flatMap (swap c z)) (g := id) (l := xs) fun x hx => swap_free c z x (h x hx)
  rw [this, List.map_id]
 rw [this]
theorem cl_replace (x z : Str) (c : Nat) : cl (Txt.replace x ⟨#[c]⟩ z) = (cl x).flatMap (swap c (cl z)) := by
 have hj : ∀ s : Str, ∀ xs : List Str, cl (Str.join s xs) = glue (cl s) (xs.map cl) := fun s xs => by
  rw [← cl_join, ← StrLaws.glued_eq_join]; rfl
 rw [StrLaws.replace_one, hj, ← glue_swap c (cl z) ((Txt.split x ⟨#[c]⟩).map cl) fun p hp => by
  obtain ⟨q, hq, rfl⟩ := List.mem_map.mp hp
  exact StrLaws.split_free x c q hq]
 have := hj ⟨#[c]⟩ (Txt.split x ⟨#[c]⟩)
 rw [StrLaws.join_split] at this
 rw [this]; rfl
theorem cl_prep (w : World) (x : Str) : cl (prepS w x) = (cl x).flatMap fun (k : Nat) => if inB1 w k then [] else cl (foldC k) := by
 unfold prepS
 rw [cl_join0, List.flatMap_map]
 show ((cl x).filter fun (k : Nat) => !(inB1 w k)).flatMap (fun k => cl (foldC k)) = _
 induction cl x with
 | nil => rfl
 | cons k r ih =>
  rw [List.flatMap_cons, ← ih]
  cases h : inB1 w (k : Nat) with
  | true => rw [List.filter_cons_of_neg (by rw [h]; decide)]; rfl
  | false => rw [List.filter_cons_of_pos (by rw [h]; rfl)]; rfl
noncomputable def b1O : List Int := [65024, 65025, 65026, 65027, 65028, 65029, 6150, 65030, 65031, 65032, 65033, 6155, 6156, 6157, 8203, 8204, 8205, 65034, 65035, 65036, 65037, 65038, 65039, 173, 847, 8288, 65279]
noncomputable def b1K (k : Nat) : Bool := b1O.any fun i => Value.isInt (k : Int) (.int i 0)
theorem inB1_eq (w : World) (k : Nat) : inB1 w k = b1K k := by kernel_rfl
noncomputable def p1 (k : Nat) : List Nat := if b1K k = true then [] else cl (foldC k)
theorem cl_prep1 (w : World) (x : Str) : cl (prepS w x) = (cl x).flatMap p1 := by
 rw [cl_prep]
 have : (fun (k : Nat) => if inB1 w k then [] else cl (foldC k)) = p1 := by
  funext k
  rw [inB1_eq]; rfl
 rw [this]
noncomputable def okC (k : Nat) : Bool := decide (k < 0x110000) && (!Builtin.Str.tooLong (Txt.lower ⟨#[k]⟩).length && decide ((cl (foldC k)).length ≤ 3))
structure Tz (N : Nat) (x : Str) : Prop where
 len : x.length ≤ N
 ok : ∀ k ∈ cl x, okC k = true
theorem Tz.mono {N M : Nat} {x : Str} (h : Tz N x) (k : N ≤ M) : Tz M x := ⟨Nat.le_trans h.len k, h.ok⟩
theorem Tz.app {N M : Nat} {x y : Str} (h : Tz N x) (k : Tz M y) : Tz (N + M) (x ++ y) := by
 refine ⟨?_, fun c hc => ?_⟩
 ·rw [Str.length_append]; have := h.len; have := k.len; omega
 ·rw [cl_app] at hc
  exact (List.mem_append.mp hc).elim (h.ok c) (k.ok c)
theorem Tz.of {N : Nat} {x : Str} (h : ((cl x).all okC && decide (x.length ≤ N)) = true) : Tz N x := by
 rw [Bool.and_eq_true] at h
 exact ⟨of_decide_eq_true h.2, List.all_eq_true.mp h.1⟩
theorem glue_len {b : Nat} (s : List Nat) : ∀ xs : List (List Nat), (∀ x ∈ xs, x.length ≤ b) → (glue s xs).length ≤ xs.length * (b + s.length)
 | [], _ => by simp [glue]
 | [x], h => by
  have := h x (List.mem_cons_self ..)
  show x.length ≤ 1 * (b + s.length)
  omega
 | x :: y :: r, h => by
  have h1 := h x (List.mem_cons_self ..)
  have h2 := glue_len s (y :: r) fun z hz => h z (List.mem_cons_of_mem _ hz)
  show (x ++ s ++ glue s (y :: r)).length ≤ (y :: r).length.succ * (b + s.length)
  rw [List.length_append, List.length_append, Nat.succ_mul]
  omega
theorem glue_mem {s : List Nat} {k : Nat} : ∀ {xs : List (List Nat)}, k ∈ glue s xs → k ∈ s ∨ ∃ x ∈ xs, k ∈ x
 | [], h => nomatch h
 | [x], h => .inr ⟨x, List.mem_cons_self .., h⟩
 | x :: y :: r, h => by
  have h' : k ∈ x ++ s ++ glue s (y :: r) := h
  rw [List.mem_append, List.mem_append] at h'
  rcases h' with (q | q) | q
  ·exact .inr ⟨x, List.mem_cons_self .., q⟩
  ·exact .inl q
  ·rcases glue_mem q with q | ⟨z, hz, q⟩
   ·exact .inl q
   ·exact .inr ⟨z, List.mem_cons_of_mem _ hz, q⟩
theorem Tz.join {N S : Nat} {s : Str} {xs : List Str} (hs : Tz S s) (h : ∀ x ∈ xs, Tz N x) : Tz (xs.length * (N + S)) (Txt.join s xs) := by
 refine ⟨?_, fun c hc => ?_⟩
 ·rw [← cl_len, cl_join]
  have h1 := glue_len (b := N) (cl s) (xs.map cl) fun y hy => by
   obtain ⟨x, hx, rfl⟩ := List.mem_map.mp hy
   rw [cl_len]; exact (h x hx).len
  rw [List.length_map] at h1
  refine Nat.le_trans h1 (Nat.mul_le_mul_left _ ?_)
  rw [cl_len]; have := hs.len; omega
 ·rw [cl_join] at hc
  rcases glue_mem hc with q | ⟨y, hy, q⟩
  ·exact hs.ok c q
  ·obtain ⟨x, hx, rfl⟩ := List.mem_map.mp hy
   exact (h x hx).ok c q
theorem okC_lt {k : Nat} (h : okC k = true) : k < 0x110000 := by
 unfold okC at h
 rw [Bool.and_eq_true] at h
 exact of_decide_eq_true h.1
theorem okC_fit {k : Nat} (h : okC k = true) : Builtin.Str.tooLong (Txt.lower ⟨#[k]⟩).length = false ∧ (foldC k).length ≤ 3 := by
 unfold okC at h
 rw [Bool.and_eq_true, Bool.and_eq_true] at h
 refine ⟨by simpa using h.2.1, ?_⟩
 have := of_decide_eq_true h.2.2
 rwa [cl_len] at this
theorem Tz.str {N : Nat} {x : Str} (h : Tz N x) : PyData.strOk x = true := by
 unfold PyData.strOk
 rw [Array.all_eq_true_iff_forall_mem]
 exact fun k hk => decide_eq_true (okC_lt (h.ok k (Array.mem_toList_iff.mpr hk)))
theorem joinB {sep : Str} {xs : List Str} {B : Nat} (hB : ∀ y ∈ xs, y.length ≤ B) (h : xs.length * (B + sep.length) ≤ 16777216) : JoinOk sep xs = true := by
 have := StrLaws.joinFits (sep := sep) hB (by rw [← Nat.mul_add]; exact h)
 unfold JoinOk
 rw [this]; rfl
theorem Tz.prepOk {N : Nat} {x : Str} (w : World) (h : Tz N x) (hN : N ≤ 100000) : PrepOk w x := by
 have hl := h.len
 refine ⟨fun k hk => (okC_fit (h.ok k hk)).1, ?_, ?_⟩
 ·refine joinB (B := 3) (fun y hy => ?_) ?_
  ·obtain ⟨k, hk, rfl⟩ := List.mem_map.mp hy
   exact (okC_fit (h.ok k (List.mem_filter.mp hk).1)).2
  ·rw [List.length_map]
   have h1 := List.length_filter_le (fun (k : Nat) => !(inB1 w k)) x.cps.toList
   have h2 : x.cps.toList.length = x.length := cl_len x
   have : ("" : Str).length = 0 := by decide +kernel
   rw [this]; omega
 ·have : x.cps.size = x.length := rfl
  omega
noncomputable def sgB (c : Nat) (f : List Nat) : Bool := okC c && ((p1 c == f) && (decide (f.length ≤ 3) && (f.all okC && (if steerC c = true then f == [c] else !f.any steerC))))
theorem se : ∀ p < 223, sgB (codeE p) (cl (westS (codeE p))) = true := by decide +kernel
theorem so0 : ∀ s ∈ styles, ∀ j < 26, sgB (119808 + 52 * s + j) [97 + j] = true := by decide +kernel
theorem so1 : ∀ j < 27, sgB (if j < 11 then unseens.getD j 0 else 65013 + j) [] = true := by decide +kernel
theorem so2 : sgB 181 [956] = true := by decide +kernel
theorem so3 : ∀ j < 32, sgB (1040 + j) [1072 + j] = true := by decide +kernel
theorem so4 : ∀ j < 7, sgB (64256 + j) (cl (lig7.getD j "")) = true := by decide +kernel
theorem so5 : ∀ j < 3, sgB (lone.getD j 0) (cl (lowl.getD j "")) = true := by decide +kernel
theorem so6 : ∀ j < 33, sgB (if j < 32 then j else 127) [if j < 32 then j else 127] = true := by decide +kernel
theorem so7 : sgB 9 [9] = true := by decide +kernel
theorem sty_at (j : Nat) (h : j < 10) : styles.getD j 0 ∈ styles := by
 have : ∀ j < 10, styles.getD j 0 ∈ styles := by decide
 exact this j h
noncomputable def SignOk (q : SP) : Prop := ∃ c, cl q.1 = [c] ∧ sgB c (cl q.2) = true
theorem sg_odd (k r : Nat) : SignOk (oddOf k r) := by
 unfold oddOf
 by_cases h0 : k = 0
 ·rw [if_pos h0]; exact ⟨_, rfl, so0 _ (sty_at _ (Nat.mod_lt _ (by decide))) _ (Nat.mod_lt _ (by decide))⟩
 rw [if_neg h0]
 by_cases h1 : k = 1
 ·rw [if_pos h1]; exact ⟨_, rfl, by show sgB _ (cl "") = true; rw [cl_emp]; exact so1 _ (Nat.mod_lt _ (by decide))⟩
 rw [if_neg h1]
 by_cases h2 : k = 2
 ·rw [if_pos h2]; exact ⟨_, rfl, so2⟩
 rw [if_neg h2]
 by_cases h3 : k = 3
 ·rw [if_pos h3]; exact ⟨_, rfl, so3 _ (Nat.mod_lt _ (by decide))⟩
 rw [if_neg h3]
 by_cases h4 : k = 4
 ·rw [if_pos h4]; exact ⟨_, rfl, so4 _ (Nat.mod_lt _ (by decide))⟩
 rw [if_neg h4]
 by_cases h5 : k = 5
 ·rw [if_pos h5]; exact ⟨_, rfl, so5 _ (Nat.mod_lt _ (by decide))⟩
 rw [if_neg h5]
 refine ⟨_, rfl, ?_⟩
 show sgB (codeC k r) [codeC k r] = true
 unfold codeC
 by_cases h6 : k = 6
 ·rw [if_pos h6]; exact so7
 rw [if_neg h6]
 exact so6 _ (Nat.mod_lt _ (by decide))
theorem sg_sign (n : Int) : SignOk (signB n) := by
 unfold signB
 split
 ·exact ⟨_, rfl, se _ (pB_lt n)⟩
 ·exact sg_odd _ _
theorem sg_parts {c : Nat} {f : List Nat} (h : sgB c f = true) : okC c = true ∧ p1 c = f ∧ f.length ≤ 3 ∧ (∀ k ∈ f, okC k = true) ∧ (steerC c = true → f = [c]) ∧ (steerC c = false → ∀ k ∈ f, steerC k = false) := by
 unfold sgB at h
 simp only [Bool.and_eq_true, decide_eq_true_eq, List.all_eq_true] at h
 obtain ⟨h1, h2, h3, h4, h5⟩ := h
 refine ⟨h1, eq_of_beq h2, h3, h4, fun e => ?_, fun e k hk => ?_⟩
 ·rw [if_pos e] at h5; exact eq_of_beq h5
 ·rw [if_neg (by rw [e]; decide)] at h5
  simp only [Bool.not_eq_true', List.any_eq_false] at h5
  exact Bool.eq_false_iff.mpr (h5 k hk)
structure TxtOk (l : List SP) : Prop where
 ok : ∀ q ∈ l, SignOk q
 len : l.length ≤ 16
noncomputable def rawX (l : List SP) : Str := joinE (l.map (pickS 0))
noncomputable def foldX (l : List SP) : Str := joinE (l.map (pickS 1))
theorem cl_rawX (l : List SP) : cl (rawX l) = l.flatMap fun q => cl q.1 := by unfold rawX joinE; rw [cl_join0, List.flatMap_map]; rfl
theorem cl_foldX (l : List SP) : cl (foldX l) = l.flatMap fun q => cl q.2 := by unfold foldX joinE; rw [cl_join0, List.flatMap_map]; rfl
theorem fold_raw {l : List SP} (h : ∀ q ∈ l, SignOk q) : (cl (rawX l)).flatMap p1 = cl (foldX l) := by
 rw [cl_rawX, cl_foldX]
 induction l with
 | nil => rfl
 | cons q l ih =>
  obtain ⟨c, e, hs⟩ := h q (List.mem_cons_self ..)
  rw [List.flatMap_cons, List.flatMap_cons, List.flatMap_append, ih fun x hx => h x (List.mem_cons_of_mem _ hx), e, ← (sg_parts hs).2.1]
  simp
theorem flat_le {α : Type} {f : α → List Nat} {b : Nat} : ∀ {l : List α}, (∀ q ∈ l, (f q).length ≤ b) → (l.flatMap f).length ≤ l.length * b
 | [], _ => by simp
 | q :: l, h => by
  have h1 := h q (List.mem_cons_self ..)
  have h2 := flat_le (l := l) fun x hx => h x (List.mem_cons_of_mem _ hx)
  rw [List.flatMap_cons, List.length_append, List.length_cons, Nat.succ_mul]
  omega
theorem tz_raw {l : List SP} (h : TxtOk l) : Tz 16 (rawX l) := by
 refine ⟨?_, fun k hk => ?_⟩
 ·rw [← cl_len, cl_rawX]
  have := flat_le (l := l) (f := fun q => cl q.1) (b := 1) fun q hq => by
   obtain ⟨c, e, _⟩ := h.ok q hq
   show (cl q.1).length ≤ 1
   rw [e]; exact Nat.le_refl 1
  have := h.len
  omega
 ·rw [cl_rawX] at hk
  obtain ⟨q, hq, hk⟩ := List.mem_flatMap.mp hk
  obtain ⟨c, e, hs⟩ := h.ok q hq
  rw [e, List.mem_singleton] at hk
  rw [hk]; exact (sg_parts hs).1
theorem tz_fold {l : List SP} (h : TxtOk l) : Tz 48 (foldX l) := by
 refine ⟨?_, fun k hk => ?_⟩
 ·rw [← cl_len, cl_foldX]
  have := flat_le (l := l) (f := fun q => cl q.2) (b := 3) fun q hq => by
   obtain ⟨c, e, hs⟩ := h.ok q hq
   exact (sg_parts hs).2.2.1
  have := h.len
  omega
 ·rw [cl_foldX] at hk
  obtain ⟨q, hq, hk⟩ := List.mem_flatMap.mp hk
  obtain ⟨c, e, hs⟩ := h.ok q hq
  exact (sg_parts hs).2.2.2.1 k hk
theorem steer_iff {l : List SP} (h : ∀ q ∈ l, SignOk q) {k : Nat} (hk : steerC k = true) : k ∈ cl (rawX l) ↔ k ∈ cl (foldX l) := by
 rw [cl_rawX, cl_foldX, List.mem_flatMap, List.mem_flatMap]
 constructor
 ·rintro ⟨q, hq, hm⟩
  obtain ⟨c, e, hs⟩ := h q hq
  rw [e, List.mem_singleton] at hm
  subst hm
  exact ⟨q, hq, by rw [(sg_parts hs).2.2.2.2.1 hk]; exact List.mem_cons_self ..⟩
 ·rintro ⟨q, hq, hm⟩
  obtain ⟨c, e, hs⟩ := h q hq
  refine ⟨q, hq, ?_⟩
  cases hc : steerC c with
  | true => rw [(sg_parts hs).2.2.2.2.1 hc, List.mem_singleton] at hm; rw [hm, e]; exact List.mem_cons_self ..
  | false =>
   have := (sg_parts hs).2.2.2.2.2 hc k hm
   rw [hk] at this; cases this
noncomputable def NmB (x : Str) : Prop := ∀ k ∈ cl x, steerC k = false
noncomputable def VlB (x : Str) : Prop := ∀ k ∈ cl x, k ≠ 9 → steerC k = false
theorem nm_iff {l : List SP} (h : ∀ q ∈ l, SignOk q) : NmB (rawX l) ↔ NmB (foldX l) := by
 constructor
 ·intro n k hk
  cases hs : steerC k with
  | false => rfl
  | true => have := n k ((steer_iff h hs).mpr hk); rw [hs] at this; exact this
 ·intro n k hk
  cases hs : steerC k with
  | false => rfl
  | true => have := n k ((steer_iff h hs).mp hk); rw [hs] at this; exact this
theorem vl_iff {l : List SP} (h : ∀ q ∈ l, SignOk q) : VlB (rawX l) ↔ VlB (foldX l) := by
 constructor
 ·intro n k hk h9
  cases hs : steerC k with
  | false => rfl
  | true => have := n k ((steer_iff h hs).mpr hk) h9; rw [hs] at this; exact this
 ·intro n k hk h9
  cases hs : steerC k with
  | false => rfl
  | true => have := n k ((steer_iff h hs).mp hk) h9; rw [hs] at this; exact this
theorem steer_no {k : Nat} (h : steerC k = false) : 31 < k ∧ k ≠ 127 := by
 unfold steerC at h
 simp only [Bool.or_eq_false_iff, decide_eq_false_iff_not] at h
 omega
theorem steer_yes {k : Nat} (h : steerC k = true) : ¬ (31 < k ∧ k ≠ 127) := by
 unfold steerC at h
 simp only [Bool.or_eq_true, decide_eq_true_eq] at h
 omega
theorem good_nm {x : Str} {N : Nat} (t : Tz N x) (hN : N ≤ 1000000) (h : NmB x) : GoodB true x := ⟨fun k hk => .inl (steer_no (h k hk)), Nat.le_trans t.len hN⟩
theorem good_vl {x : Str} {N : Nat} (t : Tz N x) (hN : N ≤ 1000000) (h : VlB x) : GoodB false x := ⟨fun k hk => by
 by_cases h9 : k = 9
 ·exact .inr ⟨rfl, h9⟩
 ·exact .inl (steer_no (h k hk h9)), Nat.le_trans t.len hN⟩
theorem bad_nm {x : Str} {N : Nat} (t : Tz N x) (hN : N ≤ 1000000) (h : ¬ NmB x) : BadB true x := by
 refine ⟨?_, Nat.le_trans t.len hN⟩
 apply Classical.byContradiction
 intro q
 refine h fun k hk => ?_
 cases hs : steerC k with
 | false => rfl
 | true => exact (q ⟨k, hk, fun z => z.elim (steer_yes hs) fun z => by cases z.1⟩).elim
theorem bad_vl {x : Str} {N : Nat} (t : Tz N x) (hN : N ≤ 1000000) (h : ¬ VlB x) : BadB false x := by
 refine ⟨?_, Nat.le_trans t.len hN⟩
 apply Classical.byContradiction
 intro q
 refine h fun k hk h9 => ?_
 cases hs : steerC k with
 | false => rfl
 | true => exact (q ⟨k, hk, fun z => z.elim (steer_yes hs) fun z => h9 z.2⟩).elim
theorem badP_of {q : SP} {N M : Nat} (t : Tz N q.1) (u : Tz M q.2) (hN : N ≤ 1000000) (hM : M ≤ 1000000) (h : ¬ (NmB q.1 ∧ VlB q.2)) : BadP q := by
 by_cases hv : VlB q.2
 ·exact .inr ⟨good_vl u hM hv, bad_nm t hN fun hn => h ⟨hn, hv⟩⟩
 ·exact .inl (bad_vl u hM hv)
theorem mem_strike {x : Str} {k : Nat} : k ∈ cl (strike x) ↔ k ∈ cl x ∧ k ≠ 9 := by
 have e : cl (strike x) = (cl x).flatMap (swap 9 (cl "")) := cl_replace x "" 9
 rw [e, cl_emp, List.mem_flatMap]
 constructor
 ·rintro ⟨j, hj, hk⟩
  unfold swap at hk
  by_cases h9 : j = 9
  ·rw [if_pos h9] at hk; cases hk
  ·rw [if_neg h9, List.mem_singleton] at hk; subst hk; exact ⟨hj, h9⟩
 ·rintro ⟨hk, h9⟩
  exact ⟨k, hk, by unfold swap; rw [if_neg h9]; exact List.mem_cons_self ..⟩
theorem allow_iff (x y : Str) : allowS x y = true ↔ NmB x ∧ VlB y := by
 unfold allowS
 rw [List.isEmpty_iff, List.filter_eq_nil_iff]
 show (∀ k ∈ cl (x ++ strike y), ¬ steerC k = true) ↔ _
 rw [cl_app]
 constructor
 ·intro h
  refine ⟨fun k hk => Bool.eq_false_iff.mpr (h k (List.mem_append_left _ hk)), fun k hk h9 => Bool.eq_false_iff.mpr (h k (List.mem_append_right _ (mem_strike.mpr ⟨hk, h9⟩)))⟩
 ·rintro ⟨h1, h2⟩ k hk
  rcases List.mem_append.mp hk with q | q
  ·rw [h1 k q]; decide
  ·obtain ⟨q1, q2⟩ := mem_strike.mp q
   rw [h2 k q1 q2]; decide
theorem tz_strike {x : Str} {N : Nat} (t : Tz N x) : Tz N (strike x) := by
 refine ⟨?_, fun k hk => t.ok k (mem_strike.mp hk).1⟩
 have e : cl (strike x) = (cl x).flatMap (swap 9 (cl "")) := cl_replace x "" 9
 rw [← cl_len, e, cl_emp]
 have := flat_le (l := cl x) (f := swap 9 []) (b := 1) fun q _ => by unfold swap; split <;> simp
 rw [cl_len] at this
 have := t.len
 omega
noncomputable def InvT (m : Nat) (acc : List (List SP) × List SP) : Prop := (∀ x ∈ acc.1, (∀ q ∈ x, SignOk q) ∧ x.length ≤ m) ∧ (∀ q ∈ acc.2, SignOk q) ∧ acc.2.length ≤ m
theorem inv_fold : ∀ (l : List Int) (m : Nat) (acc : List (List SP) × List SP), InvT m acc → InvT (m + l.length) (l.foldl stepT acc)
 | [], m, acc, h => h
 | n :: l, m, acc, h => by
  rw [List.foldl_cons, List.length_cons, show m + (l.length + 1) = (m + 1) + l.length by omega]
  refine inv_fold l (m + 1) _ ?_
  obtain ⟨h1, h2, h3⟩ := h
  unfold stepT
  split
  ·refine ⟨fun x hx => ?_, fun q hq => (nomatch hq), Nat.zero_le _⟩
   rcases List.mem_append.mp hx with hx | hx
   ·exact ⟨(h1 x hx).1, Nat.le_succ_of_le (h1 x hx).2⟩
   ·rw [List.mem_singleton] at hx; subst hx; exact ⟨h2, Nat.le_succ_of_le h3⟩
  ·refine ⟨fun x hx => ⟨(h1 x hx).1, Nat.le_succ_of_le (h1 x hx).2⟩, fun q hq => ?_, ?_⟩
   ·rcases List.mem_append.mp hq with hq | hq
    ·exact h2 q hq
    ·rw [List.mem_singleton] at hq; subst hq; exact sg_sign n
   ·rw [List.length_append]; exact Nat.succ_le_succ h3
theorem read_ok (script : List Int) : ∀ x ∈ readT script, TxtOk x := fun x hx => by
 have h := inv_fold (script.take 16) 0 ([], []) ⟨fun x hx => (nomatch hx), fun q hq => (nomatch hq), Nat.le_refl _⟩
 have hl : 0 + (script.take 16).length ≤ 16 := by rw [List.length_take]; omega
 obtain ⟨h1, h2, h3⟩ := h
 unfold readT at hx
 rcases List.mem_append.mp hx with hx | hx
 ·exact ⟨(h1 x hx).1, Nat.le_trans (h1 x hx).2 hl⟩
 ·rw [List.mem_singleton] at hx; subst hx; exact ⟨h2, Nat.le_trans h3 hl⟩
theorem even_ok (script : List Int) : ∀ x ∈ evenT (readT script), TxtOk x := fun x hx => by
 unfold evenT at hx
 split at hx
 ·rcases List.mem_append.mp hx with hx | hx
  ·exact read_ok script x hx
  ·rw [List.mem_singleton] at hx; subst hx; exact ⟨fun q hq => (nomatch hq), Nat.zero_le _⟩
 ·exact read_ok script x hx
theorem skip2_mem {α : Type} {x : α} : ∀ {l : List α}, x ∈ skip2 l → x ∈ l
 | [], h => h
 | [a], h => h
 | a :: b :: l, h => by
  have h' : x ∈ a :: skip2 l := h
  rcases List.mem_cons.mp h' with rfl | h'
  ·exact List.mem_cons_self ..
  ·exact List.mem_cons_of_mem _ (List.mem_cons_of_mem _ (skip2_mem h'))
theorem pairs_ok (script : List Int) : ∀ p ∈ pairsB script, TxtOk p.1 ∧ TxtOk p.2 := fun p hp => by
 unfold pairsB pairsT at hp
 obtain ⟨h1, h2⟩ := List.of_mem_zip hp
 exact ⟨even_ok script _ (skip2_mem h1), even_ok script _ (List.mem_of_mem_drop (skip2_mem h2))⟩
theorem pairs_len (script : List Int) : (pairsB script).length ≤ 20 := by
 unfold pairsB pairsT
 rw [List.length_zip, skip2_len]
 have h1 : (foldT (script.take 16)).1.length ≤ _ := (foldT_len (script.take 16) ([], [])).1
 simp only [List.length_nil, List.length_take] at h1
 have h2 : (readT script).length ≤ 17 := by unfold readT; rw [List.length_append, List.length_singleton]; omega
 have h3 : (evenT (readT script)).length ≤ 18 := by
  unfold evenT
  split
  ·rw [List.length_append, List.length_singleton]; omega
  ·omega
 omega
theorem prep_raw (w : World) {l : List SP} (h : ∀ q ∈ l, SignOk q) : prepS w (rawX l) = foldX l := cl_inj (by rw [cl_prep1, fold_raw h])
theorem told_ok {p : List SP × List SP} (h1 : TxtOk p.1) (h2 : TxtOk p.2) (k : Nat) (hk : k = 0 ∨ k = 1) : ToldOk p k := by
 have one : ∀ {l : List SP}, TxtOk l → JoinOk "" (l.map (pickS k)) = true := fun {l} h => by
  refine joinB (B := 3) (fun y hy => ?_) ?_
  ·obtain ⟨q, hq, rfl⟩ := List.mem_map.mp hy
   obtain ⟨c, e, hs⟩ := h.ok q hq
   rw [← cl_len]
   rcases hk with rfl | rfl
   ·show (cl q.1).length ≤ 3; rw [e]; show 1 ≤ 3; decide
   ·exact (sg_parts hs).2.2.1
  ·rw [List.length_map]
   have := h.len
   have : ("" : Str).length = 0 := by decide +kernel
   rw [this]; omega
 exact ⟨Nat.le_trans h1.len (by decide), Nat.le_trans h2.len (by decide), one h1, one h2⟩
theorem pair_ok (w : World) {p : List SP × List SP} (h1 : TxtOk p.1) (h2 : TxtOk p.2) : PairOk w p := by
 have r1 := tz_raw h1
 have r2 := tz_raw h2
 have f1 := tz_fold h1
 have f2 := tz_fold h2
 have ts := tz_strike r2
 refine ⟨told_ok h1 h2 0 (.inl rfl), told_ok h1 h2 1 (.inr rfl), r1.prepOk w (by decide), r2.prepOk w (by decide), ?_, ⟨Nat.le_trans r1.len (by decide), Nat.le_trans r2.len (by decide), Nat.le_trans ts.len (by decide), fun k hk => ?_⟩, fun e => ?_, fun e => ?_⟩
 ·show (prepS w (rawX p.1), prepS w (rawX p.2)) = (foldX p.1, foldX p.2)
  rw [prep_raw w h1.ok, prep_raw w h2.ok]
 ·have := okC_lt ((r1.app ts).ok k hk)
  omega
 ·obtain ⟨n, v⟩ := (allow_iff _ _).mp e
  exact ⟨⟨good_nm r1 (by decide) n, good_vl r2 (by decide) v⟩, ⟨good_nm f1 (by decide) ((nm_iff h1.ok).mp n), good_vl f2 (by decide) ((vl_iff h2.ok).mp v)⟩⟩
 ·have no : ¬ (NmB (rawX p.1) ∧ VlB (rawX p.2)) := fun q => by
   have := (allow_iff _ _).mpr q
   unfold allP at e
   rw [show allowS (rawP p).1 (rawP p).2 = true from this] at e
   cases e
  exact ⟨badP_of (q := rawP p) r1 r2 (by decide) (by decide) no, badP_of (q := foldP p) f1 f2 (by decide) (by decide) fun q => no ⟨(nm_iff h1.ok).mpr q.1, (vl_iff h2.ok).mpr q.2⟩⟩
theorem glue_two (s : List Nat) : ∀ xs : List (List Nat), glue s (xs ++ [[], []]) = (xs.flatMap fun x => x ++ s) ++ s
 | [] => by show [] ++ s ++ [] = [] ++ s; simp
 | [x] => by show x ++ s ++ ([] ++ s ++ []) = (x ++ s ++ []) ++ s; simp
 | x :: y :: r => by
  have := glue_two s (y :: r)
  show x ++ s ++ glue s (y :: (r ++ [[], []])) = _
  rw [show y :: (r ++ [[], []]) = (y :: r) ++ [[], []] from rfl, this, List.flatMap_cons (x := x)]
  simp only [List.append_assoc]
theorem fix_p : (cl (Str.ofString ": ")).flatMap p1 = cl (Str.ofString ": ") ∧ (cl (Str.ofString "\r\n")).flatMap p1 = cl (Str.ofString "\r\n") := by decide +kernel
theorem tz_col : Tz 2 (Str.ofString ": ") := .of (by decide +kernel)
theorem tz_crlf : Tz 2 (Str.ofString "\r\n") := .of (by decide +kernel)
theorem tz_nil : Tz 0 (Str.ofString "") := .of (by decide +kernel)
theorem cl_nil : cl (Str.ofString "") = [] := by decide +kernel
structure Short (q : SP) : Prop where
 a : Tz 60 q.1
 b : Tz 60 q.2
theorem Short.line {q : SP} (h : Short q) : Tz 122 (lineS q) := (h.a.app tz_col).app h.b
theorem Short.lineX {q : SP} (h : Short q) : Tz 124 (lineX q) := h.line.app tz_crlf
theorem cl_lines (qs : List SP) : (linesOf qs).map cl = (qs.map fun q => cl (lineS q)) ++ [[], []] := by
 unfold linesOf
 rw [List.map_append, List.map_map]
 show _ ++ [cl (Str.ofString ""), cl (Str.ofString "")] = _
 rw [cl_nil]; rfl
theorem due_eq (qs : List SP) : dueT qs = tabS qs := cl_inj (by
 unfold dueT tabS joinE
 rw [cl_app, cl_join0, cl_join, cl_lines, glue_two, List.flatMap_map, List.flatMap_map]
 congr 1
 refine congrArg (fun f => List.flatMap f qs) (funext fun q => ?_)
 show cl (lineS q ++ Str.ofString "\r\n") = _
 rw [cl_app])
theorem tz_tab {qs : List SP} (h : ∀ q ∈ qs, Short q) (hn : qs.length ≤ 20) : Tz 2728 (tabS qs) := by
 refine (Tz.join (N := 122) tz_crlf fun x hx => ?_).mono ?_
 ·unfold linesOf at hx
  rcases List.mem_append.mp hx with hx | hx
  ·obtain ⟨q, hq, rfl⟩ := List.mem_map.mp hx
   exact (h q hq).line
  ·simp only [List.mem_cons, List.not_mem_nil, or_false] at hx
   rcases hx with rfl | rfl <;> exact tz_nil.mono (by decide)
 ·have : (linesOf qs).length = qs.length + 2 := by unfold linesOf; rw [List.length_append, List.length_map]; rfl
  rw [this]; omega
theorem list_ok {qs : List SP} (h : ∀ q ∈ qs, Short q) (hn : qs.length ≤ 20) : ListOk qs := by
 have tt := tz_tab h hn
 have hj : Tz 2480 (joinE (qs.map lineX)) := by
  refine (Tz.join (N := 124) (S := 0) (s := "") tz_nil fun x hx => ?_).mono ?_
  ·obtain ⟨q, hq, rfl⟩ := List.mem_map.mp hx
   exact (h q hq).lineX
  ·rw [List.length_map]; omega
 refine ⟨⟨fun p hp => ⟨Nat.le_trans (h p hp).a.len (by decide), Nat.le_trans (h p hp).b.len (by decide)⟩, ?_, by omega⟩, Nat.le_trans tt.len (by decide), ⟨fun p hp => ⟨Nat.le_trans (h p hp).a.len (by decide), Nat.le_trans (h p hp).b.len (by decide)⟩, ?_, Nat.le_trans hj.len (by decide), by omega⟩, due_eq qs, ?_⟩
 ·refine joinB (B := 122) (fun y hy => ?_) ?_
  ·unfold linesOf at hy
   rcases List.mem_append.mp hy with hy | hy
   ·obtain ⟨q, hq, rfl⟩ := List.mem_map.mp hy
    exact (h q hq).line.len
   ·simp only [List.mem_cons, List.not_mem_nil, or_false] at hy
    rcases hy with rfl | rfl <;> exact Nat.le_trans tz_nil.len (by decide)
  ·have : (linesOf qs).length = qs.length + 2 := by unfold linesOf; rw [List.length_append, List.length_map]; rfl
   rw [this]
   have e : (Str.ofString "\r\n").length = 2 := by decide +kernel
   rw [e]; omega
 ·refine joinB (B := 124) (fun y hy => ?_) ?_
  ·obtain ⟨q, hq, rfl⟩ := List.mem_map.mp hy
   exact (h q hq).lineX.len
  ·rw [List.length_map]
   have : ("" : Str).length = 0 := by decide +kernel
   rw [this]; omega
 ·rw [okD]
  refine (okDs_all _ _).mpr fun d hd => ?_
  obtain ⟨q, hq, rfl⟩ := List.mem_map.mp hd
  unfold strP
  rw [okD, okDs, okDs, okDs, okD, okD, (h q hq).a.str, (h q hq).b.str]; rfl
theorem short_raw {p : List SP × List SP} (h1 : TxtOk p.1) (h2 : TxtOk p.2) : Short (rawP p) := ⟨(tz_raw h1).mono (by decide), (tz_raw h2).mono (by decide)⟩
theorem short_fold {p : List SP × List SP} (h1 : TxtOk p.1) (h2 : TxtOk p.2) : Short (foldP p) := ⟨(tz_fold h1).mono (by decide), (tz_fold h2).mono (by decide)⟩
theorem line_fold {p : List SP × List SP} (h1 : TxtOk p.1) (h2 : TxtOk p.2) : (cl (lineS (rawP p))).flatMap p1 = cl (lineS (foldP p)) := by
 show (cl (rawX p.1 ++ Str.ofString ": " ++ rawX p.2)).flatMap p1 = cl (foldX p.1 ++ Str.ofString ": " ++ foldX p.2)
 rw [cl_app, cl_app, cl_app, cl_app, List.flatMap_append, List.flatMap_append, fold_raw h1.ok, fold_raw h2.ok, fix_p.1]
theorem tab_fold (w : World) {T : List (List SP × List SP)} (h : ∀ p ∈ T, TxtOk p.1 ∧ TxtOk p.2) : prepS w (tabS (T.map rawP)) = tabS (T.map foldP) := cl_inj (by
 rw [cl_prep1]
 unfold tabS
 rw [cl_join, cl_join, flat_glue, fix_p.2, cl_lines, cl_lines]
 congr 1
 rw [List.map_append, List.map_map, List.map_map, List.map_map]
 congr 1
 exact List.map_congr_left fun p hp => line_fold (h p hp).1 (h p hp).2)
theorem law_holds (w : World) (script : List Int) : LawOk w (pairsB script) := by
 have hp := pairs_ok script
 have hl := pairs_len script
 have hT : ∀ p ∈ (pairsB script).filter allP, TxtOk p.1 ∧ TxtOk p.2 := fun p h => hp p (List.mem_filter.mp h).1
 have hTl : ((pairsB script).filter allP).length ≤ 20 := Nat.le_trans (List.length_filter_le _ _) hl
 have sr : ∀ q ∈ ((pairsB script).filter allP).map rawP, Short q := fun q hq => by
  obtain ⟨p, hm, rfl⟩ := List.mem_map.mp hq
  exact short_raw (hT p hm).1 (hT p hm).2
 have sf : ∀ q ∈ ((pairsB script).filter allP).map foldP, Short q := fun q hq => by
  obtain ⟨p, hm, rfl⟩ := List.mem_map.mp hq
  exact short_fold (hT p hm).1 (hT p hm).2
 have one : ∀ {q : SP}, Short q → ListOk [q] := fun h => list_ok (fun q' hq => by rw [List.mem_singleton] at hq; subst hq; exact h) (by show 1 ≤ 20; decide)
 refine ⟨by omega, fun p h => pair_ok w (hp p h).1 (hp p h).2, fun p h _ => ⟨one (short_raw (hp p h).1 (hp p h).2), one (short_fold (hp p h).1 (hp p h).2)⟩, list_ok sr (by rw [List.length_map]; exact hTl), list_ok sf (by rw [List.length_map]; exact hTl), ?_, tab_fold w hT, ?_⟩
 ·exact (tz_tab sr (by rw [List.length_map]; exact hTl)).prepOk w (by decide)
 ·exact (tz_tab sf (by rw [List.length_map]; exact hTl)).str
end Mine
end
section
open PySem PySem.W PyProof.Rows PySem.W.X
namespace Mine
theorem rdL_ints {W : Addr → Prop} {h : Heap} {vs : List Value} {ns : List Int} (H : IntsAre vs ns) : RdL W h vs (ns.map .int) := by
 induction H with
 | nil => exact .nil
 | cons i t _ ih => exact .cons (.int _ _) ih
theorem mg_law (w : World) : (CL w).mg "law" = some (.ref 314) := by unfold CL Heap.nsMap; simp only []; rw [hf3]; kernel_rfl
theorem room0 : Room callerA 13 := ⟨rfl, by decide, by decide⟩
theorem law_at {w : World} {s : Shared} {E : Value → Shared → Prop} {a : Addr} {vs : List Value} {ns : List Int} (base : HasK (CL w).K s.heap) (tok : 0 < s.toks) (hl : s.heap.get? a = some { cls := .type "list", data := .seq vs.toArray }) (hi : IntsAre vs ns) (hn : ns.length ≤ 1000) :
  wpAny (CL w).M callerA (call (.ref 314) [.ref a]) (fun v s' => Kt s s' ∧ v = .bool true) E s :=
 wpAny_mono (pf_law w (n := 3) rfl room0 ns hn (law_holds w ns) (fun _ => False) s E [.ref a] [] base tok (fun _ h => h.elim) (.cons (.lst id (toL ⟨_, hl⟩) (by rw [List.toList_toArray]; exact rdL_ints hi)) .nil) .nil) (fun v s' q => ⟨q.1, by cases q.2; rfl⟩) fun _ _ e => e
theorem said : PySem.Challenge.rw_pe0280_02.wellSaid = true := by decide +kernel
theorem left2 : LeftO PySem.Challenge.pw_pe0280_02 q0 loose0 Xt0 (fun s => (s.heap, s.toks)) (fun w => (HF w, 2670)) 30000 := P0_eq ▸ left1
theorem law_at' {w : World} {s : Shared} {E : Value → Shared → Prop} {a : Addr} {vs : List Value} {ns : List Int} (base : HasK (CL w).K s.heap) (tok : 0 < s.toks) (hl : s.heap.get? a = some { cls := .type "list", data := .seq vs.toArray }) (hi : IntsAre vs ns) (hn : ns.length ≤ 1000) :
  wpAny (model PySem.Challenge.pw_pe0280_02 w) callerA (call (.ref 314) [.ref a]) (fun v s' => Kt s s' ∧ v = .bool true) E s := by
 rw [← P0_eq]; exact law_at base tok hl hi hn
end Mine
theorem PySem.Challenge.cw_pe0280_02_holds : PySem.Challenge.rw_pe0280_02.Holds := by
 w_on
 refine holds_law Mine.said fun said => ?_
 refine holds_openX (q := Mine.q0) (loose := Mine.loose0) (Xt := Mine.Xt0) (XP := XL Mine.q0 []) (N := 30000) Mine.left2 (fun s e => xl_of s (Bool.and_eq_true_iff.mp e).1) XL.keeps (by rfl) (by rfl) (by rfl) (fun s e => recFacts_of (Bool.and_eq_true_iff.mp e).2) (by rfl) (by first | assumption | decide +kernel) (by decide +kernel) ⟨rfl, rfl, rfl, rfl, rfl, by decide +kernel⟩ ?hw ?hc
 case hw => w_witness2
 case hc =>
  intro w s₀ s₁ mg mb G y fa o pm cd doc dV kV ho hd hcd hD hmg hg args vals as L hpre hlay hrd hwl hlo
  clear hd hD hcd ho
  have hb : Mine.HasK (Mine.CL w).K s₁.heap := fun a o e => L.keeps a o (by rw [show s₀.heap = Mine.HF w from congrArg Prod.fst y]; exact e)
  have hfa : fa = 314 := by
   have h1 : mg (PySem.Str.ofString "law") = some (.ref fa) := hmg
   have h2 := Mine.mg_law w
   rw [← Heap.Ns.agree G.T.g ((Mine.CL w).hg _ hb)] at h2
   rw [h2] at h1
   cases h1; rfl
  subst hfa
  wrow_args hpre hlay hrd hwl hlo
  rename_i ns _ _ _ _ _ _ _ a vs _ hL _ _ _ hI _ hlen _
  have hobj := script_obj L hL
  have htk := script_toks L (congrArg Prod.snd y)
  refine wpAny_mono (Mine.law_at' hb (Nat.lt_of_lt_of_le (show 0 < 2670 by decide) htk) hobj hI (by omega)) (fun v s' q => ?_) fun _ _ e => e
  obtain ⟨K, rfl⟩ := q
  obtain ⟨hh, tk, e⟩ := K.eq
  refine ⟨.inl ⟨.bool true, .bool true, [], rfl, fun cls => rfl, .bool _, by wrow_post, fun _ => ⟨.nil, fun a h => nomatch h⟩⟩, .of_keep K.heap, by rw [e], .of_eq (by rw [e]; exact hg)⟩
end
